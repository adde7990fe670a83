import JvmDerived
import JvmDerived.Pilot.@@N@@Statement
import JvmDerived.Pilot.@@N@@Code
set_option linter.unusedVariables false
set_option linter.unusedSimpArgs false
@@BLOCK:NumsL.lean.txt@@
namespace Jvm.RoadKit
open Sem ClassFile Op Lib Jvm.Stand Jvm.Free Jvm.LawKit
section New
variable {p : Program} {l : Launch} {e : Env} {R : Room} {s : State} {m : MethodId} {args : Array Value} {below : List Frame} {meth : Method} {c : Code} {T : State} {locs : List Loc} {cells slots : Nat}
theorem retI (X : Stand p l e R s m args below meth c T locs cells slots) (hx : p.tables.exec = Jvm.exec) {pc : Nat} {Ls : Array Slot} {z : Int32} {rest : List Value} (hret : meth.sig.returnType = some .int) (hd : decode c.code pc = .ok (.ireturn, 1)) {fs : List Frame}
    (hl : ∀ (f : JFrame) (acts : List Action), f.method = m → f.locked = none → f.entered = [] → (doReturn e (T.setTop f) acts (some (.int z))).1 = T.setFrames fs) : Steps p.tables e below (T.setTop (mkF m pc Ls (.int z :: rest))) (T.setFrames fs) := by
  have hm' : T.vm.method? m = some meth := X.method'
  have hn : narrow .int (.int z) = .int z := rfl
  show Steps p.tables e below (T.setTop { method := m, pc := pc, locals := Ls, stack := _ :: rest, locked := none }) _
  jvm_step X.here [X.here.top, hx, hd, hm', hret, hn]
  first | (intro acts; rw [hl _ acts rfl rfl rfl]) | rw [hl _ _ rfl rfl rfl]
  exact Steps.refl _
end New
end Jvm.RoadKit
namespace Jvm.Pilot.@@N@@
open Jvm Jvm.ClassFile Sem Op Lib Jvm.Free Jvm.Stand Jvm.LawKit Jvm.RoadKit Bundle Jvm.Pilot.@@N@@.Jvm.D
theorem own_rem32 (x y : Int32) : (x - (x / y) * y).toInt = x.toInt.tmod y.toInt := by
  rw [Int32.toInt_sub, Int32.toInt_mul, Int32.toInt_div]
  simp only [Int.bmod_mul_bmod, Int.sub_bmod_bmod]
  rw [Int.tmod_def, Int.mul_comm y.toInt]
  have h := Int32.toInt_mod x y
  have h1 := (x % y).toInt_lt
  have h2 := (x % y).le_toInt
  rw [h, Int.tmod_def, Int.mul_comm y.toInt] at h1 h2
  exact Int.bmod_eq_of_le (by omega) (by omega)
theorem d1_0 : decode jdk_29_method_65_code 0 = .ok (.iload_n 0, 1) := by decide +kernel
theorem d1_1 : decode jdk_29_method_65_code 1 = .ok (.iload_n 1, 1) := by decide +kernel
theorem d1_2 : decode jdk_29_method_65_code 2 = .ok (.if_icmp .lt 7, 3) := by decide +kernel
theorem d1_5 : decode jdk_29_method_65_code 5 = .ok (.iload_n 0, 1) := by decide +kernel
theorem d1_6 : decode jdk_29_method_65_code 6 = .ok (.goto 4, 3) := by decide +kernel
theorem d1_9 : decode jdk_29_method_65_code 9 = .ok (.iload_n 1, 1) := by decide +kernel
theorem d1_10 : decode jdk_29_method_65_code 10 = .ok (.ireturn, 1) := by decide +kernel
theorem ef_1 (m : MethodId) (p0 : Int32) (p1 : Int32) : entryFrame m #[(.int p0), (.int p1)] 2 = mkF m 0 #[.val (.int p0), .val (.int p1)] [] := by first | (simp [entryFrame, mkF, argsToLocals, Value.category]; done) | rfl
def v1_1 (p0 : Int32) (p1 : Int32) : Int32 := (if p0 < p1 then p1 else p0)
def f1 (p0 : Int32) (p1 : Int32) : Int32 := (v1_1 p0 p1)
def Q1 (Z : State) (p0 : Int32) (p1 : Int32) (h0 : Heap) (n0 : Nat) (v : Option Value) (h : Heap) (L : List Loc) : Prop := Fr n0 L ∧ v = some (.int (f1 p0 p1)) ∧ h = h0
set_option maxRecDepth 65536 in
set_option maxHeartbeats 40000000 in
theorem rm1 (l : Launch) (Z : State) (a0 : Array Value) (hw : ∀ d ∈ tables_1, d.before a0 Z = true) (ws : List Jvm.Cond) (p0 : Int32) (p1 : Int32) (h0 : Heap) (n0 : Nat) (Z0 : n0 ≤ h0.size) :
    MetFree l (⟨"java/lang/Math", "max", "(II)I"⟩ : MethodName) (head1 (Jvm.Cond.code (⟨"java/lang/Math", "max", "(II)I"⟩ : MethodName) jdk_29_method_65_code 2 (some .int) :: ws) ({ frames := 0, cells := 0, slots := 0, locals := 0 } : Room)) (fun a U => a = #[(.int p0), (.int p1)] ∧ Z.Warmed39 U.vm ∧ U.heap = h0) (fun _ _ _ _ _ => True) (fun _ U o U' => ∃ v L, o = .returned v ∧ Q1 Z p0 p1 h0 n0 v U'.heap L ∧ FrameEnd U o U' L ({ frames := 0, cells := 0, slots := 0, locals := 0 } : Room).cells ({ frames := 0, cells := 0, slots := 0, locals := 0 } : Room).slots) := by
  refine MetFree.of_bodySF (Jvm.Free.JP.mathPlain rfl (by decide +kernel)) hisR ?_
  intro p e s m args below meth c s₁ Bd hml0 hP hK
  obtain ⟨rfl, hZ, hh⟩ := hP
  have hx := Bd.exec
  have hby := Bd.bytes
  have hml : c.maxLocals = 2 := hml0
  have hown : s.vm.findClass "java/lang/Math" = some m.cls := findClass_of_methodNamed Bd.named
  have hnm := (name_of_methodNamed Bd.named Bd.method).1
  have X0 : Stand p l e ({ frames := 0, cells := 0, slots := 0, locals := 0 } : Room) s m #[(.int p0), (.int p1)] below meth c s₁ [] 0 0 := Stand.of_body Bd
  have e0 : s₁.heap = h0 := by rw [← hh, Bd.state]; rfl
  have N0 := Fr.nil n0
  have pre0 : ∀ t, Steps p.tables e below (s₁.setTop (mkF m 0 #[.val (.int p0), .val (.int p1)] [])) t → Steps p.tables e below (s₁.setTop (entryFrame m #[(.int p0), (.int p1)] 2)) t := fun t k => castTop (ef_1 m p0 p1) k
  have pre1 : ∀ t, Steps p.tables e below (s₁.setTop (mkF m 2 #[.val (.int p0), .val (.int p1)] [(.int p1), (.int p0)])) t → Steps p.tables e below (s₁.setTop (entryFrame m #[(.int p0), (.int p1)] 2)) t := by
    intro t k
    refine pre0 t ?_
    show Steps p.tables e below (s₁.setTop (mkF m 0 #[.val (.int p0), .val (.int p1)] [])) _
    refine XS.iloadN X0.here hx rfl (hb hby d1_0) rfl ?_
    show Steps p.tables e below (s₁.setTop (mkF m 1 #[.val (.int p0), .val (.int p1)] [(.int p0)])) _
    refine XS.iloadN X0.here hx rfl (hb hby d1_1) rfl ?_
    exact k
  have pre3 : ∀ t, Steps p.tables e below (s₁.setTop (mkF m 10 #[.val (.int p0), .val (.int p1)] [(.int (v1_1 p0 p1))])) t → Steps p.tables e below (s₁.setTop (entryFrame m #[(.int p0), (.int p1)] 2)) t := by
    intro t k
    by_cases c2 : p0 < p1
    · skip
      rw [show (v1_1 p0 p1) = p1 from (if_pos c2)] at k
      refine pre1 t ?_
      show Steps p.tables e below (s₁.setTop (mkF m 2 #[.val (.int p0), .val (.int p1)] [(.int p1), (.int p0)])) _
      refine XS.icmpYes X0.here hx rfl (pc0 := 2) (pc' := 9) rfl (hb hby d1_2) rfl (XT.ii_lt_t c2) (by decide) (by decide) ?_
      show Steps p.tables e below (s₁.setTop (mkF m 9 #[.val (.int p0), .val (.int p1)] [])) _
      refine XS.iloadN X0.here hx rfl (hb hby d1_9) rfl ?_
      exact k
    · skip
      rw [show (v1_1 p0 p1) = p0 from (if_neg c2)] at k
      refine pre1 t ?_
      show Steps p.tables e below (s₁.setTop (mkF m 2 #[.val (.int p0), .val (.int p1)] [(.int p1), (.int p0)])) _
      refine XS.icmpNo X0.here hx rfl (hb hby d1_2) rfl (XT.ii_lt_f c2) ?_
      show Steps p.tables e below (s₁.setTop (mkF m 5 #[.val (.int p0), .val (.int p1)] [])) _
      refine XS.iloadN X0.here hx rfl (hb hby d1_5) rfl ?_
      show Steps p.tables e below (s₁.setTop (mkF m 6 #[.val (.int p0), .val (.int p1)] [(.int p0)])) _
      refine XS.goto X0.here hx rfl (pc0 := 6) (pc' := 10) rfl (hb hby d1_6) (by decide) (by decide) ?_
      exact k
  obtain ⟨fs, hr, hrun, hended, hW, hsame⟩ := X0.leave (v := some (.int (v1_1 p0 p1))) (fun h => by rw [Bd.returns] at h; cases h)
  refine ⟨_, _, pre3 _ ?_, hrun, hended, _, _, rfl, ?_, ⟨_, rfl⟩, hW, hsame.mono (by decide) (by decide)⟩
  · skip
    show Steps p.tables e below (s₁.setTop (mkF m 10 #[.val (.int p0), .val (.int p1)] [(.int (v1_1 p0 p1))])) _
    exact retI X0 hx Bd.returns (hb hby d1_10) hr
  · skip
    show Q1 Z p0 p1 h0 n0 _ s₁.heap _
    rw [e0]
    exact ⟨N0, rfl, rfl⟩
theorem d2_0 : decode method_2_code 0 = .ok (.iload_n 0, 1) := by decide +kernel
theorem d2_1 : decode method_2_code 1 = .ok (.iload_n 1, 1) := by decide +kernel
theorem d2_2 : decode method_2_code 2 = .ok (.ixor, 1) := by decide +kernel
theorem d2_3 : decode method_2_code 3 = .ok (.istore_n 3, 1) := by decide +kernel
theorem d2_4 : decode method_2_code 4 = .ok (.iload_n 3, 1) := by decide +kernel
theorem d2_5 : decode method_2_code 5 = .ok (.iload_n 2, 1) := by decide +kernel
theorem d2_6 : decode method_2_code 6 = .ok (.if_icmp .ge 5, 3) := by decide +kernel
theorem d2_9 : decode method_2_code 9 = .ok (.iload_n 2, 1) := by decide +kernel
theorem d2_10 : decode method_2_code 10 = .ok (.istore_n 3, 1) := by decide +kernel
theorem d2_11 : decode method_2_code 11 = .ok (.iload_n 3, 1) := by decide +kernel
theorem d2_12 : decode method_2_code 12 = .ok (.iload_n 0, 1) := by decide +kernel
theorem d2_13 : decode method_2_code 13 = .ok (.if_icmp .ne 16, 3) := by decide +kernel
theorem d2_16 : decode method_2_code 16 = .ok (.iload_n 0, 1) := by decide +kernel
theorem d2_17 : decode method_2_code 17 = .ok (.iload_n 2, 1) := by decide +kernel
theorem d2_18 : decode method_2_code 18 = .ok (.if_icmp .ne 9, 3) := by decide +kernel
theorem d2_21 : decode method_2_code 21 = .ok (.iload_n 2, 1) := by decide +kernel
theorem d2_22 : decode method_2_code 22 = .ok (.iconst 1, 1) := by decide +kernel
theorem d2_23 : decode method_2_code 23 = .ok (.iadd, 1) := by decide +kernel
theorem d2_24 : decode method_2_code 24 = .ok (.goto 4, 3) := by decide +kernel
theorem d2_27 : decode method_2_code 27 = .ok (.iload_n 2, 1) := by decide +kernel
theorem d2_28 : decode method_2_code 28 = .ok (.istore_n 3, 1) := by decide +kernel
theorem d2_29 : decode method_2_code 29 = .ok (.iload_n 3, 1) := by decide +kernel
theorem d2_30 : decode method_2_code 30 = .ok (.ireturn, 1) := by decide +kernel
theorem pn_com_example_vannus_vannus_PassageHashCodePinLaw : plainName "com/example/vannus/vannus/PassageHashCodePinLaw" = true := by first | (simp [plainName, overriddenIn]; done) | decide +kernel
theorem ef_2 (m : MethodId) (p0 : Int32) (p1 : Int32) (p2 : Int32) : entryFrame m #[(.int p0), (.int p1), (.int p2)] 4 = mkF m 0 #[.val (.int p0), .val (.int p1), .val (.int p2), .unset] [] := by first | (simp [entryFrame, mkF, argsToLocals, Value.category]; done) | rfl
def v2_1 (p0 : Int32) (p1 : Int32) (p2 : Int32) : Int32 := (p0 ^^^ p1)
def v2_2 (p0 : Int32) (p1 : Int32) (p2 : Int32) : Int32 := (if (v2_1 p0 p1 p2) < p2 then p2 else (v2_1 p0 p1 p2))
def v2_3 (p0 : Int32) (p1 : Int32) (p2 : Int32) : Int32 := (if p0 = p2 then (p2 + (1 : Int32)) else p2)
def v2_4 (p0 : Int32) (p1 : Int32) (p2 : Int32) : Int32 := (if (v2_2 p0 p1 p2) = p0 then (v2_3 p0 p1 p2) else (v2_2 p0 p1 p2))
def f2 (p0 : Int32) (p1 : Int32) (p2 : Int32) : Int32 := (v2_4 p0 p1 p2)
def Q2 (Z : State) (p0 : Int32) (p1 : Int32) (p2 : Int32) (h0 : Heap) (n0 : Nat) (v : Option Value) (h : Heap) (L : List Loc) : Prop := Fr n0 L ∧ v = some (.int (f2 p0 p1 p2)) ∧ h = h0
set_option maxRecDepth 65536 in
set_option maxHeartbeats 40000000 in
theorem rm2 (l : Launch) (Z : State) (a0 : Array Value) (hw : ∀ d ∈ tables_1, d.before a0 Z = true) (ws : List Jvm.Cond) (p0 : Int32) (p1 : Int32) (p2 : Int32) (h0 : Heap) (n0 : Nat) (Z0 : n0 ≤ h0.size) :
    MetFree l (⟨"com/example/vannus/vannus/PassageHashCodePinLaw", "other", "(III)I"⟩ : MethodName) (head1 (Jvm.Cond.code (⟨"com/example/vannus/vannus/PassageHashCodePinLaw", "other", "(III)I"⟩ : MethodName) method_2_code 4 (some .int) :: ws) ({ frames := 0, cells := 0, slots := 0, locals := 0 } : Room)) (fun a U => a = #[(.int p0), (.int p1), (.int p2)] ∧ Z.Warmed39 U.vm ∧ U.heap = h0) (fun _ _ _ _ _ => True) (fun _ U o U' => ∃ v L, o = .returned v ∧ Q2 Z p0 p1 p2 h0 n0 v U'.heap L ∧ FrameEnd U o U' L ({ frames := 0, cells := 0, slots := 0, locals := 0 } : Room).cells ({ frames := 0, cells := 0, slots := 0, locals := 0 } : Room).slots) := by
  refine MetFree.of_bodySF (plainFor_of_name pn_com_example_vannus_vannus_PassageHashCodePinLaw) hisR ?_
  intro p e s m args below meth c s₁ Bd hml0 hP hK
  obtain ⟨rfl, hZ, hh⟩ := hP
  have hx := Bd.exec
  have hby := Bd.bytes
  have hml : c.maxLocals = 4 := hml0
  have hown : s.vm.findClass "com/example/vannus/vannus/PassageHashCodePinLaw" = some m.cls := findClass_of_methodNamed Bd.named
  have hnm := (name_of_methodNamed Bd.named Bd.method).1
  have X0 : Stand p l e ({ frames := 0, cells := 0, slots := 0, locals := 0 } : Room) s m #[(.int p0), (.int p1), (.int p2)] below meth c s₁ [] 0 0 := Stand.of_body Bd
  have e0 : s₁.heap = h0 := by rw [← hh, Bd.state]; rfl
  have N0 := Fr.nil n0
  have pre0 : ∀ t, Steps p.tables e below (s₁.setTop (mkF m 0 #[.val (.int p0), .val (.int p1), .val (.int p2), .unset] [])) t → Steps p.tables e below (s₁.setTop (entryFrame m #[(.int p0), (.int p1), (.int p2)] 4)) t := fun t k => castTop (ef_2 m p0 p1 p2) k
  have pre1 : ∀ t, Steps p.tables e below (s₁.setTop (mkF m 6 #[.val (.int p0), .val (.int p1), .val (.int p2), .val (.int (v2_1 p0 p1 p2))] [(.int p2), (.int (v2_1 p0 p1 p2))])) t → Steps p.tables e below (s₁.setTop (entryFrame m #[(.int p0), (.int p1), (.int p2)] 4)) t := by
    intro t k
    refine pre0 t ?_
    show Steps p.tables e below (s₁.setTop (mkF m 0 #[.val (.int p0), .val (.int p1), .val (.int p2), .unset] [])) _
    refine XS.iloadN X0.here hx rfl (hb hby d2_0) rfl ?_
    show Steps p.tables e below (s₁.setTop (mkF m 1 #[.val (.int p0), .val (.int p1), .val (.int p2), .unset] [(.int p0)])) _
    refine XS.iloadN X0.here hx rfl (hb hby d2_1) rfl ?_
    show Steps p.tables e below (s₁.setTop (mkF m 2 #[.val (.int p0), .val (.int p1), .val (.int p2), .unset] [(.int p1), (.int p0)])) _
    refine XT.ixor X0.here hx rfl (hb hby d2_2) rfl ?_
    show Steps p.tables e below (s₁.setTop (mkF m 3 #[.val (.int p0), .val (.int p1), .val (.int p2), .unset] [(.int (p0 ^^^ p1))])) _
    refine XS.istoreN X0.here hx rfl (hb hby d2_3) rfl (l' := #[.val (.int p0), .val (.int p1), .val (.int p2), .val (.int (v2_1 p0 p1 p2))]) rfl ?_
    show Steps p.tables e below (s₁.setTop (mkF m 4 #[.val (.int p0), .val (.int p1), .val (.int p2), .val (.int (v2_1 p0 p1 p2))] [])) _
    refine XS.iloadN X0.here hx rfl (hb hby d2_4) rfl ?_
    show Steps p.tables e below (s₁.setTop (mkF m 5 #[.val (.int p0), .val (.int p1), .val (.int p2), .val (.int (v2_1 p0 p1 p2))] [(.int (v2_1 p0 p1 p2))])) _
    refine XS.iloadN X0.here hx rfl (hb hby d2_5) rfl ?_
    exact k
  have pre3 : ∀ t, Steps p.tables e below (s₁.setTop (mkF m 11 #[.val (.int p0), .val (.int p1), .val (.int p2), .val (.int (v2_2 p0 p1 p2))] [])) t → Steps p.tables e below (s₁.setTop (entryFrame m #[(.int p0), (.int p1), (.int p2)] 4)) t := by
    intro t k
    by_cases c2 : (v2_1 p0 p1 p2) < p2
    · skip
      rw [show (v2_2 p0 p1 p2) = p2 from (if_pos c2)] at k
      refine pre1 t ?_
      show Steps p.tables e below (s₁.setTop (mkF m 6 #[.val (.int p0), .val (.int p1), .val (.int p2), .val (.int (v2_1 p0 p1 p2))] [(.int p2), (.int (v2_1 p0 p1 p2))])) _
      refine XS.icmpNo X0.here hx rfl (hb hby d2_6) rfl (XT.ii_ge_f c2) ?_
      show Steps p.tables e below (s₁.setTop (mkF m 9 #[.val (.int p0), .val (.int p1), .val (.int p2), .val (.int (v2_1 p0 p1 p2))] [])) _
      refine XS.iloadN X0.here hx rfl (hb hby d2_9) rfl ?_
      show Steps p.tables e below (s₁.setTop (mkF m 10 #[.val (.int p0), .val (.int p1), .val (.int p2), .val (.int (v2_1 p0 p1 p2))] [(.int p2)])) _
      refine XS.istoreN X0.here hx rfl (hb hby d2_10) rfl (l' := #[.val (.int p0), .val (.int p1), .val (.int p2), .val (.int p2)]) rfl ?_
      exact k
    · skip
      rw [show (v2_2 p0 p1 p2) = (v2_1 p0 p1 p2) from (if_neg c2)] at k
      refine pre1 t ?_
      show Steps p.tables e below (s₁.setTop (mkF m 6 #[.val (.int p0), .val (.int p1), .val (.int p2), .val (.int (v2_1 p0 p1 p2))] [(.int p2), (.int (v2_1 p0 p1 p2))])) _
      refine XS.icmpYes X0.here hx rfl (pc0 := 6) (pc' := 11) rfl (hb hby d2_6) rfl (XT.ii_ge_t c2) (by decide) (by decide) ?_
      exact k
  have pre4 : ∀ t, Steps p.tables e below (s₁.setTop (mkF m 13 #[.val (.int p0), .val (.int p1), .val (.int p2), .val (.int (v2_2 p0 p1 p2))] [(.int p0), (.int (v2_2 p0 p1 p2))])) t → Steps p.tables e below (s₁.setTop (entryFrame m #[(.int p0), (.int p1), (.int p2)] 4)) t := by
    intro t k
    refine pre3 t ?_
    show Steps p.tables e below (s₁.setTop (mkF m 11 #[.val (.int p0), .val (.int p1), .val (.int p2), .val (.int (v2_2 p0 p1 p2))] [])) _
    refine XS.iloadN X0.here hx rfl (hb hby d2_11) rfl ?_
    show Steps p.tables e below (s₁.setTop (mkF m 12 #[.val (.int p0), .val (.int p1), .val (.int p2), .val (.int (v2_2 p0 p1 p2))] [(.int (v2_2 p0 p1 p2))])) _
    refine XS.iloadN X0.here hx rfl (hb hby d2_12) rfl ?_
    exact k
  have pre9 : ∀ t, Steps p.tables e below (s₁.setTop (mkF m 29 #[.val (.int p0), .val (.int p1), .val (.int p2), .val (.int (v2_4 p0 p1 p2))] [])) t → Steps p.tables e below (s₁.setTop (entryFrame m #[(.int p0), (.int p1), (.int p2)] 4)) t := by
    intro t k
    by_cases c5 : (v2_2 p0 p1 p2) = p0
    · skip
      have pre6 : ∀ t, Steps p.tables e below (s₁.setTop (mkF m 18 #[.val (.int p0), .val (.int p1), .val (.int p2), .val (.int (v2_2 p0 p1 p2))] [(.int p2), (.int p0)])) t → Steps p.tables e below (s₁.setTop (entryFrame m #[(.int p0), (.int p1), (.int p2)] 4)) t := by
        intro t k
        refine pre4 t ?_
        show Steps p.tables e below (s₁.setTop (mkF m 13 #[.val (.int p0), .val (.int p1), .val (.int p2), .val (.int (v2_2 p0 p1 p2))] [(.int p0), (.int (v2_2 p0 p1 p2))])) _
        refine XS.icmpNo X0.here hx rfl (hb hby d2_13) rfl (XT.ii_ne_f c5) ?_
        show Steps p.tables e below (s₁.setTop (mkF m 16 #[.val (.int p0), .val (.int p1), .val (.int p2), .val (.int (v2_2 p0 p1 p2))] [])) _
        refine XS.iloadN X0.here hx rfl (hb hby d2_16) rfl ?_
        show Steps p.tables e below (s₁.setTop (mkF m 17 #[.val (.int p0), .val (.int p1), .val (.int p2), .val (.int (v2_2 p0 p1 p2))] [(.int p0)])) _
        refine XS.iloadN X0.here hx rfl (hb hby d2_17) rfl ?_
        exact k
      have pre8 : ∀ t, Steps p.tables e below (s₁.setTop (mkF m 28 #[.val (.int p0), .val (.int p1), .val (.int p2), .val (.int (v2_2 p0 p1 p2))] [(.int (v2_3 p0 p1 p2))])) t → Steps p.tables e below (s₁.setTop (entryFrame m #[(.int p0), (.int p1), (.int p2)] 4)) t := by
        intro t k
        by_cases c7 : p0 = p2
        · skip
          rw [show (v2_3 p0 p1 p2) = (p2 + (1 : Int32)) from (if_pos c7)] at k
          refine pre6 t ?_
          show Steps p.tables e below (s₁.setTop (mkF m 18 #[.val (.int p0), .val (.int p1), .val (.int p2), .val (.int (v2_2 p0 p1 p2))] [(.int p2), (.int p0)])) _
          refine XS.icmpNo X0.here hx rfl (hb hby d2_18) rfl (XT.ii_ne_f c7) ?_
          show Steps p.tables e below (s₁.setTop (mkF m 21 #[.val (.int p0), .val (.int p1), .val (.int p2), .val (.int (v2_2 p0 p1 p2))] [])) _
          refine XS.iloadN X0.here hx rfl (hb hby d2_21) rfl ?_
          show Steps p.tables e below (s₁.setTop (mkF m 22 #[.val (.int p0), .val (.int p1), .val (.int p2), .val (.int (v2_2 p0 p1 p2))] [(.int p2)])) _
          refine XT.iconstV X0.here hx rfl (1 : Int32) (hb hby d2_22) (by decide) ?_
          show Steps p.tables e below (s₁.setTop (mkF m 23 #[.val (.int p0), .val (.int p1), .val (.int p2), .val (.int (v2_2 p0 p1 p2))] [(.int (1 : Int32)), (.int p2)])) _
          refine XS.iadd X0.here hx rfl (hb hby d2_23) rfl ?_
          show Steps p.tables e below (s₁.setTop (mkF m 24 #[.val (.int p0), .val (.int p1), .val (.int p2), .val (.int (v2_2 p0 p1 p2))] [(.int (p2 + (1 : Int32)))])) _
          refine XS.goto X0.here hx rfl (pc0 := 24) (pc' := 28) rfl (hb hby d2_24) (by decide) (by decide) ?_
          exact k
        · skip
          rw [show (v2_3 p0 p1 p2) = p2 from (if_neg c7)] at k
          refine pre6 t ?_
          show Steps p.tables e below (s₁.setTop (mkF m 18 #[.val (.int p0), .val (.int p1), .val (.int p2), .val (.int (v2_2 p0 p1 p2))] [(.int p2), (.int p0)])) _
          refine XS.icmpYes X0.here hx rfl (pc0 := 18) (pc' := 27) rfl (hb hby d2_18) rfl (XT.ii_ne_t c7) (by decide) (by decide) ?_
          show Steps p.tables e below (s₁.setTop (mkF m 27 #[.val (.int p0), .val (.int p1), .val (.int p2), .val (.int (v2_2 p0 p1 p2))] [])) _
          refine XS.iloadN X0.here hx rfl (hb hby d2_27) rfl ?_
          exact k
      rw [show (v2_4 p0 p1 p2) = (v2_3 p0 p1 p2) from (if_pos c5)] at k
      refine pre8 t ?_
      show Steps p.tables e below (s₁.setTop (mkF m 28 #[.val (.int p0), .val (.int p1), .val (.int p2), .val (.int (v2_2 p0 p1 p2))] [(.int (v2_3 p0 p1 p2))])) _
      refine XS.istoreN X0.here hx rfl (hb hby d2_28) rfl (l' := #[.val (.int p0), .val (.int p1), .val (.int p2), .val (.int (v2_3 p0 p1 p2))]) rfl ?_
      exact k
    · skip
      rw [show (v2_4 p0 p1 p2) = (v2_2 p0 p1 p2) from (if_neg c5)] at k
      refine pre4 t ?_
      show Steps p.tables e below (s₁.setTop (mkF m 13 #[.val (.int p0), .val (.int p1), .val (.int p2), .val (.int (v2_2 p0 p1 p2))] [(.int p0), (.int (v2_2 p0 p1 p2))])) _
      refine XS.icmpYes X0.here hx rfl (pc0 := 13) (pc' := 29) rfl (hb hby d2_13) rfl (XT.ii_ne_t c5) (by decide) (by decide) ?_
      exact k
  obtain ⟨fs, hr, hrun, hended, hW, hsame⟩ := X0.leave (v := some (.int (v2_4 p0 p1 p2))) (fun h => by rw [Bd.returns] at h; cases h)
  refine ⟨_, _, pre9 _ ?_, hrun, hended, _, _, rfl, ?_, ⟨_, rfl⟩, hW, hsame.mono (by decide) (by decide)⟩
  · skip
    show Steps p.tables e below (s₁.setTop (mkF m 29 #[.val (.int p0), .val (.int p1), .val (.int p2), .val (.int (v2_4 p0 p1 p2))] [])) _
    refine XS.iloadN X0.here hx rfl (hb hby d2_29) rfl ?_
    show Steps p.tables e below (s₁.setTop (mkF m 30 #[.val (.int p0), .val (.int p1), .val (.int p2), .val (.int (v2_4 p0 p1 p2))] [(.int (v2_4 p0 p1 p2))])) _
    exact retI X0 hx Bd.returns (hb hby d2_30) hr
  · skip
    show Q2 Z p0 p1 p2 h0 n0 _ s₁.heap _
    rw [e0]
    exact ⟨N0, rfl, rfl⟩
theorem d3_0 : decode prog_26_method_1_code 0 = .ok (.aload_n 0, 1) := by decide +kernel
theorem d3_1 : decode prog_26_method_1_code 1 = .ok (.invokespecial 1, 3) := by decide +kernel
theorem d3_4 : decode prog_26_method_1_code 4 = .ok (.iload_n 1, 1) := by decide +kernel
theorem d3_5 : decode prog_26_method_1_code 5 = .ok (.ifCond .lt 8, 3) := by decide +kernel
theorem d3_8 : decode prog_26_method_1_code 8 = .ok (.iload 4, 2) := by decide +kernel
theorem d3_10 : decode prog_26_method_1_code 10 = .ok (.ifCond .ge 19, 3) := by decide +kernel
theorem d3_29 : decode prog_26_method_1_code 29 = .ok (.iload_n 2, 1) := by decide +kernel
theorem d3_30 : decode prog_26_method_1_code 30 = .ok (.iconst 1, 1) := by decide +kernel
theorem d3_31 : decode prog_26_method_1_code 31 = .ok (.if_icmp .lt 9, 3) := by decide +kernel
theorem d3_34 : decode prog_26_method_1_code 34 = .ok (.iload 5, 2) := by decide +kernel
theorem d3_36 : decode prog_26_method_1_code 36 = .ok (.iconst 1, 1) := by decide +kernel
theorem d3_37 : decode prog_26_method_1_code 37 = .ok (.if_icmp .ge 19, 3) := by decide +kernel
theorem d3_56 : decode prog_26_method_1_code 56 = .ok (.aload_n 0, 1) := by decide +kernel
theorem d3_57 : decode prog_26_method_1_code 57 = .ok (.iload_n 1, 1) := by decide +kernel
theorem d3_58 : decode prog_26_method_1_code 58 = .ok (.putfield 17, 3) := by decide +kernel
theorem d3_61 : decode prog_26_method_1_code 61 = .ok (.aload_n 0, 1) := by decide +kernel
theorem d3_62 : decode prog_26_method_1_code 62 = .ok (.iload_n 2, 1) := by decide +kernel
theorem d3_63 : decode prog_26_method_1_code 63 = .ok (.putfield 23, 3) := by decide +kernel
theorem d3_66 : decode prog_26_method_1_code 66 = .ok (.aload_n 0, 1) := by decide +kernel
theorem d3_67 : decode prog_26_method_1_code 67 = .ok (.iload_n 3, 1) := by decide +kernel
theorem d3_68 : decode prog_26_method_1_code 68 = .ok (.putfield 26, 3) := by decide +kernel
theorem d3_71 : decode prog_26_method_1_code 71 = .ok (.aload_n 0, 1) := by decide +kernel
theorem d3_72 : decode prog_26_method_1_code 72 = .ok (.iload 4, 2) := by decide +kernel
theorem d3_74 : decode prog_26_method_1_code 74 = .ok (.putfield 29, 3) := by decide +kernel
theorem d3_77 : decode prog_26_method_1_code 77 = .ok (.aload_n 0, 1) := by decide +kernel
theorem d3_78 : decode prog_26_method_1_code 78 = .ok (.iload 5, 2) := by decide +kernel
theorem d3_80 : decode prog_26_method_1_code 80 = .ok (.putfield 32, 3) := by decide +kernel
theorem d3_83 : decode prog_26_method_1_code 83 = .ok (.return_, 1) := by decide +kernel
theorem pn_com_example_vannus_vannus_Passage : plainName "com/example/vannus/vannus/Passage" = true := by first | (simp [plainName, overriddenIn]; done) | decide +kernel
theorem ef_3 (m : MethodId) (o0 : Addr) (p1 : Int32) (p2 : Int32) (p3 : Int32) (p4 : Int32) (p5 : Int32) : entryFrame m #[(.ref o0), (.int p1), (.int p2), (.int p3), (.int p4), (.int p5)] 6 = mkF m 0 #[.val (.ref o0), .val (.int p1), .val (.int p2), .val (.int p3), .val (.int p4), .val (.int p5)] [] := by first | (simp [entryFrame, mkF, argsToLocals, Value.category]; done) | rfl
def Q3 (Z : State) (o0 : Addr) (p1 : Int32) (p2 : Int32) (p3 : Int32) (p4 : Int32) (p5 : Int32) (u0_start : Value) (u1_length : Value) (u2_source : Value) (u3_sourceStart : Value) (u4_sourceLength : Value) (h0 : Heap) (n0 : Nat) (v : Option Value) (h : Heap) (L : List Loc) : Prop := Fr n0 L ∧ v = none ∧ Keep h0 h [o0] ∧ Exa Z h o0 "com/example/vannus/vannus/Passage" ∧ Fld Z h o0 "com/example/vannus/vannus/Passage" "start" "I" (.int p1) ∧ Fld Z h o0 "com/example/vannus/vannus/Passage" "length" "I" (.int p2) ∧ Fld Z h o0 "com/example/vannus/vannus/Passage" "source" "I" (.int p3) ∧ Fld Z h o0 "com/example/vannus/vannus/Passage" "sourceStart" "I" (.int p4) ∧ Fld Z h o0 "com/example/vannus/vannus/Passage" "sourceLength" "I" (.int p5)
set_option maxRecDepth 65536 in
set_option maxHeartbeats 40000000 in
theorem rm3 (l : Launch) (Z : State) (a0 : Array Value) (hw : ∀ d ∈ tables_1, d.before a0 Z = true) (ws : List Jvm.Cond) (o0 : Addr) (p1 : Int32) (p2 : Int32) (p3 : Int32) (p4 : Int32) (p5 : Int32) (u0_start : Value) (u1_length : Value) (u2_source : Value) (u3_sourceStart : Value) (u4_sourceLength : Value) (h0 : Heap) (n0 : Nat) (Z0 : n0 ≤ h0.size) (hy0 : ¬ (p1 < (0 : Int32))) (hy1 : ¬ (p4 < (0 : Int32))) (hy2 : ¬ (p2 < (1 : Int32))) (hy3 : ¬ (p5 < (1 : Int32))) (E_o0 : Exa Z h0 o0 "com/example/vannus/vannus/Passage") (F_start_o0 : Fld Z h0 o0 "com/example/vannus/vannus/Passage" "start" "I" u0_start) (g_o0 : n0 ≤ o0) (F_length_o0 : Fld Z h0 o0 "com/example/vannus/vannus/Passage" "length" "I" u1_length) (F_source_o0 : Fld Z h0 o0 "com/example/vannus/vannus/Passage" "source" "I" u2_source) (F_sourceStart_o0 : Fld Z h0 o0 "com/example/vannus/vannus/Passage" "sourceStart" "I" u3_sourceStart) (F_sourceLength_o0 : Fld Z h0 o0 "com/example/vannus/vannus/Passage" "sourceLength" "I" u4_sourceLength) :
    MetFree l (⟨"com/example/vannus/vannus/Passage", "<init>", "(IIIII)V"⟩ : MethodName) (head1 (Jvm.Cond.code (⟨"com/example/vannus/vannus/Passage", "<init>", "(IIIII)V"⟩ : MethodName) prog_26_method_1_code 6 none :: ws) ({ frames := 1, cells := 0, slots := 0, locals := 12 } : Room)) (fun a U => a = #[(.ref o0), (.int p1), (.int p2), (.int p3), (.int p4), (.int p5)] ∧ Z.Warmed39 U.vm ∧ U.heap = h0) (fun _ _ _ _ _ => True) (fun _ U o U' => ∃ v L, o = .returned v ∧ Q3 Z o0 p1 p2 p3 p4 p5 u0_start u1_length u2_source u3_sourceStart u4_sourceLength h0 n0 v U'.heap L ∧ FrameEnd U o U' L ({ frames := 1, cells := 0, slots := 0, locals := 12 } : Room).cells ({ frames := 1, cells := 0, slots := 0, locals := 12 } : Room).slots) := by
  refine MetFree.of_bodySF (plainFor_of_name pn_com_example_vannus_vannus_Passage) hisR ?_
  intro p e s m args below meth c s₁ Bd hml0 hP hK
  obtain ⟨rfl, hZ, hh⟩ := hP
  have hx := Bd.exec
  have hby := Bd.bytes
  have hml : c.maxLocals = 6 := hml0
  have hown : s.vm.findClass "com/example/vannus/vannus/Passage" = some m.cls := findClass_of_methodNamed Bd.named
  have hnm := (name_of_methodNamed Bd.named Bd.method).1
  have X0 : Stand p l e ({ frames := 1, cells := 0, slots := 0, locals := 12 } : Room) s m #[(.ref o0), (.int p1), (.int p2), (.int p3), (.int p4), (.int p5)] below meth c s₁ [] 0 0 := Stand.of_body Bd
  have e0 : s₁.heap = h0 := by rw [← hh, Bd.state]; rfl
  have N0 := Fr.nil n0
  have pre0 : ∀ t, Steps p.tables e below (s₁.setTop (mkF m 0 #[.val (.ref o0), .val (.int p1), .val (.int p2), .val (.int p3), .val (.int p4), .val (.int p5)] [])) t → Steps p.tables e below (s₁.setTop (entryFrame m #[(.ref o0), (.int p1), (.int p2), (.int p3), (.int p4), (.int p5)] 6)) t := fun t k => castTop (ef_3 m o0 p1 p2 p3 p4 p5) k
  obtain ⟨T1, X1, e1, st1⟩ := initO X0 hx hZ hown (hw _ (List.mem_of_getElem? (i := 16) rfl)) (hw _ (List.mem_of_getElem? (i := 17) rfl)) (hw _ (List.mem_of_getElem? (i := 18) rfl)) e0 (g := (mkF m 1 #[.val (.ref o0), .val (.int p1), .val (.int p2), .val (.int p3), .val (.int p4), .val (.int p5)] [(.ref o0)])) rfl (by rw [hml]; rfl) rfl (hb hby d3_1) (by decide) (W := 0) (by show 2 * 0 + _ ≤ _; exact Nat.le_of_eq rfl) (by decide)
  obtain ⟨T2, h2, X2, e2, W2, st2⟩ := putF X1 hx hZ hown (host := "") (Or.inl (hw _ (List.mem_of_getElem? (i := 19) rfl))) Via.refl e1 F_start_o0 E_o0 (Or.inr ⟨(hw _ (List.mem_of_getElem? (i := 20) rfl)), rfl, hnm⟩) (hw _ (List.mem_of_getElem? (i := 11) rfl)) (ty := .int) (by decide) rfl rfl (g := (mkF m 58 #[.val (.ref o0), .val (.int p1), .val (.int p2), .val (.int p3), .val (.int p4), .val (.int p5)] [(.int p1), (.ref o0)])) rfl rfl (hb hby d3_58)
  have Fw2 := F_start_o0.same W2
  have N2 := Fr.snoc X2 N0 g_o0
  have z3 : n0 ≤ h2.size := Nat.le_trans Z0 (Keep.of_wr W2).1
  have hs4 : h0.size ≤ h2.size := Nat.le_trans (Nat.le_refl h0.size) (Keep.of_wr W2).1
  have k5 := (F_length_o0.other W2 (Or.inr (slot_ne (Or.inr (hw _ (List.mem_of_getElem? (i := 22) rfl))) (Or.inr (hw _ (List.mem_of_getElem? (i := 20) rfl))) (by decide) (t := .int) (t' := .int) (by decide) (by decide))))
  have k6 := (E_o0.wr W2)
  obtain ⟨T7, h7, X7, e7, W7, st7⟩ := putF X2 hx hZ hown (host := "") (Or.inl (hw _ (List.mem_of_getElem? (i := 21) rfl))) Via.refl e2 k5 k6 (Or.inr ⟨(hw _ (List.mem_of_getElem? (i := 22) rfl)), rfl, hnm⟩) (hw _ (List.mem_of_getElem? (i := 11) rfl)) (ty := .int) (by decide) rfl rfl (g := (mkF m 63 #[.val (.ref o0), .val (.int p1), .val (.int p2), .val (.int p3), .val (.int p4), .val (.int p5)] [(.int p2), (.ref o0)])) rfl rfl (hb hby d3_63)
  have Fw7 := k5.same W7
  have N7 := Fr.snoc X7 N2 g_o0
  have z8 : n0 ≤ h7.size := Nat.le_trans z3 (Keep.of_wr W7).1
  have hs9 : h0.size ≤ h7.size := Nat.le_trans hs4 (Keep.of_wr W7).1
  have k10 := ((F_source_o0.other W2 (Or.inr (slot_ne (Or.inr (hw _ (List.mem_of_getElem? (i := 24) rfl))) (Or.inr (hw _ (List.mem_of_getElem? (i := 20) rfl))) (by decide) (t := .int) (t' := .int) (by decide) (by decide)))).other W7 (Or.inr (slot_ne (Or.inr (hw _ (List.mem_of_getElem? (i := 24) rfl))) (Or.inr (hw _ (List.mem_of_getElem? (i := 22) rfl))) (by decide) (t := .int) (t' := .int) (by decide) (by decide))))
  have k11 := (k6.wr W7)
  obtain ⟨T12, h12, X12, e12, W12, st12⟩ := putF X7 hx hZ hown (host := "") (Or.inl (hw _ (List.mem_of_getElem? (i := 23) rfl))) Via.refl e7 k10 k11 (Or.inr ⟨(hw _ (List.mem_of_getElem? (i := 24) rfl)), rfl, hnm⟩) (hw _ (List.mem_of_getElem? (i := 11) rfl)) (ty := .int) (by decide) rfl rfl (g := (mkF m 68 #[.val (.ref o0), .val (.int p1), .val (.int p2), .val (.int p3), .val (.int p4), .val (.int p5)] [(.int p3), (.ref o0)])) rfl rfl (hb hby d3_68)
  have Fw12 := k10.same W12
  have N12 := Fr.snoc X12 N7 g_o0
  have z13 : n0 ≤ h12.size := Nat.le_trans z8 (Keep.of_wr W12).1
  have hs14 : h0.size ≤ h12.size := Nat.le_trans hs9 (Keep.of_wr W12).1
  have k15 := (((F_sourceStart_o0.other W2 (Or.inr (slot_ne (Or.inr (hw _ (List.mem_of_getElem? (i := 26) rfl))) (Or.inr (hw _ (List.mem_of_getElem? (i := 20) rfl))) (by decide) (t := .int) (t' := .int) (by decide) (by decide)))).other W7 (Or.inr (slot_ne (Or.inr (hw _ (List.mem_of_getElem? (i := 26) rfl))) (Or.inr (hw _ (List.mem_of_getElem? (i := 22) rfl))) (by decide) (t := .int) (t' := .int) (by decide) (by decide)))).other W12 (Or.inr (slot_ne (Or.inr (hw _ (List.mem_of_getElem? (i := 26) rfl))) (Or.inr (hw _ (List.mem_of_getElem? (i := 24) rfl))) (by decide) (t := .int) (t' := .int) (by decide) (by decide))))
  have k16 := (k11.wr W12)
  obtain ⟨T17, h17, X17, e17, W17, st17⟩ := putF X12 hx hZ hown (host := "") (Or.inl (hw _ (List.mem_of_getElem? (i := 25) rfl))) Via.refl e12 k15 k16 (Or.inr ⟨(hw _ (List.mem_of_getElem? (i := 26) rfl)), rfl, hnm⟩) (hw _ (List.mem_of_getElem? (i := 11) rfl)) (ty := .int) (by decide) rfl rfl (g := (mkF m 74 #[.val (.ref o0), .val (.int p1), .val (.int p2), .val (.int p3), .val (.int p4), .val (.int p5)] [(.int p4), (.ref o0)])) rfl rfl (hb hby d3_74)
  have Fw17 := k15.same W17
  have N17 := Fr.snoc X17 N12 g_o0
  have z18 : n0 ≤ h17.size := Nat.le_trans z13 (Keep.of_wr W17).1
  have hs19 : h0.size ≤ h17.size := Nat.le_trans hs14 (Keep.of_wr W17).1
  have k20 := ((((F_sourceLength_o0.other W2 (Or.inr (slot_ne (Or.inr (hw _ (List.mem_of_getElem? (i := 28) rfl))) (Or.inr (hw _ (List.mem_of_getElem? (i := 20) rfl))) (by decide) (t := .int) (t' := .int) (by decide) (by decide)))).other W7 (Or.inr (slot_ne (Or.inr (hw _ (List.mem_of_getElem? (i := 28) rfl))) (Or.inr (hw _ (List.mem_of_getElem? (i := 22) rfl))) (by decide) (t := .int) (t' := .int) (by decide) (by decide)))).other W12 (Or.inr (slot_ne (Or.inr (hw _ (List.mem_of_getElem? (i := 28) rfl))) (Or.inr (hw _ (List.mem_of_getElem? (i := 24) rfl))) (by decide) (t := .int) (t' := .int) (by decide) (by decide)))).other W17 (Or.inr (slot_ne (Or.inr (hw _ (List.mem_of_getElem? (i := 28) rfl))) (Or.inr (hw _ (List.mem_of_getElem? (i := 26) rfl))) (by decide) (t := .int) (t' := .int) (by decide) (by decide))))
  have k21 := (k16.wr W17)
  obtain ⟨T22, h22, X22, e22, W22, st22⟩ := putF X17 hx hZ hown (host := "") (Or.inl (hw _ (List.mem_of_getElem? (i := 27) rfl))) Via.refl e17 k20 k21 (Or.inr ⟨(hw _ (List.mem_of_getElem? (i := 28) rfl)), rfl, hnm⟩) (hw _ (List.mem_of_getElem? (i := 11) rfl)) (ty := .int) (by decide) rfl rfl (g := (mkF m 80 #[.val (.ref o0), .val (.int p1), .val (.int p2), .val (.int p3), .val (.int p4), .val (.int p5)] [(.int p5), (.ref o0)])) rfl rfl (hb hby d3_80)
  have Fw22 := k20.same W22
  have N22 := Fr.snoc X22 N17 g_o0
  have z23 : n0 ≤ h22.size := Nat.le_trans z18 (Keep.of_wr W22).1
  have hs24 : h0.size ≤ h22.size := Nat.le_trans hs19 (Keep.of_wr W22).1
  obtain ⟨fs, hr, hrun, hended, hW, hsame⟩ := X22.leave (v := none) (fun _ => rfl)
  refine ⟨_, _, pre0 _ ?_, hrun, hended, _, _, rfl, ?_, ⟨_, rfl⟩, hW, hsame.mono (by decide) (by decide)⟩
  · skip
    show Steps p.tables e below (s₁.setTop (mkF m 0 #[.val (.ref o0), .val (.int p1), .val (.int p2), .val (.int p3), .val (.int p4), .val (.int p5)] [])) _
    refine XS.aloadN X0.here hx rfl (hb hby d3_0) rfl rfl ?_
    show Steps p.tables e below (s₁.setTop (mkF m 1 #[.val (.ref o0), .val (.int p1), .val (.int p2), .val (.int p3), .val (.int p4), .val (.int p5)] [(.ref o0)])) _
    refine st1 _ ?_
    show Steps p.tables e below (T1.setTop (mkF m 4 #[.val (.ref o0), .val (.int p1), .val (.int p2), .val (.int p3), .val (.int p4), .val (.int p5)] [])) _
    refine XS.iloadN X1.here hx rfl (hb hby d3_4) rfl ?_
    show Steps p.tables e below (T1.setTop (mkF m 5 #[.val (.ref o0), .val (.int p1), .val (.int p2), .val (.int p3), .val (.int p4), .val (.int p5)] [(.int p1)])) _
    refine XS.ifNo X1.here hx rfl (hb hby d3_5) rfl (XT.i0_lt_f hy0) ?_
    show Steps p.tables e below (T1.setTop (mkF m 8 #[.val (.ref o0), .val (.int p1), .val (.int p2), .val (.int p3), .val (.int p4), .val (.int p5)] [])) _
    refine XS.iload X1.here hx rfl (hb hby d3_8) rfl ?_
    show Steps p.tables e below (T1.setTop (mkF m 10 #[.val (.ref o0), .val (.int p1), .val (.int p2), .val (.int p3), .val (.int p4), .val (.int p5)] [(.int p4)])) _
    refine XS.ifYes X1.here hx rfl (pc0 := 10) (pc' := 29) rfl (hb hby d3_10) rfl (XT.i0_ge_t hy1) (by decide) (by decide) ?_
    show Steps p.tables e below (T1.setTop (mkF m 29 #[.val (.ref o0), .val (.int p1), .val (.int p2), .val (.int p3), .val (.int p4), .val (.int p5)] [])) _
    refine XS.iloadN X1.here hx rfl (hb hby d3_29) rfl ?_
    show Steps p.tables e below (T1.setTop (mkF m 30 #[.val (.ref o0), .val (.int p1), .val (.int p2), .val (.int p3), .val (.int p4), .val (.int p5)] [(.int p2)])) _
    refine XT.iconstV X1.here hx rfl (1 : Int32) (hb hby d3_30) (by decide) ?_
    show Steps p.tables e below (T1.setTop (mkF m 31 #[.val (.ref o0), .val (.int p1), .val (.int p2), .val (.int p3), .val (.int p4), .val (.int p5)] [(.int (1 : Int32)), (.int p2)])) _
    refine XS.icmpNo X1.here hx rfl (hb hby d3_31) rfl (XT.ii_lt_f hy2) ?_
    show Steps p.tables e below (T1.setTop (mkF m 34 #[.val (.ref o0), .val (.int p1), .val (.int p2), .val (.int p3), .val (.int p4), .val (.int p5)] [])) _
    refine XS.iload X1.here hx rfl (hb hby d3_34) rfl ?_
    show Steps p.tables e below (T1.setTop (mkF m 36 #[.val (.ref o0), .val (.int p1), .val (.int p2), .val (.int p3), .val (.int p4), .val (.int p5)] [(.int p5)])) _
    refine XT.iconstV X1.here hx rfl (1 : Int32) (hb hby d3_36) (by decide) ?_
    show Steps p.tables e below (T1.setTop (mkF m 37 #[.val (.ref o0), .val (.int p1), .val (.int p2), .val (.int p3), .val (.int p4), .val (.int p5)] [(.int (1 : Int32)), (.int p5)])) _
    refine XS.icmpYes X1.here hx rfl (pc0 := 37) (pc' := 56) rfl (hb hby d3_37) rfl (XT.ii_ge_t hy3) (by decide) (by decide) ?_
    show Steps p.tables e below (T1.setTop (mkF m 56 #[.val (.ref o0), .val (.int p1), .val (.int p2), .val (.int p3), .val (.int p4), .val (.int p5)] [])) _
    refine XS.aloadN X1.here hx rfl (hb hby d3_56) rfl rfl ?_
    show Steps p.tables e below (T1.setTop (mkF m 57 #[.val (.ref o0), .val (.int p1), .val (.int p2), .val (.int p3), .val (.int p4), .val (.int p5)] [(.ref o0)])) _
    refine XS.iloadN X1.here hx rfl (hb hby d3_57) rfl ?_
    show Steps p.tables e below (T1.setTop (mkF m 58 #[.val (.ref o0), .val (.int p1), .val (.int p2), .val (.int p3), .val (.int p4), .val (.int p5)] [(.int p1), (.ref o0)])) _
    refine st2 _ ?_
    show Steps p.tables e below (T2.setTop (mkF m 61 #[.val (.ref o0), .val (.int p1), .val (.int p2), .val (.int p3), .val (.int p4), .val (.int p5)] [])) _
    refine XS.aloadN X2.here hx rfl (hb hby d3_61) rfl rfl ?_
    show Steps p.tables e below (T2.setTop (mkF m 62 #[.val (.ref o0), .val (.int p1), .val (.int p2), .val (.int p3), .val (.int p4), .val (.int p5)] [(.ref o0)])) _
    refine XS.iloadN X2.here hx rfl (hb hby d3_62) rfl ?_
    show Steps p.tables e below (T2.setTop (mkF m 63 #[.val (.ref o0), .val (.int p1), .val (.int p2), .val (.int p3), .val (.int p4), .val (.int p5)] [(.int p2), (.ref o0)])) _
    refine st7 _ ?_
    show Steps p.tables e below (T7.setTop (mkF m 66 #[.val (.ref o0), .val (.int p1), .val (.int p2), .val (.int p3), .val (.int p4), .val (.int p5)] [])) _
    refine XS.aloadN X7.here hx rfl (hb hby d3_66) rfl rfl ?_
    show Steps p.tables e below (T7.setTop (mkF m 67 #[.val (.ref o0), .val (.int p1), .val (.int p2), .val (.int p3), .val (.int p4), .val (.int p5)] [(.ref o0)])) _
    refine XS.iloadN X7.here hx rfl (hb hby d3_67) rfl ?_
    show Steps p.tables e below (T7.setTop (mkF m 68 #[.val (.ref o0), .val (.int p1), .val (.int p2), .val (.int p3), .val (.int p4), .val (.int p5)] [(.int p3), (.ref o0)])) _
    refine st12 _ ?_
    show Steps p.tables e below (T12.setTop (mkF m 71 #[.val (.ref o0), .val (.int p1), .val (.int p2), .val (.int p3), .val (.int p4), .val (.int p5)] [])) _
    refine XS.aloadN X12.here hx rfl (hb hby d3_71) rfl rfl ?_
    show Steps p.tables e below (T12.setTop (mkF m 72 #[.val (.ref o0), .val (.int p1), .val (.int p2), .val (.int p3), .val (.int p4), .val (.int p5)] [(.ref o0)])) _
    refine XS.iload X12.here hx rfl (hb hby d3_72) rfl ?_
    show Steps p.tables e below (T12.setTop (mkF m 74 #[.val (.ref o0), .val (.int p1), .val (.int p2), .val (.int p3), .val (.int p4), .val (.int p5)] [(.int p4), (.ref o0)])) _
    refine st17 _ ?_
    show Steps p.tables e below (T17.setTop (mkF m 77 #[.val (.ref o0), .val (.int p1), .val (.int p2), .val (.int p3), .val (.int p4), .val (.int p5)] [])) _
    refine XS.aloadN X17.here hx rfl (hb hby d3_77) rfl rfl ?_
    show Steps p.tables e below (T17.setTop (mkF m 78 #[.val (.ref o0), .val (.int p1), .val (.int p2), .val (.int p3), .val (.int p4), .val (.int p5)] [(.ref o0)])) _
    refine XS.iload X17.here hx rfl (hb hby d3_78) rfl ?_
    show Steps p.tables e below (T17.setTop (mkF m 80 #[.val (.ref o0), .val (.int p1), .val (.int p2), .val (.int p3), .val (.int p4), .val (.int p5)] [(.int p5), (.ref o0)])) _
    refine st22 _ ?_
    show Steps p.tables e below (T22.setTop (mkF m 83 #[.val (.ref o0), .val (.int p1), .val (.int p2), .val (.int p3), .val (.int p4), .val (.int p5)] [])) _
    exact X22.returnOut hx Bd.returns (hb hby d3_83) hr
  · skip
    show Q3 Z o0 p1 p2 p3 p4 p5 u0_start u1_length u2_source u3_sourceStart u4_sourceLength h0 n0 _ T22.heap _
    rw [e22]
    have k25 := (k21.wr W22)
    have k26 := ((((Fw2.other W7 (Or.inr (slot_ne (Or.inr (hw _ (List.mem_of_getElem? (i := 20) rfl))) (Or.inr (hw _ (List.mem_of_getElem? (i := 22) rfl))) (by decide) (t := .int) (t' := .int) (by decide) (by decide)))).other W12 (Or.inr (slot_ne (Or.inr (hw _ (List.mem_of_getElem? (i := 20) rfl))) (Or.inr (hw _ (List.mem_of_getElem? (i := 24) rfl))) (by decide) (t := .int) (t' := .int) (by decide) (by decide)))).other W17 (Or.inr (slot_ne (Or.inr (hw _ (List.mem_of_getElem? (i := 20) rfl))) (Or.inr (hw _ (List.mem_of_getElem? (i := 26) rfl))) (by decide) (t := .int) (t' := .int) (by decide) (by decide)))).other W22 (Or.inr (slot_ne (Or.inr (hw _ (List.mem_of_getElem? (i := 20) rfl))) (Or.inr (hw _ (List.mem_of_getElem? (i := 28) rfl))) (by decide) (t := .int) (t' := .int) (by decide) (by decide))))
    have k27 := (((Fw7.other W12 (Or.inr (slot_ne (Or.inr (hw _ (List.mem_of_getElem? (i := 22) rfl))) (Or.inr (hw _ (List.mem_of_getElem? (i := 24) rfl))) (by decide) (t := .int) (t' := .int) (by decide) (by decide)))).other W17 (Or.inr (slot_ne (Or.inr (hw _ (List.mem_of_getElem? (i := 22) rfl))) (Or.inr (hw _ (List.mem_of_getElem? (i := 26) rfl))) (by decide) (t := .int) (t' := .int) (by decide) (by decide)))).other W22 (Or.inr (slot_ne (Or.inr (hw _ (List.mem_of_getElem? (i := 22) rfl))) (Or.inr (hw _ (List.mem_of_getElem? (i := 28) rfl))) (by decide) (t := .int) (t' := .int) (by decide) (by decide))))
    have k28 := ((Fw12.other W17 (Or.inr (slot_ne (Or.inr (hw _ (List.mem_of_getElem? (i := 24) rfl))) (Or.inr (hw _ (List.mem_of_getElem? (i := 26) rfl))) (by decide) (t := .int) (t' := .int) (by decide) (by decide)))).other W22 (Or.inr (slot_ne (Or.inr (hw _ (List.mem_of_getElem? (i := 24) rfl))) (Or.inr (hw _ (List.mem_of_getElem? (i := 28) rfl))) (by decide) (t := .int) (t' := .int) (by decide) (by decide))))
    have k29 := (Fw17.other W22 (Or.inr (slot_ne (Or.inr (hw _ (List.mem_of_getElem? (i := 26) rfl))) (Or.inr (hw _ (List.mem_of_getElem? (i := 28) rfl))) (by decide) (t := .int) (t' := .int) (by decide) (by decide))))
    exact ⟨N22, rfl, ((((((Keep.refl h0 [o0]).wr W2 (Or.inl (List.mem_of_getElem? (i := 0) rfl))).wr W7 (Or.inl (List.mem_of_getElem? (i := 0) rfl))).wr W12 (Or.inl (List.mem_of_getElem? (i := 0) rfl))).wr W17 (Or.inl (List.mem_of_getElem? (i := 0) rfl))).wr W22 (Or.inl (List.mem_of_getElem? (i := 0) rfl))), k25, k26, k27, k28, k29, Fw22⟩
theorem d5_0 : decode prog_26_method_10_code 0 = .ok (.aload_n 0, 1) := by decide +kernel
theorem d5_1 : decode prog_26_method_10_code 1 = .ok (.getfield 17, 3) := by decide +kernel
theorem d5_4 : decode prog_26_method_10_code 4 = .ok (.istore_n 1, 1) := by decide +kernel
theorem d5_5 : decode prog_26_method_10_code 5 = .ok (.bipush 31, 2) := by decide +kernel
theorem d5_7 : decode prog_26_method_10_code 7 = .ok (.iload_n 1, 1) := by decide +kernel
theorem d5_8 : decode prog_26_method_10_code 8 = .ok (.imul, 1) := by decide +kernel
theorem d5_9 : decode prog_26_method_10_code 9 = .ok (.aload_n 0, 1) := by decide +kernel
theorem d5_10 : decode prog_26_method_10_code 10 = .ok (.getfield 23, 3) := by decide +kernel
theorem d5_13 : decode prog_26_method_10_code 13 = .ok (.iadd, 1) := by decide +kernel
theorem d5_14 : decode prog_26_method_10_code 14 = .ok (.istore_n 1, 1) := by decide +kernel
theorem d5_15 : decode prog_26_method_10_code 15 = .ok (.bipush 31, 2) := by decide +kernel
theorem d5_17 : decode prog_26_method_10_code 17 = .ok (.iload_n 1, 1) := by decide +kernel
theorem d5_18 : decode prog_26_method_10_code 18 = .ok (.imul, 1) := by decide +kernel
theorem d5_19 : decode prog_26_method_10_code 19 = .ok (.aload_n 0, 1) := by decide +kernel
theorem d5_20 : decode prog_26_method_10_code 20 = .ok (.getfield 26, 3) := by decide +kernel
theorem d5_23 : decode prog_26_method_10_code 23 = .ok (.iadd, 1) := by decide +kernel
theorem d5_24 : decode prog_26_method_10_code 24 = .ok (.istore_n 1, 1) := by decide +kernel
theorem d5_25 : decode prog_26_method_10_code 25 = .ok (.bipush 31, 2) := by decide +kernel
theorem d5_27 : decode prog_26_method_10_code 27 = .ok (.iload_n 1, 1) := by decide +kernel
theorem d5_28 : decode prog_26_method_10_code 28 = .ok (.imul, 1) := by decide +kernel
theorem d5_29 : decode prog_26_method_10_code 29 = .ok (.aload_n 0, 1) := by decide +kernel
theorem d5_30 : decode prog_26_method_10_code 30 = .ok (.getfield 29, 3) := by decide +kernel
theorem d5_33 : decode prog_26_method_10_code 33 = .ok (.iadd, 1) := by decide +kernel
theorem d5_34 : decode prog_26_method_10_code 34 = .ok (.istore_n 1, 1) := by decide +kernel
theorem d5_35 : decode prog_26_method_10_code 35 = .ok (.bipush 31, 2) := by decide +kernel
theorem d5_37 : decode prog_26_method_10_code 37 = .ok (.iload_n 1, 1) := by decide +kernel
theorem d5_38 : decode prog_26_method_10_code 38 = .ok (.imul, 1) := by decide +kernel
theorem d5_39 : decode prog_26_method_10_code 39 = .ok (.aload_n 0, 1) := by decide +kernel
theorem d5_40 : decode prog_26_method_10_code 40 = .ok (.getfield 32, 3) := by decide +kernel
theorem d5_43 : decode prog_26_method_10_code 43 = .ok (.iadd, 1) := by decide +kernel
theorem d5_44 : decode prog_26_method_10_code 44 = .ok (.ireturn, 1) := by decide +kernel
theorem ef_5 (m : MethodId) (o0 : Addr) : entryFrame m #[(.ref o0)] 2 = mkF m 0 #[.val (.ref o0), .unset] [] := by first | (simp [entryFrame, mkF, argsToLocals, Value.category]; done) | rfl
def v5_1 (w0_start : Int32) (w1_length : Int32) (w2_source : Int32) (w3_sourceStart : Int32) (w4_sourceLength : Int32) : Int32 := (((31 : Int32) * w0_start) + w1_length)
def v5_2 (w0_start : Int32) (w1_length : Int32) (w2_source : Int32) (w3_sourceStart : Int32) (w4_sourceLength : Int32) : Int32 := (((31 : Int32) * (v5_1 w0_start w1_length w2_source w3_sourceStart w4_sourceLength)) + w2_source)
def v5_3 (w0_start : Int32) (w1_length : Int32) (w2_source : Int32) (w3_sourceStart : Int32) (w4_sourceLength : Int32) : Int32 := (((31 : Int32) * (v5_2 w0_start w1_length w2_source w3_sourceStart w4_sourceLength)) + w3_sourceStart)
def f5 (w0_start : Int32) (w1_length : Int32) (w2_source : Int32) (w3_sourceStart : Int32) (w4_sourceLength : Int32) : Int32 := (((31 : Int32) * (v5_3 w0_start w1_length w2_source w3_sourceStart w4_sourceLength)) + w4_sourceLength)
def Q5 (Z : State) (o0 : Addr) (w0_start : Int32) (w1_length : Int32) (w2_source : Int32) (w3_sourceStart : Int32) (w4_sourceLength : Int32) (h0 : Heap) (n0 : Nat) (v : Option Value) (h : Heap) (L : List Loc) : Prop := Fr n0 L ∧ v = some (.int (f5 w0_start w1_length w2_source w3_sourceStart w4_sourceLength)) ∧ h = h0
set_option maxRecDepth 65536 in
set_option maxHeartbeats 40000000 in
theorem rm5 (l : Launch) (Z : State) (a0 : Array Value) (hw : ∀ d ∈ tables_1, d.before a0 Z = true) (ws : List Jvm.Cond) (o0 : Addr) (w0_start : Int32) (w1_length : Int32) (w2_source : Int32) (w3_sourceStart : Int32) (w4_sourceLength : Int32) (h0 : Heap) (n0 : Nat) (Z0 : n0 ≤ h0.size) (F_start_o0 : Fld Z h0 o0 "com/example/vannus/vannus/Passage" "start" "I" (.int w0_start)) (F_length_o0 : Fld Z h0 o0 "com/example/vannus/vannus/Passage" "length" "I" (.int w1_length)) (F_source_o0 : Fld Z h0 o0 "com/example/vannus/vannus/Passage" "source" "I" (.int w2_source)) (F_sourceStart_o0 : Fld Z h0 o0 "com/example/vannus/vannus/Passage" "sourceStart" "I" (.int w3_sourceStart)) (F_sourceLength_o0 : Fld Z h0 o0 "com/example/vannus/vannus/Passage" "sourceLength" "I" (.int w4_sourceLength)) :
    MetFree l (⟨"com/example/vannus/vannus/Passage", "hashCode", "()I"⟩ : MethodName) (head1 (Jvm.Cond.code (⟨"com/example/vannus/vannus/Passage", "hashCode", "()I"⟩ : MethodName) prog_26_method_10_code 2 (some .int) :: ws) ({ frames := 0, cells := 0, slots := 0, locals := 0 } : Room)) (fun a U => a = #[(.ref o0)] ∧ Z.Warmed39 U.vm ∧ U.heap = h0) (fun _ _ _ _ _ => True) (fun _ U o U' => ∃ v L, o = .returned v ∧ Q5 Z o0 w0_start w1_length w2_source w3_sourceStart w4_sourceLength h0 n0 v U'.heap L ∧ FrameEnd U o U' L ({ frames := 0, cells := 0, slots := 0, locals := 0 } : Room).cells ({ frames := 0, cells := 0, slots := 0, locals := 0 } : Room).slots) := by
  refine MetFree.of_bodySF (plainFor_of_name pn_com_example_vannus_vannus_Passage) hisR ?_
  intro p e s m args below meth c s₁ Bd hml0 hP hK
  obtain ⟨rfl, hZ, hh⟩ := hP
  have hx := Bd.exec
  have hby := Bd.bytes
  have hml : c.maxLocals = 2 := hml0
  have hown : s.vm.findClass "com/example/vannus/vannus/Passage" = some m.cls := findClass_of_methodNamed Bd.named
  have hnm := (name_of_methodNamed Bd.named Bd.method).1
  have X0 : Stand p l e ({ frames := 0, cells := 0, slots := 0, locals := 0 } : Room) s m #[(.ref o0)] below meth c s₁ [] 0 0 := Stand.of_body Bd
  have e0 : s₁.heap = h0 := by rw [← hh, Bd.state]; rfl
  have N0 := Fr.nil n0
  have pre0 : ∀ t, Steps p.tables e below (s₁.setTop (mkF m 0 #[.val (.ref o0), .unset] [])) t → Steps p.tables e below (s₁.setTop (entryFrame m #[(.ref o0)] 2)) t := fun t k => castTop (ef_5 m o0) k
  obtain ⟨T1, X1, e1, st1⟩ := getF X0 hx hZ hown (host := "") (Or.inl (hw _ (List.mem_of_getElem? (i := 19) rfl))) Via.refl e0 F_start_o0 (g := (mkF m 1 #[.val (.ref o0), .unset] [(.ref o0)])) rfl rfl (hb hby d5_1)
  obtain ⟨T2, X2, e2, st2⟩ := getF X1 hx hZ hown (host := "") (Or.inl (hw _ (List.mem_of_getElem? (i := 21) rfl))) Via.refl e1 F_length_o0 (g := (mkF m 10 #[.val (.ref o0), .val (.int w0_start)] [(.ref o0), (.int ((31 : Int32) * w0_start))])) rfl rfl (hb hby d5_10)
  obtain ⟨T3, X3, e3, st3⟩ := getF X2 hx hZ hown (host := "") (Or.inl (hw _ (List.mem_of_getElem? (i := 23) rfl))) Via.refl e2 F_source_o0 (g := (mkF m 20 #[.val (.ref o0), .val (.int (v5_1 w0_start w1_length w2_source w3_sourceStart w4_sourceLength))] [(.ref o0), (.int ((31 : Int32) * (v5_1 w0_start w1_length w2_source w3_sourceStart w4_sourceLength)))])) rfl rfl (hb hby d5_20)
  obtain ⟨T4, X4, e4, st4⟩ := getF X3 hx hZ hown (host := "") (Or.inl (hw _ (List.mem_of_getElem? (i := 25) rfl))) Via.refl e3 F_sourceStart_o0 (g := (mkF m 30 #[.val (.ref o0), .val (.int (v5_2 w0_start w1_length w2_source w3_sourceStart w4_sourceLength))] [(.ref o0), (.int ((31 : Int32) * (v5_2 w0_start w1_length w2_source w3_sourceStart w4_sourceLength)))])) rfl rfl (hb hby d5_30)
  obtain ⟨T5, X5, e5, st5⟩ := getF X4 hx hZ hown (host := "") (Or.inl (hw _ (List.mem_of_getElem? (i := 27) rfl))) Via.refl e4 F_sourceLength_o0 (g := (mkF m 40 #[.val (.ref o0), .val (.int (v5_3 w0_start w1_length w2_source w3_sourceStart w4_sourceLength))] [(.ref o0), (.int ((31 : Int32) * (v5_3 w0_start w1_length w2_source w3_sourceStart w4_sourceLength)))])) rfl rfl (hb hby d5_40)
  obtain ⟨fs, hr, hrun, hended, hW, hsame⟩ := X5.leave (v := some (.int (((31 : Int32) * (v5_3 w0_start w1_length w2_source w3_sourceStart w4_sourceLength)) + w4_sourceLength))) (fun h => by rw [Bd.returns] at h; cases h)
  refine ⟨_, _, pre0 _ ?_, hrun, hended, _, _, rfl, ?_, ⟨_, rfl⟩, hW, hsame.mono (by decide) (by decide)⟩
  · skip
    show Steps p.tables e below (s₁.setTop (mkF m 0 #[.val (.ref o0), .unset] [])) _
    refine XS.aloadN X0.here hx rfl (hb hby d5_0) rfl rfl ?_
    show Steps p.tables e below (s₁.setTop (mkF m 1 #[.val (.ref o0), .unset] [(.ref o0)])) _
    refine st1 _ ?_
    show Steps p.tables e below (T1.setTop (mkF m 4 #[.val (.ref o0), .unset] [(.int w0_start)])) _
    refine XS.istoreN X1.here hx rfl (hb hby d5_4) rfl (l' := #[.val (.ref o0), .val (.int w0_start)]) rfl ?_
    show Steps p.tables e below (T1.setTop (mkF m 5 #[.val (.ref o0), .val (.int w0_start)] [])) _
    refine XT.bipushV X1.here hx rfl (31 : Int32) (hb hby d5_5) (by decide) ?_
    show Steps p.tables e below (T1.setTop (mkF m 7 #[.val (.ref o0), .val (.int w0_start)] [(.int (31 : Int32))])) _
    refine XS.iloadN X1.here hx rfl (hb hby d5_7) rfl ?_
    show Steps p.tables e below (T1.setTop (mkF m 8 #[.val (.ref o0), .val (.int w0_start)] [(.int w0_start), (.int (31 : Int32))])) _
    refine XS.imul X1.here hx rfl (hb hby d5_8) rfl ?_
    show Steps p.tables e below (T1.setTop (mkF m 9 #[.val (.ref o0), .val (.int w0_start)] [(.int ((31 : Int32) * w0_start))])) _
    refine XS.aloadN X1.here hx rfl (hb hby d5_9) rfl rfl ?_
    show Steps p.tables e below (T1.setTop (mkF m 10 #[.val (.ref o0), .val (.int w0_start)] [(.ref o0), (.int ((31 : Int32) * w0_start))])) _
    refine st2 _ ?_
    show Steps p.tables e below (T2.setTop (mkF m 13 #[.val (.ref o0), .val (.int w0_start)] [(.int w1_length), (.int ((31 : Int32) * w0_start))])) _
    refine XS.iadd X2.here hx rfl (hb hby d5_13) rfl ?_
    show Steps p.tables e below (T2.setTop (mkF m 14 #[.val (.ref o0), .val (.int w0_start)] [(.int (((31 : Int32) * w0_start) + w1_length))])) _
    refine XS.istoreN X2.here hx rfl (hb hby d5_14) rfl (l' := #[.val (.ref o0), .val (.int (v5_1 w0_start w1_length w2_source w3_sourceStart w4_sourceLength))]) rfl ?_
    show Steps p.tables e below (T2.setTop (mkF m 15 #[.val (.ref o0), .val (.int (v5_1 w0_start w1_length w2_source w3_sourceStart w4_sourceLength))] [])) _
    refine XT.bipushV X2.here hx rfl (31 : Int32) (hb hby d5_15) (by decide) ?_
    show Steps p.tables e below (T2.setTop (mkF m 17 #[.val (.ref o0), .val (.int (v5_1 w0_start w1_length w2_source w3_sourceStart w4_sourceLength))] [(.int (31 : Int32))])) _
    refine XS.iloadN X2.here hx rfl (hb hby d5_17) rfl ?_
    show Steps p.tables e below (T2.setTop (mkF m 18 #[.val (.ref o0), .val (.int (v5_1 w0_start w1_length w2_source w3_sourceStart w4_sourceLength))] [(.int (v5_1 w0_start w1_length w2_source w3_sourceStart w4_sourceLength)), (.int (31 : Int32))])) _
    refine XS.imul X2.here hx rfl (hb hby d5_18) rfl ?_
    show Steps p.tables e below (T2.setTop (mkF m 19 #[.val (.ref o0), .val (.int (v5_1 w0_start w1_length w2_source w3_sourceStart w4_sourceLength))] [(.int ((31 : Int32) * (v5_1 w0_start w1_length w2_source w3_sourceStart w4_sourceLength)))])) _
    refine XS.aloadN X2.here hx rfl (hb hby d5_19) rfl rfl ?_
    show Steps p.tables e below (T2.setTop (mkF m 20 #[.val (.ref o0), .val (.int (v5_1 w0_start w1_length w2_source w3_sourceStart w4_sourceLength))] [(.ref o0), (.int ((31 : Int32) * (v5_1 w0_start w1_length w2_source w3_sourceStart w4_sourceLength)))])) _
    refine st3 _ ?_
    show Steps p.tables e below (T3.setTop (mkF m 23 #[.val (.ref o0), .val (.int (v5_1 w0_start w1_length w2_source w3_sourceStart w4_sourceLength))] [(.int w2_source), (.int ((31 : Int32) * (v5_1 w0_start w1_length w2_source w3_sourceStart w4_sourceLength)))])) _
    refine XS.iadd X3.here hx rfl (hb hby d5_23) rfl ?_
    show Steps p.tables e below (T3.setTop (mkF m 24 #[.val (.ref o0), .val (.int (v5_1 w0_start w1_length w2_source w3_sourceStart w4_sourceLength))] [(.int (((31 : Int32) * (v5_1 w0_start w1_length w2_source w3_sourceStart w4_sourceLength)) + w2_source))])) _
    refine XS.istoreN X3.here hx rfl (hb hby d5_24) rfl (l' := #[.val (.ref o0), .val (.int (v5_2 w0_start w1_length w2_source w3_sourceStart w4_sourceLength))]) rfl ?_
    show Steps p.tables e below (T3.setTop (mkF m 25 #[.val (.ref o0), .val (.int (v5_2 w0_start w1_length w2_source w3_sourceStart w4_sourceLength))] [])) _
    refine XT.bipushV X3.here hx rfl (31 : Int32) (hb hby d5_25) (by decide) ?_
    show Steps p.tables e below (T3.setTop (mkF m 27 #[.val (.ref o0), .val (.int (v5_2 w0_start w1_length w2_source w3_sourceStart w4_sourceLength))] [(.int (31 : Int32))])) _
    refine XS.iloadN X3.here hx rfl (hb hby d5_27) rfl ?_
    show Steps p.tables e below (T3.setTop (mkF m 28 #[.val (.ref o0), .val (.int (v5_2 w0_start w1_length w2_source w3_sourceStart w4_sourceLength))] [(.int (v5_2 w0_start w1_length w2_source w3_sourceStart w4_sourceLength)), (.int (31 : Int32))])) _
    refine XS.imul X3.here hx rfl (hb hby d5_28) rfl ?_
    show Steps p.tables e below (T3.setTop (mkF m 29 #[.val (.ref o0), .val (.int (v5_2 w0_start w1_length w2_source w3_sourceStart w4_sourceLength))] [(.int ((31 : Int32) * (v5_2 w0_start w1_length w2_source w3_sourceStart w4_sourceLength)))])) _
    refine XS.aloadN X3.here hx rfl (hb hby d5_29) rfl rfl ?_
    show Steps p.tables e below (T3.setTop (mkF m 30 #[.val (.ref o0), .val (.int (v5_2 w0_start w1_length w2_source w3_sourceStart w4_sourceLength))] [(.ref o0), (.int ((31 : Int32) * (v5_2 w0_start w1_length w2_source w3_sourceStart w4_sourceLength)))])) _
    refine st4 _ ?_
    show Steps p.tables e below (T4.setTop (mkF m 33 #[.val (.ref o0), .val (.int (v5_2 w0_start w1_length w2_source w3_sourceStart w4_sourceLength))] [(.int w3_sourceStart), (.int ((31 : Int32) * (v5_2 w0_start w1_length w2_source w3_sourceStart w4_sourceLength)))])) _
    refine XS.iadd X4.here hx rfl (hb hby d5_33) rfl ?_
    show Steps p.tables e below (T4.setTop (mkF m 34 #[.val (.ref o0), .val (.int (v5_2 w0_start w1_length w2_source w3_sourceStart w4_sourceLength))] [(.int (((31 : Int32) * (v5_2 w0_start w1_length w2_source w3_sourceStart w4_sourceLength)) + w3_sourceStart))])) _
    refine XS.istoreN X4.here hx rfl (hb hby d5_34) rfl (l' := #[.val (.ref o0), .val (.int (v5_3 w0_start w1_length w2_source w3_sourceStart w4_sourceLength))]) rfl ?_
    show Steps p.tables e below (T4.setTop (mkF m 35 #[.val (.ref o0), .val (.int (v5_3 w0_start w1_length w2_source w3_sourceStart w4_sourceLength))] [])) _
    refine XT.bipushV X4.here hx rfl (31 : Int32) (hb hby d5_35) (by decide) ?_
    show Steps p.tables e below (T4.setTop (mkF m 37 #[.val (.ref o0), .val (.int (v5_3 w0_start w1_length w2_source w3_sourceStart w4_sourceLength))] [(.int (31 : Int32))])) _
    refine XS.iloadN X4.here hx rfl (hb hby d5_37) rfl ?_
    show Steps p.tables e below (T4.setTop (mkF m 38 #[.val (.ref o0), .val (.int (v5_3 w0_start w1_length w2_source w3_sourceStart w4_sourceLength))] [(.int (v5_3 w0_start w1_length w2_source w3_sourceStart w4_sourceLength)), (.int (31 : Int32))])) _
    refine XS.imul X4.here hx rfl (hb hby d5_38) rfl ?_
    show Steps p.tables e below (T4.setTop (mkF m 39 #[.val (.ref o0), .val (.int (v5_3 w0_start w1_length w2_source w3_sourceStart w4_sourceLength))] [(.int ((31 : Int32) * (v5_3 w0_start w1_length w2_source w3_sourceStart w4_sourceLength)))])) _
    refine XS.aloadN X4.here hx rfl (hb hby d5_39) rfl rfl ?_
    show Steps p.tables e below (T4.setTop (mkF m 40 #[.val (.ref o0), .val (.int (v5_3 w0_start w1_length w2_source w3_sourceStart w4_sourceLength))] [(.ref o0), (.int ((31 : Int32) * (v5_3 w0_start w1_length w2_source w3_sourceStart w4_sourceLength)))])) _
    refine st5 _ ?_
    show Steps p.tables e below (T5.setTop (mkF m 43 #[.val (.ref o0), .val (.int (v5_3 w0_start w1_length w2_source w3_sourceStart w4_sourceLength))] [(.int w4_sourceLength), (.int ((31 : Int32) * (v5_3 w0_start w1_length w2_source w3_sourceStart w4_sourceLength)))])) _
    refine XS.iadd X5.here hx rfl (hb hby d5_43) rfl ?_
    show Steps p.tables e below (T5.setTop (mkF m 44 #[.val (.ref o0), .val (.int (v5_3 w0_start w1_length w2_source w3_sourceStart w4_sourceLength))] [(.int (((31 : Int32) * (v5_3 w0_start w1_length w2_source w3_sourceStart w4_sourceLength)) + w4_sourceLength))])) _
    exact retI X5 hx Bd.returns (hb hby d5_44) hr
  · skip
    show Q5 Z o0 w0_start w1_length w2_source w3_sourceStart w4_sourceLength h0 n0 _ T5.heap _
    rw [e5]
    exact ⟨N0, rfl, rfl⟩
theorem d6_0 : decode prog_26_method_9_code 0 = .ok (.aload_n 1, 1) := by decide +kernel
theorem d6_1 : decode prog_26_method_9_code 1 = .ok (.instanceof 18, 3) := by decide +kernel
theorem d6_4 : decode prog_26_method_9_code 4 = .ok (.ifCond .eq 67, 3) := by decide +kernel
theorem d6_7 : decode prog_26_method_9_code 7 = .ok (.aload_n 1, 1) := by decide +kernel
theorem d6_8 : decode prog_26_method_9_code 8 = .ok (.checkcast 18, 3) := by decide +kernel
theorem d6_11 : decode prog_26_method_9_code 11 = .ok (.astore_n 2, 1) := by decide +kernel
theorem d6_12 : decode prog_26_method_9_code 12 = .ok (.aload_n 0, 1) := by decide +kernel
theorem d6_13 : decode prog_26_method_9_code 13 = .ok (.getfield 17, 3) := by decide +kernel
theorem d6_16 : decode prog_26_method_9_code 16 = .ok (.aload_n 2, 1) := by decide +kernel
theorem d6_17 : decode prog_26_method_9_code 17 = .ok (.getfield 17, 3) := by decide +kernel
theorem d6_20 : decode prog_26_method_9_code 20 = .ok (.if_icmp .ne 51, 3) := by decide +kernel
theorem d6_23 : decode prog_26_method_9_code 23 = .ok (.aload_n 0, 1) := by decide +kernel
theorem d6_24 : decode prog_26_method_9_code 24 = .ok (.getfield 23, 3) := by decide +kernel
theorem d6_27 : decode prog_26_method_9_code 27 = .ok (.aload_n 2, 1) := by decide +kernel
theorem d6_28 : decode prog_26_method_9_code 28 = .ok (.getfield 23, 3) := by decide +kernel
theorem d6_31 : decode prog_26_method_9_code 31 = .ok (.if_icmp .ne 40, 3) := by decide +kernel
theorem d6_34 : decode prog_26_method_9_code 34 = .ok (.aload_n 0, 1) := by decide +kernel
theorem d6_35 : decode prog_26_method_9_code 35 = .ok (.getfield 26, 3) := by decide +kernel
theorem d6_38 : decode prog_26_method_9_code 38 = .ok (.aload_n 2, 1) := by decide +kernel
theorem d6_39 : decode prog_26_method_9_code 39 = .ok (.getfield 26, 3) := by decide +kernel
theorem d6_42 : decode prog_26_method_9_code 42 = .ok (.if_icmp .ne 29, 3) := by decide +kernel
theorem d6_45 : decode prog_26_method_9_code 45 = .ok (.aload_n 0, 1) := by decide +kernel
theorem d6_46 : decode prog_26_method_9_code 46 = .ok (.getfield 29, 3) := by decide +kernel
theorem d6_49 : decode prog_26_method_9_code 49 = .ok (.aload_n 2, 1) := by decide +kernel
theorem d6_50 : decode prog_26_method_9_code 50 = .ok (.getfield 29, 3) := by decide +kernel
theorem d6_53 : decode prog_26_method_9_code 53 = .ok (.if_icmp .ne 18, 3) := by decide +kernel
theorem d6_56 : decode prog_26_method_9_code 56 = .ok (.aload_n 0, 1) := by decide +kernel
theorem d6_57 : decode prog_26_method_9_code 57 = .ok (.getfield 32, 3) := by decide +kernel
theorem d6_60 : decode prog_26_method_9_code 60 = .ok (.aload_n 2, 1) := by decide +kernel
theorem d6_61 : decode prog_26_method_9_code 61 = .ok (.getfield 32, 3) := by decide +kernel
theorem d6_64 : decode prog_26_method_9_code 64 = .ok (.if_icmp .ne 7, 3) := by decide +kernel
theorem d6_67 : decode prog_26_method_9_code 67 = .ok (.iconst 1, 1) := by decide +kernel
theorem d6_68 : decode prog_26_method_9_code 68 = .ok (.goto 4, 3) := by decide +kernel
theorem d6_71 : decode prog_26_method_9_code 71 = .ok (.iconst 0, 1) := by decide +kernel
theorem d6_72 : decode prog_26_method_9_code 72 = .ok (.ireturn, 1) := by decide +kernel
theorem ef_6 (m : MethodId) (o0 : Addr) (o1 : Addr) : entryFrame m #[(.ref o0), (.ref o1)] 3 = mkF m 0 #[.val (.ref o0), .val (.ref o1), .unset] [] := by first | (simp [entryFrame, mkF, argsToLocals, Value.category]; done) | rfl
def v6_1 (w0_start : Int32) (w1_start : Int32) (w2_length : Int32) (w3_length : Int32) (w4_source : Int32) (w5_source : Int32) (w6_sourceStart : Int32) (w7_sourceStart : Int32) (w8_sourceLength : Int32) (w9_sourceLength : Int32) : Int32 := (if w0_start = w1_start then (if w2_length = w3_length then (if w4_source = w5_source then (if w6_sourceStart = w7_sourceStart then (if w8_sourceLength = w9_sourceLength then (1 : Int32) else (0 : Int32)) else (0 : Int32)) else (0 : Int32)) else (0 : Int32)) else (0 : Int32))
def f6 (w0_start : Int32) (w1_start : Int32) (w2_length : Int32) (w3_length : Int32) (w4_source : Int32) (w5_source : Int32) (w6_sourceStart : Int32) (w7_sourceStart : Int32) (w8_sourceLength : Int32) (w9_sourceLength : Int32) : Int32 := (nar .boolean (v6_1 w0_start w1_start w2_length w3_length w4_source w5_source w6_sourceStart w7_sourceStart w8_sourceLength w9_sourceLength))
def Q6 (Z : State) (o0 : Addr) (o1 : Addr) (w0_start : Int32) (w1_start : Int32) (w2_length : Int32) (w3_length : Int32) (w4_source : Int32) (w5_source : Int32) (w6_sourceStart : Int32) (w7_sourceStart : Int32) (w8_sourceLength : Int32) (w9_sourceLength : Int32) (h0 : Heap) (n0 : Nat) (v : Option Value) (h : Heap) (L : List Loc) : Prop := Fr n0 L ∧ v = some (.int (f6 w0_start w1_start w2_length w3_length w4_source w5_source w6_sourceStart w7_sourceStart w8_sourceLength w9_sourceLength)) ∧ h = h0
set_option maxRecDepth 65536 in
set_option maxHeartbeats 40000000 in
theorem rm6 (l : Launch) (Z : State) (a0 : Array Value) (hw : ∀ d ∈ tables_1, d.before a0 Z = true) (ws : List Jvm.Cond) (o0 : Addr) (o1 : Addr) (w0_start : Int32) (w1_start : Int32) (w2_length : Int32) (w3_length : Int32) (w4_source : Int32) (w5_source : Int32) (w6_sourceStart : Int32) (w7_sourceStart : Int32) (w8_sourceLength : Int32) (w9_sourceLength : Int32) (h0 : Heap) (n0 : Nat) (Z0 : n0 ≤ h0.size) (E_o1 : Exa Z h0 o1 "com/example/vannus/vannus/Passage") (F_start_o0 : Fld Z h0 o0 "com/example/vannus/vannus/Passage" "start" "I" (.int w0_start)) (F_start_o1 : Fld Z h0 o1 "com/example/vannus/vannus/Passage" "start" "I" (.int w1_start)) (F_length_o0 : Fld Z h0 o0 "com/example/vannus/vannus/Passage" "length" "I" (.int w2_length)) (F_length_o1 : Fld Z h0 o1 "com/example/vannus/vannus/Passage" "length" "I" (.int w3_length)) (F_source_o0 : Fld Z h0 o0 "com/example/vannus/vannus/Passage" "source" "I" (.int w4_source)) (F_source_o1 : Fld Z h0 o1 "com/example/vannus/vannus/Passage" "source" "I" (.int w5_source)) (F_sourceStart_o0 : Fld Z h0 o0 "com/example/vannus/vannus/Passage" "sourceStart" "I" (.int w6_sourceStart)) (F_sourceStart_o1 : Fld Z h0 o1 "com/example/vannus/vannus/Passage" "sourceStart" "I" (.int w7_sourceStart)) (F_sourceLength_o0 : Fld Z h0 o0 "com/example/vannus/vannus/Passage" "sourceLength" "I" (.int w8_sourceLength)) (F_sourceLength_o1 : Fld Z h0 o1 "com/example/vannus/vannus/Passage" "sourceLength" "I" (.int w9_sourceLength)) :
    MetFree l (⟨"com/example/vannus/vannus/Passage", "equals", "(Ljava/lang/Object;)Z"⟩ : MethodName) (head1 (Jvm.Cond.code (⟨"com/example/vannus/vannus/Passage", "equals", "(Ljava/lang/Object;)Z"⟩ : MethodName) prog_26_method_9_code 3 (some .boolean) :: ws) ({ frames := 0, cells := 0, slots := 0, locals := 0 } : Room)) (fun a U => a = #[(.ref o0), (.ref o1)] ∧ Z.Warmed39 U.vm ∧ U.heap = h0) (fun _ _ _ _ _ => True) (fun _ U o U' => ∃ v L, o = .returned v ∧ Q6 Z o0 o1 w0_start w1_start w2_length w3_length w4_source w5_source w6_sourceStart w7_sourceStart w8_sourceLength w9_sourceLength h0 n0 v U'.heap L ∧ FrameEnd U o U' L ({ frames := 0, cells := 0, slots := 0, locals := 0 } : Room).cells ({ frames := 0, cells := 0, slots := 0, locals := 0 } : Room).slots) := by
  refine MetFree.of_bodySF (plainFor_of_name pn_com_example_vannus_vannus_Passage) hisR ?_
  intro p e s m args below meth c s₁ Bd hml0 hP hK
  obtain ⟨rfl, hZ, hh⟩ := hP
  have hx := Bd.exec
  have hby := Bd.bytes
  have hml : c.maxLocals = 3 := hml0
  have hown : s.vm.findClass "com/example/vannus/vannus/Passage" = some m.cls := findClass_of_methodNamed Bd.named
  have hnm := (name_of_methodNamed Bd.named Bd.method).1
  have X0 : Stand p l e ({ frames := 0, cells := 0, slots := 0, locals := 0 } : Room) s m #[(.ref o0), (.ref o1)] below meth c s₁ [] 0 0 := Stand.of_body Bd
  have e0 : s₁.heap = h0 := by rw [← hh, Bd.state]; rfl
  have N0 := Fr.nil n0
  have pre0 : ∀ t, Steps p.tables e below (s₁.setTop (mkF m 0 #[.val (.ref o0), .val (.ref o1), .unset] [])) t → Steps p.tables e below (s₁.setTop (entryFrame m #[(.ref o0), (.ref o1)] 3)) t := fun t k => castTop (ef_6 m o0 o1) k
  obtain ⟨T1, X1, e1, st1⟩ := instY X0 hx hZ hown (hw _ (List.mem_of_getElem? (i := 39) rfl)) e0 (Ins.self E_o1) (g := (mkF m 1 #[.val (.ref o0), .val (.ref o1), .unset] [(.ref o1)])) rfl rfl (hb hby d6_1)
  obtain ⟨T2, X2, e2, st2⟩ := castY X1 hx hZ hown (hw _ (List.mem_of_getElem? (i := 39) rfl)) e1 (Ins.self E_o1) (g := (mkF m 8 #[.val (.ref o0), .val (.ref o1), .unset] [(.ref o1)])) rfl rfl (hb hby d6_8)
  obtain ⟨T3, X3, e3, st3⟩ := getF X2 hx hZ hown (host := "") (Or.inl (hw _ (List.mem_of_getElem? (i := 19) rfl))) Via.refl e2 F_start_o0 (g := (mkF m 13 #[.val (.ref o0), .val (.ref o1), .val (.ref o1)] [(.ref o0)])) rfl rfl (hb hby d6_13)
  obtain ⟨T4, X4, e4, st4⟩ := getF X3 hx hZ hown (host := "") (Or.inl (hw _ (List.mem_of_getElem? (i := 19) rfl))) Via.refl e3 F_start_o1 (g := (mkF m 17 #[.val (.ref o0), .val (.ref o1), .val (.ref o1)] [(.ref o1), (.int w0_start)])) rfl rfl (hb hby d6_17)
  have pre5 : ∀ t, Steps p.tables e below (T4.setTop (mkF m 20 #[.val (.ref o0), .val (.ref o1), .val (.ref o1)] [(.int w1_start), (.int w0_start)])) t → Steps p.tables e below (s₁.setTop (entryFrame m #[(.ref o0), (.ref o1)] 3)) t := by
    intro t k
    refine pre0 t ?_
    show Steps p.tables e below (s₁.setTop (mkF m 0 #[.val (.ref o0), .val (.ref o1), .unset] [])) _
    refine XS.aloadN X0.here hx rfl (hb hby d6_0) rfl rfl ?_
    show Steps p.tables e below (s₁.setTop (mkF m 1 #[.val (.ref o0), .val (.ref o1), .unset] [(.ref o1)])) _
    refine st1 _ ?_
    show Steps p.tables e below (T1.setTop (mkF m 4 #[.val (.ref o0), .val (.ref o1), .unset] [(.int (1 : Int32))])) _
    refine XS.ifNo X1.here hx rfl (hb hby d6_4) rfl (XT.i0_eq_f (by decide)) ?_
    show Steps p.tables e below (T1.setTop (mkF m 7 #[.val (.ref o0), .val (.ref o1), .unset] [])) _
    refine XS.aloadN X1.here hx rfl (hb hby d6_7) rfl rfl ?_
    show Steps p.tables e below (T1.setTop (mkF m 8 #[.val (.ref o0), .val (.ref o1), .unset] [(.ref o1)])) _
    refine st2 _ ?_
    show Steps p.tables e below (T2.setTop (mkF m 11 #[.val (.ref o0), .val (.ref o1), .unset] [(.ref o1)])) _
    refine XS.astoreN X2.here hx rfl (hb hby d6_11) rfl rfl (l' := #[.val (.ref o0), .val (.ref o1), .val (.ref o1)]) rfl ?_
    show Steps p.tables e below (T2.setTop (mkF m 12 #[.val (.ref o0), .val (.ref o1), .val (.ref o1)] [])) _
    refine XS.aloadN X2.here hx rfl (hb hby d6_12) rfl rfl ?_
    show Steps p.tables e below (T2.setTop (mkF m 13 #[.val (.ref o0), .val (.ref o1), .val (.ref o1)] [(.ref o0)])) _
    refine st3 _ ?_
    show Steps p.tables e below (T3.setTop (mkF m 16 #[.val (.ref o0), .val (.ref o1), .val (.ref o1)] [(.int w0_start)])) _
    refine XS.aloadN X3.here hx rfl (hb hby d6_16) rfl rfl ?_
    show Steps p.tables e below (T3.setTop (mkF m 17 #[.val (.ref o0), .val (.ref o1), .val (.ref o1)] [(.ref o1), (.int w0_start)])) _
    refine st4 _ ?_
    exact k
  obtain ⟨T23, L23, X23, e23, N23, pre23⟩ : ∃ (T' : State) (L' : List Loc), Stand p l e ({ frames := 0, cells := 0, slots := 0, locals := 0 } : Room) s m #[(.ref o0), (.ref o1)] below meth c T' L' 0 0 ∧ T'.heap = h0 ∧ Fr n0 L' ∧ ∀ t, Steps p.tables e below (T'.setTop (mkF m 72 #[.val (.ref o0), .val (.ref o1), .val (.ref o1)] [(.int (v6_1 w0_start w1_start w2_length w3_length w4_source w5_source w6_sourceStart w7_sourceStart w8_sourceLength w9_sourceLength))])) t → Steps p.tables e below (s₁.setTop (entryFrame m #[(.ref o0), (.ref o1)] 3)) t := by
    by_cases c6 : w0_start = w1_start
    · skip
      obtain ⟨T7, X7, e7, st7⟩ := getF X4 hx hZ hown (host := "") (Or.inl (hw _ (List.mem_of_getElem? (i := 21) rfl))) Via.refl e4 F_length_o0 (g := (mkF m 24 #[.val (.ref o0), .val (.ref o1), .val (.ref o1)] [(.ref o0)])) rfl rfl (hb hby d6_24)
      obtain ⟨T8, X8, e8, st8⟩ := getF X7 hx hZ hown (host := "") (Or.inl (hw _ (List.mem_of_getElem? (i := 21) rfl))) Via.refl e7 F_length_o1 (g := (mkF m 28 #[.val (.ref o0), .val (.ref o1), .val (.ref o1)] [(.ref o1), (.int w2_length)])) rfl rfl (hb hby d6_28)
      have pre9 : ∀ t, Steps p.tables e below (T8.setTop (mkF m 31 #[.val (.ref o0), .val (.ref o1), .val (.ref o1)] [(.int w3_length), (.int w2_length)])) t → Steps p.tables e below (s₁.setTop (entryFrame m #[(.ref o0), (.ref o1)] 3)) t := by
        intro t k
        refine pre5 t ?_
        show Steps p.tables e below (T4.setTop (mkF m 20 #[.val (.ref o0), .val (.ref o1), .val (.ref o1)] [(.int w1_start), (.int w0_start)])) _
        refine XS.icmpNo X4.here hx rfl (hb hby d6_20) rfl (XT.ii_ne_f c6) ?_
        show Steps p.tables e below (T4.setTop (mkF m 23 #[.val (.ref o0), .val (.ref o1), .val (.ref o1)] [])) _
        refine XS.aloadN X4.here hx rfl (hb hby d6_23) rfl rfl ?_
        show Steps p.tables e below (T4.setTop (mkF m 24 #[.val (.ref o0), .val (.ref o1), .val (.ref o1)] [(.ref o0)])) _
        refine st7 _ ?_
        show Steps p.tables e below (T7.setTop (mkF m 27 #[.val (.ref o0), .val (.ref o1), .val (.ref o1)] [(.int w2_length)])) _
        refine XS.aloadN X7.here hx rfl (hb hby d6_27) rfl rfl ?_
        show Steps p.tables e below (T7.setTop (mkF m 28 #[.val (.ref o0), .val (.ref o1), .val (.ref o1)] [(.ref o1), (.int w2_length)])) _
        refine st8 _ ?_
        exact k
      by_cases c10 : w2_length = w3_length
      · skip
        obtain ⟨T11, X11, e11, st11⟩ := getF X8 hx hZ hown (host := "") (Or.inl (hw _ (List.mem_of_getElem? (i := 23) rfl))) Via.refl e8 F_source_o0 (g := (mkF m 35 #[.val (.ref o0), .val (.ref o1), .val (.ref o1)] [(.ref o0)])) rfl rfl (hb hby d6_35)
        obtain ⟨T12, X12, e12, st12⟩ := getF X11 hx hZ hown (host := "") (Or.inl (hw _ (List.mem_of_getElem? (i := 23) rfl))) Via.refl e11 F_source_o1 (g := (mkF m 39 #[.val (.ref o0), .val (.ref o1), .val (.ref o1)] [(.ref o1), (.int w4_source)])) rfl rfl (hb hby d6_39)
        have pre13 : ∀ t, Steps p.tables e below (T12.setTop (mkF m 42 #[.val (.ref o0), .val (.ref o1), .val (.ref o1)] [(.int w5_source), (.int w4_source)])) t → Steps p.tables e below (s₁.setTop (entryFrame m #[(.ref o0), (.ref o1)] 3)) t := by
          intro t k
          refine pre9 t ?_
          show Steps p.tables e below (T8.setTop (mkF m 31 #[.val (.ref o0), .val (.ref o1), .val (.ref o1)] [(.int w3_length), (.int w2_length)])) _
          refine XS.icmpNo X8.here hx rfl (hb hby d6_31) rfl (XT.ii_ne_f c10) ?_
          show Steps p.tables e below (T8.setTop (mkF m 34 #[.val (.ref o0), .val (.ref o1), .val (.ref o1)] [])) _
          refine XS.aloadN X8.here hx rfl (hb hby d6_34) rfl rfl ?_
          show Steps p.tables e below (T8.setTop (mkF m 35 #[.val (.ref o0), .val (.ref o1), .val (.ref o1)] [(.ref o0)])) _
          refine st11 _ ?_
          show Steps p.tables e below (T11.setTop (mkF m 38 #[.val (.ref o0), .val (.ref o1), .val (.ref o1)] [(.int w4_source)])) _
          refine XS.aloadN X11.here hx rfl (hb hby d6_38) rfl rfl ?_
          show Steps p.tables e below (T11.setTop (mkF m 39 #[.val (.ref o0), .val (.ref o1), .val (.ref o1)] [(.ref o1), (.int w4_source)])) _
          refine st12 _ ?_
          exact k
        by_cases c14 : w4_source = w5_source
        · skip
          obtain ⟨T15, X15, e15, st15⟩ := getF X12 hx hZ hown (host := "") (Or.inl (hw _ (List.mem_of_getElem? (i := 25) rfl))) Via.refl e12 F_sourceStart_o0 (g := (mkF m 46 #[.val (.ref o0), .val (.ref o1), .val (.ref o1)] [(.ref o0)])) rfl rfl (hb hby d6_46)
          obtain ⟨T16, X16, e16, st16⟩ := getF X15 hx hZ hown (host := "") (Or.inl (hw _ (List.mem_of_getElem? (i := 25) rfl))) Via.refl e15 F_sourceStart_o1 (g := (mkF m 50 #[.val (.ref o0), .val (.ref o1), .val (.ref o1)] [(.ref o1), (.int w6_sourceStart)])) rfl rfl (hb hby d6_50)
          have pre17 : ∀ t, Steps p.tables e below (T16.setTop (mkF m 53 #[.val (.ref o0), .val (.ref o1), .val (.ref o1)] [(.int w7_sourceStart), (.int w6_sourceStart)])) t → Steps p.tables e below (s₁.setTop (entryFrame m #[(.ref o0), (.ref o1)] 3)) t := by
            intro t k
            refine pre13 t ?_
            show Steps p.tables e below (T12.setTop (mkF m 42 #[.val (.ref o0), .val (.ref o1), .val (.ref o1)] [(.int w5_source), (.int w4_source)])) _
            refine XS.icmpNo X12.here hx rfl (hb hby d6_42) rfl (XT.ii_ne_f c14) ?_
            show Steps p.tables e below (T12.setTop (mkF m 45 #[.val (.ref o0), .val (.ref o1), .val (.ref o1)] [])) _
            refine XS.aloadN X12.here hx rfl (hb hby d6_45) rfl rfl ?_
            show Steps p.tables e below (T12.setTop (mkF m 46 #[.val (.ref o0), .val (.ref o1), .val (.ref o1)] [(.ref o0)])) _
            refine st15 _ ?_
            show Steps p.tables e below (T15.setTop (mkF m 49 #[.val (.ref o0), .val (.ref o1), .val (.ref o1)] [(.int w6_sourceStart)])) _
            refine XS.aloadN X15.here hx rfl (hb hby d6_49) rfl rfl ?_
            show Steps p.tables e below (T15.setTop (mkF m 50 #[.val (.ref o0), .val (.ref o1), .val (.ref o1)] [(.ref o1), (.int w6_sourceStart)])) _
            refine st16 _ ?_
            exact k
          by_cases c18 : w6_sourceStart = w7_sourceStart
          · skip
            obtain ⟨T19, X19, e19, st19⟩ := getF X16 hx hZ hown (host := "") (Or.inl (hw _ (List.mem_of_getElem? (i := 27) rfl))) Via.refl e16 F_sourceLength_o0 (g := (mkF m 57 #[.val (.ref o0), .val (.ref o1), .val (.ref o1)] [(.ref o0)])) rfl rfl (hb hby d6_57)
            obtain ⟨T20, X20, e20, st20⟩ := getF X19 hx hZ hown (host := "") (Or.inl (hw _ (List.mem_of_getElem? (i := 27) rfl))) Via.refl e19 F_sourceLength_o1 (g := (mkF m 61 #[.val (.ref o0), .val (.ref o1), .val (.ref o1)] [(.ref o1), (.int w8_sourceLength)])) rfl rfl (hb hby d6_61)
            have pre21 : ∀ t, Steps p.tables e below (T20.setTop (mkF m 64 #[.val (.ref o0), .val (.ref o1), .val (.ref o1)] [(.int w9_sourceLength), (.int w8_sourceLength)])) t → Steps p.tables e below (s₁.setTop (entryFrame m #[(.ref o0), (.ref o1)] 3)) t := by
              intro t k
              refine pre17 t ?_
              show Steps p.tables e below (T16.setTop (mkF m 53 #[.val (.ref o0), .val (.ref o1), .val (.ref o1)] [(.int w7_sourceStart), (.int w6_sourceStart)])) _
              refine XS.icmpNo X16.here hx rfl (hb hby d6_53) rfl (XT.ii_ne_f c18) ?_
              show Steps p.tables e below (T16.setTop (mkF m 56 #[.val (.ref o0), .val (.ref o1), .val (.ref o1)] [])) _
              refine XS.aloadN X16.here hx rfl (hb hby d6_56) rfl rfl ?_
              show Steps p.tables e below (T16.setTop (mkF m 57 #[.val (.ref o0), .val (.ref o1), .val (.ref o1)] [(.ref o0)])) _
              refine st19 _ ?_
              show Steps p.tables e below (T19.setTop (mkF m 60 #[.val (.ref o0), .val (.ref o1), .val (.ref o1)] [(.int w8_sourceLength)])) _
              refine XS.aloadN X19.here hx rfl (hb hby d6_60) rfl rfl ?_
              show Steps p.tables e below (T19.setTop (mkF m 61 #[.val (.ref o0), .val (.ref o1), .val (.ref o1)] [(.ref o1), (.int w8_sourceLength)])) _
              refine st20 _ ?_
              exact k
            by_cases c22 : w8_sourceLength = w9_sourceLength
            · skip
              refine ⟨T20, _, X20, e20, N0, fun t k => ?_⟩
              rw [show (v6_1 w0_start w1_start w2_length w3_length w4_source w5_source w6_sourceStart w7_sourceStart w8_sourceLength w9_sourceLength) = (1 : Int32) from (((((if_pos c6).trans (if_pos c10)).trans (if_pos c14)).trans (if_pos c18)).trans (if_pos c22))] at k
              refine pre21 t ?_
              show Steps p.tables e below (T20.setTop (mkF m 64 #[.val (.ref o0), .val (.ref o1), .val (.ref o1)] [(.int w9_sourceLength), (.int w8_sourceLength)])) _
              refine XS.icmpNo X20.here hx rfl (hb hby d6_64) rfl (XT.ii_ne_f c22) ?_
              show Steps p.tables e below (T20.setTop (mkF m 67 #[.val (.ref o0), .val (.ref o1), .val (.ref o1)] [])) _
              refine XT.iconstV X20.here hx rfl (1 : Int32) (hb hby d6_67) (by decide) ?_
              show Steps p.tables e below (T20.setTop (mkF m 68 #[.val (.ref o0), .val (.ref o1), .val (.ref o1)] [(.int (1 : Int32))])) _
              refine XS.goto X20.here hx rfl (pc0 := 68) (pc' := 72) rfl (hb hby d6_68) (by decide) (by decide) ?_
              exact k
            · skip
              refine ⟨T20, _, X20, e20, N0, fun t k => ?_⟩
              rw [show (v6_1 w0_start w1_start w2_length w3_length w4_source w5_source w6_sourceStart w7_sourceStart w8_sourceLength w9_sourceLength) = (0 : Int32) from (((((if_pos c6).trans (if_pos c10)).trans (if_pos c14)).trans (if_pos c18)).trans (if_neg c22))] at k
              refine pre21 t ?_
              show Steps p.tables e below (T20.setTop (mkF m 64 #[.val (.ref o0), .val (.ref o1), .val (.ref o1)] [(.int w9_sourceLength), (.int w8_sourceLength)])) _
              refine XS.icmpYes X20.here hx rfl (pc0 := 64) (pc' := 71) rfl (hb hby d6_64) rfl (XT.ii_ne_t c22) (by decide) (by decide) ?_
              show Steps p.tables e below (T20.setTop (mkF m 71 #[.val (.ref o0), .val (.ref o1), .val (.ref o1)] [])) _
              refine XT.iconstV X20.here hx rfl (0 : Int32) (hb hby d6_71) (by decide) ?_
              exact k
          · skip
            refine ⟨T16, _, X16, e16, N0, fun t k => ?_⟩
            rw [show (v6_1 w0_start w1_start w2_length w3_length w4_source w5_source w6_sourceStart w7_sourceStart w8_sourceLength w9_sourceLength) = (0 : Int32) from ((((if_pos c6).trans (if_pos c10)).trans (if_pos c14)).trans (if_neg c18))] at k
            refine pre17 t ?_
            show Steps p.tables e below (T16.setTop (mkF m 53 #[.val (.ref o0), .val (.ref o1), .val (.ref o1)] [(.int w7_sourceStart), (.int w6_sourceStart)])) _
            refine XS.icmpYes X16.here hx rfl (pc0 := 53) (pc' := 71) rfl (hb hby d6_53) rfl (XT.ii_ne_t c18) (by decide) (by decide) ?_
            show Steps p.tables e below (T16.setTop (mkF m 71 #[.val (.ref o0), .val (.ref o1), .val (.ref o1)] [])) _
            refine XT.iconstV X16.here hx rfl (0 : Int32) (hb hby d6_71) (by decide) ?_
            exact k
        · skip
          refine ⟨T12, _, X12, e12, N0, fun t k => ?_⟩
          rw [show (v6_1 w0_start w1_start w2_length w3_length w4_source w5_source w6_sourceStart w7_sourceStart w8_sourceLength w9_sourceLength) = (0 : Int32) from (((if_pos c6).trans (if_pos c10)).trans (if_neg c14))] at k
          refine pre13 t ?_
          show Steps p.tables e below (T12.setTop (mkF m 42 #[.val (.ref o0), .val (.ref o1), .val (.ref o1)] [(.int w5_source), (.int w4_source)])) _
          refine XS.icmpYes X12.here hx rfl (pc0 := 42) (pc' := 71) rfl (hb hby d6_42) rfl (XT.ii_ne_t c14) (by decide) (by decide) ?_
          show Steps p.tables e below (T12.setTop (mkF m 71 #[.val (.ref o0), .val (.ref o1), .val (.ref o1)] [])) _
          refine XT.iconstV X12.here hx rfl (0 : Int32) (hb hby d6_71) (by decide) ?_
          exact k
      · skip
        refine ⟨T8, _, X8, e8, N0, fun t k => ?_⟩
        rw [show (v6_1 w0_start w1_start w2_length w3_length w4_source w5_source w6_sourceStart w7_sourceStart w8_sourceLength w9_sourceLength) = (0 : Int32) from ((if_pos c6).trans (if_neg c10))] at k
        refine pre9 t ?_
        show Steps p.tables e below (T8.setTop (mkF m 31 #[.val (.ref o0), .val (.ref o1), .val (.ref o1)] [(.int w3_length), (.int w2_length)])) _
        refine XS.icmpYes X8.here hx rfl (pc0 := 31) (pc' := 71) rfl (hb hby d6_31) rfl (XT.ii_ne_t c10) (by decide) (by decide) ?_
        show Steps p.tables e below (T8.setTop (mkF m 71 #[.val (.ref o0), .val (.ref o1), .val (.ref o1)] [])) _
        refine XT.iconstV X8.here hx rfl (0 : Int32) (hb hby d6_71) (by decide) ?_
        exact k
    · skip
      refine ⟨T4, _, X4, e4, N0, fun t k => ?_⟩
      rw [show (v6_1 w0_start w1_start w2_length w3_length w4_source w5_source w6_sourceStart w7_sourceStart w8_sourceLength w9_sourceLength) = (0 : Int32) from (if_neg c6)] at k
      refine pre5 t ?_
      show Steps p.tables e below (T4.setTop (mkF m 20 #[.val (.ref o0), .val (.ref o1), .val (.ref o1)] [(.int w1_start), (.int w0_start)])) _
      refine XS.icmpYes X4.here hx rfl (pc0 := 20) (pc' := 71) rfl (hb hby d6_20) rfl (XT.ii_ne_t c6) (by decide) (by decide) ?_
      show Steps p.tables e below (T4.setTop (mkF m 71 #[.val (.ref o0), .val (.ref o1), .val (.ref o1)] [])) _
      refine XT.iconstV X4.here hx rfl (0 : Int32) (hb hby d6_71) (by decide) ?_
      exact k
  obtain ⟨fs, hr, hrun, hended, hW, hsame⟩ := X23.leave (v := some (.int (nar .boolean (v6_1 w0_start w1_start w2_length w3_length w4_source w5_source w6_sourceStart w7_sourceStart w8_sourceLength w9_sourceLength)))) (fun h => by rw [Bd.returns] at h; cases h)
  refine ⟨_, _, pre23 _ ?_, hrun, hended, _, _, rfl, ?_, ⟨_, rfl⟩, hW, hsame.mono (by decide) (by decide)⟩
  · skip
    show Steps p.tables e below (T23.setTop (mkF m 72 #[.val (.ref o0), .val (.ref o1), .val (.ref o1)] [(.int (v6_1 w0_start w1_start w2_length w3_length w4_source w5_source w6_sourceStart w7_sourceStart w8_sourceLength w9_sourceLength))])) _
    exact retN X23 hx (t := .boolean) Bd.returns (by simp) (hb hby d6_72) hr
  · skip
    show Q6 Z o0 o1 w0_start w1_start w2_length w3_length w4_source w5_source w6_sourceStart w7_sourceStart w8_sourceLength w9_sourceLength h0 n0 _ T23.heap _
    rw [e23]
    exact ⟨N23, rfl, rfl⟩
theorem pd__II_I : parseMethodDescriptor "(II)I" = some ⟨[.int, .int], some .int⟩ := by decide +kernel
theorem pd__III_I : parseMethodDescriptor "(III)I" = some ⟨[.int, .int, .int], some .int⟩ := by decide +kernel
theorem pd__IIIII_V : parseMethodDescriptor "(IIIII)V" = some ⟨[.int, .int, .int, .int, .int], none⟩ := by decide +kernel
theorem pd___I : parseMethodDescriptor "()I" = some ⟨[], some .int⟩ := by decide +kernel
theorem pd__Ljava_lang_Object__Z : parseMethodDescriptor "(Ljava/lang/Object;)Z" = some ⟨[(.object "java/lang/Object")], some .boolean⟩ := by decide +kernel
theorem ef_0 (m : MethodId) (p0 : Int32) (p1 : Int32) (p2 : Int32) (p3 : Int32) (p4 : Int32) (q5 : Int64) : entryFrame m #[(.int p0), (.int p1), (.int p2), (.int p3), (.int p4), (.long q5)] maxLocals = mkF m 0 #[.val (.int p0), .val (.int p1), .val (.int p2), .val (.int p3), .val (.int p4), .val (.long q5), .second, .unset, .unset, .unset, .unset, .unset, .unset, .unset, .unset, .unset, .unset, .unset, .unset, .unset, .unset, .unset, .unset] [] := by first | (simp [entryFrame, mkF, argsToLocals, Value.category, maxLocals]; done) | rfl
def v0_1 (p0 : Int32) (p1 : Int32) (p2 : Int32) (p3 : Int32) (p4 : Int32) (q5 : Int64) : Int32 := (p0 &&& (2147483647 : Int32))
def v0_2 (p0 : Int32) (p1 : Int32) (p2 : Int32) (p3 : Int32) (p4 : Int32) (q5 : Int64) : Int32 := (p1 &&& (2147483647 : Int32))
def v0_3 (p0 : Int32) (p1 : Int32) (p2 : Int32) (p3 : Int32) (p4 : Int32) (q5 : Int64) : Int32 := (f1 (1 : Int32) (v0_2 p0 p1 p2 p3 p4 q5))
def v0_4 (p0 : Int32) (p1 : Int32) (p2 : Int32) (p3 : Int32) (p4 : Int32) (q5 : Int64) : Int32 := (p3 &&& (2147483647 : Int32))
def v0_5 (p0 : Int32) (p1 : Int32) (p2 : Int32) (p3 : Int32) (p4 : Int32) (q5 : Int64) : Int32 := (p4 &&& (2147483647 : Int32))
def v0_6 (p0 : Int32) (p1 : Int32) (p2 : Int32) (p3 : Int32) (p4 : Int32) (q5 : Int64) : Int32 := (f1 (1 : Int32) (v0_5 p0 p1 p2 p3 p4 q5))
def v0_7 (p0 : Int32) (p1 : Int32) (p2 : Int32) (p3 : Int32) (p4 : Int32) (q5 : Int64) : Int32 := ((q5 &&& (7 : Int64)).toInt32)
def v0_8 (p0 : Int32) (p1 : Int32) (p2 : Int32) (p3 : Int32) (p4 : Int32) (q5 : Int64) : Int32 := (((XT.ushrL q5 (32 : Int32)).toInt32) &&& (2147483647 : Int32))
def v0_9 (p0 : Int32) (p1 : Int32) (p2 : Int32) (p3 : Int32) (p4 : Int32) (q5 : Int64) : Int32 := (if (v0_8 p0 p1 p2 p3 p4 q5) = (0 : Int32) then (1 : Int32) else (v0_8 p0 p1 p2 p3 p4 q5))
def v0_10 (p0 : Int32) (p1 : Int32) (p2 : Int32) (p3 : Int32) (p4 : Int32) (q5 : Int64) : Int32 := (f2 (v0_1 p0 p1 p2 p3 p4 q5) (v0_9 p0 p1 p2 p3 p4 q5) (0 : Int32))
def v0_11 (p0 : Int32) (p1 : Int32) (p2 : Int32) (p3 : Int32) (p4 : Int32) (q5 : Int64) : Int32 := (f2 (v0_3 p0 p1 p2 p3 p4 q5) (v0_9 p0 p1 p2 p3 p4 q5) (1 : Int32))
def v0_12 (p0 : Int32) (p1 : Int32) (p2 : Int32) (p3 : Int32) (p4 : Int32) (q5 : Int64) : Int32 := (p2 ^^^ (v0_9 p0 p1 p2 p3 p4 q5))
def v0_13 (p0 : Int32) (p1 : Int32) (p2 : Int32) (p3 : Int32) (p4 : Int32) (q5 : Int64) : Int32 := (f2 (v0_4 p0 p1 p2 p3 p4 q5) (v0_9 p0 p1 p2 p3 p4 q5) (0 : Int32))
def v0_14 (p0 : Int32) (p1 : Int32) (p2 : Int32) (p3 : Int32) (p4 : Int32) (q5 : Int64) : Int32 := (f2 (v0_6 p0 p1 p2 p3 p4 q5) (v0_9 p0 p1 p2 p3 p4 q5) (1 : Int32))
def v0_15 (p0 : Int32) (p1 : Int32) (p2 : Int32) (p3 : Int32) (p4 : Int32) (q5 : Int64) : Int32 := (if (v0_7 p0 p1 p2 p3 p4 q5) = (0 : Int32) then (v0_10 p0 p1 p2 p3 p4 q5) else (if (v0_7 p0 p1 p2 p3 p4 q5) = (1 : Int32) then (v0_1 p0 p1 p2 p3 p4 q5) else (if (v0_7 p0 p1 p2 p3 p4 q5) = (2 : Int32) then (v0_1 p0 p1 p2 p3 p4 q5) else (if (v0_7 p0 p1 p2 p3 p4 q5) = (3 : Int32) then (v0_1 p0 p1 p2 p3 p4 q5) else (if (v0_7 p0 p1 p2 p3 p4 q5) = (4 : Int32) then (v0_1 p0 p1 p2 p3 p4 q5) else (v0_1 p0 p1 p2 p3 p4 q5))))))
def v0_16 (p0 : Int32) (p1 : Int32) (p2 : Int32) (p3 : Int32) (p4 : Int32) (q5 : Int64) : Int32 := (if (v0_7 p0 p1 p2 p3 p4 q5) = (0 : Int32) then (v0_3 p0 p1 p2 p3 p4 q5) else (if (v0_7 p0 p1 p2 p3 p4 q5) = (1 : Int32) then (v0_11 p0 p1 p2 p3 p4 q5) else (if (v0_7 p0 p1 p2 p3 p4 q5) = (2 : Int32) then (v0_3 p0 p1 p2 p3 p4 q5) else (if (v0_7 p0 p1 p2 p3 p4 q5) = (3 : Int32) then (v0_3 p0 p1 p2 p3 p4 q5) else (if (v0_7 p0 p1 p2 p3 p4 q5) = (4 : Int32) then (v0_3 p0 p1 p2 p3 p4 q5) else (v0_3 p0 p1 p2 p3 p4 q5))))))
def v0_17 (p0 : Int32) (p1 : Int32) (p2 : Int32) (p3 : Int32) (p4 : Int32) (q5 : Int64) : Int32 := (if (v0_7 p0 p1 p2 p3 p4 q5) = (0 : Int32) then p2 else (if (v0_7 p0 p1 p2 p3 p4 q5) = (1 : Int32) then p2 else (if (v0_7 p0 p1 p2 p3 p4 q5) = (2 : Int32) then (v0_12 p0 p1 p2 p3 p4 q5) else (if (v0_7 p0 p1 p2 p3 p4 q5) = (3 : Int32) then p2 else (if (v0_7 p0 p1 p2 p3 p4 q5) = (4 : Int32) then p2 else p2)))))
def v0_18 (p0 : Int32) (p1 : Int32) (p2 : Int32) (p3 : Int32) (p4 : Int32) (q5 : Int64) : Int32 := (if (v0_7 p0 p1 p2 p3 p4 q5) = (0 : Int32) then (v0_4 p0 p1 p2 p3 p4 q5) else (if (v0_7 p0 p1 p2 p3 p4 q5) = (1 : Int32) then (v0_4 p0 p1 p2 p3 p4 q5) else (if (v0_7 p0 p1 p2 p3 p4 q5) = (2 : Int32) then (v0_4 p0 p1 p2 p3 p4 q5) else (if (v0_7 p0 p1 p2 p3 p4 q5) = (3 : Int32) then (v0_13 p0 p1 p2 p3 p4 q5) else (if (v0_7 p0 p1 p2 p3 p4 q5) = (4 : Int32) then (v0_4 p0 p1 p2 p3 p4 q5) else (v0_4 p0 p1 p2 p3 p4 q5))))))
def v0_19 (p0 : Int32) (p1 : Int32) (p2 : Int32) (p3 : Int32) (p4 : Int32) (q5 : Int64) : Int32 := (if (v0_7 p0 p1 p2 p3 p4 q5) = (0 : Int32) then (v0_6 p0 p1 p2 p3 p4 q5) else (if (v0_7 p0 p1 p2 p3 p4 q5) = (1 : Int32) then (v0_6 p0 p1 p2 p3 p4 q5) else (if (v0_7 p0 p1 p2 p3 p4 q5) = (2 : Int32) then (v0_6 p0 p1 p2 p3 p4 q5) else (if (v0_7 p0 p1 p2 p3 p4 q5) = (3 : Int32) then (v0_6 p0 p1 p2 p3 p4 q5) else (if (v0_7 p0 p1 p2 p3 p4 q5) = (4 : Int32) then (v0_14 p0 p1 p2 p3 p4 q5) else (v0_6 p0 p1 p2 p3 p4 q5))))))
def v0_20 (p0 : Int32) (p1 : Int32) (p2 : Int32) (p3 : Int32) (p4 : Int32) (q5 : Int64) : Int32 := (f5 (v0_1 p0 p1 p2 p3 p4 q5) (v0_3 p0 p1 p2 p3 p4 q5) p2 (v0_4 p0 p1 p2 p3 p4 q5) (v0_6 p0 p1 p2 p3 p4 q5))
def v0_21 (p0 : Int32) (p1 : Int32) (p2 : Int32) (p3 : Int32) (p4 : Int32) (q5 : Int64) : Int32 := (f5 (v0_15 p0 p1 p2 p3 p4 q5) (v0_16 p0 p1 p2 p3 p4 q5) (v0_17 p0 p1 p2 p3 p4 q5) (v0_18 p0 p1 p2 p3 p4 q5) (v0_19 p0 p1 p2 p3 p4 q5))
def v0_22 (p0 : Int32) (p1 : Int32) (p2 : Int32) (p3 : Int32) (p4 : Int32) (q5 : Int64) : Int32 := (f6 (v0_1 p0 p1 p2 p3 p4 q5) (v0_15 p0 p1 p2 p3 p4 q5) (v0_3 p0 p1 p2 p3 p4 q5) (v0_16 p0 p1 p2 p3 p4 q5) p2 (v0_17 p0 p1 p2 p3 p4 q5) (v0_4 p0 p1 p2 p3 p4 q5) (v0_18 p0 p1 p2 p3 p4 q5) (v0_6 p0 p1 p2 p3 p4 q5) (v0_19 p0 p1 p2 p3 p4 q5))
def v0_23 (p0 : Int32) (p1 : Int32) (p2 : Int32) (p3 : Int32) (p4 : Int32) (q5 : Int64) : Int32 := (if (v0_22 p0 p1 p2 p3 p4 q5) = (0 : Int32) then (if (v0_20 p0 p1 p2 p3 p4 q5) = (v0_21 p0 p1 p2 p3 p4 q5) then (0 : Int32) else (1 : Int32)) else (0 : Int32))
def v0_24 (p0 : Int32) (p1 : Int32) (p2 : Int32) (p3 : Int32) (p4 : Int32) (q5 : Int64) : Int32 := (f6 (v0_1 p0 p1 p2 p3 p4 q5) (v0_15 p0 p1 p2 p3 p4 q5) (v0_3 p0 p1 p2 p3 p4 q5) (v0_16 p0 p1 p2 p3 p4 q5) p2 (v0_17 p0 p1 p2 p3 p4 q5) (v0_4 p0 p1 p2 p3 p4 q5) (v0_18 p0 p1 p2 p3 p4 q5) (v0_6 p0 p1 p2 p3 p4 q5) (v0_19 p0 p1 p2 p3 p4 q5))
def v0_25 (p0 : Int32) (p1 : Int32) (p2 : Int32) (p3 : Int32) (p4 : Int32) (q5 : Int64) : Int32 := (f5 (v0_1 p0 p1 p2 p3 p4 q5) (v0_3 p0 p1 p2 p3 p4 q5) p2 (v0_4 p0 p1 p2 p3 p4 q5) (v0_6 p0 p1 p2 p3 p4 q5))
def v0_26 (p0 : Int32) (p1 : Int32) (p2 : Int32) (p3 : Int32) (p4 : Int32) (q5 : Int64) : Int32 := (if (v0_24 p0 p1 p2 p3 p4 q5) = (0 : Int32) then (0 : Int32) else (if (v0_20 p0 p1 p2 p3 p4 q5) = (v0_21 p0 p1 p2 p3 p4 q5) then (if (v0_20 p0 p1 p2 p3 p4 q5) = (v0_25 p0 p1 p2 p3 p4 q5) then (1 : Int32) else (0 : Int32)) else (0 : Int32)))
/-own-/
theorem own_mask31 (x : Int32) : 0 ≤ (x &&& (2147483647 : Int32)).toInt := by
  have e1 : (x &&& (2147483647 : Int32)).toInt = x.toInt % 2 ^ 31 := Jvm.Kit.i32_mask x 2147483647 (k := 31) (by decide) (by decide)
  omega
theorem own_max1 (x : Int32) : 1 ≤ (f1 (1 : Int32) x).toInt := by
  have c1 : (1 : Int32).toInt = 1 := by decide
  unfold f1 v1_1
  by_cases h : (1 : Int32) < x
  · rw [if_pos h]; rw [Int32.lt_iff_toInt_lt, c1] at h; omega
  · rw [if_neg h]; decide
theorem own_other (v d mn : Int32) (h1 : mn.toInt < 100) (hv : mn.toInt ≤ v.toInt) : f2 v d mn ≠ v ∧ mn.toInt ≤ (f2 v d mn).toInt := by
  have c1 : (1 : Int32).toInt = 1 := by decide
  have b := mn.le_toInt
  have s : (mn + (1 : Int32)).toInt = mn.toInt + 1 := by rw [Jvm.Kit.i32_add (by rw [c1]; omega) (by rw [c1]; omega), c1]
  unfold f2 v2_4
  by_cases h : v2_2 v d mn = v
  · rw [if_pos h]
    unfold v2_3
    by_cases k : v = mn
    · rw [if_pos k]
      refine ⟨fun q => ?_, by omega⟩
      have := congrArg Int32.toInt q
      rw [s, k] at this
      omega
    · rw [if_neg k]
      exact ⟨fun q => k q.symm, by omega⟩
  · rw [if_neg h]
    refine ⟨h, ?_⟩
    unfold v2_2
    by_cases k : v2_1 v d mn < mn
    · rw [if_pos k]; omega
    · rw [if_neg k]; rw [Int32.lt_iff_toInt_lt] at k; omega
theorem own_31 {a b : Int32} (h : (31 : Int32) * a = (31 : Int32) * b) : a = b := by
  have i : (-1108378657 : Int32) * (31 : Int32) = 1 := by decide
  have := congrArg (fun z => (-1108378657 : Int32) * z) h
  simp only [← Int32.mul_assoc, i, Int32.one_mul] at this
  exact this
theorem own_addr {a b c : Int32} (h : a + c = b + c) : a = b := by
  have := congrArg (fun z => z - c) h
  simpa [Int32.add_sub_cancel] using this
theorem own_addl {a b c : Int32} (h : c + a = c + b) : a = b := by
  rw [Int32.add_comm c a, Int32.add_comm c b] at h; exact own_addr h
theorem own_f6_ne (a a' b b' c c' d d' e e' : Int32) (h : ¬ (a = a' ∧ b = b' ∧ c = c' ∧ d = d' ∧ e = e')) : f6 a a' b b' c c' d d' e e' = 0 := by
  unfold f6 v6_1
  by_cases h1 : a = a'
  · rw [if_pos h1]
    by_cases h2 : b = b'
    · rw [if_pos h2]
      by_cases h3 : c = c'
      · rw [if_pos h3]
        by_cases h4 : d = d'
        · rw [if_pos h4, if_neg (fun h5 => h ⟨h1, h2, h3, h4, h5⟩)]; decide
        · rw [if_neg h4]; decide
      · rw [if_neg h3]; decide
    · rw [if_neg h2]; decide
  · rw [if_neg h1]; decide
theorem own_f6_eq (a b c d e : Int32) : f6 a a b b c c d d e e = 1 := by
  unfold f6 v6_1
  rw [if_pos rfl, if_pos rfl, if_pos rfl, if_pos rfl, if_pos rfl]; decide
theorem own_h1 {a a' b c d e : Int32} (h : f5 a b c d e = f5 a' b c d e) : a = a' := by
  unfold f5 v5_3 v5_2 v5_1 at h
  exact own_31 (own_addr (own_31 (own_addr (own_31 (own_addr (own_31 (own_addr h)))))))
theorem own_h2 {a b b' c d e : Int32} (h : f5 a b c d e = f5 a b' c d e) : b = b' := by
  unfold f5 v5_3 v5_2 v5_1 at h
  exact own_addl (own_31 (own_addr (own_31 (own_addr (own_31 (own_addr h))))))
theorem own_h3 {a b c c' d e : Int32} (h : f5 a b c d e = f5 a b c' d e) : c = c' := by
  unfold f5 v5_3 v5_2 v5_1 at h
  exact own_addl (own_31 (own_addr (own_31 (own_addr h))))
theorem own_h4 {a b c d d' e : Int32} (h : f5 a b c d e = f5 a b c d' e) : d = d' := by
  unfold f5 v5_3 v5_2 v5_1 at h
  exact own_addl (own_31 (own_addr h))
theorem own_h5 {a b c d e e' : Int32} (h : f5 a b c d e = f5 a b c d e') : e = e' := by
  unfold f5 at h
  exact own_addl h
theorem own_xor {a d : Int32} (hd : d ≠ 0) : a ^^^ d ≠ a := by
  intro h
  apply hd
  have := congrArg (fun z => a ^^^ z) h
  simp only [← Int32.xor_assoc, Int32.xor_self, Int32.zero_xor] at this
  exact this
section Sel
variable (p0 p1 p2 p3 p4 : Int32) (q5 : Int64)
theorem own_sel : 0 ≤ (v0_7 p0 p1 p2 p3 p4 q5).toInt ∧ (v0_7 p0 p1 p2 p3 p4 q5).toInt < 8 := by
  have e : (q5 &&& (7 : Int64)).toInt = q5.toInt % 2 ^ 3 := Jvm.Kit.i64_mask q5 7 (k := 3) (by decide) (by decide)
  have : (v0_7 p0 p1 p2 p3 p4 q5).toInt = (q5 &&& (7 : Int64)).toInt := Jvm.Kit.i32_of_i64 (by omega) (by omega)
  omega
theorem own_delta : v0_9 p0 p1 p2 p3 p4 q5 ≠ 0 := by
  unfold v0_9
  by_cases h : v0_8 p0 p1 p2 p3 p4 q5 = 0
  · rw [if_pos h]; decide
  · rw [if_neg h]; exact h
theorem own_lt0 {x : Int32} (h : 0 ≤ x.toInt) : ¬ (x < (0 : Int32)) := by
  have c : (0 : Int32).toInt = 0 := by decide
  rw [Int32.lt_iff_toInt_lt, c]; omega
theorem own_lt1 {x : Int32} (h : 1 ≤ x.toInt) : ¬ (x < (1 : Int32)) := by
  have c : (1 : Int32).toInt = 1 := by decide
  rw [Int32.lt_iff_toInt_lt, c]; omega
theorem own_c0 : (0 : Int32).toInt = 0 := by decide
theorem own_c1 : (1 : Int32).toInt = 1 := by decide
theorem own_o10 : v0_10 p0 p1 p2 p3 p4 q5 ≠ v0_1 p0 p1 p2 p3 p4 q5 ∧ (0 : Int32).toInt ≤ (v0_10 p0 p1 p2 p3 p4 q5).toInt := own_other (v0_1 p0 p1 p2 p3 p4 q5) (v0_9 p0 p1 p2 p3 p4 q5) 0 (by decide) (by rw [own_c0]; exact own_mask31 p0)
theorem own_o11 : v0_11 p0 p1 p2 p3 p4 q5 ≠ v0_3 p0 p1 p2 p3 p4 q5 ∧ (1 : Int32).toInt ≤ (v0_11 p0 p1 p2 p3 p4 q5).toInt := own_other (v0_3 p0 p1 p2 p3 p4 q5) (v0_9 p0 p1 p2 p3 p4 q5) 1 (by decide) (by rw [own_c1]; exact own_max1 _)
theorem own_o13 : v0_13 p0 p1 p2 p3 p4 q5 ≠ v0_4 p0 p1 p2 p3 p4 q5 ∧ (0 : Int32).toInt ≤ (v0_13 p0 p1 p2 p3 p4 q5).toInt := own_other (v0_4 p0 p1 p2 p3 p4 q5) (v0_9 p0 p1 p2 p3 p4 q5) 0 (by decide) (by rw [own_c0]; exact own_mask31 p3)
theorem own_o14 : v0_14 p0 p1 p2 p3 p4 q5 ≠ v0_6 p0 p1 p2 p3 p4 q5 ∧ (1 : Int32).toInt ≤ (v0_14 p0 p1 p2 p3 p4 q5).toInt := own_other (v0_6 p0 p1 p2 p3 p4 q5) (v0_9 p0 p1 p2 p3 p4 q5) 1 (by decide) (by rw [own_c1]; exact own_max1 _)
theorem own_H1_0 : ¬ (v0_1 p0 p1 p2 p3 p4 q5 < (0 : Int32)) := own_lt0 (own_mask31 p0)
theorem own_H4_0 : ¬ (v0_4 p0 p1 p2 p3 p4 q5 < (0 : Int32)) := own_lt0 (own_mask31 p3)
theorem own_H3_1 : ¬ (v0_3 p0 p1 p2 p3 p4 q5 < (1 : Int32)) := own_lt1 (own_max1 _)
theorem own_H6_1 : ¬ (v0_6 p0 p1 p2 p3 p4 q5 < (1 : Int32)) := own_lt1 (own_max1 _)
theorem own_H15_0 : ¬ (v0_15 p0 p1 p2 p3 p4 q5 < (0 : Int32)) := by
  have a := own_H1_0 p0 p1 p2 p3 p4 q5
  have b : ¬ (v0_10 p0 p1 p2 p3 p4 q5 < (0 : Int32)) := own_lt0 (by have := (own_o10 p0 p1 p2 p3 p4 q5).2; rw [own_c0] at this; exact this)
  unfold v0_15; repeat' split
  all_goals first | exact a | exact b
theorem own_H18_0 : ¬ (v0_18 p0 p1 p2 p3 p4 q5 < (0 : Int32)) := by
  have a := own_H4_0 p0 p1 p2 p3 p4 q5
  have b : ¬ (v0_13 p0 p1 p2 p3 p4 q5 < (0 : Int32)) := own_lt0 (by have := (own_o13 p0 p1 p2 p3 p4 q5).2; rw [own_c0] at this; exact this)
  unfold v0_18; repeat' split
  all_goals first | exact a | exact b
theorem own_H16_1 : ¬ (v0_16 p0 p1 p2 p3 p4 q5 < (1 : Int32)) := by
  have a := own_H3_1 p0 p1 p2 p3 p4 q5
  have b : ¬ (v0_11 p0 p1 p2 p3 p4 q5 < (1 : Int32)) := own_lt1 (by have := (own_o11 p0 p1 p2 p3 p4 q5).2; rw [own_c1] at this; exact this)
  unfold v0_16; repeat' split
  all_goals first | exact a | exact b
theorem own_H19_1 : ¬ (v0_19 p0 p1 p2 p3 p4 q5 < (1 : Int32)) := by
  have a := own_H6_1 p0 p1 p2 p3 p4 q5
  have b : ¬ (v0_14 p0 p1 p2 p3 p4 q5 < (1 : Int32)) := own_lt1 (by have := (own_o14 p0 p1 p2 p3 p4 q5).2; rw [own_c1] at this; exact this)
  unfold v0_19; repeat' split
  all_goals first | exact a | exact b
theorem own_five : (v0_7 p0 p1 p2 p3 p4 q5 < (5 : Int32)) ↔ (v0_7 p0 p1 p2 p3 p4 q5).toInt < 5 := by
  rw [Int32.lt_iff_toInt_lt]; exact Iff.rfl
theorem own_v0_26 (h : ¬ v0_7 p0 p1 p2 p3 p4 q5 < (5 : Int32)) : v0_26 p0 p1 p2 p3 p4 q5 = (1 : Int32) := by
  rw [own_five] at h
  have n0 : ¬ v0_7 p0 p1 p2 p3 p4 q5 = 0 := fun q => by rw [q] at h; exact h (by decide)
  have n1 : ¬ v0_7 p0 p1 p2 p3 p4 q5 = 1 := fun q => by rw [q] at h; exact h (by decide)
  have n2 : ¬ v0_7 p0 p1 p2 p3 p4 q5 = 2 := fun q => by rw [q] at h; exact h (by decide)
  have n3 : ¬ v0_7 p0 p1 p2 p3 p4 q5 = 3 := fun q => by rw [q] at h; exact h (by decide)
  have n4 : ¬ v0_7 p0 p1 p2 p3 p4 q5 = 4 := fun q => by rw [q] at h; exact h (by decide)
  have e15 : v0_15 p0 p1 p2 p3 p4 q5 = v0_1 p0 p1 p2 p3 p4 q5 := by unfold v0_15; rw [if_neg n0, if_neg n1, if_neg n2, if_neg n3, if_neg n4]
  have e16 : v0_16 p0 p1 p2 p3 p4 q5 = v0_3 p0 p1 p2 p3 p4 q5 := by unfold v0_16; rw [if_neg n0, if_neg n1, if_neg n2, if_neg n3, if_neg n4]
  have e17 : v0_17 p0 p1 p2 p3 p4 q5 = p2 := by unfold v0_17; rw [if_neg n0, if_neg n1, if_neg n2, if_neg n3, if_neg n4]
  have e18 : v0_18 p0 p1 p2 p3 p4 q5 = v0_4 p0 p1 p2 p3 p4 q5 := by unfold v0_18; rw [if_neg n0, if_neg n1, if_neg n2, if_neg n3, if_neg n4]
  have e19 : v0_19 p0 p1 p2 p3 p4 q5 = v0_6 p0 p1 p2 p3 p4 q5 := by unfold v0_19; rw [if_neg n0, if_neg n1, if_neg n2, if_neg n3, if_neg n4]
  have a : v0_24 p0 p1 p2 p3 p4 q5 = 1 := by unfold v0_24; rw [e15, e16, e17, e18, e19]; exact own_f6_eq _ _ _ _ _
  have b : v0_20 p0 p1 p2 p3 p4 q5 = v0_21 p0 p1 p2 p3 p4 q5 := by unfold v0_21; rw [e15, e16, e17, e18, e19]; rfl
  refine (if_neg ?_).trans ((if_pos b).trans (if_pos rfl))
  rw [a]; decide
theorem own_v0_23 (h : v0_7 p0 p1 p2 p3 p4 q5 < (5 : Int32)) : v0_23 p0 p1 p2 p3 p4 q5 = (1 : Int32) := by
  rw [own_five] at h
  have hs := own_sel p0 p1 p2 p3 p4 q5
  suffices w : v0_22 p0 p1 p2 p3 p4 q5 = 0 ∧ ¬ v0_20 p0 p1 p2 p3 p4 q5 = v0_21 p0 p1 p2 p3 p4 q5 from (if_pos w.1).trans (if_neg w.2)
  have pk : v0_7 p0 p1 p2 p3 p4 q5 = 0 ∨ v0_7 p0 p1 p2 p3 p4 q5 = 1 ∨ v0_7 p0 p1 p2 p3 p4 q5 = 2 ∨ v0_7 p0 p1 p2 p3 p4 q5 = 3 ∨ v0_7 p0 p1 p2 p3 p4 q5 = 4 := by
    have k0 : (v0_7 p0 p1 p2 p3 p4 q5).toInt = 0 ∨ (v0_7 p0 p1 p2 p3 p4 q5).toInt = 1 ∨ (v0_7 p0 p1 p2 p3 p4 q5).toInt = 2 ∨ (v0_7 p0 p1 p2 p3 p4 q5).toInt = 3 ∨ (v0_7 p0 p1 p2 p3 p4 q5).toInt = 4 := by omega
    rcases k0 with k | k | k | k | k
    · exact Or.inl (Int32.toInt_inj.mp (by rw [k]; decide))
    · exact Or.inr (Or.inl (Int32.toInt_inj.mp (by rw [k]; decide)))
    · exact Or.inr (Or.inr (Or.inl (Int32.toInt_inj.mp (by rw [k]; decide))))
    · exact Or.inr (Or.inr (Or.inr (Or.inl (Int32.toInt_inj.mp (by rw [k]; decide)))))
    · exact Or.inr (Or.inr (Or.inr (Or.inr (Int32.toInt_inj.mp (by rw [k]; decide)))))
  rcases pk with k | k | k | k | k
  · have e15 : v0_15 p0 p1 p2 p3 p4 q5 = v0_10 p0 p1 p2 p3 p4 q5 := by unfold v0_15; rw [k]; rfl
    have e16 : v0_16 p0 p1 p2 p3 p4 q5 = v0_3 p0 p1 p2 p3 p4 q5 := by unfold v0_16; rw [k]; rfl
    have e17 : v0_17 p0 p1 p2 p3 p4 q5 = p2 := by unfold v0_17; rw [k]; rfl
    have e18 : v0_18 p0 p1 p2 p3 p4 q5 = v0_4 p0 p1 p2 p3 p4 q5 := by unfold v0_18; rw [k]; rfl
    have e19 : v0_19 p0 p1 p2 p3 p4 q5 = v0_6 p0 p1 p2 p3 p4 q5 := by unfold v0_19; rw [k]; rfl
    have ne := (own_o10 p0 p1 p2 p3 p4 q5).1
    unfold v0_22 v0_21 v0_20
    rw [e15, e16, e17, e18, e19]
    exact ⟨own_f6_ne _ _ _ _ _ _ _ _ _ _ fun q => ne q.1.symm, fun q => ne (own_h1 q).symm⟩
  · have e15 : v0_15 p0 p1 p2 p3 p4 q5 = v0_1 p0 p1 p2 p3 p4 q5 := by unfold v0_15; rw [k]; rfl
    have e16 : v0_16 p0 p1 p2 p3 p4 q5 = v0_11 p0 p1 p2 p3 p4 q5 := by unfold v0_16; rw [k]; rfl
    have e17 : v0_17 p0 p1 p2 p3 p4 q5 = p2 := by unfold v0_17; rw [k]; rfl
    have e18 : v0_18 p0 p1 p2 p3 p4 q5 = v0_4 p0 p1 p2 p3 p4 q5 := by unfold v0_18; rw [k]; rfl
    have e19 : v0_19 p0 p1 p2 p3 p4 q5 = v0_6 p0 p1 p2 p3 p4 q5 := by unfold v0_19; rw [k]; rfl
    have ne := (own_o11 p0 p1 p2 p3 p4 q5).1
    unfold v0_22 v0_21 v0_20
    rw [e15, e16, e17, e18, e19]
    exact ⟨own_f6_ne _ _ _ _ _ _ _ _ _ _ fun q => ne q.2.1.symm, fun q => ne (own_h2 q).symm⟩
  · have e15 : v0_15 p0 p1 p2 p3 p4 q5 = v0_1 p0 p1 p2 p3 p4 q5 := by unfold v0_15; rw [k]; rfl
    have e16 : v0_16 p0 p1 p2 p3 p4 q5 = v0_3 p0 p1 p2 p3 p4 q5 := by unfold v0_16; rw [k]; rfl
    have e17 : v0_17 p0 p1 p2 p3 p4 q5 = v0_12 p0 p1 p2 p3 p4 q5 := by unfold v0_17; rw [k]; rfl
    have e18 : v0_18 p0 p1 p2 p3 p4 q5 = v0_4 p0 p1 p2 p3 p4 q5 := by unfold v0_18; rw [k]; rfl
    have e19 : v0_19 p0 p1 p2 p3 p4 q5 = v0_6 p0 p1 p2 p3 p4 q5 := by unfold v0_19; rw [k]; rfl
    have ne : v0_12 p0 p1 p2 p3 p4 q5 ≠ p2 := own_xor (own_delta p0 p1 p2 p3 p4 q5)
    unfold v0_22 v0_21 v0_20
    rw [e15, e16, e17, e18, e19]
    exact ⟨own_f6_ne _ _ _ _ _ _ _ _ _ _ fun q => ne q.2.2.1.symm, fun q => ne (own_h3 q).symm⟩
  · have e15 : v0_15 p0 p1 p2 p3 p4 q5 = v0_1 p0 p1 p2 p3 p4 q5 := by unfold v0_15; rw [k]; rfl
    have e16 : v0_16 p0 p1 p2 p3 p4 q5 = v0_3 p0 p1 p2 p3 p4 q5 := by unfold v0_16; rw [k]; rfl
    have e17 : v0_17 p0 p1 p2 p3 p4 q5 = p2 := by unfold v0_17; rw [k]; rfl
    have e18 : v0_18 p0 p1 p2 p3 p4 q5 = v0_13 p0 p1 p2 p3 p4 q5 := by unfold v0_18; rw [k]; rfl
    have e19 : v0_19 p0 p1 p2 p3 p4 q5 = v0_6 p0 p1 p2 p3 p4 q5 := by unfold v0_19; rw [k]; rfl
    have ne := (own_o13 p0 p1 p2 p3 p4 q5).1
    unfold v0_22 v0_21 v0_20
    rw [e15, e16, e17, e18, e19]
    exact ⟨own_f6_ne _ _ _ _ _ _ _ _ _ _ fun q => ne q.2.2.2.1.symm, fun q => ne (own_h4 q).symm⟩
  · have e15 : v0_15 p0 p1 p2 p3 p4 q5 = v0_1 p0 p1 p2 p3 p4 q5 := by unfold v0_15; rw [k]; rfl
    have e16 : v0_16 p0 p1 p2 p3 p4 q5 = v0_3 p0 p1 p2 p3 p4 q5 := by unfold v0_16; rw [k]; rfl
    have e17 : v0_17 p0 p1 p2 p3 p4 q5 = p2 := by unfold v0_17; rw [k]; rfl
    have e18 : v0_18 p0 p1 p2 p3 p4 q5 = v0_4 p0 p1 p2 p3 p4 q5 := by unfold v0_18; rw [k]; rfl
    have e19 : v0_19 p0 p1 p2 p3 p4 q5 = v0_14 p0 p1 p2 p3 p4 q5 := by unfold v0_19; rw [k]; rfl
    have ne := (own_o14 p0 p1 p2 p3 p4 q5).1
    unfold v0_22 v0_21 v0_20
    rw [e15, e16, e17, e18, e19]
    exact ⟨own_f6_ne _ _ _ _ _ _ _ _ _ _ fun q => ne q.2.2.2.2.symm, fun q => ne (own_h5 q).symm⟩
end Sel
def Q0 (Z : State) (p0 : Int32) (p1 : Int32) (p2 : Int32) (p3 : Int32) (p4 : Int32) (q5 : Int64) (h0 : Heap) (n0 : Nat) (v : Option Value) (h : Heap) (L : List Loc) : Prop := v = some (.int (1 : Int32)) ∧ Fr n0 L
set_option maxRecDepth 65536 in
set_option maxHeartbeats 40000000 in
theorem rm0 (l : Launch) (Z : State) (a0 : Array Value) (hw : ∀ d ∈ tables_1, d.before a0 Z = true) (ws : List Jvm.Cond) (p0 : Int32) (p1 : Int32) (p2 : Int32) (p3 : Int32) (p4 : Int32) (q5 : Int64) (h0 : Heap) (n0 : Nat) (Z0 : n0 ≤ h0.size) :
    MetFree l x (head1 (Jvm.Cond.code x code maxLocals ret :: ws) room_1) (fun a U => a = #[(.int p0), (.int p1), (.int p2), (.int p3), (.int p4), (.long q5)] ∧ Z.Warmed39 U.vm ∧ U.heap = h0) (fun _ _ _ _ _ => True) (fun _ U o U' => ∃ v L, o = .returned v ∧ Q0 Z p0 p1 p2 p3 p4 q5 h0 n0 v U'.heap L ∧ FrameEnd U o U' L room_1.cells room_1.slots) := by
  refine MetFree.of_bodySF (plainFor_of_name pn_com_example_vannus_vannus_PassageHashCodePinLaw) hisR ?_
  intro p e s m args below meth c s₁ Bd hml0 hP hK
  obtain ⟨rfl, hZ, hh⟩ := hP
  have hx := Bd.exec
  have hby := Bd.bytes
  have hml : c.maxLocals = 23 := hml0
  have hown : s.vm.findClass "com/example/vannus/vannus/PassageHashCodePinLaw" = some m.cls := findClass_of_methodNamed Bd.named
  have hnm := (name_of_methodNamed Bd.named Bd.method).1
  have X0 : Stand p l e room_1 s m #[(.int p0), (.int p1), (.int p2), (.int p3), (.int p4), (.long q5)] below meth c s₁ [] 0 0 := Stand.of_body Bd
  have e0 : s₁.heap = h0 := by rw [← hh, Bd.state]; rfl
  have N0 := Fr.nil n0
  have pre0 : ∀ t, Steps p.tables e below (s₁.setTop (mkF m 0 #[.val (.int p0), .val (.int p1), .val (.int p2), .val (.int p3), .val (.int p4), .val (.long q5), .second, .unset, .unset, .unset, .unset, .unset, .unset, .unset, .unset, .unset, .unset, .unset, .unset, .unset, .unset, .unset, .unset] [])) t → Steps p.tables e below (s₁.setTop (entryFrame m #[(.int p0), (.int p1), (.int p2), (.int p3), (.int p4), (.long q5)] maxLocals)) t := fun t k => castTop (ef_0 m p0 p1 p2 p3 p4 q5) k
  obtain ⟨_, _, ⟨T1, L1, k1, n1⟩, -, X1, ⟨Lc1, hQ1, l1, y1, z1⟩, st1⟩ := Jvm.LawKit.callS X0 hx (y := (⟨"java/lang/Math", "max", "(II)I"⟩ : MethodName)) hown (mvT hZ (hw _ (List.mem_of_getElem? (i := 1) rfl))) (mvT hZ (hw _ (List.mem_of_getElem? (i := 2) rfl))) (mvT hZ (hw _ (List.mem_of_getElem? (i := 3) rfl))) (mvT hZ (hw _ (List.mem_of_getElem? (i := 4) rfl))) (by decide) (backOf (W := 0) (rm1 l Z a0 hw [] (1 : Int32) (v0_2 p0 p1 p2 p3 p4 q5) h0 n0 Z0) hZ (hw _ (List.mem_of_getElem? (i := 4) rfl)) (hw _ (List.mem_of_getElem? (i := 3) rfl)) (by decide) (by decide)) (g := (mkF m 11 #[.val (.int p0), .val (.int p1), .val (.int p2), .val (.int p3), .val (.int p4), .val (.long q5), .second, .val (.int (v0_1 p0 p1 p2 p3 p4 q5)), .unset, .unset, .unset, .unset, .unset, .unset, .unset, .unset, .unset, .unset, .unset, .unset, .unset, .unset, .unset] [(.int (v0_2 p0 p1 p2 p3 p4 q5)), (.int (1 : Int32))])) rfl (by rw [hml]; rfl) (argsL := [(.int (1 : Int32)), (.int (v0_2 p0 p1 p2 p3 p4 q5))]) (rest := []) (lenOf pd__II_I rfl) rfl (by show 2 * 0 + _ ≤ _; exact Nat.le_of_eq rfl) (hb hby at_11) (fun _ _ => ⟨rfl, e0, (by decide : 0 + 0 ≤ _), (by decide : 0 + 0 ≤ _)⟩)
  dsimp only [Pt.U, Pt.locs, Pt.cells, Pt.slots] at X1 l1 y1 z1 st1 hQ1
  subst l1 y1 z1
  obtain ⟨N1q, rfl, e1⟩ := hQ1
  have N1 := Fr.app N0 N1q
  obtain ⟨_, _, ⟨T2, L2, k2, n2⟩, -, X2, ⟨Lc2, hQ2, l2, y2, z2⟩, st2⟩ := Jvm.LawKit.callS X1 hx (y := (⟨"java/lang/Math", "max", "(II)I"⟩ : MethodName)) hown (mvT hZ (hw _ (List.mem_of_getElem? (i := 1) rfl))) (mvT hZ (hw _ (List.mem_of_getElem? (i := 2) rfl))) (mvT hZ (hw _ (List.mem_of_getElem? (i := 3) rfl))) (mvT hZ (hw _ (List.mem_of_getElem? (i := 4) rfl))) (by decide) (backOf (W := 0) (rm1 l Z a0 hw [] (1 : Int32) (v0_5 p0 p1 p2 p3 p4 q5) h0 n0 Z0) hZ (hw _ (List.mem_of_getElem? (i := 4) rfl)) (hw _ (List.mem_of_getElem? (i := 3) rfl)) (by decide) (by decide)) (g := (mkF m 31 #[.val (.int p0), .val (.int p1), .val (.int p2), .val (.int p3), .val (.int p4), .val (.long q5), .second, .val (.int (v0_1 p0 p1 p2 p3 p4 q5)), .val (.int (v0_3 p0 p1 p2 p3 p4 q5)), .val (.int p2), .val (.int (v0_4 p0 p1 p2 p3 p4 q5)), .unset, .unset, .unset, .unset, .unset, .unset, .unset, .unset, .unset, .unset, .unset, .unset] [(.int (v0_5 p0 p1 p2 p3 p4 q5)), (.int (1 : Int32))])) rfl (by rw [hml]; rfl) (argsL := [(.int (1 : Int32)), (.int (v0_5 p0 p1 p2 p3 p4 q5))]) (rest := []) (lenOf pd__II_I rfl) rfl (by show 2 * 0 + _ ≤ _; exact Nat.le_of_eq rfl) (hb hby at_31) (fun _ _ => ⟨rfl, e1, (by decide : 0 + 0 ≤ _), (by decide : 0 + 0 ≤ _)⟩)
  dsimp only [Pt.U, Pt.locs, Pt.cells, Pt.slots] at X2 l2 y2 z2 st2 hQ2
  subst l2 y2 z2
  obtain ⟨N2q, rfl, e2⟩ := hQ2
  have N2 := Fr.app N1 N2q
  have pre3 : ∀ t, Steps p.tables e below (T2.setTop (mkF m 58 #[.val (.int p0), .val (.int p1), .val (.int p2), .val (.int p3), .val (.int p4), .val (.long q5), .second, .val (.int (v0_1 p0 p1 p2 p3 p4 q5)), .val (.int (v0_3 p0 p1 p2 p3 p4 q5)), .val (.int p2), .val (.int (v0_4 p0 p1 p2 p3 p4 q5)), .val (.int (v0_6 p0 p1 p2 p3 p4 q5)), .val (.int (v0_7 p0 p1 p2 p3 p4 q5)), .val (.int (v0_8 p0 p1 p2 p3 p4 q5)), .unset, .unset, .unset, .unset, .unset, .unset, .unset, .unset, .unset] [(.int (v0_8 p0 p1 p2 p3 p4 q5))])) t → Steps p.tables e below (s₁.setTop (entryFrame m #[(.int p0), (.int p1), (.int p2), (.int p3), (.int p4), (.long q5)] maxLocals)) t := by
    intro t k
    refine pre0 t ?_
    show Steps p.tables e below (s₁.setTop (mkF m 0 #[.val (.int p0), .val (.int p1), .val (.int p2), .val (.int p3), .val (.int p4), .val (.long q5), .second, .unset, .unset, .unset, .unset, .unset, .unset, .unset, .unset, .unset, .unset, .unset, .unset, .unset, .unset, .unset, .unset] [])) _
    refine XS.iloadN X0.here hx rfl (hb hby at_0) rfl ?_
    show Steps p.tables e below (s₁.setTop (mkF m 1 #[.val (.int p0), .val (.int p1), .val (.int p2), .val (.int p3), .val (.int p4), .val (.long q5), .second, .unset, .unset, .unset, .unset, .unset, .unset, .unset, .unset, .unset, .unset, .unset, .unset, .unset, .unset, .unset, .unset] [(.int p0)])) _
    refine X0.ldcI hx hown (mvT hZ (hw _ (List.mem_of_getElem? (i := 0) rfl))) rfl (hb hby at_1) ?_
    show Steps p.tables e below (s₁.setTop (mkF m 3 #[.val (.int p0), .val (.int p1), .val (.int p2), .val (.int p3), .val (.int p4), .val (.long q5), .second, .unset, .unset, .unset, .unset, .unset, .unset, .unset, .unset, .unset, .unset, .unset, .unset, .unset, .unset, .unset, .unset] [(.int (2147483647 : Int32)), (.int p0)])) _
    refine XS.iand X0.here hx rfl (hb hby at_3) rfl ?_
    show Steps p.tables e below (s₁.setTop (mkF m 4 #[.val (.int p0), .val (.int p1), .val (.int p2), .val (.int p3), .val (.int p4), .val (.long q5), .second, .unset, .unset, .unset, .unset, .unset, .unset, .unset, .unset, .unset, .unset, .unset, .unset, .unset, .unset, .unset, .unset] [(.int (p0 &&& (2147483647 : Int32)))])) _
    refine XS.istore X0.here hx rfl (hb hby at_4) rfl (l' := #[.val (.int p0), .val (.int p1), .val (.int p2), .val (.int p3), .val (.int p4), .val (.long q5), .second, .val (.int (v0_1 p0 p1 p2 p3 p4 q5)), .unset, .unset, .unset, .unset, .unset, .unset, .unset, .unset, .unset, .unset, .unset, .unset, .unset, .unset, .unset]) rfl ?_
    show Steps p.tables e below (s₁.setTop (mkF m 6 #[.val (.int p0), .val (.int p1), .val (.int p2), .val (.int p3), .val (.int p4), .val (.long q5), .second, .val (.int (v0_1 p0 p1 p2 p3 p4 q5)), .unset, .unset, .unset, .unset, .unset, .unset, .unset, .unset, .unset, .unset, .unset, .unset, .unset, .unset, .unset] [])) _
    refine XT.iconstV X0.here hx rfl (1 : Int32) (hb hby at_6) (by decide) ?_
    show Steps p.tables e below (s₁.setTop (mkF m 7 #[.val (.int p0), .val (.int p1), .val (.int p2), .val (.int p3), .val (.int p4), .val (.long q5), .second, .val (.int (v0_1 p0 p1 p2 p3 p4 q5)), .unset, .unset, .unset, .unset, .unset, .unset, .unset, .unset, .unset, .unset, .unset, .unset, .unset, .unset, .unset] [(.int (1 : Int32))])) _
    refine XS.iloadN X0.here hx rfl (hb hby at_7) rfl ?_
    show Steps p.tables e below (s₁.setTop (mkF m 8 #[.val (.int p0), .val (.int p1), .val (.int p2), .val (.int p3), .val (.int p4), .val (.long q5), .second, .val (.int (v0_1 p0 p1 p2 p3 p4 q5)), .unset, .unset, .unset, .unset, .unset, .unset, .unset, .unset, .unset, .unset, .unset, .unset, .unset, .unset, .unset] [(.int p1), (.int (1 : Int32))])) _
    refine X0.ldcI hx hown (mvT hZ (hw _ (List.mem_of_getElem? (i := 0) rfl))) rfl (hb hby at_8) ?_
    show Steps p.tables e below (s₁.setTop (mkF m 10 #[.val (.int p0), .val (.int p1), .val (.int p2), .val (.int p3), .val (.int p4), .val (.long q5), .second, .val (.int (v0_1 p0 p1 p2 p3 p4 q5)), .unset, .unset, .unset, .unset, .unset, .unset, .unset, .unset, .unset, .unset, .unset, .unset, .unset, .unset, .unset] [(.int (2147483647 : Int32)), (.int p1), (.int (1 : Int32))])) _
    refine XS.iand X0.here hx rfl (hb hby at_10) rfl ?_
    show Steps p.tables e below (s₁.setTop (mkF m 11 #[.val (.int p0), .val (.int p1), .val (.int p2), .val (.int p3), .val (.int p4), .val (.long q5), .second, .val (.int (v0_1 p0 p1 p2 p3 p4 q5)), .unset, .unset, .unset, .unset, .unset, .unset, .unset, .unset, .unset, .unset, .unset, .unset, .unset, .unset, .unset] [(.int (p1 &&& (2147483647 : Int32))), (.int (1 : Int32))])) _
    refine st1 _ ?_
    show Steps p.tables e below (T1.setTop (mkF m 14 #[.val (.int p0), .val (.int p1), .val (.int p2), .val (.int p3), .val (.int p4), .val (.long q5), .second, .val (.int (v0_1 p0 p1 p2 p3 p4 q5)), .unset, .unset, .unset, .unset, .unset, .unset, .unset, .unset, .unset, .unset, .unset, .unset, .unset, .unset, .unset] [(.int (f1 (1 : Int32) (v0_2 p0 p1 p2 p3 p4 q5)))])) _
    refine XS.istore X1.here hx rfl (hb hby at_14) rfl (l' := #[.val (.int p0), .val (.int p1), .val (.int p2), .val (.int p3), .val (.int p4), .val (.long q5), .second, .val (.int (v0_1 p0 p1 p2 p3 p4 q5)), .val (.int (v0_3 p0 p1 p2 p3 p4 q5)), .unset, .unset, .unset, .unset, .unset, .unset, .unset, .unset, .unset, .unset, .unset, .unset, .unset, .unset]) rfl ?_
    show Steps p.tables e below (T1.setTop (mkF m 16 #[.val (.int p0), .val (.int p1), .val (.int p2), .val (.int p3), .val (.int p4), .val (.long q5), .second, .val (.int (v0_1 p0 p1 p2 p3 p4 q5)), .val (.int (v0_3 p0 p1 p2 p3 p4 q5)), .unset, .unset, .unset, .unset, .unset, .unset, .unset, .unset, .unset, .unset, .unset, .unset, .unset, .unset] [])) _
    refine XS.iloadN X1.here hx rfl (hb hby at_16) rfl ?_
    show Steps p.tables e below (T1.setTop (mkF m 17 #[.val (.int p0), .val (.int p1), .val (.int p2), .val (.int p3), .val (.int p4), .val (.long q5), .second, .val (.int (v0_1 p0 p1 p2 p3 p4 q5)), .val (.int (v0_3 p0 p1 p2 p3 p4 q5)), .unset, .unset, .unset, .unset, .unset, .unset, .unset, .unset, .unset, .unset, .unset, .unset, .unset, .unset] [(.int p2)])) _
    refine XS.istore X1.here hx rfl (hb hby at_17) rfl (l' := #[.val (.int p0), .val (.int p1), .val (.int p2), .val (.int p3), .val (.int p4), .val (.long q5), .second, .val (.int (v0_1 p0 p1 p2 p3 p4 q5)), .val (.int (v0_3 p0 p1 p2 p3 p4 q5)), .val (.int p2), .unset, .unset, .unset, .unset, .unset, .unset, .unset, .unset, .unset, .unset, .unset, .unset, .unset]) rfl ?_
    show Steps p.tables e below (T1.setTop (mkF m 19 #[.val (.int p0), .val (.int p1), .val (.int p2), .val (.int p3), .val (.int p4), .val (.long q5), .second, .val (.int (v0_1 p0 p1 p2 p3 p4 q5)), .val (.int (v0_3 p0 p1 p2 p3 p4 q5)), .val (.int p2), .unset, .unset, .unset, .unset, .unset, .unset, .unset, .unset, .unset, .unset, .unset, .unset, .unset] [])) _
    refine XS.iloadN X1.here hx rfl (hb hby at_19) rfl ?_
    show Steps p.tables e below (T1.setTop (mkF m 20 #[.val (.int p0), .val (.int p1), .val (.int p2), .val (.int p3), .val (.int p4), .val (.long q5), .second, .val (.int (v0_1 p0 p1 p2 p3 p4 q5)), .val (.int (v0_3 p0 p1 p2 p3 p4 q5)), .val (.int p2), .unset, .unset, .unset, .unset, .unset, .unset, .unset, .unset, .unset, .unset, .unset, .unset, .unset] [(.int p3)])) _
    refine X1.ldcI hx hown (mvT hZ (hw _ (List.mem_of_getElem? (i := 0) rfl))) rfl (hb hby at_20) ?_
    show Steps p.tables e below (T1.setTop (mkF m 22 #[.val (.int p0), .val (.int p1), .val (.int p2), .val (.int p3), .val (.int p4), .val (.long q5), .second, .val (.int (v0_1 p0 p1 p2 p3 p4 q5)), .val (.int (v0_3 p0 p1 p2 p3 p4 q5)), .val (.int p2), .unset, .unset, .unset, .unset, .unset, .unset, .unset, .unset, .unset, .unset, .unset, .unset, .unset] [(.int (2147483647 : Int32)), (.int p3)])) _
    refine XS.iand X1.here hx rfl (hb hby at_22) rfl ?_
    show Steps p.tables e below (T1.setTop (mkF m 23 #[.val (.int p0), .val (.int p1), .val (.int p2), .val (.int p3), .val (.int p4), .val (.long q5), .second, .val (.int (v0_1 p0 p1 p2 p3 p4 q5)), .val (.int (v0_3 p0 p1 p2 p3 p4 q5)), .val (.int p2), .unset, .unset, .unset, .unset, .unset, .unset, .unset, .unset, .unset, .unset, .unset, .unset, .unset] [(.int (p3 &&& (2147483647 : Int32)))])) _
    refine XS.istore X1.here hx rfl (hb hby at_23) rfl (l' := #[.val (.int p0), .val (.int p1), .val (.int p2), .val (.int p3), .val (.int p4), .val (.long q5), .second, .val (.int (v0_1 p0 p1 p2 p3 p4 q5)), .val (.int (v0_3 p0 p1 p2 p3 p4 q5)), .val (.int p2), .val (.int (v0_4 p0 p1 p2 p3 p4 q5)), .unset, .unset, .unset, .unset, .unset, .unset, .unset, .unset, .unset, .unset, .unset, .unset]) rfl ?_
    show Steps p.tables e below (T1.setTop (mkF m 25 #[.val (.int p0), .val (.int p1), .val (.int p2), .val (.int p3), .val (.int p4), .val (.long q5), .second, .val (.int (v0_1 p0 p1 p2 p3 p4 q5)), .val (.int (v0_3 p0 p1 p2 p3 p4 q5)), .val (.int p2), .val (.int (v0_4 p0 p1 p2 p3 p4 q5)), .unset, .unset, .unset, .unset, .unset, .unset, .unset, .unset, .unset, .unset, .unset, .unset] [])) _
    refine XT.iconstV X1.here hx rfl (1 : Int32) (hb hby at_25) (by decide) ?_
    show Steps p.tables e below (T1.setTop (mkF m 26 #[.val (.int p0), .val (.int p1), .val (.int p2), .val (.int p3), .val (.int p4), .val (.long q5), .second, .val (.int (v0_1 p0 p1 p2 p3 p4 q5)), .val (.int (v0_3 p0 p1 p2 p3 p4 q5)), .val (.int p2), .val (.int (v0_4 p0 p1 p2 p3 p4 q5)), .unset, .unset, .unset, .unset, .unset, .unset, .unset, .unset, .unset, .unset, .unset, .unset] [(.int (1 : Int32))])) _
    refine XS.iload X1.here hx rfl (hb hby at_26) rfl ?_
    show Steps p.tables e below (T1.setTop (mkF m 28 #[.val (.int p0), .val (.int p1), .val (.int p2), .val (.int p3), .val (.int p4), .val (.long q5), .second, .val (.int (v0_1 p0 p1 p2 p3 p4 q5)), .val (.int (v0_3 p0 p1 p2 p3 p4 q5)), .val (.int p2), .val (.int (v0_4 p0 p1 p2 p3 p4 q5)), .unset, .unset, .unset, .unset, .unset, .unset, .unset, .unset, .unset, .unset, .unset, .unset] [(.int p4), (.int (1 : Int32))])) _
    refine X1.ldcI hx hown (mvT hZ (hw _ (List.mem_of_getElem? (i := 0) rfl))) rfl (hb hby at_28) ?_
    show Steps p.tables e below (T1.setTop (mkF m 30 #[.val (.int p0), .val (.int p1), .val (.int p2), .val (.int p3), .val (.int p4), .val (.long q5), .second, .val (.int (v0_1 p0 p1 p2 p3 p4 q5)), .val (.int (v0_3 p0 p1 p2 p3 p4 q5)), .val (.int p2), .val (.int (v0_4 p0 p1 p2 p3 p4 q5)), .unset, .unset, .unset, .unset, .unset, .unset, .unset, .unset, .unset, .unset, .unset, .unset] [(.int (2147483647 : Int32)), (.int p4), (.int (1 : Int32))])) _
    refine XS.iand X1.here hx rfl (hb hby at_30) rfl ?_
    show Steps p.tables e below (T1.setTop (mkF m 31 #[.val (.int p0), .val (.int p1), .val (.int p2), .val (.int p3), .val (.int p4), .val (.long q5), .second, .val (.int (v0_1 p0 p1 p2 p3 p4 q5)), .val (.int (v0_3 p0 p1 p2 p3 p4 q5)), .val (.int p2), .val (.int (v0_4 p0 p1 p2 p3 p4 q5)), .unset, .unset, .unset, .unset, .unset, .unset, .unset, .unset, .unset, .unset, .unset, .unset] [(.int (p4 &&& (2147483647 : Int32))), (.int (1 : Int32))])) _
    refine st2 _ ?_
    show Steps p.tables e below (T2.setTop (mkF m 34 #[.val (.int p0), .val (.int p1), .val (.int p2), .val (.int p3), .val (.int p4), .val (.long q5), .second, .val (.int (v0_1 p0 p1 p2 p3 p4 q5)), .val (.int (v0_3 p0 p1 p2 p3 p4 q5)), .val (.int p2), .val (.int (v0_4 p0 p1 p2 p3 p4 q5)), .unset, .unset, .unset, .unset, .unset, .unset, .unset, .unset, .unset, .unset, .unset, .unset] [(.int (f1 (1 : Int32) (v0_5 p0 p1 p2 p3 p4 q5)))])) _
    refine XS.istore X2.here hx rfl (hb hby at_34) rfl (l' := #[.val (.int p0), .val (.int p1), .val (.int p2), .val (.int p3), .val (.int p4), .val (.long q5), .second, .val (.int (v0_1 p0 p1 p2 p3 p4 q5)), .val (.int (v0_3 p0 p1 p2 p3 p4 q5)), .val (.int p2), .val (.int (v0_4 p0 p1 p2 p3 p4 q5)), .val (.int (v0_6 p0 p1 p2 p3 p4 q5)), .unset, .unset, .unset, .unset, .unset, .unset, .unset, .unset, .unset, .unset, .unset]) rfl ?_
    show Steps p.tables e below (T2.setTop (mkF m 36 #[.val (.int p0), .val (.int p1), .val (.int p2), .val (.int p3), .val (.int p4), .val (.long q5), .second, .val (.int (v0_1 p0 p1 p2 p3 p4 q5)), .val (.int (v0_3 p0 p1 p2 p3 p4 q5)), .val (.int p2), .val (.int (v0_4 p0 p1 p2 p3 p4 q5)), .val (.int (v0_6 p0 p1 p2 p3 p4 q5)), .unset, .unset, .unset, .unset, .unset, .unset, .unset, .unset, .unset, .unset, .unset] [])) _
    refine XT.lload X2.here hx rfl (hb hby at_36) rfl ?_
    show Steps p.tables e below (T2.setTop (mkF m 38 #[.val (.int p0), .val (.int p1), .val (.int p2), .val (.int p3), .val (.int p4), .val (.long q5), .second, .val (.int (v0_1 p0 p1 p2 p3 p4 q5)), .val (.int (v0_3 p0 p1 p2 p3 p4 q5)), .val (.int p2), .val (.int (v0_4 p0 p1 p2 p3 p4 q5)), .val (.int (v0_6 p0 p1 p2 p3 p4 q5)), .unset, .unset, .unset, .unset, .unset, .unset, .unset, .unset, .unset, .unset, .unset] [(.long q5)])) _
    refine X2.ldc2J hx hown (mvT hZ (hw _ (List.mem_of_getElem? (i := 5) rfl))) rfl (hb hby at_38) ?_
    show Steps p.tables e below (T2.setTop (mkF m 41 #[.val (.int p0), .val (.int p1), .val (.int p2), .val (.int p3), .val (.int p4), .val (.long q5), .second, .val (.int (v0_1 p0 p1 p2 p3 p4 q5)), .val (.int (v0_3 p0 p1 p2 p3 p4 q5)), .val (.int p2), .val (.int (v0_4 p0 p1 p2 p3 p4 q5)), .val (.int (v0_6 p0 p1 p2 p3 p4 q5)), .unset, .unset, .unset, .unset, .unset, .unset, .unset, .unset, .unset, .unset, .unset] [(.long (7 : Int64)), (.long q5)])) _
    refine XT.land X2.here hx rfl (hb hby at_41) rfl ?_
    show Steps p.tables e below (T2.setTop (mkF m 42 #[.val (.int p0), .val (.int p1), .val (.int p2), .val (.int p3), .val (.int p4), .val (.long q5), .second, .val (.int (v0_1 p0 p1 p2 p3 p4 q5)), .val (.int (v0_3 p0 p1 p2 p3 p4 q5)), .val (.int p2), .val (.int (v0_4 p0 p1 p2 p3 p4 q5)), .val (.int (v0_6 p0 p1 p2 p3 p4 q5)), .unset, .unset, .unset, .unset, .unset, .unset, .unset, .unset, .unset, .unset, .unset] [(.long (q5 &&& (7 : Int64)))])) _
    refine XT.l2i X2.here hx rfl (hb hby at_42) rfl ?_
    show Steps p.tables e below (T2.setTop (mkF m 43 #[.val (.int p0), .val (.int p1), .val (.int p2), .val (.int p3), .val (.int p4), .val (.long q5), .second, .val (.int (v0_1 p0 p1 p2 p3 p4 q5)), .val (.int (v0_3 p0 p1 p2 p3 p4 q5)), .val (.int p2), .val (.int (v0_4 p0 p1 p2 p3 p4 q5)), .val (.int (v0_6 p0 p1 p2 p3 p4 q5)), .unset, .unset, .unset, .unset, .unset, .unset, .unset, .unset, .unset, .unset, .unset] [(.int ((q5 &&& (7 : Int64)).toInt32))])) _
    refine XS.istore X2.here hx rfl (hb hby at_43) rfl (l' := #[.val (.int p0), .val (.int p1), .val (.int p2), .val (.int p3), .val (.int p4), .val (.long q5), .second, .val (.int (v0_1 p0 p1 p2 p3 p4 q5)), .val (.int (v0_3 p0 p1 p2 p3 p4 q5)), .val (.int p2), .val (.int (v0_4 p0 p1 p2 p3 p4 q5)), .val (.int (v0_6 p0 p1 p2 p3 p4 q5)), .val (.int (v0_7 p0 p1 p2 p3 p4 q5)), .unset, .unset, .unset, .unset, .unset, .unset, .unset, .unset, .unset, .unset]) rfl ?_
    show Steps p.tables e below (T2.setTop (mkF m 45 #[.val (.int p0), .val (.int p1), .val (.int p2), .val (.int p3), .val (.int p4), .val (.long q5), .second, .val (.int (v0_1 p0 p1 p2 p3 p4 q5)), .val (.int (v0_3 p0 p1 p2 p3 p4 q5)), .val (.int p2), .val (.int (v0_4 p0 p1 p2 p3 p4 q5)), .val (.int (v0_6 p0 p1 p2 p3 p4 q5)), .val (.int (v0_7 p0 p1 p2 p3 p4 q5)), .unset, .unset, .unset, .unset, .unset, .unset, .unset, .unset, .unset, .unset] [])) _
    refine XT.lload X2.here hx rfl (hb hby at_45) rfl ?_
    show Steps p.tables e below (T2.setTop (mkF m 47 #[.val (.int p0), .val (.int p1), .val (.int p2), .val (.int p3), .val (.int p4), .val (.long q5), .second, .val (.int (v0_1 p0 p1 p2 p3 p4 q5)), .val (.int (v0_3 p0 p1 p2 p3 p4 q5)), .val (.int p2), .val (.int (v0_4 p0 p1 p2 p3 p4 q5)), .val (.int (v0_6 p0 p1 p2 p3 p4 q5)), .val (.int (v0_7 p0 p1 p2 p3 p4 q5)), .unset, .unset, .unset, .unset, .unset, .unset, .unset, .unset, .unset, .unset] [(.long q5)])) _
    refine XT.bipushV X2.here hx rfl (32 : Int32) (hb hby at_47) (by decide) ?_
    show Steps p.tables e below (T2.setTop (mkF m 49 #[.val (.int p0), .val (.int p1), .val (.int p2), .val (.int p3), .val (.int p4), .val (.long q5), .second, .val (.int (v0_1 p0 p1 p2 p3 p4 q5)), .val (.int (v0_3 p0 p1 p2 p3 p4 q5)), .val (.int p2), .val (.int (v0_4 p0 p1 p2 p3 p4 q5)), .val (.int (v0_6 p0 p1 p2 p3 p4 q5)), .val (.int (v0_7 p0 p1 p2 p3 p4 q5)), .unset, .unset, .unset, .unset, .unset, .unset, .unset, .unset, .unset, .unset] [(.int (32 : Int32)), (.long q5)])) _
    refine XT.lushr X2.here hx rfl (hb hby at_49) rfl ?_
    show Steps p.tables e below (T2.setTop (mkF m 50 #[.val (.int p0), .val (.int p1), .val (.int p2), .val (.int p3), .val (.int p4), .val (.long q5), .second, .val (.int (v0_1 p0 p1 p2 p3 p4 q5)), .val (.int (v0_3 p0 p1 p2 p3 p4 q5)), .val (.int p2), .val (.int (v0_4 p0 p1 p2 p3 p4 q5)), .val (.int (v0_6 p0 p1 p2 p3 p4 q5)), .val (.int (v0_7 p0 p1 p2 p3 p4 q5)), .unset, .unset, .unset, .unset, .unset, .unset, .unset, .unset, .unset, .unset] [(.long (XT.ushrL q5 (32 : Int32)))])) _
    refine XT.l2i X2.here hx rfl (hb hby at_50) rfl ?_
    show Steps p.tables e below (T2.setTop (mkF m 51 #[.val (.int p0), .val (.int p1), .val (.int p2), .val (.int p3), .val (.int p4), .val (.long q5), .second, .val (.int (v0_1 p0 p1 p2 p3 p4 q5)), .val (.int (v0_3 p0 p1 p2 p3 p4 q5)), .val (.int p2), .val (.int (v0_4 p0 p1 p2 p3 p4 q5)), .val (.int (v0_6 p0 p1 p2 p3 p4 q5)), .val (.int (v0_7 p0 p1 p2 p3 p4 q5)), .unset, .unset, .unset, .unset, .unset, .unset, .unset, .unset, .unset, .unset] [(.int ((XT.ushrL q5 (32 : Int32)).toInt32))])) _
    refine X2.ldcI hx hown (mvT hZ (hw _ (List.mem_of_getElem? (i := 0) rfl))) rfl (hb hby at_51) ?_
    show Steps p.tables e below (T2.setTop (mkF m 53 #[.val (.int p0), .val (.int p1), .val (.int p2), .val (.int p3), .val (.int p4), .val (.long q5), .second, .val (.int (v0_1 p0 p1 p2 p3 p4 q5)), .val (.int (v0_3 p0 p1 p2 p3 p4 q5)), .val (.int p2), .val (.int (v0_4 p0 p1 p2 p3 p4 q5)), .val (.int (v0_6 p0 p1 p2 p3 p4 q5)), .val (.int (v0_7 p0 p1 p2 p3 p4 q5)), .unset, .unset, .unset, .unset, .unset, .unset, .unset, .unset, .unset, .unset] [(.int (2147483647 : Int32)), (.int ((XT.ushrL q5 (32 : Int32)).toInt32))])) _
    refine XS.iand X2.here hx rfl (hb hby at_53) rfl ?_
    show Steps p.tables e below (T2.setTop (mkF m 54 #[.val (.int p0), .val (.int p1), .val (.int p2), .val (.int p3), .val (.int p4), .val (.long q5), .second, .val (.int (v0_1 p0 p1 p2 p3 p4 q5)), .val (.int (v0_3 p0 p1 p2 p3 p4 q5)), .val (.int p2), .val (.int (v0_4 p0 p1 p2 p3 p4 q5)), .val (.int (v0_6 p0 p1 p2 p3 p4 q5)), .val (.int (v0_7 p0 p1 p2 p3 p4 q5)), .unset, .unset, .unset, .unset, .unset, .unset, .unset, .unset, .unset, .unset] [(.int (((XT.ushrL q5 (32 : Int32)).toInt32) &&& (2147483647 : Int32)))])) _
    refine XS.istore X2.here hx rfl (hb hby at_54) rfl (l' := #[.val (.int p0), .val (.int p1), .val (.int p2), .val (.int p3), .val (.int p4), .val (.long q5), .second, .val (.int (v0_1 p0 p1 p2 p3 p4 q5)), .val (.int (v0_3 p0 p1 p2 p3 p4 q5)), .val (.int p2), .val (.int (v0_4 p0 p1 p2 p3 p4 q5)), .val (.int (v0_6 p0 p1 p2 p3 p4 q5)), .val (.int (v0_7 p0 p1 p2 p3 p4 q5)), .val (.int (v0_8 p0 p1 p2 p3 p4 q5)), .unset, .unset, .unset, .unset, .unset, .unset, .unset, .unset, .unset]) rfl ?_
    show Steps p.tables e below (T2.setTop (mkF m 56 #[.val (.int p0), .val (.int p1), .val (.int p2), .val (.int p3), .val (.int p4), .val (.long q5), .second, .val (.int (v0_1 p0 p1 p2 p3 p4 q5)), .val (.int (v0_3 p0 p1 p2 p3 p4 q5)), .val (.int p2), .val (.int (v0_4 p0 p1 p2 p3 p4 q5)), .val (.int (v0_6 p0 p1 p2 p3 p4 q5)), .val (.int (v0_7 p0 p1 p2 p3 p4 q5)), .val (.int (v0_8 p0 p1 p2 p3 p4 q5)), .unset, .unset, .unset, .unset, .unset, .unset, .unset, .unset, .unset] [])) _
    refine XS.iload X2.here hx rfl (hb hby at_56) rfl ?_
    exact k
  have pre5 : ∀ t, Steps p.tables e below (T2.setTop (mkF m 64 #[.val (.int p0), .val (.int p1), .val (.int p2), .val (.int p3), .val (.int p4), .val (.long q5), .second, .val (.int (v0_1 p0 p1 p2 p3 p4 q5)), .val (.int (v0_3 p0 p1 p2 p3 p4 q5)), .val (.int p2), .val (.int (v0_4 p0 p1 p2 p3 p4 q5)), .val (.int (v0_6 p0 p1 p2 p3 p4 q5)), .val (.int (v0_7 p0 p1 p2 p3 p4 q5)), .val (.int (v0_9 p0 p1 p2 p3 p4 q5)), .unset, .unset, .unset, .unset, .unset, .unset, .unset, .unset, .unset] [])) t → Steps p.tables e below (s₁.setTop (entryFrame m #[(.int p0), (.int p1), (.int p2), (.int p3), (.int p4), (.long q5)] maxLocals)) t := by
    intro t k
    by_cases c4 : (v0_8 p0 p1 p2 p3 p4 q5) = (0 : Int32)
    · skip
      rw [show (v0_9 p0 p1 p2 p3 p4 q5) = (1 : Int32) from (if_pos c4)] at k
      refine pre3 t ?_
      show Steps p.tables e below (T2.setTop (mkF m 58 #[.val (.int p0), .val (.int p1), .val (.int p2), .val (.int p3), .val (.int p4), .val (.long q5), .second, .val (.int (v0_1 p0 p1 p2 p3 p4 q5)), .val (.int (v0_3 p0 p1 p2 p3 p4 q5)), .val (.int p2), .val (.int (v0_4 p0 p1 p2 p3 p4 q5)), .val (.int (v0_6 p0 p1 p2 p3 p4 q5)), .val (.int (v0_7 p0 p1 p2 p3 p4 q5)), .val (.int (v0_8 p0 p1 p2 p3 p4 q5)), .unset, .unset, .unset, .unset, .unset, .unset, .unset, .unset, .unset] [(.int (v0_8 p0 p1 p2 p3 p4 q5))])) _
      refine XS.ifNo X2.here hx rfl (hb hby at_58) rfl (XT.i0_ne_f c4) ?_
      show Steps p.tables e below (T2.setTop (mkF m 61 #[.val (.int p0), .val (.int p1), .val (.int p2), .val (.int p3), .val (.int p4), .val (.long q5), .second, .val (.int (v0_1 p0 p1 p2 p3 p4 q5)), .val (.int (v0_3 p0 p1 p2 p3 p4 q5)), .val (.int p2), .val (.int (v0_4 p0 p1 p2 p3 p4 q5)), .val (.int (v0_6 p0 p1 p2 p3 p4 q5)), .val (.int (v0_7 p0 p1 p2 p3 p4 q5)), .val (.int (v0_8 p0 p1 p2 p3 p4 q5)), .unset, .unset, .unset, .unset, .unset, .unset, .unset, .unset, .unset] [])) _
      refine XT.iconstV X2.here hx rfl (1 : Int32) (hb hby at_61) (by decide) ?_
      show Steps p.tables e below (T2.setTop (mkF m 62 #[.val (.int p0), .val (.int p1), .val (.int p2), .val (.int p3), .val (.int p4), .val (.long q5), .second, .val (.int (v0_1 p0 p1 p2 p3 p4 q5)), .val (.int (v0_3 p0 p1 p2 p3 p4 q5)), .val (.int p2), .val (.int (v0_4 p0 p1 p2 p3 p4 q5)), .val (.int (v0_6 p0 p1 p2 p3 p4 q5)), .val (.int (v0_7 p0 p1 p2 p3 p4 q5)), .val (.int (v0_8 p0 p1 p2 p3 p4 q5)), .unset, .unset, .unset, .unset, .unset, .unset, .unset, .unset, .unset] [(.int (1 : Int32))])) _
      refine XS.istore X2.here hx rfl (hb hby at_62) rfl (l' := #[.val (.int p0), .val (.int p1), .val (.int p2), .val (.int p3), .val (.int p4), .val (.long q5), .second, .val (.int (v0_1 p0 p1 p2 p3 p4 q5)), .val (.int (v0_3 p0 p1 p2 p3 p4 q5)), .val (.int p2), .val (.int (v0_4 p0 p1 p2 p3 p4 q5)), .val (.int (v0_6 p0 p1 p2 p3 p4 q5)), .val (.int (v0_7 p0 p1 p2 p3 p4 q5)), .val (.int (1 : Int32)), .unset, .unset, .unset, .unset, .unset, .unset, .unset, .unset, .unset]) rfl ?_
      exact k
    · skip
      rw [show (v0_9 p0 p1 p2 p3 p4 q5) = (v0_8 p0 p1 p2 p3 p4 q5) from (if_neg c4)] at k
      refine pre3 t ?_
      show Steps p.tables e below (T2.setTop (mkF m 58 #[.val (.int p0), .val (.int p1), .val (.int p2), .val (.int p3), .val (.int p4), .val (.long q5), .second, .val (.int (v0_1 p0 p1 p2 p3 p4 q5)), .val (.int (v0_3 p0 p1 p2 p3 p4 q5)), .val (.int p2), .val (.int (v0_4 p0 p1 p2 p3 p4 q5)), .val (.int (v0_6 p0 p1 p2 p3 p4 q5)), .val (.int (v0_7 p0 p1 p2 p3 p4 q5)), .val (.int (v0_8 p0 p1 p2 p3 p4 q5)), .unset, .unset, .unset, .unset, .unset, .unset, .unset, .unset, .unset] [(.int (v0_8 p0 p1 p2 p3 p4 q5))])) _
      refine XS.ifYes X2.here hx rfl (pc0 := 58) (pc' := 64) rfl (hb hby at_58) rfl (XT.i0_ne_t c4) (by decide) (by decide) ?_
      exact k
  have pre6 : ∀ t, Steps p.tables e below (T2.setTop (mkF m 86 #[.val (.int p0), .val (.int p1), .val (.int p2), .val (.int p3), .val (.int p4), .val (.long q5), .second, .val (.int (v0_1 p0 p1 p2 p3 p4 q5)), .val (.int (v0_3 p0 p1 p2 p3 p4 q5)), .val (.int p2), .val (.int (v0_4 p0 p1 p2 p3 p4 q5)), .val (.int (v0_6 p0 p1 p2 p3 p4 q5)), .val (.int (v0_7 p0 p1 p2 p3 p4 q5)), .val (.int (v0_9 p0 p1 p2 p3 p4 q5)), .val (.int (v0_1 p0 p1 p2 p3 p4 q5)), .val (.int (v0_3 p0 p1 p2 p3 p4 q5)), .val (.int p2), .val (.int (v0_4 p0 p1 p2 p3 p4 q5)), .val (.int (v0_6 p0 p1 p2 p3 p4 q5)), .unset, .unset, .unset, .unset] [(.int (v0_7 p0 p1 p2 p3 p4 q5))])) t → Steps p.tables e below (s₁.setTop (entryFrame m #[(.int p0), (.int p1), (.int p2), (.int p3), (.int p4), (.long q5)] maxLocals)) t := by
    intro t k
    refine pre5 t ?_
    show Steps p.tables e below (T2.setTop (mkF m 64 #[.val (.int p0), .val (.int p1), .val (.int p2), .val (.int p3), .val (.int p4), .val (.long q5), .second, .val (.int (v0_1 p0 p1 p2 p3 p4 q5)), .val (.int (v0_3 p0 p1 p2 p3 p4 q5)), .val (.int p2), .val (.int (v0_4 p0 p1 p2 p3 p4 q5)), .val (.int (v0_6 p0 p1 p2 p3 p4 q5)), .val (.int (v0_7 p0 p1 p2 p3 p4 q5)), .val (.int (v0_9 p0 p1 p2 p3 p4 q5)), .unset, .unset, .unset, .unset, .unset, .unset, .unset, .unset, .unset] [])) _
    refine XS.iload X2.here hx rfl (hb hby at_64) rfl ?_
    show Steps p.tables e below (T2.setTop (mkF m 66 #[.val (.int p0), .val (.int p1), .val (.int p2), .val (.int p3), .val (.int p4), .val (.long q5), .second, .val (.int (v0_1 p0 p1 p2 p3 p4 q5)), .val (.int (v0_3 p0 p1 p2 p3 p4 q5)), .val (.int p2), .val (.int (v0_4 p0 p1 p2 p3 p4 q5)), .val (.int (v0_6 p0 p1 p2 p3 p4 q5)), .val (.int (v0_7 p0 p1 p2 p3 p4 q5)), .val (.int (v0_9 p0 p1 p2 p3 p4 q5)), .unset, .unset, .unset, .unset, .unset, .unset, .unset, .unset, .unset] [(.int (v0_1 p0 p1 p2 p3 p4 q5))])) _
    refine XS.istore X2.here hx rfl (hb hby at_66) rfl (l' := #[.val (.int p0), .val (.int p1), .val (.int p2), .val (.int p3), .val (.int p4), .val (.long q5), .second, .val (.int (v0_1 p0 p1 p2 p3 p4 q5)), .val (.int (v0_3 p0 p1 p2 p3 p4 q5)), .val (.int p2), .val (.int (v0_4 p0 p1 p2 p3 p4 q5)), .val (.int (v0_6 p0 p1 p2 p3 p4 q5)), .val (.int (v0_7 p0 p1 p2 p3 p4 q5)), .val (.int (v0_9 p0 p1 p2 p3 p4 q5)), .val (.int (v0_1 p0 p1 p2 p3 p4 q5)), .unset, .unset, .unset, .unset, .unset, .unset, .unset, .unset]) rfl ?_
    show Steps p.tables e below (T2.setTop (mkF m 68 #[.val (.int p0), .val (.int p1), .val (.int p2), .val (.int p3), .val (.int p4), .val (.long q5), .second, .val (.int (v0_1 p0 p1 p2 p3 p4 q5)), .val (.int (v0_3 p0 p1 p2 p3 p4 q5)), .val (.int p2), .val (.int (v0_4 p0 p1 p2 p3 p4 q5)), .val (.int (v0_6 p0 p1 p2 p3 p4 q5)), .val (.int (v0_7 p0 p1 p2 p3 p4 q5)), .val (.int (v0_9 p0 p1 p2 p3 p4 q5)), .val (.int (v0_1 p0 p1 p2 p3 p4 q5)), .unset, .unset, .unset, .unset, .unset, .unset, .unset, .unset] [])) _
    refine XS.iload X2.here hx rfl (hb hby at_68) rfl ?_
    show Steps p.tables e below (T2.setTop (mkF m 70 #[.val (.int p0), .val (.int p1), .val (.int p2), .val (.int p3), .val (.int p4), .val (.long q5), .second, .val (.int (v0_1 p0 p1 p2 p3 p4 q5)), .val (.int (v0_3 p0 p1 p2 p3 p4 q5)), .val (.int p2), .val (.int (v0_4 p0 p1 p2 p3 p4 q5)), .val (.int (v0_6 p0 p1 p2 p3 p4 q5)), .val (.int (v0_7 p0 p1 p2 p3 p4 q5)), .val (.int (v0_9 p0 p1 p2 p3 p4 q5)), .val (.int (v0_1 p0 p1 p2 p3 p4 q5)), .unset, .unset, .unset, .unset, .unset, .unset, .unset, .unset] [(.int (v0_3 p0 p1 p2 p3 p4 q5))])) _
    refine XS.istore X2.here hx rfl (hb hby at_70) rfl (l' := #[.val (.int p0), .val (.int p1), .val (.int p2), .val (.int p3), .val (.int p4), .val (.long q5), .second, .val (.int (v0_1 p0 p1 p2 p3 p4 q5)), .val (.int (v0_3 p0 p1 p2 p3 p4 q5)), .val (.int p2), .val (.int (v0_4 p0 p1 p2 p3 p4 q5)), .val (.int (v0_6 p0 p1 p2 p3 p4 q5)), .val (.int (v0_7 p0 p1 p2 p3 p4 q5)), .val (.int (v0_9 p0 p1 p2 p3 p4 q5)), .val (.int (v0_1 p0 p1 p2 p3 p4 q5)), .val (.int (v0_3 p0 p1 p2 p3 p4 q5)), .unset, .unset, .unset, .unset, .unset, .unset, .unset]) rfl ?_
    show Steps p.tables e below (T2.setTop (mkF m 72 #[.val (.int p0), .val (.int p1), .val (.int p2), .val (.int p3), .val (.int p4), .val (.long q5), .second, .val (.int (v0_1 p0 p1 p2 p3 p4 q5)), .val (.int (v0_3 p0 p1 p2 p3 p4 q5)), .val (.int p2), .val (.int (v0_4 p0 p1 p2 p3 p4 q5)), .val (.int (v0_6 p0 p1 p2 p3 p4 q5)), .val (.int (v0_7 p0 p1 p2 p3 p4 q5)), .val (.int (v0_9 p0 p1 p2 p3 p4 q5)), .val (.int (v0_1 p0 p1 p2 p3 p4 q5)), .val (.int (v0_3 p0 p1 p2 p3 p4 q5)), .unset, .unset, .unset, .unset, .unset, .unset, .unset] [])) _
    refine XS.iload X2.here hx rfl (hb hby at_72) rfl ?_
    show Steps p.tables e below (T2.setTop (mkF m 74 #[.val (.int p0), .val (.int p1), .val (.int p2), .val (.int p3), .val (.int p4), .val (.long q5), .second, .val (.int (v0_1 p0 p1 p2 p3 p4 q5)), .val (.int (v0_3 p0 p1 p2 p3 p4 q5)), .val (.int p2), .val (.int (v0_4 p0 p1 p2 p3 p4 q5)), .val (.int (v0_6 p0 p1 p2 p3 p4 q5)), .val (.int (v0_7 p0 p1 p2 p3 p4 q5)), .val (.int (v0_9 p0 p1 p2 p3 p4 q5)), .val (.int (v0_1 p0 p1 p2 p3 p4 q5)), .val (.int (v0_3 p0 p1 p2 p3 p4 q5)), .unset, .unset, .unset, .unset, .unset, .unset, .unset] [(.int p2)])) _
    refine XS.istore X2.here hx rfl (hb hby at_74) rfl (l' := #[.val (.int p0), .val (.int p1), .val (.int p2), .val (.int p3), .val (.int p4), .val (.long q5), .second, .val (.int (v0_1 p0 p1 p2 p3 p4 q5)), .val (.int (v0_3 p0 p1 p2 p3 p4 q5)), .val (.int p2), .val (.int (v0_4 p0 p1 p2 p3 p4 q5)), .val (.int (v0_6 p0 p1 p2 p3 p4 q5)), .val (.int (v0_7 p0 p1 p2 p3 p4 q5)), .val (.int (v0_9 p0 p1 p2 p3 p4 q5)), .val (.int (v0_1 p0 p1 p2 p3 p4 q5)), .val (.int (v0_3 p0 p1 p2 p3 p4 q5)), .val (.int p2), .unset, .unset, .unset, .unset, .unset, .unset]) rfl ?_
    show Steps p.tables e below (T2.setTop (mkF m 76 #[.val (.int p0), .val (.int p1), .val (.int p2), .val (.int p3), .val (.int p4), .val (.long q5), .second, .val (.int (v0_1 p0 p1 p2 p3 p4 q5)), .val (.int (v0_3 p0 p1 p2 p3 p4 q5)), .val (.int p2), .val (.int (v0_4 p0 p1 p2 p3 p4 q5)), .val (.int (v0_6 p0 p1 p2 p3 p4 q5)), .val (.int (v0_7 p0 p1 p2 p3 p4 q5)), .val (.int (v0_9 p0 p1 p2 p3 p4 q5)), .val (.int (v0_1 p0 p1 p2 p3 p4 q5)), .val (.int (v0_3 p0 p1 p2 p3 p4 q5)), .val (.int p2), .unset, .unset, .unset, .unset, .unset, .unset] [])) _
    refine XS.iload X2.here hx rfl (hb hby at_76) rfl ?_
    show Steps p.tables e below (T2.setTop (mkF m 78 #[.val (.int p0), .val (.int p1), .val (.int p2), .val (.int p3), .val (.int p4), .val (.long q5), .second, .val (.int (v0_1 p0 p1 p2 p3 p4 q5)), .val (.int (v0_3 p0 p1 p2 p3 p4 q5)), .val (.int p2), .val (.int (v0_4 p0 p1 p2 p3 p4 q5)), .val (.int (v0_6 p0 p1 p2 p3 p4 q5)), .val (.int (v0_7 p0 p1 p2 p3 p4 q5)), .val (.int (v0_9 p0 p1 p2 p3 p4 q5)), .val (.int (v0_1 p0 p1 p2 p3 p4 q5)), .val (.int (v0_3 p0 p1 p2 p3 p4 q5)), .val (.int p2), .unset, .unset, .unset, .unset, .unset, .unset] [(.int (v0_4 p0 p1 p2 p3 p4 q5))])) _
    refine XS.istore X2.here hx rfl (hb hby at_78) rfl (l' := #[.val (.int p0), .val (.int p1), .val (.int p2), .val (.int p3), .val (.int p4), .val (.long q5), .second, .val (.int (v0_1 p0 p1 p2 p3 p4 q5)), .val (.int (v0_3 p0 p1 p2 p3 p4 q5)), .val (.int p2), .val (.int (v0_4 p0 p1 p2 p3 p4 q5)), .val (.int (v0_6 p0 p1 p2 p3 p4 q5)), .val (.int (v0_7 p0 p1 p2 p3 p4 q5)), .val (.int (v0_9 p0 p1 p2 p3 p4 q5)), .val (.int (v0_1 p0 p1 p2 p3 p4 q5)), .val (.int (v0_3 p0 p1 p2 p3 p4 q5)), .val (.int p2), .val (.int (v0_4 p0 p1 p2 p3 p4 q5)), .unset, .unset, .unset, .unset, .unset]) rfl ?_
    show Steps p.tables e below (T2.setTop (mkF m 80 #[.val (.int p0), .val (.int p1), .val (.int p2), .val (.int p3), .val (.int p4), .val (.long q5), .second, .val (.int (v0_1 p0 p1 p2 p3 p4 q5)), .val (.int (v0_3 p0 p1 p2 p3 p4 q5)), .val (.int p2), .val (.int (v0_4 p0 p1 p2 p3 p4 q5)), .val (.int (v0_6 p0 p1 p2 p3 p4 q5)), .val (.int (v0_7 p0 p1 p2 p3 p4 q5)), .val (.int (v0_9 p0 p1 p2 p3 p4 q5)), .val (.int (v0_1 p0 p1 p2 p3 p4 q5)), .val (.int (v0_3 p0 p1 p2 p3 p4 q5)), .val (.int p2), .val (.int (v0_4 p0 p1 p2 p3 p4 q5)), .unset, .unset, .unset, .unset, .unset] [])) _
    refine XS.iload X2.here hx rfl (hb hby at_80) rfl ?_
    show Steps p.tables e below (T2.setTop (mkF m 82 #[.val (.int p0), .val (.int p1), .val (.int p2), .val (.int p3), .val (.int p4), .val (.long q5), .second, .val (.int (v0_1 p0 p1 p2 p3 p4 q5)), .val (.int (v0_3 p0 p1 p2 p3 p4 q5)), .val (.int p2), .val (.int (v0_4 p0 p1 p2 p3 p4 q5)), .val (.int (v0_6 p0 p1 p2 p3 p4 q5)), .val (.int (v0_7 p0 p1 p2 p3 p4 q5)), .val (.int (v0_9 p0 p1 p2 p3 p4 q5)), .val (.int (v0_1 p0 p1 p2 p3 p4 q5)), .val (.int (v0_3 p0 p1 p2 p3 p4 q5)), .val (.int p2), .val (.int (v0_4 p0 p1 p2 p3 p4 q5)), .unset, .unset, .unset, .unset, .unset] [(.int (v0_6 p0 p1 p2 p3 p4 q5))])) _
    refine XS.istore X2.here hx rfl (hb hby at_82) rfl (l' := #[.val (.int p0), .val (.int p1), .val (.int p2), .val (.int p3), .val (.int p4), .val (.long q5), .second, .val (.int (v0_1 p0 p1 p2 p3 p4 q5)), .val (.int (v0_3 p0 p1 p2 p3 p4 q5)), .val (.int p2), .val (.int (v0_4 p0 p1 p2 p3 p4 q5)), .val (.int (v0_6 p0 p1 p2 p3 p4 q5)), .val (.int (v0_7 p0 p1 p2 p3 p4 q5)), .val (.int (v0_9 p0 p1 p2 p3 p4 q5)), .val (.int (v0_1 p0 p1 p2 p3 p4 q5)), .val (.int (v0_3 p0 p1 p2 p3 p4 q5)), .val (.int p2), .val (.int (v0_4 p0 p1 p2 p3 p4 q5)), .val (.int (v0_6 p0 p1 p2 p3 p4 q5)), .unset, .unset, .unset, .unset]) rfl ?_
    show Steps p.tables e below (T2.setTop (mkF m 84 #[.val (.int p0), .val (.int p1), .val (.int p2), .val (.int p3), .val (.int p4), .val (.long q5), .second, .val (.int (v0_1 p0 p1 p2 p3 p4 q5)), .val (.int (v0_3 p0 p1 p2 p3 p4 q5)), .val (.int p2), .val (.int (v0_4 p0 p1 p2 p3 p4 q5)), .val (.int (v0_6 p0 p1 p2 p3 p4 q5)), .val (.int (v0_7 p0 p1 p2 p3 p4 q5)), .val (.int (v0_9 p0 p1 p2 p3 p4 q5)), .val (.int (v0_1 p0 p1 p2 p3 p4 q5)), .val (.int (v0_3 p0 p1 p2 p3 p4 q5)), .val (.int p2), .val (.int (v0_4 p0 p1 p2 p3 p4 q5)), .val (.int (v0_6 p0 p1 p2 p3 p4 q5)), .unset, .unset, .unset, .unset] [])) _
    refine XS.iload X2.here hx rfl (hb hby at_84) rfl ?_
    exact k
  obtain ⟨T20, L20, X20, e20, N20, pre20⟩ : ∃ (T' : State) (L' : List Loc), Stand p l e room_1 s m #[(.int p0), (.int p1), (.int p2), (.int p3), (.int p4), (.long q5)] below meth c T' L' 0 0 ∧ T'.heap = h0 ∧ Fr n0 L' ∧ ∀ t, Steps p.tables e below (T'.setTop (mkF m 172 #[.val (.int p0), .val (.int p1), .val (.int p2), .val (.int p3), .val (.int p4), .val (.long q5), .second, .val (.int (v0_1 p0 p1 p2 p3 p4 q5)), .val (.int (v0_3 p0 p1 p2 p3 p4 q5)), .val (.int p2), .val (.int (v0_4 p0 p1 p2 p3 p4 q5)), .val (.int (v0_6 p0 p1 p2 p3 p4 q5)), .val (.int (v0_7 p0 p1 p2 p3 p4 q5)), .val (.int (v0_9 p0 p1 p2 p3 p4 q5)), .val (.int (v0_15 p0 p1 p2 p3 p4 q5)), .val (.int (v0_16 p0 p1 p2 p3 p4 q5)), .val (.int (v0_17 p0 p1 p2 p3 p4 q5)), .val (.int (v0_18 p0 p1 p2 p3 p4 q5)), .val (.int (v0_19 p0 p1 p2 p3 p4 q5)), .unset, .unset, .unset, .unset] [])) t → Steps p.tables e below (s₁.setTop (entryFrame m #[(.int p0), (.int p1), (.int p2), (.int p3), (.int p4), (.long q5)] maxLocals)) t := by
    by_cases c7 : (v0_7 p0 p1 p2 p3 p4 q5) = (0 : Int32)
    · skip
      obtain ⟨_, _, ⟨T8, L8, k8, n8⟩, -, X8, ⟨Lc8, hQ8, l8, y8, z8⟩, st8⟩ := Jvm.LawKit.callS X2 hx (y := (⟨"com/example/vannus/vannus/PassageHashCodePinLaw", "other", "(III)I"⟩ : MethodName)) hown (mvT hZ (hw _ (List.mem_of_getElem? (i := 6) rfl))) (mvT hZ (hw _ (List.mem_of_getElem? (i := 7) rfl))) (mvT hZ (hw _ (List.mem_of_getElem? (i := 8) rfl))) (mvT hZ (hw _ (List.mem_of_getElem? (i := 9) rfl))) (by decide) (backOf (W := 0) (rm2 l Z a0 hw [] (v0_1 p0 p1 p2 p3 p4 q5) (v0_9 p0 p1 p2 p3 p4 q5) (0 : Int32) h0 n0 Z0) hZ (hw _ (List.mem_of_getElem? (i := 9) rfl)) (hw _ (List.mem_of_getElem? (i := 8) rfl)) (by decide) (by decide)) (g := (mkF m 94 #[.val (.int p0), .val (.int p1), .val (.int p2), .val (.int p3), .val (.int p4), .val (.long q5), .second, .val (.int (v0_1 p0 p1 p2 p3 p4 q5)), .val (.int (v0_3 p0 p1 p2 p3 p4 q5)), .val (.int p2), .val (.int (v0_4 p0 p1 p2 p3 p4 q5)), .val (.int (v0_6 p0 p1 p2 p3 p4 q5)), .val (.int (v0_7 p0 p1 p2 p3 p4 q5)), .val (.int (v0_9 p0 p1 p2 p3 p4 q5)), .val (.int (v0_1 p0 p1 p2 p3 p4 q5)), .val (.int (v0_3 p0 p1 p2 p3 p4 q5)), .val (.int p2), .val (.int (v0_4 p0 p1 p2 p3 p4 q5)), .val (.int (v0_6 p0 p1 p2 p3 p4 q5)), .unset, .unset, .unset, .unset] [(.int (0 : Int32)), (.int (v0_9 p0 p1 p2 p3 p4 q5)), (.int (v0_1 p0 p1 p2 p3 p4 q5))])) rfl (by rw [hml]; rfl) (argsL := [(.int (v0_1 p0 p1 p2 p3 p4 q5)), (.int (v0_9 p0 p1 p2 p3 p4 q5)), (.int (0 : Int32))]) (rest := []) (lenOf pd__III_I rfl) rfl (by show 2 * 0 + _ ≤ _; exact Nat.le_of_eq rfl) (hb hby at_94) (fun _ _ => ⟨rfl, e2, (by decide : 0 + 0 ≤ _), (by decide : 0 + 0 ≤ _)⟩)
      dsimp only [Pt.U, Pt.locs, Pt.cells, Pt.slots] at X8 l8 y8 z8 st8 hQ8
      subst l8 y8 z8
      obtain ⟨N8q, rfl, e8⟩ := hQ8
      have N8 := Fr.app N2 N8q
      refine ⟨T8, _, X8, e8, N8, fun t k => ?_⟩
      rw [show (v0_15 p0 p1 p2 p3 p4 q5) = (v0_10 p0 p1 p2 p3 p4 q5) from (if_pos c7)] at k
      rw [show (v0_16 p0 p1 p2 p3 p4 q5) = (v0_3 p0 p1 p2 p3 p4 q5) from (if_pos c7)] at k
      rw [show (v0_17 p0 p1 p2 p3 p4 q5) = p2 from (if_pos c7)] at k
      rw [show (v0_18 p0 p1 p2 p3 p4 q5) = (v0_4 p0 p1 p2 p3 p4 q5) from (if_pos c7)] at k
      rw [show (v0_19 p0 p1 p2 p3 p4 q5) = (v0_6 p0 p1 p2 p3 p4 q5) from (if_pos c7)] at k
      refine pre6 t ?_
      show Steps p.tables e below (T2.setTop (mkF m 86 #[.val (.int p0), .val (.int p1), .val (.int p2), .val (.int p3), .val (.int p4), .val (.long q5), .second, .val (.int (v0_1 p0 p1 p2 p3 p4 q5)), .val (.int (v0_3 p0 p1 p2 p3 p4 q5)), .val (.int p2), .val (.int (v0_4 p0 p1 p2 p3 p4 q5)), .val (.int (v0_6 p0 p1 p2 p3 p4 q5)), .val (.int (v0_7 p0 p1 p2 p3 p4 q5)), .val (.int (v0_9 p0 p1 p2 p3 p4 q5)), .val (.int (v0_1 p0 p1 p2 p3 p4 q5)), .val (.int (v0_3 p0 p1 p2 p3 p4 q5)), .val (.int p2), .val (.int (v0_4 p0 p1 p2 p3 p4 q5)), .val (.int (v0_6 p0 p1 p2 p3 p4 q5)), .unset, .unset, .unset, .unset] [(.int (v0_7 p0 p1 p2 p3 p4 q5))])) _
      refine XS.ifNo X2.here hx rfl (hb hby at_86) rfl (XT.i0_ne_f c7) ?_
      show Steps p.tables e below (T2.setTop (mkF m 89 #[.val (.int p0), .val (.int p1), .val (.int p2), .val (.int p3), .val (.int p4), .val (.long q5), .second, .val (.int (v0_1 p0 p1 p2 p3 p4 q5)), .val (.int (v0_3 p0 p1 p2 p3 p4 q5)), .val (.int p2), .val (.int (v0_4 p0 p1 p2 p3 p4 q5)), .val (.int (v0_6 p0 p1 p2 p3 p4 q5)), .val (.int (v0_7 p0 p1 p2 p3 p4 q5)), .val (.int (v0_9 p0 p1 p2 p3 p4 q5)), .val (.int (v0_1 p0 p1 p2 p3 p4 q5)), .val (.int (v0_3 p0 p1 p2 p3 p4 q5)), .val (.int p2), .val (.int (v0_4 p0 p1 p2 p3 p4 q5)), .val (.int (v0_6 p0 p1 p2 p3 p4 q5)), .unset, .unset, .unset, .unset] [])) _
      refine XS.iload X2.here hx rfl (hb hby at_89) rfl ?_
      show Steps p.tables e below (T2.setTop (mkF m 91 #[.val (.int p0), .val (.int p1), .val (.int p2), .val (.int p3), .val (.int p4), .val (.long q5), .second, .val (.int (v0_1 p0 p1 p2 p3 p4 q5)), .val (.int (v0_3 p0 p1 p2 p3 p4 q5)), .val (.int p2), .val (.int (v0_4 p0 p1 p2 p3 p4 q5)), .val (.int (v0_6 p0 p1 p2 p3 p4 q5)), .val (.int (v0_7 p0 p1 p2 p3 p4 q5)), .val (.int (v0_9 p0 p1 p2 p3 p4 q5)), .val (.int (v0_1 p0 p1 p2 p3 p4 q5)), .val (.int (v0_3 p0 p1 p2 p3 p4 q5)), .val (.int p2), .val (.int (v0_4 p0 p1 p2 p3 p4 q5)), .val (.int (v0_6 p0 p1 p2 p3 p4 q5)), .unset, .unset, .unset, .unset] [(.int (v0_1 p0 p1 p2 p3 p4 q5))])) _
      refine XS.iload X2.here hx rfl (hb hby at_91) rfl ?_
      show Steps p.tables e below (T2.setTop (mkF m 93 #[.val (.int p0), .val (.int p1), .val (.int p2), .val (.int p3), .val (.int p4), .val (.long q5), .second, .val (.int (v0_1 p0 p1 p2 p3 p4 q5)), .val (.int (v0_3 p0 p1 p2 p3 p4 q5)), .val (.int p2), .val (.int (v0_4 p0 p1 p2 p3 p4 q5)), .val (.int (v0_6 p0 p1 p2 p3 p4 q5)), .val (.int (v0_7 p0 p1 p2 p3 p4 q5)), .val (.int (v0_9 p0 p1 p2 p3 p4 q5)), .val (.int (v0_1 p0 p1 p2 p3 p4 q5)), .val (.int (v0_3 p0 p1 p2 p3 p4 q5)), .val (.int p2), .val (.int (v0_4 p0 p1 p2 p3 p4 q5)), .val (.int (v0_6 p0 p1 p2 p3 p4 q5)), .unset, .unset, .unset, .unset] [(.int (v0_9 p0 p1 p2 p3 p4 q5)), (.int (v0_1 p0 p1 p2 p3 p4 q5))])) _
      refine XT.iconstV X2.here hx rfl (0 : Int32) (hb hby at_93) (by decide) ?_
      show Steps p.tables e below (T2.setTop (mkF m 94 #[.val (.int p0), .val (.int p1), .val (.int p2), .val (.int p3), .val (.int p4), .val (.long q5), .second, .val (.int (v0_1 p0 p1 p2 p3 p4 q5)), .val (.int (v0_3 p0 p1 p2 p3 p4 q5)), .val (.int p2), .val (.int (v0_4 p0 p1 p2 p3 p4 q5)), .val (.int (v0_6 p0 p1 p2 p3 p4 q5)), .val (.int (v0_7 p0 p1 p2 p3 p4 q5)), .val (.int (v0_9 p0 p1 p2 p3 p4 q5)), .val (.int (v0_1 p0 p1 p2 p3 p4 q5)), .val (.int (v0_3 p0 p1 p2 p3 p4 q5)), .val (.int p2), .val (.int (v0_4 p0 p1 p2 p3 p4 q5)), .val (.int (v0_6 p0 p1 p2 p3 p4 q5)), .unset, .unset, .unset, .unset] [(.int (0 : Int32)), (.int (v0_9 p0 p1 p2 p3 p4 q5)), (.int (v0_1 p0 p1 p2 p3 p4 q5))])) _
      refine st8 _ ?_
      show Steps p.tables e below (T8.setTop (mkF m 97 #[.val (.int p0), .val (.int p1), .val (.int p2), .val (.int p3), .val (.int p4), .val (.long q5), .second, .val (.int (v0_1 p0 p1 p2 p3 p4 q5)), .val (.int (v0_3 p0 p1 p2 p3 p4 q5)), .val (.int p2), .val (.int (v0_4 p0 p1 p2 p3 p4 q5)), .val (.int (v0_6 p0 p1 p2 p3 p4 q5)), .val (.int (v0_7 p0 p1 p2 p3 p4 q5)), .val (.int (v0_9 p0 p1 p2 p3 p4 q5)), .val (.int (v0_1 p0 p1 p2 p3 p4 q5)), .val (.int (v0_3 p0 p1 p2 p3 p4 q5)), .val (.int p2), .val (.int (v0_4 p0 p1 p2 p3 p4 q5)), .val (.int (v0_6 p0 p1 p2 p3 p4 q5)), .unset, .unset, .unset, .unset] [(.int (f2 (v0_1 p0 p1 p2 p3 p4 q5) (v0_9 p0 p1 p2 p3 p4 q5) (0 : Int32)))])) _
      refine XS.istore X8.here hx rfl (hb hby at_97) rfl (l' := #[.val (.int p0), .val (.int p1), .val (.int p2), .val (.int p3), .val (.int p4), .val (.long q5), .second, .val (.int (v0_1 p0 p1 p2 p3 p4 q5)), .val (.int (v0_3 p0 p1 p2 p3 p4 q5)), .val (.int p2), .val (.int (v0_4 p0 p1 p2 p3 p4 q5)), .val (.int (v0_6 p0 p1 p2 p3 p4 q5)), .val (.int (v0_7 p0 p1 p2 p3 p4 q5)), .val (.int (v0_9 p0 p1 p2 p3 p4 q5)), .val (.int (v0_10 p0 p1 p2 p3 p4 q5)), .val (.int (v0_3 p0 p1 p2 p3 p4 q5)), .val (.int p2), .val (.int (v0_4 p0 p1 p2 p3 p4 q5)), .val (.int (v0_6 p0 p1 p2 p3 p4 q5)), .unset, .unset, .unset, .unset]) rfl ?_
      show Steps p.tables e below (T8.setTop (mkF m 99 #[.val (.int p0), .val (.int p1), .val (.int p2), .val (.int p3), .val (.int p4), .val (.long q5), .second, .val (.int (v0_1 p0 p1 p2 p3 p4 q5)), .val (.int (v0_3 p0 p1 p2 p3 p4 q5)), .val (.int p2), .val (.int (v0_4 p0 p1 p2 p3 p4 q5)), .val (.int (v0_6 p0 p1 p2 p3 p4 q5)), .val (.int (v0_7 p0 p1 p2 p3 p4 q5)), .val (.int (v0_9 p0 p1 p2 p3 p4 q5)), .val (.int (v0_10 p0 p1 p2 p3 p4 q5)), .val (.int (v0_3 p0 p1 p2 p3 p4 q5)), .val (.int p2), .val (.int (v0_4 p0 p1 p2 p3 p4 q5)), .val (.int (v0_6 p0 p1 p2 p3 p4 q5)), .unset, .unset, .unset, .unset] [])) _
      refine XS.goto X8.here hx rfl (pc0 := 99) (pc' := 172) rfl (hb hby at_99) (by decide) (by decide) ?_
      exact k
    · skip
      have pre9 : ∀ t, Steps p.tables e below (T2.setTop (mkF m 105 #[.val (.int p0), .val (.int p1), .val (.int p2), .val (.int p3), .val (.int p4), .val (.long q5), .second, .val (.int (v0_1 p0 p1 p2 p3 p4 q5)), .val (.int (v0_3 p0 p1 p2 p3 p4 q5)), .val (.int p2), .val (.int (v0_4 p0 p1 p2 p3 p4 q5)), .val (.int (v0_6 p0 p1 p2 p3 p4 q5)), .val (.int (v0_7 p0 p1 p2 p3 p4 q5)), .val (.int (v0_9 p0 p1 p2 p3 p4 q5)), .val (.int (v0_1 p0 p1 p2 p3 p4 q5)), .val (.int (v0_3 p0 p1 p2 p3 p4 q5)), .val (.int p2), .val (.int (v0_4 p0 p1 p2 p3 p4 q5)), .val (.int (v0_6 p0 p1 p2 p3 p4 q5)), .unset, .unset, .unset, .unset] [(.int (1 : Int32)), (.int (v0_7 p0 p1 p2 p3 p4 q5))])) t → Steps p.tables e below (s₁.setTop (entryFrame m #[(.int p0), (.int p1), (.int p2), (.int p3), (.int p4), (.long q5)] maxLocals)) t := by
        intro t k
        refine pre6 t ?_
        show Steps p.tables e below (T2.setTop (mkF m 86 #[.val (.int p0), .val (.int p1), .val (.int p2), .val (.int p3), .val (.int p4), .val (.long q5), .second, .val (.int (v0_1 p0 p1 p2 p3 p4 q5)), .val (.int (v0_3 p0 p1 p2 p3 p4 q5)), .val (.int p2), .val (.int (v0_4 p0 p1 p2 p3 p4 q5)), .val (.int (v0_6 p0 p1 p2 p3 p4 q5)), .val (.int (v0_7 p0 p1 p2 p3 p4 q5)), .val (.int (v0_9 p0 p1 p2 p3 p4 q5)), .val (.int (v0_1 p0 p1 p2 p3 p4 q5)), .val (.int (v0_3 p0 p1 p2 p3 p4 q5)), .val (.int p2), .val (.int (v0_4 p0 p1 p2 p3 p4 q5)), .val (.int (v0_6 p0 p1 p2 p3 p4 q5)), .unset, .unset, .unset, .unset] [(.int (v0_7 p0 p1 p2 p3 p4 q5))])) _
        refine XS.ifYes X2.here hx rfl (pc0 := 86) (pc' := 102) rfl (hb hby at_86) rfl (XT.i0_ne_t c7) (by decide) (by decide) ?_
        show Steps p.tables e below (T2.setTop (mkF m 102 #[.val (.int p0), .val (.int p1), .val (.int p2), .val (.int p3), .val (.int p4), .val (.long q5), .second, .val (.int (v0_1 p0 p1 p2 p3 p4 q5)), .val (.int (v0_3 p0 p1 p2 p3 p4 q5)), .val (.int p2), .val (.int (v0_4 p0 p1 p2 p3 p4 q5)), .val (.int (v0_6 p0 p1 p2 p3 p4 q5)), .val (.int (v0_7 p0 p1 p2 p3 p4 q5)), .val (.int (v0_9 p0 p1 p2 p3 p4 q5)), .val (.int (v0_1 p0 p1 p2 p3 p4 q5)), .val (.int (v0_3 p0 p1 p2 p3 p4 q5)), .val (.int p2), .val (.int (v0_4 p0 p1 p2 p3 p4 q5)), .val (.int (v0_6 p0 p1 p2 p3 p4 q5)), .unset, .unset, .unset, .unset] [])) _
        refine XS.iload X2.here hx rfl (hb hby at_102) rfl ?_
        show Steps p.tables e below (T2.setTop (mkF m 104 #[.val (.int p0), .val (.int p1), .val (.int p2), .val (.int p3), .val (.int p4), .val (.long q5), .second, .val (.int (v0_1 p0 p1 p2 p3 p4 q5)), .val (.int (v0_3 p0 p1 p2 p3 p4 q5)), .val (.int p2), .val (.int (v0_4 p0 p1 p2 p3 p4 q5)), .val (.int (v0_6 p0 p1 p2 p3 p4 q5)), .val (.int (v0_7 p0 p1 p2 p3 p4 q5)), .val (.int (v0_9 p0 p1 p2 p3 p4 q5)), .val (.int (v0_1 p0 p1 p2 p3 p4 q5)), .val (.int (v0_3 p0 p1 p2 p3 p4 q5)), .val (.int p2), .val (.int (v0_4 p0 p1 p2 p3 p4 q5)), .val (.int (v0_6 p0 p1 p2 p3 p4 q5)), .unset, .unset, .unset, .unset] [(.int (v0_7 p0 p1 p2 p3 p4 q5))])) _
        refine XT.iconstV X2.here hx rfl (1 : Int32) (hb hby at_104) (by decide) ?_
        exact k
      by_cases c10 : (v0_7 p0 p1 p2 p3 p4 q5) = (1 : Int32)
      · skip
        obtain ⟨_, _, ⟨T11, L11, k11, n11⟩, -, X11, ⟨Lc11, hQ11, l11, y11, z11⟩, st11⟩ := Jvm.LawKit.callS X2 hx (y := (⟨"com/example/vannus/vannus/PassageHashCodePinLaw", "other", "(III)I"⟩ : MethodName)) hown (mvT hZ (hw _ (List.mem_of_getElem? (i := 6) rfl))) (mvT hZ (hw _ (List.mem_of_getElem? (i := 7) rfl))) (mvT hZ (hw _ (List.mem_of_getElem? (i := 8) rfl))) (mvT hZ (hw _ (List.mem_of_getElem? (i := 9) rfl))) (by decide) (backOf (W := 0) (rm2 l Z a0 hw [] (v0_3 p0 p1 p2 p3 p4 q5) (v0_9 p0 p1 p2 p3 p4 q5) (1 : Int32) h0 n0 Z0) hZ (hw _ (List.mem_of_getElem? (i := 9) rfl)) (hw _ (List.mem_of_getElem? (i := 8) rfl)) (by decide) (by decide)) (g := (mkF m 113 #[.val (.int p0), .val (.int p1), .val (.int p2), .val (.int p3), .val (.int p4), .val (.long q5), .second, .val (.int (v0_1 p0 p1 p2 p3 p4 q5)), .val (.int (v0_3 p0 p1 p2 p3 p4 q5)), .val (.int p2), .val (.int (v0_4 p0 p1 p2 p3 p4 q5)), .val (.int (v0_6 p0 p1 p2 p3 p4 q5)), .val (.int (v0_7 p0 p1 p2 p3 p4 q5)), .val (.int (v0_9 p0 p1 p2 p3 p4 q5)), .val (.int (v0_1 p0 p1 p2 p3 p4 q5)), .val (.int (v0_3 p0 p1 p2 p3 p4 q5)), .val (.int p2), .val (.int (v0_4 p0 p1 p2 p3 p4 q5)), .val (.int (v0_6 p0 p1 p2 p3 p4 q5)), .unset, .unset, .unset, .unset] [(.int (1 : Int32)), (.int (v0_9 p0 p1 p2 p3 p4 q5)), (.int (v0_3 p0 p1 p2 p3 p4 q5))])) rfl (by rw [hml]; rfl) (argsL := [(.int (v0_3 p0 p1 p2 p3 p4 q5)), (.int (v0_9 p0 p1 p2 p3 p4 q5)), (.int (1 : Int32))]) (rest := []) (lenOf pd__III_I rfl) rfl (by show 2 * 0 + _ ≤ _; exact Nat.le_of_eq rfl) (hb hby at_113) (fun _ _ => ⟨rfl, e2, (by decide : 0 + 0 ≤ _), (by decide : 0 + 0 ≤ _)⟩)
        dsimp only [Pt.U, Pt.locs, Pt.cells, Pt.slots] at X11 l11 y11 z11 st11 hQ11
        subst l11 y11 z11
        obtain ⟨N11q, rfl, e11⟩ := hQ11
        have N11 := Fr.app N2 N11q
        refine ⟨T11, _, X11, e11, N11, fun t k => ?_⟩
        rw [show (v0_15 p0 p1 p2 p3 p4 q5) = (v0_1 p0 p1 p2 p3 p4 q5) from ((if_neg c7).trans (if_pos c10))] at k
        rw [show (v0_16 p0 p1 p2 p3 p4 q5) = (v0_11 p0 p1 p2 p3 p4 q5) from ((if_neg c7).trans (if_pos c10))] at k
        rw [show (v0_17 p0 p1 p2 p3 p4 q5) = p2 from ((if_neg c7).trans (if_pos c10))] at k
        rw [show (v0_18 p0 p1 p2 p3 p4 q5) = (v0_4 p0 p1 p2 p3 p4 q5) from ((if_neg c7).trans (if_pos c10))] at k
        rw [show (v0_19 p0 p1 p2 p3 p4 q5) = (v0_6 p0 p1 p2 p3 p4 q5) from ((if_neg c7).trans (if_pos c10))] at k
        refine pre9 t ?_
        show Steps p.tables e below (T2.setTop (mkF m 105 #[.val (.int p0), .val (.int p1), .val (.int p2), .val (.int p3), .val (.int p4), .val (.long q5), .second, .val (.int (v0_1 p0 p1 p2 p3 p4 q5)), .val (.int (v0_3 p0 p1 p2 p3 p4 q5)), .val (.int p2), .val (.int (v0_4 p0 p1 p2 p3 p4 q5)), .val (.int (v0_6 p0 p1 p2 p3 p4 q5)), .val (.int (v0_7 p0 p1 p2 p3 p4 q5)), .val (.int (v0_9 p0 p1 p2 p3 p4 q5)), .val (.int (v0_1 p0 p1 p2 p3 p4 q5)), .val (.int (v0_3 p0 p1 p2 p3 p4 q5)), .val (.int p2), .val (.int (v0_4 p0 p1 p2 p3 p4 q5)), .val (.int (v0_6 p0 p1 p2 p3 p4 q5)), .unset, .unset, .unset, .unset] [(.int (1 : Int32)), (.int (v0_7 p0 p1 p2 p3 p4 q5))])) _
        refine XS.icmpNo X2.here hx rfl (hb hby at_105) rfl (XT.ii_ne_f c10) ?_
        show Steps p.tables e below (T2.setTop (mkF m 108 #[.val (.int p0), .val (.int p1), .val (.int p2), .val (.int p3), .val (.int p4), .val (.long q5), .second, .val (.int (v0_1 p0 p1 p2 p3 p4 q5)), .val (.int (v0_3 p0 p1 p2 p3 p4 q5)), .val (.int p2), .val (.int (v0_4 p0 p1 p2 p3 p4 q5)), .val (.int (v0_6 p0 p1 p2 p3 p4 q5)), .val (.int (v0_7 p0 p1 p2 p3 p4 q5)), .val (.int (v0_9 p0 p1 p2 p3 p4 q5)), .val (.int (v0_1 p0 p1 p2 p3 p4 q5)), .val (.int (v0_3 p0 p1 p2 p3 p4 q5)), .val (.int p2), .val (.int (v0_4 p0 p1 p2 p3 p4 q5)), .val (.int (v0_6 p0 p1 p2 p3 p4 q5)), .unset, .unset, .unset, .unset] [])) _
        refine XS.iload X2.here hx rfl (hb hby at_108) rfl ?_
        show Steps p.tables e below (T2.setTop (mkF m 110 #[.val (.int p0), .val (.int p1), .val (.int p2), .val (.int p3), .val (.int p4), .val (.long q5), .second, .val (.int (v0_1 p0 p1 p2 p3 p4 q5)), .val (.int (v0_3 p0 p1 p2 p3 p4 q5)), .val (.int p2), .val (.int (v0_4 p0 p1 p2 p3 p4 q5)), .val (.int (v0_6 p0 p1 p2 p3 p4 q5)), .val (.int (v0_7 p0 p1 p2 p3 p4 q5)), .val (.int (v0_9 p0 p1 p2 p3 p4 q5)), .val (.int (v0_1 p0 p1 p2 p3 p4 q5)), .val (.int (v0_3 p0 p1 p2 p3 p4 q5)), .val (.int p2), .val (.int (v0_4 p0 p1 p2 p3 p4 q5)), .val (.int (v0_6 p0 p1 p2 p3 p4 q5)), .unset, .unset, .unset, .unset] [(.int (v0_3 p0 p1 p2 p3 p4 q5))])) _
        refine XS.iload X2.here hx rfl (hb hby at_110) rfl ?_
        show Steps p.tables e below (T2.setTop (mkF m 112 #[.val (.int p0), .val (.int p1), .val (.int p2), .val (.int p3), .val (.int p4), .val (.long q5), .second, .val (.int (v0_1 p0 p1 p2 p3 p4 q5)), .val (.int (v0_3 p0 p1 p2 p3 p4 q5)), .val (.int p2), .val (.int (v0_4 p0 p1 p2 p3 p4 q5)), .val (.int (v0_6 p0 p1 p2 p3 p4 q5)), .val (.int (v0_7 p0 p1 p2 p3 p4 q5)), .val (.int (v0_9 p0 p1 p2 p3 p4 q5)), .val (.int (v0_1 p0 p1 p2 p3 p4 q5)), .val (.int (v0_3 p0 p1 p2 p3 p4 q5)), .val (.int p2), .val (.int (v0_4 p0 p1 p2 p3 p4 q5)), .val (.int (v0_6 p0 p1 p2 p3 p4 q5)), .unset, .unset, .unset, .unset] [(.int (v0_9 p0 p1 p2 p3 p4 q5)), (.int (v0_3 p0 p1 p2 p3 p4 q5))])) _
        refine XT.iconstV X2.here hx rfl (1 : Int32) (hb hby at_112) (by decide) ?_
        show Steps p.tables e below (T2.setTop (mkF m 113 #[.val (.int p0), .val (.int p1), .val (.int p2), .val (.int p3), .val (.int p4), .val (.long q5), .second, .val (.int (v0_1 p0 p1 p2 p3 p4 q5)), .val (.int (v0_3 p0 p1 p2 p3 p4 q5)), .val (.int p2), .val (.int (v0_4 p0 p1 p2 p3 p4 q5)), .val (.int (v0_6 p0 p1 p2 p3 p4 q5)), .val (.int (v0_7 p0 p1 p2 p3 p4 q5)), .val (.int (v0_9 p0 p1 p2 p3 p4 q5)), .val (.int (v0_1 p0 p1 p2 p3 p4 q5)), .val (.int (v0_3 p0 p1 p2 p3 p4 q5)), .val (.int p2), .val (.int (v0_4 p0 p1 p2 p3 p4 q5)), .val (.int (v0_6 p0 p1 p2 p3 p4 q5)), .unset, .unset, .unset, .unset] [(.int (1 : Int32)), (.int (v0_9 p0 p1 p2 p3 p4 q5)), (.int (v0_3 p0 p1 p2 p3 p4 q5))])) _
        refine st11 _ ?_
        show Steps p.tables e below (T11.setTop (mkF m 116 #[.val (.int p0), .val (.int p1), .val (.int p2), .val (.int p3), .val (.int p4), .val (.long q5), .second, .val (.int (v0_1 p0 p1 p2 p3 p4 q5)), .val (.int (v0_3 p0 p1 p2 p3 p4 q5)), .val (.int p2), .val (.int (v0_4 p0 p1 p2 p3 p4 q5)), .val (.int (v0_6 p0 p1 p2 p3 p4 q5)), .val (.int (v0_7 p0 p1 p2 p3 p4 q5)), .val (.int (v0_9 p0 p1 p2 p3 p4 q5)), .val (.int (v0_1 p0 p1 p2 p3 p4 q5)), .val (.int (v0_3 p0 p1 p2 p3 p4 q5)), .val (.int p2), .val (.int (v0_4 p0 p1 p2 p3 p4 q5)), .val (.int (v0_6 p0 p1 p2 p3 p4 q5)), .unset, .unset, .unset, .unset] [(.int (f2 (v0_3 p0 p1 p2 p3 p4 q5) (v0_9 p0 p1 p2 p3 p4 q5) (1 : Int32)))])) _
        refine XS.istore X11.here hx rfl (hb hby at_116) rfl (l' := #[.val (.int p0), .val (.int p1), .val (.int p2), .val (.int p3), .val (.int p4), .val (.long q5), .second, .val (.int (v0_1 p0 p1 p2 p3 p4 q5)), .val (.int (v0_3 p0 p1 p2 p3 p4 q5)), .val (.int p2), .val (.int (v0_4 p0 p1 p2 p3 p4 q5)), .val (.int (v0_6 p0 p1 p2 p3 p4 q5)), .val (.int (v0_7 p0 p1 p2 p3 p4 q5)), .val (.int (v0_9 p0 p1 p2 p3 p4 q5)), .val (.int (v0_1 p0 p1 p2 p3 p4 q5)), .val (.int (v0_11 p0 p1 p2 p3 p4 q5)), .val (.int p2), .val (.int (v0_4 p0 p1 p2 p3 p4 q5)), .val (.int (v0_6 p0 p1 p2 p3 p4 q5)), .unset, .unset, .unset, .unset]) rfl ?_
        show Steps p.tables e below (T11.setTop (mkF m 118 #[.val (.int p0), .val (.int p1), .val (.int p2), .val (.int p3), .val (.int p4), .val (.long q5), .second, .val (.int (v0_1 p0 p1 p2 p3 p4 q5)), .val (.int (v0_3 p0 p1 p2 p3 p4 q5)), .val (.int p2), .val (.int (v0_4 p0 p1 p2 p3 p4 q5)), .val (.int (v0_6 p0 p1 p2 p3 p4 q5)), .val (.int (v0_7 p0 p1 p2 p3 p4 q5)), .val (.int (v0_9 p0 p1 p2 p3 p4 q5)), .val (.int (v0_1 p0 p1 p2 p3 p4 q5)), .val (.int (v0_11 p0 p1 p2 p3 p4 q5)), .val (.int p2), .val (.int (v0_4 p0 p1 p2 p3 p4 q5)), .val (.int (v0_6 p0 p1 p2 p3 p4 q5)), .unset, .unset, .unset, .unset] [])) _
        refine XS.goto X11.here hx rfl (pc0 := 118) (pc' := 172) rfl (hb hby at_118) (by decide) (by decide) ?_
        exact k
      · skip
        have pre12 : ∀ t, Steps p.tables e below (T2.setTop (mkF m 124 #[.val (.int p0), .val (.int p1), .val (.int p2), .val (.int p3), .val (.int p4), .val (.long q5), .second, .val (.int (v0_1 p0 p1 p2 p3 p4 q5)), .val (.int (v0_3 p0 p1 p2 p3 p4 q5)), .val (.int p2), .val (.int (v0_4 p0 p1 p2 p3 p4 q5)), .val (.int (v0_6 p0 p1 p2 p3 p4 q5)), .val (.int (v0_7 p0 p1 p2 p3 p4 q5)), .val (.int (v0_9 p0 p1 p2 p3 p4 q5)), .val (.int (v0_1 p0 p1 p2 p3 p4 q5)), .val (.int (v0_3 p0 p1 p2 p3 p4 q5)), .val (.int p2), .val (.int (v0_4 p0 p1 p2 p3 p4 q5)), .val (.int (v0_6 p0 p1 p2 p3 p4 q5)), .unset, .unset, .unset, .unset] [(.int (2 : Int32)), (.int (v0_7 p0 p1 p2 p3 p4 q5))])) t → Steps p.tables e below (s₁.setTop (entryFrame m #[(.int p0), (.int p1), (.int p2), (.int p3), (.int p4), (.long q5)] maxLocals)) t := by
          intro t k
          refine pre9 t ?_
          show Steps p.tables e below (T2.setTop (mkF m 105 #[.val (.int p0), .val (.int p1), .val (.int p2), .val (.int p3), .val (.int p4), .val (.long q5), .second, .val (.int (v0_1 p0 p1 p2 p3 p4 q5)), .val (.int (v0_3 p0 p1 p2 p3 p4 q5)), .val (.int p2), .val (.int (v0_4 p0 p1 p2 p3 p4 q5)), .val (.int (v0_6 p0 p1 p2 p3 p4 q5)), .val (.int (v0_7 p0 p1 p2 p3 p4 q5)), .val (.int (v0_9 p0 p1 p2 p3 p4 q5)), .val (.int (v0_1 p0 p1 p2 p3 p4 q5)), .val (.int (v0_3 p0 p1 p2 p3 p4 q5)), .val (.int p2), .val (.int (v0_4 p0 p1 p2 p3 p4 q5)), .val (.int (v0_6 p0 p1 p2 p3 p4 q5)), .unset, .unset, .unset, .unset] [(.int (1 : Int32)), (.int (v0_7 p0 p1 p2 p3 p4 q5))])) _
          refine XS.icmpYes X2.here hx rfl (pc0 := 105) (pc' := 121) rfl (hb hby at_105) rfl (XT.ii_ne_t c10) (by decide) (by decide) ?_
          show Steps p.tables e below (T2.setTop (mkF m 121 #[.val (.int p0), .val (.int p1), .val (.int p2), .val (.int p3), .val (.int p4), .val (.long q5), .second, .val (.int (v0_1 p0 p1 p2 p3 p4 q5)), .val (.int (v0_3 p0 p1 p2 p3 p4 q5)), .val (.int p2), .val (.int (v0_4 p0 p1 p2 p3 p4 q5)), .val (.int (v0_6 p0 p1 p2 p3 p4 q5)), .val (.int (v0_7 p0 p1 p2 p3 p4 q5)), .val (.int (v0_9 p0 p1 p2 p3 p4 q5)), .val (.int (v0_1 p0 p1 p2 p3 p4 q5)), .val (.int (v0_3 p0 p1 p2 p3 p4 q5)), .val (.int p2), .val (.int (v0_4 p0 p1 p2 p3 p4 q5)), .val (.int (v0_6 p0 p1 p2 p3 p4 q5)), .unset, .unset, .unset, .unset] [])) _
          refine XS.iload X2.here hx rfl (hb hby at_121) rfl ?_
          show Steps p.tables e below (T2.setTop (mkF m 123 #[.val (.int p0), .val (.int p1), .val (.int p2), .val (.int p3), .val (.int p4), .val (.long q5), .second, .val (.int (v0_1 p0 p1 p2 p3 p4 q5)), .val (.int (v0_3 p0 p1 p2 p3 p4 q5)), .val (.int p2), .val (.int (v0_4 p0 p1 p2 p3 p4 q5)), .val (.int (v0_6 p0 p1 p2 p3 p4 q5)), .val (.int (v0_7 p0 p1 p2 p3 p4 q5)), .val (.int (v0_9 p0 p1 p2 p3 p4 q5)), .val (.int (v0_1 p0 p1 p2 p3 p4 q5)), .val (.int (v0_3 p0 p1 p2 p3 p4 q5)), .val (.int p2), .val (.int (v0_4 p0 p1 p2 p3 p4 q5)), .val (.int (v0_6 p0 p1 p2 p3 p4 q5)), .unset, .unset, .unset, .unset] [(.int (v0_7 p0 p1 p2 p3 p4 q5))])) _
          refine XT.iconstV X2.here hx rfl (2 : Int32) (hb hby at_123) (by decide) ?_
          exact k
        by_cases c13 : (v0_7 p0 p1 p2 p3 p4 q5) = (2 : Int32)
        · skip
          refine ⟨T2, _, X2, e2, N2, fun t k => ?_⟩
          rw [show (v0_15 p0 p1 p2 p3 p4 q5) = (v0_1 p0 p1 p2 p3 p4 q5) from (((if_neg c7).trans (if_neg c10)).trans (if_pos c13))] at k
          rw [show (v0_16 p0 p1 p2 p3 p4 q5) = (v0_3 p0 p1 p2 p3 p4 q5) from (((if_neg c7).trans (if_neg c10)).trans (if_pos c13))] at k
          rw [show (v0_17 p0 p1 p2 p3 p4 q5) = (v0_12 p0 p1 p2 p3 p4 q5) from (((if_neg c7).trans (if_neg c10)).trans (if_pos c13))] at k
          rw [show (v0_18 p0 p1 p2 p3 p4 q5) = (v0_4 p0 p1 p2 p3 p4 q5) from (((if_neg c7).trans (if_neg c10)).trans (if_pos c13))] at k
          rw [show (v0_19 p0 p1 p2 p3 p4 q5) = (v0_6 p0 p1 p2 p3 p4 q5) from (((if_neg c7).trans (if_neg c10)).trans (if_pos c13))] at k
          refine pre12 t ?_
          show Steps p.tables e below (T2.setTop (mkF m 124 #[.val (.int p0), .val (.int p1), .val (.int p2), .val (.int p3), .val (.int p4), .val (.long q5), .second, .val (.int (v0_1 p0 p1 p2 p3 p4 q5)), .val (.int (v0_3 p0 p1 p2 p3 p4 q5)), .val (.int p2), .val (.int (v0_4 p0 p1 p2 p3 p4 q5)), .val (.int (v0_6 p0 p1 p2 p3 p4 q5)), .val (.int (v0_7 p0 p1 p2 p3 p4 q5)), .val (.int (v0_9 p0 p1 p2 p3 p4 q5)), .val (.int (v0_1 p0 p1 p2 p3 p4 q5)), .val (.int (v0_3 p0 p1 p2 p3 p4 q5)), .val (.int p2), .val (.int (v0_4 p0 p1 p2 p3 p4 q5)), .val (.int (v0_6 p0 p1 p2 p3 p4 q5)), .unset, .unset, .unset, .unset] [(.int (2 : Int32)), (.int (v0_7 p0 p1 p2 p3 p4 q5))])) _
          refine XS.icmpNo X2.here hx rfl (hb hby at_124) rfl (XT.ii_ne_f c13) ?_
          show Steps p.tables e below (T2.setTop (mkF m 127 #[.val (.int p0), .val (.int p1), .val (.int p2), .val (.int p3), .val (.int p4), .val (.long q5), .second, .val (.int (v0_1 p0 p1 p2 p3 p4 q5)), .val (.int (v0_3 p0 p1 p2 p3 p4 q5)), .val (.int p2), .val (.int (v0_4 p0 p1 p2 p3 p4 q5)), .val (.int (v0_6 p0 p1 p2 p3 p4 q5)), .val (.int (v0_7 p0 p1 p2 p3 p4 q5)), .val (.int (v0_9 p0 p1 p2 p3 p4 q5)), .val (.int (v0_1 p0 p1 p2 p3 p4 q5)), .val (.int (v0_3 p0 p1 p2 p3 p4 q5)), .val (.int p2), .val (.int (v0_4 p0 p1 p2 p3 p4 q5)), .val (.int (v0_6 p0 p1 p2 p3 p4 q5)), .unset, .unset, .unset, .unset] [])) _
          refine XS.iload X2.here hx rfl (hb hby at_127) rfl ?_
          show Steps p.tables e below (T2.setTop (mkF m 129 #[.val (.int p0), .val (.int p1), .val (.int p2), .val (.int p3), .val (.int p4), .val (.long q5), .second, .val (.int (v0_1 p0 p1 p2 p3 p4 q5)), .val (.int (v0_3 p0 p1 p2 p3 p4 q5)), .val (.int p2), .val (.int (v0_4 p0 p1 p2 p3 p4 q5)), .val (.int (v0_6 p0 p1 p2 p3 p4 q5)), .val (.int (v0_7 p0 p1 p2 p3 p4 q5)), .val (.int (v0_9 p0 p1 p2 p3 p4 q5)), .val (.int (v0_1 p0 p1 p2 p3 p4 q5)), .val (.int (v0_3 p0 p1 p2 p3 p4 q5)), .val (.int p2), .val (.int (v0_4 p0 p1 p2 p3 p4 q5)), .val (.int (v0_6 p0 p1 p2 p3 p4 q5)), .unset, .unset, .unset, .unset] [(.int p2)])) _
          refine XS.iload X2.here hx rfl (hb hby at_129) rfl ?_
          show Steps p.tables e below (T2.setTop (mkF m 131 #[.val (.int p0), .val (.int p1), .val (.int p2), .val (.int p3), .val (.int p4), .val (.long q5), .second, .val (.int (v0_1 p0 p1 p2 p3 p4 q5)), .val (.int (v0_3 p0 p1 p2 p3 p4 q5)), .val (.int p2), .val (.int (v0_4 p0 p1 p2 p3 p4 q5)), .val (.int (v0_6 p0 p1 p2 p3 p4 q5)), .val (.int (v0_7 p0 p1 p2 p3 p4 q5)), .val (.int (v0_9 p0 p1 p2 p3 p4 q5)), .val (.int (v0_1 p0 p1 p2 p3 p4 q5)), .val (.int (v0_3 p0 p1 p2 p3 p4 q5)), .val (.int p2), .val (.int (v0_4 p0 p1 p2 p3 p4 q5)), .val (.int (v0_6 p0 p1 p2 p3 p4 q5)), .unset, .unset, .unset, .unset] [(.int (v0_9 p0 p1 p2 p3 p4 q5)), (.int p2)])) _
          refine XT.ixor X2.here hx rfl (hb hby at_131) rfl ?_
          show Steps p.tables e below (T2.setTop (mkF m 132 #[.val (.int p0), .val (.int p1), .val (.int p2), .val (.int p3), .val (.int p4), .val (.long q5), .second, .val (.int (v0_1 p0 p1 p2 p3 p4 q5)), .val (.int (v0_3 p0 p1 p2 p3 p4 q5)), .val (.int p2), .val (.int (v0_4 p0 p1 p2 p3 p4 q5)), .val (.int (v0_6 p0 p1 p2 p3 p4 q5)), .val (.int (v0_7 p0 p1 p2 p3 p4 q5)), .val (.int (v0_9 p0 p1 p2 p3 p4 q5)), .val (.int (v0_1 p0 p1 p2 p3 p4 q5)), .val (.int (v0_3 p0 p1 p2 p3 p4 q5)), .val (.int p2), .val (.int (v0_4 p0 p1 p2 p3 p4 q5)), .val (.int (v0_6 p0 p1 p2 p3 p4 q5)), .unset, .unset, .unset, .unset] [(.int (p2 ^^^ (v0_9 p0 p1 p2 p3 p4 q5)))])) _
          refine XS.istore X2.here hx rfl (hb hby at_132) rfl (l' := #[.val (.int p0), .val (.int p1), .val (.int p2), .val (.int p3), .val (.int p4), .val (.long q5), .second, .val (.int (v0_1 p0 p1 p2 p3 p4 q5)), .val (.int (v0_3 p0 p1 p2 p3 p4 q5)), .val (.int p2), .val (.int (v0_4 p0 p1 p2 p3 p4 q5)), .val (.int (v0_6 p0 p1 p2 p3 p4 q5)), .val (.int (v0_7 p0 p1 p2 p3 p4 q5)), .val (.int (v0_9 p0 p1 p2 p3 p4 q5)), .val (.int (v0_1 p0 p1 p2 p3 p4 q5)), .val (.int (v0_3 p0 p1 p2 p3 p4 q5)), .val (.int (v0_12 p0 p1 p2 p3 p4 q5)), .val (.int (v0_4 p0 p1 p2 p3 p4 q5)), .val (.int (v0_6 p0 p1 p2 p3 p4 q5)), .unset, .unset, .unset, .unset]) rfl ?_
          show Steps p.tables e below (T2.setTop (mkF m 134 #[.val (.int p0), .val (.int p1), .val (.int p2), .val (.int p3), .val (.int p4), .val (.long q5), .second, .val (.int (v0_1 p0 p1 p2 p3 p4 q5)), .val (.int (v0_3 p0 p1 p2 p3 p4 q5)), .val (.int p2), .val (.int (v0_4 p0 p1 p2 p3 p4 q5)), .val (.int (v0_6 p0 p1 p2 p3 p4 q5)), .val (.int (v0_7 p0 p1 p2 p3 p4 q5)), .val (.int (v0_9 p0 p1 p2 p3 p4 q5)), .val (.int (v0_1 p0 p1 p2 p3 p4 q5)), .val (.int (v0_3 p0 p1 p2 p3 p4 q5)), .val (.int (v0_12 p0 p1 p2 p3 p4 q5)), .val (.int (v0_4 p0 p1 p2 p3 p4 q5)), .val (.int (v0_6 p0 p1 p2 p3 p4 q5)), .unset, .unset, .unset, .unset] [])) _
          refine XS.goto X2.here hx rfl (pc0 := 134) (pc' := 172) rfl (hb hby at_134) (by decide) (by decide) ?_
          exact k
        · skip
          have pre14 : ∀ t, Steps p.tables e below (T2.setTop (mkF m 140 #[.val (.int p0), .val (.int p1), .val (.int p2), .val (.int p3), .val (.int p4), .val (.long q5), .second, .val (.int (v0_1 p0 p1 p2 p3 p4 q5)), .val (.int (v0_3 p0 p1 p2 p3 p4 q5)), .val (.int p2), .val (.int (v0_4 p0 p1 p2 p3 p4 q5)), .val (.int (v0_6 p0 p1 p2 p3 p4 q5)), .val (.int (v0_7 p0 p1 p2 p3 p4 q5)), .val (.int (v0_9 p0 p1 p2 p3 p4 q5)), .val (.int (v0_1 p0 p1 p2 p3 p4 q5)), .val (.int (v0_3 p0 p1 p2 p3 p4 q5)), .val (.int p2), .val (.int (v0_4 p0 p1 p2 p3 p4 q5)), .val (.int (v0_6 p0 p1 p2 p3 p4 q5)), .unset, .unset, .unset, .unset] [(.int (3 : Int32)), (.int (v0_7 p0 p1 p2 p3 p4 q5))])) t → Steps p.tables e below (s₁.setTop (entryFrame m #[(.int p0), (.int p1), (.int p2), (.int p3), (.int p4), (.long q5)] maxLocals)) t := by
            intro t k
            refine pre12 t ?_
            show Steps p.tables e below (T2.setTop (mkF m 124 #[.val (.int p0), .val (.int p1), .val (.int p2), .val (.int p3), .val (.int p4), .val (.long q5), .second, .val (.int (v0_1 p0 p1 p2 p3 p4 q5)), .val (.int (v0_3 p0 p1 p2 p3 p4 q5)), .val (.int p2), .val (.int (v0_4 p0 p1 p2 p3 p4 q5)), .val (.int (v0_6 p0 p1 p2 p3 p4 q5)), .val (.int (v0_7 p0 p1 p2 p3 p4 q5)), .val (.int (v0_9 p0 p1 p2 p3 p4 q5)), .val (.int (v0_1 p0 p1 p2 p3 p4 q5)), .val (.int (v0_3 p0 p1 p2 p3 p4 q5)), .val (.int p2), .val (.int (v0_4 p0 p1 p2 p3 p4 q5)), .val (.int (v0_6 p0 p1 p2 p3 p4 q5)), .unset, .unset, .unset, .unset] [(.int (2 : Int32)), (.int (v0_7 p0 p1 p2 p3 p4 q5))])) _
            refine XS.icmpYes X2.here hx rfl (pc0 := 124) (pc' := 137) rfl (hb hby at_124) rfl (XT.ii_ne_t c13) (by decide) (by decide) ?_
            show Steps p.tables e below (T2.setTop (mkF m 137 #[.val (.int p0), .val (.int p1), .val (.int p2), .val (.int p3), .val (.int p4), .val (.long q5), .second, .val (.int (v0_1 p0 p1 p2 p3 p4 q5)), .val (.int (v0_3 p0 p1 p2 p3 p4 q5)), .val (.int p2), .val (.int (v0_4 p0 p1 p2 p3 p4 q5)), .val (.int (v0_6 p0 p1 p2 p3 p4 q5)), .val (.int (v0_7 p0 p1 p2 p3 p4 q5)), .val (.int (v0_9 p0 p1 p2 p3 p4 q5)), .val (.int (v0_1 p0 p1 p2 p3 p4 q5)), .val (.int (v0_3 p0 p1 p2 p3 p4 q5)), .val (.int p2), .val (.int (v0_4 p0 p1 p2 p3 p4 q5)), .val (.int (v0_6 p0 p1 p2 p3 p4 q5)), .unset, .unset, .unset, .unset] [])) _
            refine XS.iload X2.here hx rfl (hb hby at_137) rfl ?_
            show Steps p.tables e below (T2.setTop (mkF m 139 #[.val (.int p0), .val (.int p1), .val (.int p2), .val (.int p3), .val (.int p4), .val (.long q5), .second, .val (.int (v0_1 p0 p1 p2 p3 p4 q5)), .val (.int (v0_3 p0 p1 p2 p3 p4 q5)), .val (.int p2), .val (.int (v0_4 p0 p1 p2 p3 p4 q5)), .val (.int (v0_6 p0 p1 p2 p3 p4 q5)), .val (.int (v0_7 p0 p1 p2 p3 p4 q5)), .val (.int (v0_9 p0 p1 p2 p3 p4 q5)), .val (.int (v0_1 p0 p1 p2 p3 p4 q5)), .val (.int (v0_3 p0 p1 p2 p3 p4 q5)), .val (.int p2), .val (.int (v0_4 p0 p1 p2 p3 p4 q5)), .val (.int (v0_6 p0 p1 p2 p3 p4 q5)), .unset, .unset, .unset, .unset] [(.int (v0_7 p0 p1 p2 p3 p4 q5))])) _
            refine XT.iconstV X2.here hx rfl (3 : Int32) (hb hby at_139) (by decide) ?_
            exact k
          by_cases c15 : (v0_7 p0 p1 p2 p3 p4 q5) = (3 : Int32)
          · skip
            obtain ⟨_, _, ⟨T16, L16, k16, n16⟩, -, X16, ⟨Lc16, hQ16, l16, y16, z16⟩, st16⟩ := Jvm.LawKit.callS X2 hx (y := (⟨"com/example/vannus/vannus/PassageHashCodePinLaw", "other", "(III)I"⟩ : MethodName)) hown (mvT hZ (hw _ (List.mem_of_getElem? (i := 6) rfl))) (mvT hZ (hw _ (List.mem_of_getElem? (i := 7) rfl))) (mvT hZ (hw _ (List.mem_of_getElem? (i := 8) rfl))) (mvT hZ (hw _ (List.mem_of_getElem? (i := 9) rfl))) (by decide) (backOf (W := 0) (rm2 l Z a0 hw [] (v0_4 p0 p1 p2 p3 p4 q5) (v0_9 p0 p1 p2 p3 p4 q5) (0 : Int32) h0 n0 Z0) hZ (hw _ (List.mem_of_getElem? (i := 9) rfl)) (hw _ (List.mem_of_getElem? (i := 8) rfl)) (by decide) (by decide)) (g := (mkF m 148 #[.val (.int p0), .val (.int p1), .val (.int p2), .val (.int p3), .val (.int p4), .val (.long q5), .second, .val (.int (v0_1 p0 p1 p2 p3 p4 q5)), .val (.int (v0_3 p0 p1 p2 p3 p4 q5)), .val (.int p2), .val (.int (v0_4 p0 p1 p2 p3 p4 q5)), .val (.int (v0_6 p0 p1 p2 p3 p4 q5)), .val (.int (v0_7 p0 p1 p2 p3 p4 q5)), .val (.int (v0_9 p0 p1 p2 p3 p4 q5)), .val (.int (v0_1 p0 p1 p2 p3 p4 q5)), .val (.int (v0_3 p0 p1 p2 p3 p4 q5)), .val (.int p2), .val (.int (v0_4 p0 p1 p2 p3 p4 q5)), .val (.int (v0_6 p0 p1 p2 p3 p4 q5)), .unset, .unset, .unset, .unset] [(.int (0 : Int32)), (.int (v0_9 p0 p1 p2 p3 p4 q5)), (.int (v0_4 p0 p1 p2 p3 p4 q5))])) rfl (by rw [hml]; rfl) (argsL := [(.int (v0_4 p0 p1 p2 p3 p4 q5)), (.int (v0_9 p0 p1 p2 p3 p4 q5)), (.int (0 : Int32))]) (rest := []) (lenOf pd__III_I rfl) rfl (by show 2 * 0 + _ ≤ _; exact Nat.le_of_eq rfl) (hb hby at_148) (fun _ _ => ⟨rfl, e2, (by decide : 0 + 0 ≤ _), (by decide : 0 + 0 ≤ _)⟩)
            dsimp only [Pt.U, Pt.locs, Pt.cells, Pt.slots] at X16 l16 y16 z16 st16 hQ16
            subst l16 y16 z16
            obtain ⟨N16q, rfl, e16⟩ := hQ16
            have N16 := Fr.app N2 N16q
            refine ⟨T16, _, X16, e16, N16, fun t k => ?_⟩
            rw [show (v0_15 p0 p1 p2 p3 p4 q5) = (v0_1 p0 p1 p2 p3 p4 q5) from ((((if_neg c7).trans (if_neg c10)).trans (if_neg c13)).trans (if_pos c15))] at k
            rw [show (v0_16 p0 p1 p2 p3 p4 q5) = (v0_3 p0 p1 p2 p3 p4 q5) from ((((if_neg c7).trans (if_neg c10)).trans (if_neg c13)).trans (if_pos c15))] at k
            rw [show (v0_17 p0 p1 p2 p3 p4 q5) = p2 from ((((if_neg c7).trans (if_neg c10)).trans (if_neg c13)).trans (if_pos c15))] at k
            rw [show (v0_18 p0 p1 p2 p3 p4 q5) = (v0_13 p0 p1 p2 p3 p4 q5) from ((((if_neg c7).trans (if_neg c10)).trans (if_neg c13)).trans (if_pos c15))] at k
            rw [show (v0_19 p0 p1 p2 p3 p4 q5) = (v0_6 p0 p1 p2 p3 p4 q5) from ((((if_neg c7).trans (if_neg c10)).trans (if_neg c13)).trans (if_pos c15))] at k
            refine pre14 t ?_
            show Steps p.tables e below (T2.setTop (mkF m 140 #[.val (.int p0), .val (.int p1), .val (.int p2), .val (.int p3), .val (.int p4), .val (.long q5), .second, .val (.int (v0_1 p0 p1 p2 p3 p4 q5)), .val (.int (v0_3 p0 p1 p2 p3 p4 q5)), .val (.int p2), .val (.int (v0_4 p0 p1 p2 p3 p4 q5)), .val (.int (v0_6 p0 p1 p2 p3 p4 q5)), .val (.int (v0_7 p0 p1 p2 p3 p4 q5)), .val (.int (v0_9 p0 p1 p2 p3 p4 q5)), .val (.int (v0_1 p0 p1 p2 p3 p4 q5)), .val (.int (v0_3 p0 p1 p2 p3 p4 q5)), .val (.int p2), .val (.int (v0_4 p0 p1 p2 p3 p4 q5)), .val (.int (v0_6 p0 p1 p2 p3 p4 q5)), .unset, .unset, .unset, .unset] [(.int (3 : Int32)), (.int (v0_7 p0 p1 p2 p3 p4 q5))])) _
            refine XS.icmpNo X2.here hx rfl (hb hby at_140) rfl (XT.ii_ne_f c15) ?_
            show Steps p.tables e below (T2.setTop (mkF m 143 #[.val (.int p0), .val (.int p1), .val (.int p2), .val (.int p3), .val (.int p4), .val (.long q5), .second, .val (.int (v0_1 p0 p1 p2 p3 p4 q5)), .val (.int (v0_3 p0 p1 p2 p3 p4 q5)), .val (.int p2), .val (.int (v0_4 p0 p1 p2 p3 p4 q5)), .val (.int (v0_6 p0 p1 p2 p3 p4 q5)), .val (.int (v0_7 p0 p1 p2 p3 p4 q5)), .val (.int (v0_9 p0 p1 p2 p3 p4 q5)), .val (.int (v0_1 p0 p1 p2 p3 p4 q5)), .val (.int (v0_3 p0 p1 p2 p3 p4 q5)), .val (.int p2), .val (.int (v0_4 p0 p1 p2 p3 p4 q5)), .val (.int (v0_6 p0 p1 p2 p3 p4 q5)), .unset, .unset, .unset, .unset] [])) _
            refine XS.iload X2.here hx rfl (hb hby at_143) rfl ?_
            show Steps p.tables e below (T2.setTop (mkF m 145 #[.val (.int p0), .val (.int p1), .val (.int p2), .val (.int p3), .val (.int p4), .val (.long q5), .second, .val (.int (v0_1 p0 p1 p2 p3 p4 q5)), .val (.int (v0_3 p0 p1 p2 p3 p4 q5)), .val (.int p2), .val (.int (v0_4 p0 p1 p2 p3 p4 q5)), .val (.int (v0_6 p0 p1 p2 p3 p4 q5)), .val (.int (v0_7 p0 p1 p2 p3 p4 q5)), .val (.int (v0_9 p0 p1 p2 p3 p4 q5)), .val (.int (v0_1 p0 p1 p2 p3 p4 q5)), .val (.int (v0_3 p0 p1 p2 p3 p4 q5)), .val (.int p2), .val (.int (v0_4 p0 p1 p2 p3 p4 q5)), .val (.int (v0_6 p0 p1 p2 p3 p4 q5)), .unset, .unset, .unset, .unset] [(.int (v0_4 p0 p1 p2 p3 p4 q5))])) _
            refine XS.iload X2.here hx rfl (hb hby at_145) rfl ?_
            show Steps p.tables e below (T2.setTop (mkF m 147 #[.val (.int p0), .val (.int p1), .val (.int p2), .val (.int p3), .val (.int p4), .val (.long q5), .second, .val (.int (v0_1 p0 p1 p2 p3 p4 q5)), .val (.int (v0_3 p0 p1 p2 p3 p4 q5)), .val (.int p2), .val (.int (v0_4 p0 p1 p2 p3 p4 q5)), .val (.int (v0_6 p0 p1 p2 p3 p4 q5)), .val (.int (v0_7 p0 p1 p2 p3 p4 q5)), .val (.int (v0_9 p0 p1 p2 p3 p4 q5)), .val (.int (v0_1 p0 p1 p2 p3 p4 q5)), .val (.int (v0_3 p0 p1 p2 p3 p4 q5)), .val (.int p2), .val (.int (v0_4 p0 p1 p2 p3 p4 q5)), .val (.int (v0_6 p0 p1 p2 p3 p4 q5)), .unset, .unset, .unset, .unset] [(.int (v0_9 p0 p1 p2 p3 p4 q5)), (.int (v0_4 p0 p1 p2 p3 p4 q5))])) _
            refine XT.iconstV X2.here hx rfl (0 : Int32) (hb hby at_147) (by decide) ?_
            show Steps p.tables e below (T2.setTop (mkF m 148 #[.val (.int p0), .val (.int p1), .val (.int p2), .val (.int p3), .val (.int p4), .val (.long q5), .second, .val (.int (v0_1 p0 p1 p2 p3 p4 q5)), .val (.int (v0_3 p0 p1 p2 p3 p4 q5)), .val (.int p2), .val (.int (v0_4 p0 p1 p2 p3 p4 q5)), .val (.int (v0_6 p0 p1 p2 p3 p4 q5)), .val (.int (v0_7 p0 p1 p2 p3 p4 q5)), .val (.int (v0_9 p0 p1 p2 p3 p4 q5)), .val (.int (v0_1 p0 p1 p2 p3 p4 q5)), .val (.int (v0_3 p0 p1 p2 p3 p4 q5)), .val (.int p2), .val (.int (v0_4 p0 p1 p2 p3 p4 q5)), .val (.int (v0_6 p0 p1 p2 p3 p4 q5)), .unset, .unset, .unset, .unset] [(.int (0 : Int32)), (.int (v0_9 p0 p1 p2 p3 p4 q5)), (.int (v0_4 p0 p1 p2 p3 p4 q5))])) _
            refine st16 _ ?_
            show Steps p.tables e below (T16.setTop (mkF m 151 #[.val (.int p0), .val (.int p1), .val (.int p2), .val (.int p3), .val (.int p4), .val (.long q5), .second, .val (.int (v0_1 p0 p1 p2 p3 p4 q5)), .val (.int (v0_3 p0 p1 p2 p3 p4 q5)), .val (.int p2), .val (.int (v0_4 p0 p1 p2 p3 p4 q5)), .val (.int (v0_6 p0 p1 p2 p3 p4 q5)), .val (.int (v0_7 p0 p1 p2 p3 p4 q5)), .val (.int (v0_9 p0 p1 p2 p3 p4 q5)), .val (.int (v0_1 p0 p1 p2 p3 p4 q5)), .val (.int (v0_3 p0 p1 p2 p3 p4 q5)), .val (.int p2), .val (.int (v0_4 p0 p1 p2 p3 p4 q5)), .val (.int (v0_6 p0 p1 p2 p3 p4 q5)), .unset, .unset, .unset, .unset] [(.int (f2 (v0_4 p0 p1 p2 p3 p4 q5) (v0_9 p0 p1 p2 p3 p4 q5) (0 : Int32)))])) _
            refine XS.istore X16.here hx rfl (hb hby at_151) rfl (l' := #[.val (.int p0), .val (.int p1), .val (.int p2), .val (.int p3), .val (.int p4), .val (.long q5), .second, .val (.int (v0_1 p0 p1 p2 p3 p4 q5)), .val (.int (v0_3 p0 p1 p2 p3 p4 q5)), .val (.int p2), .val (.int (v0_4 p0 p1 p2 p3 p4 q5)), .val (.int (v0_6 p0 p1 p2 p3 p4 q5)), .val (.int (v0_7 p0 p1 p2 p3 p4 q5)), .val (.int (v0_9 p0 p1 p2 p3 p4 q5)), .val (.int (v0_1 p0 p1 p2 p3 p4 q5)), .val (.int (v0_3 p0 p1 p2 p3 p4 q5)), .val (.int p2), .val (.int (v0_13 p0 p1 p2 p3 p4 q5)), .val (.int (v0_6 p0 p1 p2 p3 p4 q5)), .unset, .unset, .unset, .unset]) rfl ?_
            show Steps p.tables e below (T16.setTop (mkF m 153 #[.val (.int p0), .val (.int p1), .val (.int p2), .val (.int p3), .val (.int p4), .val (.long q5), .second, .val (.int (v0_1 p0 p1 p2 p3 p4 q5)), .val (.int (v0_3 p0 p1 p2 p3 p4 q5)), .val (.int p2), .val (.int (v0_4 p0 p1 p2 p3 p4 q5)), .val (.int (v0_6 p0 p1 p2 p3 p4 q5)), .val (.int (v0_7 p0 p1 p2 p3 p4 q5)), .val (.int (v0_9 p0 p1 p2 p3 p4 q5)), .val (.int (v0_1 p0 p1 p2 p3 p4 q5)), .val (.int (v0_3 p0 p1 p2 p3 p4 q5)), .val (.int p2), .val (.int (v0_13 p0 p1 p2 p3 p4 q5)), .val (.int (v0_6 p0 p1 p2 p3 p4 q5)), .unset, .unset, .unset, .unset] [])) _
            refine XS.goto X16.here hx rfl (pc0 := 153) (pc' := 172) rfl (hb hby at_153) (by decide) (by decide) ?_
            exact k
          · skip
            have pre17 : ∀ t, Steps p.tables e below (T2.setTop (mkF m 159 #[.val (.int p0), .val (.int p1), .val (.int p2), .val (.int p3), .val (.int p4), .val (.long q5), .second, .val (.int (v0_1 p0 p1 p2 p3 p4 q5)), .val (.int (v0_3 p0 p1 p2 p3 p4 q5)), .val (.int p2), .val (.int (v0_4 p0 p1 p2 p3 p4 q5)), .val (.int (v0_6 p0 p1 p2 p3 p4 q5)), .val (.int (v0_7 p0 p1 p2 p3 p4 q5)), .val (.int (v0_9 p0 p1 p2 p3 p4 q5)), .val (.int (v0_1 p0 p1 p2 p3 p4 q5)), .val (.int (v0_3 p0 p1 p2 p3 p4 q5)), .val (.int p2), .val (.int (v0_4 p0 p1 p2 p3 p4 q5)), .val (.int (v0_6 p0 p1 p2 p3 p4 q5)), .unset, .unset, .unset, .unset] [(.int (4 : Int32)), (.int (v0_7 p0 p1 p2 p3 p4 q5))])) t → Steps p.tables e below (s₁.setTop (entryFrame m #[(.int p0), (.int p1), (.int p2), (.int p3), (.int p4), (.long q5)] maxLocals)) t := by
              intro t k
              refine pre14 t ?_
              show Steps p.tables e below (T2.setTop (mkF m 140 #[.val (.int p0), .val (.int p1), .val (.int p2), .val (.int p3), .val (.int p4), .val (.long q5), .second, .val (.int (v0_1 p0 p1 p2 p3 p4 q5)), .val (.int (v0_3 p0 p1 p2 p3 p4 q5)), .val (.int p2), .val (.int (v0_4 p0 p1 p2 p3 p4 q5)), .val (.int (v0_6 p0 p1 p2 p3 p4 q5)), .val (.int (v0_7 p0 p1 p2 p3 p4 q5)), .val (.int (v0_9 p0 p1 p2 p3 p4 q5)), .val (.int (v0_1 p0 p1 p2 p3 p4 q5)), .val (.int (v0_3 p0 p1 p2 p3 p4 q5)), .val (.int p2), .val (.int (v0_4 p0 p1 p2 p3 p4 q5)), .val (.int (v0_6 p0 p1 p2 p3 p4 q5)), .unset, .unset, .unset, .unset] [(.int (3 : Int32)), (.int (v0_7 p0 p1 p2 p3 p4 q5))])) _
              refine XS.icmpYes X2.here hx rfl (pc0 := 140) (pc' := 156) rfl (hb hby at_140) rfl (XT.ii_ne_t c15) (by decide) (by decide) ?_
              show Steps p.tables e below (T2.setTop (mkF m 156 #[.val (.int p0), .val (.int p1), .val (.int p2), .val (.int p3), .val (.int p4), .val (.long q5), .second, .val (.int (v0_1 p0 p1 p2 p3 p4 q5)), .val (.int (v0_3 p0 p1 p2 p3 p4 q5)), .val (.int p2), .val (.int (v0_4 p0 p1 p2 p3 p4 q5)), .val (.int (v0_6 p0 p1 p2 p3 p4 q5)), .val (.int (v0_7 p0 p1 p2 p3 p4 q5)), .val (.int (v0_9 p0 p1 p2 p3 p4 q5)), .val (.int (v0_1 p0 p1 p2 p3 p4 q5)), .val (.int (v0_3 p0 p1 p2 p3 p4 q5)), .val (.int p2), .val (.int (v0_4 p0 p1 p2 p3 p4 q5)), .val (.int (v0_6 p0 p1 p2 p3 p4 q5)), .unset, .unset, .unset, .unset] [])) _
              refine XS.iload X2.here hx rfl (hb hby at_156) rfl ?_
              show Steps p.tables e below (T2.setTop (mkF m 158 #[.val (.int p0), .val (.int p1), .val (.int p2), .val (.int p3), .val (.int p4), .val (.long q5), .second, .val (.int (v0_1 p0 p1 p2 p3 p4 q5)), .val (.int (v0_3 p0 p1 p2 p3 p4 q5)), .val (.int p2), .val (.int (v0_4 p0 p1 p2 p3 p4 q5)), .val (.int (v0_6 p0 p1 p2 p3 p4 q5)), .val (.int (v0_7 p0 p1 p2 p3 p4 q5)), .val (.int (v0_9 p0 p1 p2 p3 p4 q5)), .val (.int (v0_1 p0 p1 p2 p3 p4 q5)), .val (.int (v0_3 p0 p1 p2 p3 p4 q5)), .val (.int p2), .val (.int (v0_4 p0 p1 p2 p3 p4 q5)), .val (.int (v0_6 p0 p1 p2 p3 p4 q5)), .unset, .unset, .unset, .unset] [(.int (v0_7 p0 p1 p2 p3 p4 q5))])) _
              refine XT.iconstV X2.here hx rfl (4 : Int32) (hb hby at_158) (by decide) ?_
              exact k
            by_cases c18 : (v0_7 p0 p1 p2 p3 p4 q5) = (4 : Int32)
            · skip
              obtain ⟨_, _, ⟨T19, L19, k19, n19⟩, -, X19, ⟨Lc19, hQ19, l19, y19, z19⟩, st19⟩ := Jvm.LawKit.callS X2 hx (y := (⟨"com/example/vannus/vannus/PassageHashCodePinLaw", "other", "(III)I"⟩ : MethodName)) hown (mvT hZ (hw _ (List.mem_of_getElem? (i := 6) rfl))) (mvT hZ (hw _ (List.mem_of_getElem? (i := 7) rfl))) (mvT hZ (hw _ (List.mem_of_getElem? (i := 8) rfl))) (mvT hZ (hw _ (List.mem_of_getElem? (i := 9) rfl))) (by decide) (backOf (W := 0) (rm2 l Z a0 hw [] (v0_6 p0 p1 p2 p3 p4 q5) (v0_9 p0 p1 p2 p3 p4 q5) (1 : Int32) h0 n0 Z0) hZ (hw _ (List.mem_of_getElem? (i := 9) rfl)) (hw _ (List.mem_of_getElem? (i := 8) rfl)) (by decide) (by decide)) (g := (mkF m 167 #[.val (.int p0), .val (.int p1), .val (.int p2), .val (.int p3), .val (.int p4), .val (.long q5), .second, .val (.int (v0_1 p0 p1 p2 p3 p4 q5)), .val (.int (v0_3 p0 p1 p2 p3 p4 q5)), .val (.int p2), .val (.int (v0_4 p0 p1 p2 p3 p4 q5)), .val (.int (v0_6 p0 p1 p2 p3 p4 q5)), .val (.int (v0_7 p0 p1 p2 p3 p4 q5)), .val (.int (v0_9 p0 p1 p2 p3 p4 q5)), .val (.int (v0_1 p0 p1 p2 p3 p4 q5)), .val (.int (v0_3 p0 p1 p2 p3 p4 q5)), .val (.int p2), .val (.int (v0_4 p0 p1 p2 p3 p4 q5)), .val (.int (v0_6 p0 p1 p2 p3 p4 q5)), .unset, .unset, .unset, .unset] [(.int (1 : Int32)), (.int (v0_9 p0 p1 p2 p3 p4 q5)), (.int (v0_6 p0 p1 p2 p3 p4 q5))])) rfl (by rw [hml]; rfl) (argsL := [(.int (v0_6 p0 p1 p2 p3 p4 q5)), (.int (v0_9 p0 p1 p2 p3 p4 q5)), (.int (1 : Int32))]) (rest := []) (lenOf pd__III_I rfl) rfl (by show 2 * 0 + _ ≤ _; exact Nat.le_of_eq rfl) (hb hby at_167) (fun _ _ => ⟨rfl, e2, (by decide : 0 + 0 ≤ _), (by decide : 0 + 0 ≤ _)⟩)
              dsimp only [Pt.U, Pt.locs, Pt.cells, Pt.slots] at X19 l19 y19 z19 st19 hQ19
              subst l19 y19 z19
              obtain ⟨N19q, rfl, e19⟩ := hQ19
              have N19 := Fr.app N2 N19q
              refine ⟨T19, _, X19, e19, N19, fun t k => ?_⟩
              rw [show (v0_15 p0 p1 p2 p3 p4 q5) = (v0_1 p0 p1 p2 p3 p4 q5) from (((((if_neg c7).trans (if_neg c10)).trans (if_neg c13)).trans (if_neg c15)).trans (if_pos c18))] at k
              rw [show (v0_16 p0 p1 p2 p3 p4 q5) = (v0_3 p0 p1 p2 p3 p4 q5) from (((((if_neg c7).trans (if_neg c10)).trans (if_neg c13)).trans (if_neg c15)).trans (if_pos c18))] at k
              rw [show (v0_17 p0 p1 p2 p3 p4 q5) = p2 from (((((if_neg c7).trans (if_neg c10)).trans (if_neg c13)).trans (if_neg c15)).trans (if_pos c18))] at k
              rw [show (v0_18 p0 p1 p2 p3 p4 q5) = (v0_4 p0 p1 p2 p3 p4 q5) from (((((if_neg c7).trans (if_neg c10)).trans (if_neg c13)).trans (if_neg c15)).trans (if_pos c18))] at k
              rw [show (v0_19 p0 p1 p2 p3 p4 q5) = (v0_14 p0 p1 p2 p3 p4 q5) from (((((if_neg c7).trans (if_neg c10)).trans (if_neg c13)).trans (if_neg c15)).trans (if_pos c18))] at k
              refine pre17 t ?_
              show Steps p.tables e below (T2.setTop (mkF m 159 #[.val (.int p0), .val (.int p1), .val (.int p2), .val (.int p3), .val (.int p4), .val (.long q5), .second, .val (.int (v0_1 p0 p1 p2 p3 p4 q5)), .val (.int (v0_3 p0 p1 p2 p3 p4 q5)), .val (.int p2), .val (.int (v0_4 p0 p1 p2 p3 p4 q5)), .val (.int (v0_6 p0 p1 p2 p3 p4 q5)), .val (.int (v0_7 p0 p1 p2 p3 p4 q5)), .val (.int (v0_9 p0 p1 p2 p3 p4 q5)), .val (.int (v0_1 p0 p1 p2 p3 p4 q5)), .val (.int (v0_3 p0 p1 p2 p3 p4 q5)), .val (.int p2), .val (.int (v0_4 p0 p1 p2 p3 p4 q5)), .val (.int (v0_6 p0 p1 p2 p3 p4 q5)), .unset, .unset, .unset, .unset] [(.int (4 : Int32)), (.int (v0_7 p0 p1 p2 p3 p4 q5))])) _
              refine XS.icmpNo X2.here hx rfl (hb hby at_159) rfl (XT.ii_ne_f c18) ?_
              show Steps p.tables e below (T2.setTop (mkF m 162 #[.val (.int p0), .val (.int p1), .val (.int p2), .val (.int p3), .val (.int p4), .val (.long q5), .second, .val (.int (v0_1 p0 p1 p2 p3 p4 q5)), .val (.int (v0_3 p0 p1 p2 p3 p4 q5)), .val (.int p2), .val (.int (v0_4 p0 p1 p2 p3 p4 q5)), .val (.int (v0_6 p0 p1 p2 p3 p4 q5)), .val (.int (v0_7 p0 p1 p2 p3 p4 q5)), .val (.int (v0_9 p0 p1 p2 p3 p4 q5)), .val (.int (v0_1 p0 p1 p2 p3 p4 q5)), .val (.int (v0_3 p0 p1 p2 p3 p4 q5)), .val (.int p2), .val (.int (v0_4 p0 p1 p2 p3 p4 q5)), .val (.int (v0_6 p0 p1 p2 p3 p4 q5)), .unset, .unset, .unset, .unset] [])) _
              refine XS.iload X2.here hx rfl (hb hby at_162) rfl ?_
              show Steps p.tables e below (T2.setTop (mkF m 164 #[.val (.int p0), .val (.int p1), .val (.int p2), .val (.int p3), .val (.int p4), .val (.long q5), .second, .val (.int (v0_1 p0 p1 p2 p3 p4 q5)), .val (.int (v0_3 p0 p1 p2 p3 p4 q5)), .val (.int p2), .val (.int (v0_4 p0 p1 p2 p3 p4 q5)), .val (.int (v0_6 p0 p1 p2 p3 p4 q5)), .val (.int (v0_7 p0 p1 p2 p3 p4 q5)), .val (.int (v0_9 p0 p1 p2 p3 p4 q5)), .val (.int (v0_1 p0 p1 p2 p3 p4 q5)), .val (.int (v0_3 p0 p1 p2 p3 p4 q5)), .val (.int p2), .val (.int (v0_4 p0 p1 p2 p3 p4 q5)), .val (.int (v0_6 p0 p1 p2 p3 p4 q5)), .unset, .unset, .unset, .unset] [(.int (v0_6 p0 p1 p2 p3 p4 q5))])) _
              refine XS.iload X2.here hx rfl (hb hby at_164) rfl ?_
              show Steps p.tables e below (T2.setTop (mkF m 166 #[.val (.int p0), .val (.int p1), .val (.int p2), .val (.int p3), .val (.int p4), .val (.long q5), .second, .val (.int (v0_1 p0 p1 p2 p3 p4 q5)), .val (.int (v0_3 p0 p1 p2 p3 p4 q5)), .val (.int p2), .val (.int (v0_4 p0 p1 p2 p3 p4 q5)), .val (.int (v0_6 p0 p1 p2 p3 p4 q5)), .val (.int (v0_7 p0 p1 p2 p3 p4 q5)), .val (.int (v0_9 p0 p1 p2 p3 p4 q5)), .val (.int (v0_1 p0 p1 p2 p3 p4 q5)), .val (.int (v0_3 p0 p1 p2 p3 p4 q5)), .val (.int p2), .val (.int (v0_4 p0 p1 p2 p3 p4 q5)), .val (.int (v0_6 p0 p1 p2 p3 p4 q5)), .unset, .unset, .unset, .unset] [(.int (v0_9 p0 p1 p2 p3 p4 q5)), (.int (v0_6 p0 p1 p2 p3 p4 q5))])) _
              refine XT.iconstV X2.here hx rfl (1 : Int32) (hb hby at_166) (by decide) ?_
              show Steps p.tables e below (T2.setTop (mkF m 167 #[.val (.int p0), .val (.int p1), .val (.int p2), .val (.int p3), .val (.int p4), .val (.long q5), .second, .val (.int (v0_1 p0 p1 p2 p3 p4 q5)), .val (.int (v0_3 p0 p1 p2 p3 p4 q5)), .val (.int p2), .val (.int (v0_4 p0 p1 p2 p3 p4 q5)), .val (.int (v0_6 p0 p1 p2 p3 p4 q5)), .val (.int (v0_7 p0 p1 p2 p3 p4 q5)), .val (.int (v0_9 p0 p1 p2 p3 p4 q5)), .val (.int (v0_1 p0 p1 p2 p3 p4 q5)), .val (.int (v0_3 p0 p1 p2 p3 p4 q5)), .val (.int p2), .val (.int (v0_4 p0 p1 p2 p3 p4 q5)), .val (.int (v0_6 p0 p1 p2 p3 p4 q5)), .unset, .unset, .unset, .unset] [(.int (1 : Int32)), (.int (v0_9 p0 p1 p2 p3 p4 q5)), (.int (v0_6 p0 p1 p2 p3 p4 q5))])) _
              refine st19 _ ?_
              show Steps p.tables e below (T19.setTop (mkF m 170 #[.val (.int p0), .val (.int p1), .val (.int p2), .val (.int p3), .val (.int p4), .val (.long q5), .second, .val (.int (v0_1 p0 p1 p2 p3 p4 q5)), .val (.int (v0_3 p0 p1 p2 p3 p4 q5)), .val (.int p2), .val (.int (v0_4 p0 p1 p2 p3 p4 q5)), .val (.int (v0_6 p0 p1 p2 p3 p4 q5)), .val (.int (v0_7 p0 p1 p2 p3 p4 q5)), .val (.int (v0_9 p0 p1 p2 p3 p4 q5)), .val (.int (v0_1 p0 p1 p2 p3 p4 q5)), .val (.int (v0_3 p0 p1 p2 p3 p4 q5)), .val (.int p2), .val (.int (v0_4 p0 p1 p2 p3 p4 q5)), .val (.int (v0_6 p0 p1 p2 p3 p4 q5)), .unset, .unset, .unset, .unset] [(.int (f2 (v0_6 p0 p1 p2 p3 p4 q5) (v0_9 p0 p1 p2 p3 p4 q5) (1 : Int32)))])) _
              refine XS.istore X19.here hx rfl (hb hby at_170) rfl (l' := #[.val (.int p0), .val (.int p1), .val (.int p2), .val (.int p3), .val (.int p4), .val (.long q5), .second, .val (.int (v0_1 p0 p1 p2 p3 p4 q5)), .val (.int (v0_3 p0 p1 p2 p3 p4 q5)), .val (.int p2), .val (.int (v0_4 p0 p1 p2 p3 p4 q5)), .val (.int (v0_6 p0 p1 p2 p3 p4 q5)), .val (.int (v0_7 p0 p1 p2 p3 p4 q5)), .val (.int (v0_9 p0 p1 p2 p3 p4 q5)), .val (.int (v0_1 p0 p1 p2 p3 p4 q5)), .val (.int (v0_3 p0 p1 p2 p3 p4 q5)), .val (.int p2), .val (.int (v0_4 p0 p1 p2 p3 p4 q5)), .val (.int (v0_14 p0 p1 p2 p3 p4 q5)), .unset, .unset, .unset, .unset]) rfl ?_
              exact k
            · skip
              refine ⟨T2, _, X2, e2, N2, fun t k => ?_⟩
              rw [show (v0_15 p0 p1 p2 p3 p4 q5) = (v0_1 p0 p1 p2 p3 p4 q5) from (((((if_neg c7).trans (if_neg c10)).trans (if_neg c13)).trans (if_neg c15)).trans (if_neg c18))] at k
              rw [show (v0_16 p0 p1 p2 p3 p4 q5) = (v0_3 p0 p1 p2 p3 p4 q5) from (((((if_neg c7).trans (if_neg c10)).trans (if_neg c13)).trans (if_neg c15)).trans (if_neg c18))] at k
              rw [show (v0_17 p0 p1 p2 p3 p4 q5) = p2 from (((((if_neg c7).trans (if_neg c10)).trans (if_neg c13)).trans (if_neg c15)).trans (if_neg c18))] at k
              rw [show (v0_18 p0 p1 p2 p3 p4 q5) = (v0_4 p0 p1 p2 p3 p4 q5) from (((((if_neg c7).trans (if_neg c10)).trans (if_neg c13)).trans (if_neg c15)).trans (if_neg c18))] at k
              rw [show (v0_19 p0 p1 p2 p3 p4 q5) = (v0_6 p0 p1 p2 p3 p4 q5) from (((((if_neg c7).trans (if_neg c10)).trans (if_neg c13)).trans (if_neg c15)).trans (if_neg c18))] at k
              refine pre17 t ?_
              show Steps p.tables e below (T2.setTop (mkF m 159 #[.val (.int p0), .val (.int p1), .val (.int p2), .val (.int p3), .val (.int p4), .val (.long q5), .second, .val (.int (v0_1 p0 p1 p2 p3 p4 q5)), .val (.int (v0_3 p0 p1 p2 p3 p4 q5)), .val (.int p2), .val (.int (v0_4 p0 p1 p2 p3 p4 q5)), .val (.int (v0_6 p0 p1 p2 p3 p4 q5)), .val (.int (v0_7 p0 p1 p2 p3 p4 q5)), .val (.int (v0_9 p0 p1 p2 p3 p4 q5)), .val (.int (v0_1 p0 p1 p2 p3 p4 q5)), .val (.int (v0_3 p0 p1 p2 p3 p4 q5)), .val (.int p2), .val (.int (v0_4 p0 p1 p2 p3 p4 q5)), .val (.int (v0_6 p0 p1 p2 p3 p4 q5)), .unset, .unset, .unset, .unset] [(.int (4 : Int32)), (.int (v0_7 p0 p1 p2 p3 p4 q5))])) _
              refine XS.icmpYes X2.here hx rfl (pc0 := 159) (pc' := 172) rfl (hb hby at_159) rfl (XT.ii_ne_t c18) (by decide) (by decide) ?_
              exact k
  obtain ⟨T21, h21, X21, e21, E21, A21, D21, -, st21⟩ := newO X20 hx hZ hown (hw _ (List.mem_of_getElem? (i := 10) rfl)) (hw _ (List.mem_of_getElem? (i := 11) rfl)) (hw _ (List.mem_of_getElem? (i := 12) rfl)) e20 (g := (mkF m 172 #[.val (.int p0), .val (.int p1), .val (.int p2), .val (.int p3), .val (.int p4), .val (.long q5), .second, .val (.int (v0_1 p0 p1 p2 p3 p4 q5)), .val (.int (v0_3 p0 p1 p2 p3 p4 q5)), .val (.int p2), .val (.int (v0_4 p0 p1 p2 p3 p4 q5)), .val (.int (v0_6 p0 p1 p2 p3 p4 q5)), .val (.int (v0_7 p0 p1 p2 p3 p4 q5)), .val (.int (v0_9 p0 p1 p2 p3 p4 q5)), .val (.int (v0_15 p0 p1 p2 p3 p4 q5)), .val (.int (v0_16 p0 p1 p2 p3 p4 q5)), .val (.int (v0_17 p0 p1 p2 p3 p4 q5)), .val (.int (v0_18 p0 p1 p2 p3 p4 q5)), .val (.int (v0_19 p0 p1 p2 p3 p4 q5)), .unset, .unset, .unset, .unset] [])) rfl (hb hby at_172) (by decide) (by decide)
  obtain ⟨b21, gz21⟩ : ∃ z, z = h0.size := ⟨_, rfl⟩
  rw [← gz21] at A21 D21 st21
  have g22 : n0 ≤ b21 := Nat.le_trans Z0 (Nat.le_of_eq gz21.symm)
  have sz23 : h0.size ≤ b21 := Nat.le_trans (Nat.le_refl h0.size) (Nat.le_of_eq gz21.symm)
  have z24 : n0 ≤ h21.size := Nat.le_trans Z0 E21.1
  have hs25 : h0.size ≤ h21.size := Nat.le_trans (Nat.le_refl h0.size) E21.1
  have F21_start : Fld Z h21 b21 "com/example/vannus/vannus/Passage" "start" "I" (.int (0 : Int32)) := D21 (Or.inr (hw _ (List.mem_of_getElem? (i := 20) rfl))) (ty := .int) (by decide)
  have F21_length : Fld Z h21 b21 "com/example/vannus/vannus/Passage" "length" "I" (.int (0 : Int32)) := D21 (Or.inr (hw _ (List.mem_of_getElem? (i := 22) rfl))) (ty := .int) (by decide)
  have F21_source : Fld Z h21 b21 "com/example/vannus/vannus/Passage" "source" "I" (.int (0 : Int32)) := D21 (Or.inr (hw _ (List.mem_of_getElem? (i := 24) rfl))) (ty := .int) (by decide)
  have F21_sourceStart : Fld Z h21 b21 "com/example/vannus/vannus/Passage" "sourceStart" "I" (.int (0 : Int32)) := D21 (Or.inr (hw _ (List.mem_of_getElem? (i := 26) rfl))) (ty := .int) (by decide)
  have F21_sourceLength : Fld Z h21 b21 "com/example/vannus/vannus/Passage" "sourceLength" "I" (.int (0 : Int32)) := D21 (Or.inr (hw _ (List.mem_of_getElem? (i := 28) rfl))) (ty := .int) (by decide)
  obtain ⟨_, _, ⟨T26, L26, k26, n26⟩, -, X26, ⟨Lc26, hQ26, l26, y26, z26⟩, st26⟩ := X21.specialBack hx (y := (⟨"com/example/vannus/vannus/Passage", "<init>", "(IIIII)V"⟩ : MethodName)) rfl hown (mvT hZ (hw _ (List.mem_of_getElem? (i := 13) rfl))) (mvT hZ (hw _ (List.mem_of_getElem? (i := 14) rfl))) (mvT hZ (hw _ (List.mem_of_getElem? (i := 15) rfl))) (by decide) (backOf (W := 1) (rm3 l Z a0 hw [] b21 (v0_1 p0 p1 p2 p3 p4 q5) (v0_3 p0 p1 p2 p3 p4 q5) p2 (v0_4 p0 p1 p2 p3 p4 q5) (v0_6 p0 p1 p2 p3 p4 q5) (.int (0 : Int32)) (.int (0 : Int32)) (.int (0 : Int32)) (.int (0 : Int32)) (.int (0 : Int32)) h21 n0 z24 (own_H1_0 p0 p1 p2 p3 p4 q5) (own_H4_0 p0 p1 p2 p3 p4 q5) (own_H3_1 p0 p1 p2 p3 p4 q5) (own_H6_1 p0 p1 p2 p3 p4 q5) A21 F21_start g22 F21_length F21_source F21_sourceStart F21_sourceLength) hZ (hw _ (List.mem_of_getElem? (i := 15) rfl)) (hw _ (List.mem_of_getElem? (i := 12) rfl)) (by decide) (by decide)) (g := (mkF m 186 #[.val (.int p0), .val (.int p1), .val (.int p2), .val (.int p3), .val (.int p4), .val (.long q5), .second, .val (.int (v0_1 p0 p1 p2 p3 p4 q5)), .val (.int (v0_3 p0 p1 p2 p3 p4 q5)), .val (.int p2), .val (.int (v0_4 p0 p1 p2 p3 p4 q5)), .val (.int (v0_6 p0 p1 p2 p3 p4 q5)), .val (.int (v0_7 p0 p1 p2 p3 p4 q5)), .val (.int (v0_9 p0 p1 p2 p3 p4 q5)), .val (.int (v0_15 p0 p1 p2 p3 p4 q5)), .val (.int (v0_16 p0 p1 p2 p3 p4 q5)), .val (.int (v0_17 p0 p1 p2 p3 p4 q5)), .val (.int (v0_18 p0 p1 p2 p3 p4 q5)), .val (.int (v0_19 p0 p1 p2 p3 p4 q5)), .unset, .unset, .unset, .unset] [(.int (v0_6 p0 p1 p2 p3 p4 q5)), (.int (v0_4 p0 p1 p2 p3 p4 q5)), (.int p2), (.int (v0_3 p0 p1 p2 p3 p4 q5)), (.int (v0_1 p0 p1 p2 p3 p4 q5)), (.ref b21), (.ref b21)])) rfl (by rw [hml]; rfl) (Steps.refl _) (a := b21) (argsL := [(.int (v0_1 p0 p1 p2 p3 p4 q5)), (.int (v0_3 p0 p1 p2 p3 p4 q5)), (.int p2), (.int (v0_4 p0 p1 p2 p3 p4 q5)), (.int (v0_6 p0 p1 p2 p3 p4 q5))]) (rest := [(.ref b21)]) (lenOf pd__IIIII_V rfl) rfl (by show 2 * 0 + _ ≤ _; exact Nat.le_of_eq rfl) (hb hby at_186) (fun _ _ => ⟨rfl, e21, (by decide : 1 + 0 ≤ _), (by decide : 5 + 0 ≤ _)⟩)
  dsimp only [Pt.U, Pt.locs, Pt.cells, Pt.slots] at X26 l26 y26 z26 st26 hQ26
  subst l26 y26 z26
  obtain ⟨N26q, rfl, K26, po26_0, po26_1, po26_2, po26_3, po26_4, po26_5⟩ := hQ26
  have z27 : n0 ≤ T26.heap.size := Nat.le_trans z24 K26.1
  have hs28 : h0.size ≤ T26.heap.size := Nat.le_trans hs25 K26.1
  have N26 := Fr.app N20 N26q
  obtain ⟨T29, h29, X29, e29, E29, A29, D29, -, st29⟩ := newO X26 hx hZ hown (hw _ (List.mem_of_getElem? (i := 10) rfl)) (hw _ (List.mem_of_getElem? (i := 11) rfl)) (hw _ (List.mem_of_getElem? (i := 12) rfl)) rfl (g := (mkF m 191 #[.val (.int p0), .val (.int p1), .val (.int p2), .val (.int p3), .val (.int p4), .val (.long q5), .second, .val (.int (v0_1 p0 p1 p2 p3 p4 q5)), .val (.int (v0_3 p0 p1 p2 p3 p4 q5)), .val (.int p2), .val (.int (v0_4 p0 p1 p2 p3 p4 q5)), .val (.int (v0_6 p0 p1 p2 p3 p4 q5)), .val (.int (v0_7 p0 p1 p2 p3 p4 q5)), .val (.int (v0_9 p0 p1 p2 p3 p4 q5)), .val (.int (v0_15 p0 p1 p2 p3 p4 q5)), .val (.int (v0_16 p0 p1 p2 p3 p4 q5)), .val (.int (v0_17 p0 p1 p2 p3 p4 q5)), .val (.int (v0_18 p0 p1 p2 p3 p4 q5)), .val (.int (v0_19 p0 p1 p2 p3 p4 q5)), .val (.ref b21), .unset, .unset, .unset] [])) rfl (hb hby at_191) (by decide) (by decide)
  obtain ⟨b29, gz29⟩ : ∃ z, z = T26.heap.size := ⟨_, rfl⟩
  rw [← gz29] at A29 D29 st29
  have ne30 : b21 ≠ b29 := Nat.ne_of_lt (Nat.lt_of_lt_of_le po26_0.lt (Nat.le_of_eq gz29.symm))
  have g31 : n0 ≤ b29 := Nat.le_trans z27 (Nat.le_of_eq gz29.symm)
  have sz32 : h0.size ≤ b29 := Nat.le_trans hs28 (Nat.le_of_eq gz29.symm)
  have z33 : n0 ≤ h29.size := Nat.le_trans z27 E29.1
  have hs34 : h0.size ≤ h29.size := Nat.le_trans hs28 E29.1
  have F29_start : Fld Z h29 b29 "com/example/vannus/vannus/Passage" "start" "I" (.int (0 : Int32)) := D29 (Or.inr (hw _ (List.mem_of_getElem? (i := 20) rfl))) (ty := .int) (by decide)
  have F29_length : Fld Z h29 b29 "com/example/vannus/vannus/Passage" "length" "I" (.int (0 : Int32)) := D29 (Or.inr (hw _ (List.mem_of_getElem? (i := 22) rfl))) (ty := .int) (by decide)
  have F29_source : Fld Z h29 b29 "com/example/vannus/vannus/Passage" "source" "I" (.int (0 : Int32)) := D29 (Or.inr (hw _ (List.mem_of_getElem? (i := 24) rfl))) (ty := .int) (by decide)
  have F29_sourceStart : Fld Z h29 b29 "com/example/vannus/vannus/Passage" "sourceStart" "I" (.int (0 : Int32)) := D29 (Or.inr (hw _ (List.mem_of_getElem? (i := 26) rfl))) (ty := .int) (by decide)
  have F29_sourceLength : Fld Z h29 b29 "com/example/vannus/vannus/Passage" "sourceLength" "I" (.int (0 : Int32)) := D29 (Or.inr (hw _ (List.mem_of_getElem? (i := 28) rfl))) (ty := .int) (by decide)
  obtain ⟨_, _, ⟨T35, L35, k35, n35⟩, -, X35, ⟨Lc35, hQ35, l35, y35, z35⟩, st35⟩ := X29.specialBack hx (y := (⟨"com/example/vannus/vannus/Passage", "<init>", "(IIIII)V"⟩ : MethodName)) rfl hown (mvT hZ (hw _ (List.mem_of_getElem? (i := 13) rfl))) (mvT hZ (hw _ (List.mem_of_getElem? (i := 14) rfl))) (mvT hZ (hw _ (List.mem_of_getElem? (i := 15) rfl))) (by decide) (backOf (W := 1) (rm3 l Z a0 hw [] b29 (v0_15 p0 p1 p2 p3 p4 q5) (v0_16 p0 p1 p2 p3 p4 q5) (v0_17 p0 p1 p2 p3 p4 q5) (v0_18 p0 p1 p2 p3 p4 q5) (v0_19 p0 p1 p2 p3 p4 q5) (.int (0 : Int32)) (.int (0 : Int32)) (.int (0 : Int32)) (.int (0 : Int32)) (.int (0 : Int32)) h29 n0 z33 (own_H15_0 p0 p1 p2 p3 p4 q5) (own_H18_0 p0 p1 p2 p3 p4 q5) (own_H16_1 p0 p1 p2 p3 p4 q5) (own_H19_1 p0 p1 p2 p3 p4 q5) A29 F29_start g31 F29_length F29_source F29_sourceStart F29_sourceLength) hZ (hw _ (List.mem_of_getElem? (i := 15) rfl)) (hw _ (List.mem_of_getElem? (i := 12) rfl)) (by decide) (by decide)) (g := (mkF m 205 #[.val (.int p0), .val (.int p1), .val (.int p2), .val (.int p3), .val (.int p4), .val (.long q5), .second, .val (.int (v0_1 p0 p1 p2 p3 p4 q5)), .val (.int (v0_3 p0 p1 p2 p3 p4 q5)), .val (.int p2), .val (.int (v0_4 p0 p1 p2 p3 p4 q5)), .val (.int (v0_6 p0 p1 p2 p3 p4 q5)), .val (.int (v0_7 p0 p1 p2 p3 p4 q5)), .val (.int (v0_9 p0 p1 p2 p3 p4 q5)), .val (.int (v0_15 p0 p1 p2 p3 p4 q5)), .val (.int (v0_16 p0 p1 p2 p3 p4 q5)), .val (.int (v0_17 p0 p1 p2 p3 p4 q5)), .val (.int (v0_18 p0 p1 p2 p3 p4 q5)), .val (.int (v0_19 p0 p1 p2 p3 p4 q5)), .val (.ref b21), .unset, .unset, .unset] [(.int (v0_19 p0 p1 p2 p3 p4 q5)), (.int (v0_18 p0 p1 p2 p3 p4 q5)), (.int (v0_17 p0 p1 p2 p3 p4 q5)), (.int (v0_16 p0 p1 p2 p3 p4 q5)), (.int (v0_15 p0 p1 p2 p3 p4 q5)), (.ref b29), (.ref b29)])) rfl (by rw [hml]; rfl) (Steps.refl _) (a := b29) (argsL := [(.int (v0_15 p0 p1 p2 p3 p4 q5)), (.int (v0_16 p0 p1 p2 p3 p4 q5)), (.int (v0_17 p0 p1 p2 p3 p4 q5)), (.int (v0_18 p0 p1 p2 p3 p4 q5)), (.int (v0_19 p0 p1 p2 p3 p4 q5))]) (rest := [(.ref b29)]) (lenOf pd__IIIII_V rfl) rfl (by show 2 * 0 + _ ≤ _; exact Nat.le_of_eq rfl) (hb hby at_205) (fun _ _ => ⟨rfl, e29, (by decide : 2 + 0 ≤ _), (by decide : 10 + 0 ≤ _)⟩)
  dsimp only [Pt.U, Pt.locs, Pt.cells, Pt.slots] at X35 l35 y35 z35 st35 hQ35
  subst l35 y35 z35
  obtain ⟨N35q, rfl, K35, po35_0, po35_1, po35_2, po35_3, po35_4, po35_5⟩ := hQ35
  have z36 : n0 ≤ T35.heap.size := Nat.le_trans z33 K35.1
  have hs37 : h0.size ≤ T35.heap.size := Nat.le_trans hs34 K35.1
  have N35 := Fr.app N26 N35q
  have k39 := ((po26_1.ext E29).keep K35 (ninS ne30 nin0))
  have k40 := ((po26_2.ext E29).keep K35 (ninS ne30 nin0))
  have k41 := ((po26_3.ext E29).keep K35 (ninS ne30 nin0))
  have k42 := ((po26_4.ext E29).keep K35 (ninS ne30 nin0))
  have k43 := ((po26_5.ext E29).keep K35 (ninS ne30 nin0))
  have k44 := ((po26_0.ext E29).keep K35)
  obtain ⟨cq38, kq38, q38a, q38b, q38c⟩ := isOf hZ rfl k44
  obtain ⟨_, _, ⟨T38, L38, k38, n38⟩, -, X38, ⟨Lc38, hQ38, l38, y38, z38⟩, st38⟩ := X35.virtualBack hx (y := (⟨"com/example/vannus/vannus/Passage", "hashCode", "()I"⟩ : MethodName)) (z := (⟨"com/example/vannus/vannus/Passage", "hashCode", "()I"⟩ : MethodName)) hown (mvT hZ (hw _ (List.mem_of_getElem? (i := 29) rfl))) (mvT hZ (hw _ (List.mem_of_getElem? (i := 30) rfl))) (notFace_of_selects (args := #[]) (mvT hZ (hw _ (List.mem_of_getElem? (i := 32) rfl)))) (mvT hZ (hw _ (List.mem_of_getElem? (i := 32) rfl))) (mvT hZ (hw _ (List.mem_of_getElem? (i := 31) rfl))) (by decide) (backOf (W := 0) (rm5 l Z a0 hw [] b21 (v0_1 p0 p1 p2 p3 p4 q5) (v0_3 p0 p1 p2 p3 p4 q5) p2 (v0_4 p0 p1 p2 p3 p4 q5) (v0_6 p0 p1 p2 p3 p4 q5) T35.heap n0 z36 k39 k40 k41 k42 k43) hZ (hw _ (List.mem_of_getElem? (i := 33) rfl)) (hw _ (List.mem_of_getElem? (i := 12) rfl)) (by decide) (by decide)) q38a q38c (g := (mkF m 212 #[.val (.int p0), .val (.int p1), .val (.int p2), .val (.int p3), .val (.int p4), .val (.long q5), .second, .val (.int (v0_1 p0 p1 p2 p3 p4 q5)), .val (.int (v0_3 p0 p1 p2 p3 p4 q5)), .val (.int p2), .val (.int (v0_4 p0 p1 p2 p3 p4 q5)), .val (.int (v0_6 p0 p1 p2 p3 p4 q5)), .val (.int (v0_7 p0 p1 p2 p3 p4 q5)), .val (.int (v0_9 p0 p1 p2 p3 p4 q5)), .val (.int (v0_15 p0 p1 p2 p3 p4 q5)), .val (.int (v0_16 p0 p1 p2 p3 p4 q5)), .val (.int (v0_17 p0 p1 p2 p3 p4 q5)), .val (.int (v0_18 p0 p1 p2 p3 p4 q5)), .val (.int (v0_19 p0 p1 p2 p3 p4 q5)), .val (.ref b21), .val (.ref b29), .unset, .unset] [(.ref b21)])) rfl (by rw [hml]; rfl) (Steps.refl _) (argsL := []) (rest := []) (lenOf pd___I rfl) rfl (by show 2 * 0 + _ ≤ _; exact Nat.le_of_eq rfl) (hb hby at_212) (fun _ _ => ⟨rfl, rfl, (by decide : 2 + 0 ≤ _), (by decide : 10 + 0 ≤ _)⟩)
  dsimp only [Pt.U, Pt.locs, Pt.cells, Pt.slots] at X38 l38 y38 z38 st38 hQ38
  subst l38 y38 z38
  obtain ⟨N38q, rfl, e38⟩ := hQ38
  have N38 := Fr.app N35 N38q
  obtain ⟨cq45, kq45, q45a, q45b, q45c⟩ := isOf hZ e38 po35_0
  obtain ⟨_, _, ⟨T45, L45, k45, n45⟩, -, X45, ⟨Lc45, hQ45, l45, y45, z45⟩, st45⟩ := X38.virtualBack hx (y := (⟨"com/example/vannus/vannus/Passage", "hashCode", "()I"⟩ : MethodName)) (z := (⟨"com/example/vannus/vannus/Passage", "hashCode", "()I"⟩ : MethodName)) hown (mvT hZ (hw _ (List.mem_of_getElem? (i := 29) rfl))) (mvT hZ (hw _ (List.mem_of_getElem? (i := 30) rfl))) (notFace_of_selects (args := #[]) (mvT hZ (hw _ (List.mem_of_getElem? (i := 32) rfl)))) (mvT hZ (hw _ (List.mem_of_getElem? (i := 32) rfl))) (mvT hZ (hw _ (List.mem_of_getElem? (i := 31) rfl))) (by decide) (backOf (W := 0) (rm5 l Z a0 hw [] b29 (v0_15 p0 p1 p2 p3 p4 q5) (v0_16 p0 p1 p2 p3 p4 q5) (v0_17 p0 p1 p2 p3 p4 q5) (v0_18 p0 p1 p2 p3 p4 q5) (v0_19 p0 p1 p2 p3 p4 q5) T35.heap n0 z36 po35_1 po35_2 po35_3 po35_4 po35_5) hZ (hw _ (List.mem_of_getElem? (i := 33) rfl)) (hw _ (List.mem_of_getElem? (i := 12) rfl)) (by decide) (by decide)) q45a q45c (g := (mkF m 219 #[.val (.int p0), .val (.int p1), .val (.int p2), .val (.int p3), .val (.int p4), .val (.long q5), .second, .val (.int (v0_1 p0 p1 p2 p3 p4 q5)), .val (.int (v0_3 p0 p1 p2 p3 p4 q5)), .val (.int p2), .val (.int (v0_4 p0 p1 p2 p3 p4 q5)), .val (.int (v0_6 p0 p1 p2 p3 p4 q5)), .val (.int (v0_7 p0 p1 p2 p3 p4 q5)), .val (.int (v0_9 p0 p1 p2 p3 p4 q5)), .val (.int (v0_15 p0 p1 p2 p3 p4 q5)), .val (.int (v0_16 p0 p1 p2 p3 p4 q5)), .val (.int (v0_17 p0 p1 p2 p3 p4 q5)), .val (.int (v0_18 p0 p1 p2 p3 p4 q5)), .val (.int (v0_19 p0 p1 p2 p3 p4 q5)), .val (.ref b21), .val (.ref b29), .val (.int (v0_20 p0 p1 p2 p3 p4 q5)), .unset] [(.ref b29)])) rfl (by rw [hml]; rfl) (Steps.refl _) (argsL := []) (rest := []) (lenOf pd___I rfl) rfl (by show 2 * 0 + _ ≤ _; exact Nat.le_of_eq rfl) (hb hby at_219) (fun _ _ => ⟨rfl, e38, (by decide : 2 + 0 ≤ _), (by decide : 10 + 0 ≤ _)⟩)
  dsimp only [Pt.U, Pt.locs, Pt.cells, Pt.slots] at X45 l45 y45 z45 st45 hQ45
  subst l45 y45 z45
  obtain ⟨N45q, rfl, e45⟩ := hQ45
  have N45 := Fr.app N38 N45q
  have pre46 : ∀ t, Steps p.tables e below (T45.setTop (mkF m 227 #[.val (.int p0), .val (.int p1), .val (.int p2), .val (.int p3), .val (.int p4), .val (.long q5), .second, .val (.int (v0_1 p0 p1 p2 p3 p4 q5)), .val (.int (v0_3 p0 p1 p2 p3 p4 q5)), .val (.int p2), .val (.int (v0_4 p0 p1 p2 p3 p4 q5)), .val (.int (v0_6 p0 p1 p2 p3 p4 q5)), .val (.int (v0_7 p0 p1 p2 p3 p4 q5)), .val (.int (v0_9 p0 p1 p2 p3 p4 q5)), .val (.int (v0_15 p0 p1 p2 p3 p4 q5)), .val (.int (v0_16 p0 p1 p2 p3 p4 q5)), .val (.int (v0_17 p0 p1 p2 p3 p4 q5)), .val (.int (v0_18 p0 p1 p2 p3 p4 q5)), .val (.int (v0_19 p0 p1 p2 p3 p4 q5)), .val (.ref b21), .val (.ref b29), .val (.int (v0_20 p0 p1 p2 p3 p4 q5)), .val (.int (v0_21 p0 p1 p2 p3 p4 q5))] [(.int (5 : Int32)), (.int (v0_7 p0 p1 p2 p3 p4 q5))])) t → Steps p.tables e below (s₁.setTop (entryFrame m #[(.int p0), (.int p1), (.int p2), (.int p3), (.int p4), (.long q5)] maxLocals)) t := by
    intro t k
    refine pre20 t ?_
    show Steps p.tables e below (T20.setTop (mkF m 172 #[.val (.int p0), .val (.int p1), .val (.int p2), .val (.int p3), .val (.int p4), .val (.long q5), .second, .val (.int (v0_1 p0 p1 p2 p3 p4 q5)), .val (.int (v0_3 p0 p1 p2 p3 p4 q5)), .val (.int p2), .val (.int (v0_4 p0 p1 p2 p3 p4 q5)), .val (.int (v0_6 p0 p1 p2 p3 p4 q5)), .val (.int (v0_7 p0 p1 p2 p3 p4 q5)), .val (.int (v0_9 p0 p1 p2 p3 p4 q5)), .val (.int (v0_15 p0 p1 p2 p3 p4 q5)), .val (.int (v0_16 p0 p1 p2 p3 p4 q5)), .val (.int (v0_17 p0 p1 p2 p3 p4 q5)), .val (.int (v0_18 p0 p1 p2 p3 p4 q5)), .val (.int (v0_19 p0 p1 p2 p3 p4 q5)), .unset, .unset, .unset, .unset] [])) _
    refine st21 _ ?_
    show Steps p.tables e below (T21.setTop (mkF m 175 #[.val (.int p0), .val (.int p1), .val (.int p2), .val (.int p3), .val (.int p4), .val (.long q5), .second, .val (.int (v0_1 p0 p1 p2 p3 p4 q5)), .val (.int (v0_3 p0 p1 p2 p3 p4 q5)), .val (.int p2), .val (.int (v0_4 p0 p1 p2 p3 p4 q5)), .val (.int (v0_6 p0 p1 p2 p3 p4 q5)), .val (.int (v0_7 p0 p1 p2 p3 p4 q5)), .val (.int (v0_9 p0 p1 p2 p3 p4 q5)), .val (.int (v0_15 p0 p1 p2 p3 p4 q5)), .val (.int (v0_16 p0 p1 p2 p3 p4 q5)), .val (.int (v0_17 p0 p1 p2 p3 p4 q5)), .val (.int (v0_18 p0 p1 p2 p3 p4 q5)), .val (.int (v0_19 p0 p1 p2 p3 p4 q5)), .unset, .unset, .unset, .unset] [(.ref b21)])) _
    refine XS.dup X21.here hx rfl (hb hby at_175) rfl rfl ?_
    show Steps p.tables e below (T21.setTop (mkF m 176 #[.val (.int p0), .val (.int p1), .val (.int p2), .val (.int p3), .val (.int p4), .val (.long q5), .second, .val (.int (v0_1 p0 p1 p2 p3 p4 q5)), .val (.int (v0_3 p0 p1 p2 p3 p4 q5)), .val (.int p2), .val (.int (v0_4 p0 p1 p2 p3 p4 q5)), .val (.int (v0_6 p0 p1 p2 p3 p4 q5)), .val (.int (v0_7 p0 p1 p2 p3 p4 q5)), .val (.int (v0_9 p0 p1 p2 p3 p4 q5)), .val (.int (v0_15 p0 p1 p2 p3 p4 q5)), .val (.int (v0_16 p0 p1 p2 p3 p4 q5)), .val (.int (v0_17 p0 p1 p2 p3 p4 q5)), .val (.int (v0_18 p0 p1 p2 p3 p4 q5)), .val (.int (v0_19 p0 p1 p2 p3 p4 q5)), .unset, .unset, .unset, .unset] [(.ref b21), (.ref b21)])) _
    refine XS.iload X21.here hx rfl (hb hby at_176) rfl ?_
    show Steps p.tables e below (T21.setTop (mkF m 178 #[.val (.int p0), .val (.int p1), .val (.int p2), .val (.int p3), .val (.int p4), .val (.long q5), .second, .val (.int (v0_1 p0 p1 p2 p3 p4 q5)), .val (.int (v0_3 p0 p1 p2 p3 p4 q5)), .val (.int p2), .val (.int (v0_4 p0 p1 p2 p3 p4 q5)), .val (.int (v0_6 p0 p1 p2 p3 p4 q5)), .val (.int (v0_7 p0 p1 p2 p3 p4 q5)), .val (.int (v0_9 p0 p1 p2 p3 p4 q5)), .val (.int (v0_15 p0 p1 p2 p3 p4 q5)), .val (.int (v0_16 p0 p1 p2 p3 p4 q5)), .val (.int (v0_17 p0 p1 p2 p3 p4 q5)), .val (.int (v0_18 p0 p1 p2 p3 p4 q5)), .val (.int (v0_19 p0 p1 p2 p3 p4 q5)), .unset, .unset, .unset, .unset] [(.int (v0_1 p0 p1 p2 p3 p4 q5)), (.ref b21), (.ref b21)])) _
    refine XS.iload X21.here hx rfl (hb hby at_178) rfl ?_
    show Steps p.tables e below (T21.setTop (mkF m 180 #[.val (.int p0), .val (.int p1), .val (.int p2), .val (.int p3), .val (.int p4), .val (.long q5), .second, .val (.int (v0_1 p0 p1 p2 p3 p4 q5)), .val (.int (v0_3 p0 p1 p2 p3 p4 q5)), .val (.int p2), .val (.int (v0_4 p0 p1 p2 p3 p4 q5)), .val (.int (v0_6 p0 p1 p2 p3 p4 q5)), .val (.int (v0_7 p0 p1 p2 p3 p4 q5)), .val (.int (v0_9 p0 p1 p2 p3 p4 q5)), .val (.int (v0_15 p0 p1 p2 p3 p4 q5)), .val (.int (v0_16 p0 p1 p2 p3 p4 q5)), .val (.int (v0_17 p0 p1 p2 p3 p4 q5)), .val (.int (v0_18 p0 p1 p2 p3 p4 q5)), .val (.int (v0_19 p0 p1 p2 p3 p4 q5)), .unset, .unset, .unset, .unset] [(.int (v0_3 p0 p1 p2 p3 p4 q5)), (.int (v0_1 p0 p1 p2 p3 p4 q5)), (.ref b21), (.ref b21)])) _
    refine XS.iload X21.here hx rfl (hb hby at_180) rfl ?_
    show Steps p.tables e below (T21.setTop (mkF m 182 #[.val (.int p0), .val (.int p1), .val (.int p2), .val (.int p3), .val (.int p4), .val (.long q5), .second, .val (.int (v0_1 p0 p1 p2 p3 p4 q5)), .val (.int (v0_3 p0 p1 p2 p3 p4 q5)), .val (.int p2), .val (.int (v0_4 p0 p1 p2 p3 p4 q5)), .val (.int (v0_6 p0 p1 p2 p3 p4 q5)), .val (.int (v0_7 p0 p1 p2 p3 p4 q5)), .val (.int (v0_9 p0 p1 p2 p3 p4 q5)), .val (.int (v0_15 p0 p1 p2 p3 p4 q5)), .val (.int (v0_16 p0 p1 p2 p3 p4 q5)), .val (.int (v0_17 p0 p1 p2 p3 p4 q5)), .val (.int (v0_18 p0 p1 p2 p3 p4 q5)), .val (.int (v0_19 p0 p1 p2 p3 p4 q5)), .unset, .unset, .unset, .unset] [(.int p2), (.int (v0_3 p0 p1 p2 p3 p4 q5)), (.int (v0_1 p0 p1 p2 p3 p4 q5)), (.ref b21), (.ref b21)])) _
    refine XS.iload X21.here hx rfl (hb hby at_182) rfl ?_
    show Steps p.tables e below (T21.setTop (mkF m 184 #[.val (.int p0), .val (.int p1), .val (.int p2), .val (.int p3), .val (.int p4), .val (.long q5), .second, .val (.int (v0_1 p0 p1 p2 p3 p4 q5)), .val (.int (v0_3 p0 p1 p2 p3 p4 q5)), .val (.int p2), .val (.int (v0_4 p0 p1 p2 p3 p4 q5)), .val (.int (v0_6 p0 p1 p2 p3 p4 q5)), .val (.int (v0_7 p0 p1 p2 p3 p4 q5)), .val (.int (v0_9 p0 p1 p2 p3 p4 q5)), .val (.int (v0_15 p0 p1 p2 p3 p4 q5)), .val (.int (v0_16 p0 p1 p2 p3 p4 q5)), .val (.int (v0_17 p0 p1 p2 p3 p4 q5)), .val (.int (v0_18 p0 p1 p2 p3 p4 q5)), .val (.int (v0_19 p0 p1 p2 p3 p4 q5)), .unset, .unset, .unset, .unset] [(.int (v0_4 p0 p1 p2 p3 p4 q5)), (.int p2), (.int (v0_3 p0 p1 p2 p3 p4 q5)), (.int (v0_1 p0 p1 p2 p3 p4 q5)), (.ref b21), (.ref b21)])) _
    refine XS.iload X21.here hx rfl (hb hby at_184) rfl ?_
    show Steps p.tables e below (T21.setTop (mkF m 186 #[.val (.int p0), .val (.int p1), .val (.int p2), .val (.int p3), .val (.int p4), .val (.long q5), .second, .val (.int (v0_1 p0 p1 p2 p3 p4 q5)), .val (.int (v0_3 p0 p1 p2 p3 p4 q5)), .val (.int p2), .val (.int (v0_4 p0 p1 p2 p3 p4 q5)), .val (.int (v0_6 p0 p1 p2 p3 p4 q5)), .val (.int (v0_7 p0 p1 p2 p3 p4 q5)), .val (.int (v0_9 p0 p1 p2 p3 p4 q5)), .val (.int (v0_15 p0 p1 p2 p3 p4 q5)), .val (.int (v0_16 p0 p1 p2 p3 p4 q5)), .val (.int (v0_17 p0 p1 p2 p3 p4 q5)), .val (.int (v0_18 p0 p1 p2 p3 p4 q5)), .val (.int (v0_19 p0 p1 p2 p3 p4 q5)), .unset, .unset, .unset, .unset] [(.int (v0_6 p0 p1 p2 p3 p4 q5)), (.int (v0_4 p0 p1 p2 p3 p4 q5)), (.int p2), (.int (v0_3 p0 p1 p2 p3 p4 q5)), (.int (v0_1 p0 p1 p2 p3 p4 q5)), (.ref b21), (.ref b21)])) _
    refine st26.trans ?_
    show Steps p.tables e below (T26.setTop (mkF m 189 #[.val (.int p0), .val (.int p1), .val (.int p2), .val (.int p3), .val (.int p4), .val (.long q5), .second, .val (.int (v0_1 p0 p1 p2 p3 p4 q5)), .val (.int (v0_3 p0 p1 p2 p3 p4 q5)), .val (.int p2), .val (.int (v0_4 p0 p1 p2 p3 p4 q5)), .val (.int (v0_6 p0 p1 p2 p3 p4 q5)), .val (.int (v0_7 p0 p1 p2 p3 p4 q5)), .val (.int (v0_9 p0 p1 p2 p3 p4 q5)), .val (.int (v0_15 p0 p1 p2 p3 p4 q5)), .val (.int (v0_16 p0 p1 p2 p3 p4 q5)), .val (.int (v0_17 p0 p1 p2 p3 p4 q5)), .val (.int (v0_18 p0 p1 p2 p3 p4 q5)), .val (.int (v0_19 p0 p1 p2 p3 p4 q5)), .unset, .unset, .unset, .unset] [(.ref b21)])) _
    refine XS.astore X26.here hx rfl (hb hby at_189) rfl rfl (l' := #[.val (.int p0), .val (.int p1), .val (.int p2), .val (.int p3), .val (.int p4), .val (.long q5), .second, .val (.int (v0_1 p0 p1 p2 p3 p4 q5)), .val (.int (v0_3 p0 p1 p2 p3 p4 q5)), .val (.int p2), .val (.int (v0_4 p0 p1 p2 p3 p4 q5)), .val (.int (v0_6 p0 p1 p2 p3 p4 q5)), .val (.int (v0_7 p0 p1 p2 p3 p4 q5)), .val (.int (v0_9 p0 p1 p2 p3 p4 q5)), .val (.int (v0_15 p0 p1 p2 p3 p4 q5)), .val (.int (v0_16 p0 p1 p2 p3 p4 q5)), .val (.int (v0_17 p0 p1 p2 p3 p4 q5)), .val (.int (v0_18 p0 p1 p2 p3 p4 q5)), .val (.int (v0_19 p0 p1 p2 p3 p4 q5)), .val (.ref b21), .unset, .unset, .unset]) rfl ?_
    show Steps p.tables e below (T26.setTop (mkF m 191 #[.val (.int p0), .val (.int p1), .val (.int p2), .val (.int p3), .val (.int p4), .val (.long q5), .second, .val (.int (v0_1 p0 p1 p2 p3 p4 q5)), .val (.int (v0_3 p0 p1 p2 p3 p4 q5)), .val (.int p2), .val (.int (v0_4 p0 p1 p2 p3 p4 q5)), .val (.int (v0_6 p0 p1 p2 p3 p4 q5)), .val (.int (v0_7 p0 p1 p2 p3 p4 q5)), .val (.int (v0_9 p0 p1 p2 p3 p4 q5)), .val (.int (v0_15 p0 p1 p2 p3 p4 q5)), .val (.int (v0_16 p0 p1 p2 p3 p4 q5)), .val (.int (v0_17 p0 p1 p2 p3 p4 q5)), .val (.int (v0_18 p0 p1 p2 p3 p4 q5)), .val (.int (v0_19 p0 p1 p2 p3 p4 q5)), .val (.ref b21), .unset, .unset, .unset] [])) _
    refine st29 _ ?_
    show Steps p.tables e below (T29.setTop (mkF m 194 #[.val (.int p0), .val (.int p1), .val (.int p2), .val (.int p3), .val (.int p4), .val (.long q5), .second, .val (.int (v0_1 p0 p1 p2 p3 p4 q5)), .val (.int (v0_3 p0 p1 p2 p3 p4 q5)), .val (.int p2), .val (.int (v0_4 p0 p1 p2 p3 p4 q5)), .val (.int (v0_6 p0 p1 p2 p3 p4 q5)), .val (.int (v0_7 p0 p1 p2 p3 p4 q5)), .val (.int (v0_9 p0 p1 p2 p3 p4 q5)), .val (.int (v0_15 p0 p1 p2 p3 p4 q5)), .val (.int (v0_16 p0 p1 p2 p3 p4 q5)), .val (.int (v0_17 p0 p1 p2 p3 p4 q5)), .val (.int (v0_18 p0 p1 p2 p3 p4 q5)), .val (.int (v0_19 p0 p1 p2 p3 p4 q5)), .val (.ref b21), .unset, .unset, .unset] [(.ref b29)])) _
    refine XS.dup X29.here hx rfl (hb hby at_194) rfl rfl ?_
    show Steps p.tables e below (T29.setTop (mkF m 195 #[.val (.int p0), .val (.int p1), .val (.int p2), .val (.int p3), .val (.int p4), .val (.long q5), .second, .val (.int (v0_1 p0 p1 p2 p3 p4 q5)), .val (.int (v0_3 p0 p1 p2 p3 p4 q5)), .val (.int p2), .val (.int (v0_4 p0 p1 p2 p3 p4 q5)), .val (.int (v0_6 p0 p1 p2 p3 p4 q5)), .val (.int (v0_7 p0 p1 p2 p3 p4 q5)), .val (.int (v0_9 p0 p1 p2 p3 p4 q5)), .val (.int (v0_15 p0 p1 p2 p3 p4 q5)), .val (.int (v0_16 p0 p1 p2 p3 p4 q5)), .val (.int (v0_17 p0 p1 p2 p3 p4 q5)), .val (.int (v0_18 p0 p1 p2 p3 p4 q5)), .val (.int (v0_19 p0 p1 p2 p3 p4 q5)), .val (.ref b21), .unset, .unset, .unset] [(.ref b29), (.ref b29)])) _
    refine XS.iload X29.here hx rfl (hb hby at_195) rfl ?_
    show Steps p.tables e below (T29.setTop (mkF m 197 #[.val (.int p0), .val (.int p1), .val (.int p2), .val (.int p3), .val (.int p4), .val (.long q5), .second, .val (.int (v0_1 p0 p1 p2 p3 p4 q5)), .val (.int (v0_3 p0 p1 p2 p3 p4 q5)), .val (.int p2), .val (.int (v0_4 p0 p1 p2 p3 p4 q5)), .val (.int (v0_6 p0 p1 p2 p3 p4 q5)), .val (.int (v0_7 p0 p1 p2 p3 p4 q5)), .val (.int (v0_9 p0 p1 p2 p3 p4 q5)), .val (.int (v0_15 p0 p1 p2 p3 p4 q5)), .val (.int (v0_16 p0 p1 p2 p3 p4 q5)), .val (.int (v0_17 p0 p1 p2 p3 p4 q5)), .val (.int (v0_18 p0 p1 p2 p3 p4 q5)), .val (.int (v0_19 p0 p1 p2 p3 p4 q5)), .val (.ref b21), .unset, .unset, .unset] [(.int (v0_15 p0 p1 p2 p3 p4 q5)), (.ref b29), (.ref b29)])) _
    refine XS.iload X29.here hx rfl (hb hby at_197) rfl ?_
    show Steps p.tables e below (T29.setTop (mkF m 199 #[.val (.int p0), .val (.int p1), .val (.int p2), .val (.int p3), .val (.int p4), .val (.long q5), .second, .val (.int (v0_1 p0 p1 p2 p3 p4 q5)), .val (.int (v0_3 p0 p1 p2 p3 p4 q5)), .val (.int p2), .val (.int (v0_4 p0 p1 p2 p3 p4 q5)), .val (.int (v0_6 p0 p1 p2 p3 p4 q5)), .val (.int (v0_7 p0 p1 p2 p3 p4 q5)), .val (.int (v0_9 p0 p1 p2 p3 p4 q5)), .val (.int (v0_15 p0 p1 p2 p3 p4 q5)), .val (.int (v0_16 p0 p1 p2 p3 p4 q5)), .val (.int (v0_17 p0 p1 p2 p3 p4 q5)), .val (.int (v0_18 p0 p1 p2 p3 p4 q5)), .val (.int (v0_19 p0 p1 p2 p3 p4 q5)), .val (.ref b21), .unset, .unset, .unset] [(.int (v0_16 p0 p1 p2 p3 p4 q5)), (.int (v0_15 p0 p1 p2 p3 p4 q5)), (.ref b29), (.ref b29)])) _
    refine XS.iload X29.here hx rfl (hb hby at_199) rfl ?_
    show Steps p.tables e below (T29.setTop (mkF m 201 #[.val (.int p0), .val (.int p1), .val (.int p2), .val (.int p3), .val (.int p4), .val (.long q5), .second, .val (.int (v0_1 p0 p1 p2 p3 p4 q5)), .val (.int (v0_3 p0 p1 p2 p3 p4 q5)), .val (.int p2), .val (.int (v0_4 p0 p1 p2 p3 p4 q5)), .val (.int (v0_6 p0 p1 p2 p3 p4 q5)), .val (.int (v0_7 p0 p1 p2 p3 p4 q5)), .val (.int (v0_9 p0 p1 p2 p3 p4 q5)), .val (.int (v0_15 p0 p1 p2 p3 p4 q5)), .val (.int (v0_16 p0 p1 p2 p3 p4 q5)), .val (.int (v0_17 p0 p1 p2 p3 p4 q5)), .val (.int (v0_18 p0 p1 p2 p3 p4 q5)), .val (.int (v0_19 p0 p1 p2 p3 p4 q5)), .val (.ref b21), .unset, .unset, .unset] [(.int (v0_17 p0 p1 p2 p3 p4 q5)), (.int (v0_16 p0 p1 p2 p3 p4 q5)), (.int (v0_15 p0 p1 p2 p3 p4 q5)), (.ref b29), (.ref b29)])) _
    refine XS.iload X29.here hx rfl (hb hby at_201) rfl ?_
    show Steps p.tables e below (T29.setTop (mkF m 203 #[.val (.int p0), .val (.int p1), .val (.int p2), .val (.int p3), .val (.int p4), .val (.long q5), .second, .val (.int (v0_1 p0 p1 p2 p3 p4 q5)), .val (.int (v0_3 p0 p1 p2 p3 p4 q5)), .val (.int p2), .val (.int (v0_4 p0 p1 p2 p3 p4 q5)), .val (.int (v0_6 p0 p1 p2 p3 p4 q5)), .val (.int (v0_7 p0 p1 p2 p3 p4 q5)), .val (.int (v0_9 p0 p1 p2 p3 p4 q5)), .val (.int (v0_15 p0 p1 p2 p3 p4 q5)), .val (.int (v0_16 p0 p1 p2 p3 p4 q5)), .val (.int (v0_17 p0 p1 p2 p3 p4 q5)), .val (.int (v0_18 p0 p1 p2 p3 p4 q5)), .val (.int (v0_19 p0 p1 p2 p3 p4 q5)), .val (.ref b21), .unset, .unset, .unset] [(.int (v0_18 p0 p1 p2 p3 p4 q5)), (.int (v0_17 p0 p1 p2 p3 p4 q5)), (.int (v0_16 p0 p1 p2 p3 p4 q5)), (.int (v0_15 p0 p1 p2 p3 p4 q5)), (.ref b29), (.ref b29)])) _
    refine XS.iload X29.here hx rfl (hb hby at_203) rfl ?_
    show Steps p.tables e below (T29.setTop (mkF m 205 #[.val (.int p0), .val (.int p1), .val (.int p2), .val (.int p3), .val (.int p4), .val (.long q5), .second, .val (.int (v0_1 p0 p1 p2 p3 p4 q5)), .val (.int (v0_3 p0 p1 p2 p3 p4 q5)), .val (.int p2), .val (.int (v0_4 p0 p1 p2 p3 p4 q5)), .val (.int (v0_6 p0 p1 p2 p3 p4 q5)), .val (.int (v0_7 p0 p1 p2 p3 p4 q5)), .val (.int (v0_9 p0 p1 p2 p3 p4 q5)), .val (.int (v0_15 p0 p1 p2 p3 p4 q5)), .val (.int (v0_16 p0 p1 p2 p3 p4 q5)), .val (.int (v0_17 p0 p1 p2 p3 p4 q5)), .val (.int (v0_18 p0 p1 p2 p3 p4 q5)), .val (.int (v0_19 p0 p1 p2 p3 p4 q5)), .val (.ref b21), .unset, .unset, .unset] [(.int (v0_19 p0 p1 p2 p3 p4 q5)), (.int (v0_18 p0 p1 p2 p3 p4 q5)), (.int (v0_17 p0 p1 p2 p3 p4 q5)), (.int (v0_16 p0 p1 p2 p3 p4 q5)), (.int (v0_15 p0 p1 p2 p3 p4 q5)), (.ref b29), (.ref b29)])) _
    refine st35.trans ?_
    show Steps p.tables e below (T35.setTop (mkF m 208 #[.val (.int p0), .val (.int p1), .val (.int p2), .val (.int p3), .val (.int p4), .val (.long q5), .second, .val (.int (v0_1 p0 p1 p2 p3 p4 q5)), .val (.int (v0_3 p0 p1 p2 p3 p4 q5)), .val (.int p2), .val (.int (v0_4 p0 p1 p2 p3 p4 q5)), .val (.int (v0_6 p0 p1 p2 p3 p4 q5)), .val (.int (v0_7 p0 p1 p2 p3 p4 q5)), .val (.int (v0_9 p0 p1 p2 p3 p4 q5)), .val (.int (v0_15 p0 p1 p2 p3 p4 q5)), .val (.int (v0_16 p0 p1 p2 p3 p4 q5)), .val (.int (v0_17 p0 p1 p2 p3 p4 q5)), .val (.int (v0_18 p0 p1 p2 p3 p4 q5)), .val (.int (v0_19 p0 p1 p2 p3 p4 q5)), .val (.ref b21), .unset, .unset, .unset] [(.ref b29)])) _
    refine XS.astore X35.here hx rfl (hb hby at_208) rfl rfl (l' := #[.val (.int p0), .val (.int p1), .val (.int p2), .val (.int p3), .val (.int p4), .val (.long q5), .second, .val (.int (v0_1 p0 p1 p2 p3 p4 q5)), .val (.int (v0_3 p0 p1 p2 p3 p4 q5)), .val (.int p2), .val (.int (v0_4 p0 p1 p2 p3 p4 q5)), .val (.int (v0_6 p0 p1 p2 p3 p4 q5)), .val (.int (v0_7 p0 p1 p2 p3 p4 q5)), .val (.int (v0_9 p0 p1 p2 p3 p4 q5)), .val (.int (v0_15 p0 p1 p2 p3 p4 q5)), .val (.int (v0_16 p0 p1 p2 p3 p4 q5)), .val (.int (v0_17 p0 p1 p2 p3 p4 q5)), .val (.int (v0_18 p0 p1 p2 p3 p4 q5)), .val (.int (v0_19 p0 p1 p2 p3 p4 q5)), .val (.ref b21), .val (.ref b29), .unset, .unset]) rfl ?_
    show Steps p.tables e below (T35.setTop (mkF m 210 #[.val (.int p0), .val (.int p1), .val (.int p2), .val (.int p3), .val (.int p4), .val (.long q5), .second, .val (.int (v0_1 p0 p1 p2 p3 p4 q5)), .val (.int (v0_3 p0 p1 p2 p3 p4 q5)), .val (.int p2), .val (.int (v0_4 p0 p1 p2 p3 p4 q5)), .val (.int (v0_6 p0 p1 p2 p3 p4 q5)), .val (.int (v0_7 p0 p1 p2 p3 p4 q5)), .val (.int (v0_9 p0 p1 p2 p3 p4 q5)), .val (.int (v0_15 p0 p1 p2 p3 p4 q5)), .val (.int (v0_16 p0 p1 p2 p3 p4 q5)), .val (.int (v0_17 p0 p1 p2 p3 p4 q5)), .val (.int (v0_18 p0 p1 p2 p3 p4 q5)), .val (.int (v0_19 p0 p1 p2 p3 p4 q5)), .val (.ref b21), .val (.ref b29), .unset, .unset] [])) _
    refine XS.aload X35.here hx rfl (hb hby at_210) rfl rfl ?_
    show Steps p.tables e below (T35.setTop (mkF m 212 #[.val (.int p0), .val (.int p1), .val (.int p2), .val (.int p3), .val (.int p4), .val (.long q5), .second, .val (.int (v0_1 p0 p1 p2 p3 p4 q5)), .val (.int (v0_3 p0 p1 p2 p3 p4 q5)), .val (.int p2), .val (.int (v0_4 p0 p1 p2 p3 p4 q5)), .val (.int (v0_6 p0 p1 p2 p3 p4 q5)), .val (.int (v0_7 p0 p1 p2 p3 p4 q5)), .val (.int (v0_9 p0 p1 p2 p3 p4 q5)), .val (.int (v0_15 p0 p1 p2 p3 p4 q5)), .val (.int (v0_16 p0 p1 p2 p3 p4 q5)), .val (.int (v0_17 p0 p1 p2 p3 p4 q5)), .val (.int (v0_18 p0 p1 p2 p3 p4 q5)), .val (.int (v0_19 p0 p1 p2 p3 p4 q5)), .val (.ref b21), .val (.ref b29), .unset, .unset] [(.ref b21)])) _
    refine st38.trans ?_
    show Steps p.tables e below (T38.setTop (mkF m 215 #[.val (.int p0), .val (.int p1), .val (.int p2), .val (.int p3), .val (.int p4), .val (.long q5), .second, .val (.int (v0_1 p0 p1 p2 p3 p4 q5)), .val (.int (v0_3 p0 p1 p2 p3 p4 q5)), .val (.int p2), .val (.int (v0_4 p0 p1 p2 p3 p4 q5)), .val (.int (v0_6 p0 p1 p2 p3 p4 q5)), .val (.int (v0_7 p0 p1 p2 p3 p4 q5)), .val (.int (v0_9 p0 p1 p2 p3 p4 q5)), .val (.int (v0_15 p0 p1 p2 p3 p4 q5)), .val (.int (v0_16 p0 p1 p2 p3 p4 q5)), .val (.int (v0_17 p0 p1 p2 p3 p4 q5)), .val (.int (v0_18 p0 p1 p2 p3 p4 q5)), .val (.int (v0_19 p0 p1 p2 p3 p4 q5)), .val (.ref b21), .val (.ref b29), .unset, .unset] [(.int (f5 (v0_1 p0 p1 p2 p3 p4 q5) (v0_3 p0 p1 p2 p3 p4 q5) p2 (v0_4 p0 p1 p2 p3 p4 q5) (v0_6 p0 p1 p2 p3 p4 q5)))])) _
    refine XS.istore X38.here hx rfl (hb hby at_215) rfl (l' := #[.val (.int p0), .val (.int p1), .val (.int p2), .val (.int p3), .val (.int p4), .val (.long q5), .second, .val (.int (v0_1 p0 p1 p2 p3 p4 q5)), .val (.int (v0_3 p0 p1 p2 p3 p4 q5)), .val (.int p2), .val (.int (v0_4 p0 p1 p2 p3 p4 q5)), .val (.int (v0_6 p0 p1 p2 p3 p4 q5)), .val (.int (v0_7 p0 p1 p2 p3 p4 q5)), .val (.int (v0_9 p0 p1 p2 p3 p4 q5)), .val (.int (v0_15 p0 p1 p2 p3 p4 q5)), .val (.int (v0_16 p0 p1 p2 p3 p4 q5)), .val (.int (v0_17 p0 p1 p2 p3 p4 q5)), .val (.int (v0_18 p0 p1 p2 p3 p4 q5)), .val (.int (v0_19 p0 p1 p2 p3 p4 q5)), .val (.ref b21), .val (.ref b29), .val (.int (v0_20 p0 p1 p2 p3 p4 q5)), .unset]) rfl ?_
    show Steps p.tables e below (T38.setTop (mkF m 217 #[.val (.int p0), .val (.int p1), .val (.int p2), .val (.int p3), .val (.int p4), .val (.long q5), .second, .val (.int (v0_1 p0 p1 p2 p3 p4 q5)), .val (.int (v0_3 p0 p1 p2 p3 p4 q5)), .val (.int p2), .val (.int (v0_4 p0 p1 p2 p3 p4 q5)), .val (.int (v0_6 p0 p1 p2 p3 p4 q5)), .val (.int (v0_7 p0 p1 p2 p3 p4 q5)), .val (.int (v0_9 p0 p1 p2 p3 p4 q5)), .val (.int (v0_15 p0 p1 p2 p3 p4 q5)), .val (.int (v0_16 p0 p1 p2 p3 p4 q5)), .val (.int (v0_17 p0 p1 p2 p3 p4 q5)), .val (.int (v0_18 p0 p1 p2 p3 p4 q5)), .val (.int (v0_19 p0 p1 p2 p3 p4 q5)), .val (.ref b21), .val (.ref b29), .val (.int (v0_20 p0 p1 p2 p3 p4 q5)), .unset] [])) _
    refine XS.aload X38.here hx rfl (hb hby at_217) rfl rfl ?_
    show Steps p.tables e below (T38.setTop (mkF m 219 #[.val (.int p0), .val (.int p1), .val (.int p2), .val (.int p3), .val (.int p4), .val (.long q5), .second, .val (.int (v0_1 p0 p1 p2 p3 p4 q5)), .val (.int (v0_3 p0 p1 p2 p3 p4 q5)), .val (.int p2), .val (.int (v0_4 p0 p1 p2 p3 p4 q5)), .val (.int (v0_6 p0 p1 p2 p3 p4 q5)), .val (.int (v0_7 p0 p1 p2 p3 p4 q5)), .val (.int (v0_9 p0 p1 p2 p3 p4 q5)), .val (.int (v0_15 p0 p1 p2 p3 p4 q5)), .val (.int (v0_16 p0 p1 p2 p3 p4 q5)), .val (.int (v0_17 p0 p1 p2 p3 p4 q5)), .val (.int (v0_18 p0 p1 p2 p3 p4 q5)), .val (.int (v0_19 p0 p1 p2 p3 p4 q5)), .val (.ref b21), .val (.ref b29), .val (.int (v0_20 p0 p1 p2 p3 p4 q5)), .unset] [(.ref b29)])) _
    refine st45.trans ?_
    show Steps p.tables e below (T45.setTop (mkF m 222 #[.val (.int p0), .val (.int p1), .val (.int p2), .val (.int p3), .val (.int p4), .val (.long q5), .second, .val (.int (v0_1 p0 p1 p2 p3 p4 q5)), .val (.int (v0_3 p0 p1 p2 p3 p4 q5)), .val (.int p2), .val (.int (v0_4 p0 p1 p2 p3 p4 q5)), .val (.int (v0_6 p0 p1 p2 p3 p4 q5)), .val (.int (v0_7 p0 p1 p2 p3 p4 q5)), .val (.int (v0_9 p0 p1 p2 p3 p4 q5)), .val (.int (v0_15 p0 p1 p2 p3 p4 q5)), .val (.int (v0_16 p0 p1 p2 p3 p4 q5)), .val (.int (v0_17 p0 p1 p2 p3 p4 q5)), .val (.int (v0_18 p0 p1 p2 p3 p4 q5)), .val (.int (v0_19 p0 p1 p2 p3 p4 q5)), .val (.ref b21), .val (.ref b29), .val (.int (v0_20 p0 p1 p2 p3 p4 q5)), .unset] [(.int (f5 (v0_15 p0 p1 p2 p3 p4 q5) (v0_16 p0 p1 p2 p3 p4 q5) (v0_17 p0 p1 p2 p3 p4 q5) (v0_18 p0 p1 p2 p3 p4 q5) (v0_19 p0 p1 p2 p3 p4 q5)))])) _
    refine XS.istore X45.here hx rfl (hb hby at_222) rfl (l' := #[.val (.int p0), .val (.int p1), .val (.int p2), .val (.int p3), .val (.int p4), .val (.long q5), .second, .val (.int (v0_1 p0 p1 p2 p3 p4 q5)), .val (.int (v0_3 p0 p1 p2 p3 p4 q5)), .val (.int p2), .val (.int (v0_4 p0 p1 p2 p3 p4 q5)), .val (.int (v0_6 p0 p1 p2 p3 p4 q5)), .val (.int (v0_7 p0 p1 p2 p3 p4 q5)), .val (.int (v0_9 p0 p1 p2 p3 p4 q5)), .val (.int (v0_15 p0 p1 p2 p3 p4 q5)), .val (.int (v0_16 p0 p1 p2 p3 p4 q5)), .val (.int (v0_17 p0 p1 p2 p3 p4 q5)), .val (.int (v0_18 p0 p1 p2 p3 p4 q5)), .val (.int (v0_19 p0 p1 p2 p3 p4 q5)), .val (.ref b21), .val (.ref b29), .val (.int (v0_20 p0 p1 p2 p3 p4 q5)), .val (.int (v0_21 p0 p1 p2 p3 p4 q5))]) rfl ?_
    show Steps p.tables e below (T45.setTop (mkF m 224 #[.val (.int p0), .val (.int p1), .val (.int p2), .val (.int p3), .val (.int p4), .val (.long q5), .second, .val (.int (v0_1 p0 p1 p2 p3 p4 q5)), .val (.int (v0_3 p0 p1 p2 p3 p4 q5)), .val (.int p2), .val (.int (v0_4 p0 p1 p2 p3 p4 q5)), .val (.int (v0_6 p0 p1 p2 p3 p4 q5)), .val (.int (v0_7 p0 p1 p2 p3 p4 q5)), .val (.int (v0_9 p0 p1 p2 p3 p4 q5)), .val (.int (v0_15 p0 p1 p2 p3 p4 q5)), .val (.int (v0_16 p0 p1 p2 p3 p4 q5)), .val (.int (v0_17 p0 p1 p2 p3 p4 q5)), .val (.int (v0_18 p0 p1 p2 p3 p4 q5)), .val (.int (v0_19 p0 p1 p2 p3 p4 q5)), .val (.ref b21), .val (.ref b29), .val (.int (v0_20 p0 p1 p2 p3 p4 q5)), .val (.int (v0_21 p0 p1 p2 p3 p4 q5))] [])) _
    refine XS.iload X45.here hx rfl (hb hby at_224) rfl ?_
    show Steps p.tables e below (T45.setTop (mkF m 226 #[.val (.int p0), .val (.int p1), .val (.int p2), .val (.int p3), .val (.int p4), .val (.long q5), .second, .val (.int (v0_1 p0 p1 p2 p3 p4 q5)), .val (.int (v0_3 p0 p1 p2 p3 p4 q5)), .val (.int p2), .val (.int (v0_4 p0 p1 p2 p3 p4 q5)), .val (.int (v0_6 p0 p1 p2 p3 p4 q5)), .val (.int (v0_7 p0 p1 p2 p3 p4 q5)), .val (.int (v0_9 p0 p1 p2 p3 p4 q5)), .val (.int (v0_15 p0 p1 p2 p3 p4 q5)), .val (.int (v0_16 p0 p1 p2 p3 p4 q5)), .val (.int (v0_17 p0 p1 p2 p3 p4 q5)), .val (.int (v0_18 p0 p1 p2 p3 p4 q5)), .val (.int (v0_19 p0 p1 p2 p3 p4 q5)), .val (.ref b21), .val (.ref b29), .val (.int (v0_20 p0 p1 p2 p3 p4 q5)), .val (.int (v0_21 p0 p1 p2 p3 p4 q5))] [(.int (v0_7 p0 p1 p2 p3 p4 q5))])) _
    refine XT.iconstV X45.here hx rfl (5 : Int32) (hb hby at_226) (by decide) ?_
    exact k
  by_cases c47 : (v0_7 p0 p1 p2 p3 p4 q5) < (5 : Int32)
  · skip
    obtain ⟨cq48, kq48, q48a, q48b, q48c⟩ := isOf hZ e45 k44
    obtain ⟨_, _, ⟨T48, L48, k48, n48⟩, -, X48, ⟨Lc48, hQ48, l48, y48, z48⟩, st48⟩ := X45.virtualBack hx (y := (⟨"com/example/vannus/vannus/Passage", "equals", "(Ljava/lang/Object;)Z"⟩ : MethodName)) (z := (⟨"com/example/vannus/vannus/Passage", "equals", "(Ljava/lang/Object;)Z"⟩ : MethodName)) hown (mvT hZ (hw _ (List.mem_of_getElem? (i := 34) rfl))) (mvT hZ (hw _ (List.mem_of_getElem? (i := 35) rfl))) (notFace_of_selects (args := #[]) (mvT hZ (hw _ (List.mem_of_getElem? (i := 37) rfl)))) (mvT hZ (hw _ (List.mem_of_getElem? (i := 37) rfl))) (mvT hZ (hw _ (List.mem_of_getElem? (i := 36) rfl))) (by decide) (backOf (W := 0) (rm6 l Z a0 hw [] b21 b29 (v0_1 p0 p1 p2 p3 p4 q5) (v0_15 p0 p1 p2 p3 p4 q5) (v0_3 p0 p1 p2 p3 p4 q5) (v0_16 p0 p1 p2 p3 p4 q5) p2 (v0_17 p0 p1 p2 p3 p4 q5) (v0_4 p0 p1 p2 p3 p4 q5) (v0_18 p0 p1 p2 p3 p4 q5) (v0_6 p0 p1 p2 p3 p4 q5) (v0_19 p0 p1 p2 p3 p4 q5) T35.heap n0 z36 po35_0 k39 po35_1 k40 po35_2 k41 po35_3 k42 po35_4 k43 po35_5) hZ (hw _ (List.mem_of_getElem? (i := 38) rfl)) (hw _ (List.mem_of_getElem? (i := 12) rfl)) (by decide) (by decide)) q48a q48c (g := (mkF m 267 #[.val (.int p0), .val (.int p1), .val (.int p2), .val (.int p3), .val (.int p4), .val (.long q5), .second, .val (.int (v0_1 p0 p1 p2 p3 p4 q5)), .val (.int (v0_3 p0 p1 p2 p3 p4 q5)), .val (.int p2), .val (.int (v0_4 p0 p1 p2 p3 p4 q5)), .val (.int (v0_6 p0 p1 p2 p3 p4 q5)), .val (.int (v0_7 p0 p1 p2 p3 p4 q5)), .val (.int (v0_9 p0 p1 p2 p3 p4 q5)), .val (.int (v0_15 p0 p1 p2 p3 p4 q5)), .val (.int (v0_16 p0 p1 p2 p3 p4 q5)), .val (.int (v0_17 p0 p1 p2 p3 p4 q5)), .val (.int (v0_18 p0 p1 p2 p3 p4 q5)), .val (.int (v0_19 p0 p1 p2 p3 p4 q5)), .val (.ref b21), .val (.ref b29), .val (.int (v0_20 p0 p1 p2 p3 p4 q5)), .val (.int (v0_21 p0 p1 p2 p3 p4 q5))] [(.ref b29), (.ref b21)])) rfl (by rw [hml]; rfl) (Steps.refl _) (argsL := [(.ref b29)]) (rest := []) (lenOf pd__Ljava_lang_Object__Z rfl) rfl (by show 2 * 0 + _ ≤ _; exact Nat.le_of_eq rfl) (hb hby at_267) (fun _ _ => ⟨rfl, e45, (by decide : 2 + 0 ≤ _), (by decide : 10 + 0 ≤ _)⟩)
    dsimp only [Pt.U, Pt.locs, Pt.cells, Pt.slots] at X48 l48 y48 z48 st48 hQ48
    subst l48 y48 z48
    obtain ⟨N48q, rfl, e48⟩ := hQ48
    have N48 := Fr.app N45 N48q
    have pre49 : ∀ t, Steps p.tables e below (T48.setTop (mkF m 270 #[.val (.int p0), .val (.int p1), .val (.int p2), .val (.int p3), .val (.int p4), .val (.long q5), .second, .val (.int (v0_1 p0 p1 p2 p3 p4 q5)), .val (.int (v0_3 p0 p1 p2 p3 p4 q5)), .val (.int p2), .val (.int (v0_4 p0 p1 p2 p3 p4 q5)), .val (.int (v0_6 p0 p1 p2 p3 p4 q5)), .val (.int (v0_7 p0 p1 p2 p3 p4 q5)), .val (.int (v0_9 p0 p1 p2 p3 p4 q5)), .val (.int (v0_15 p0 p1 p2 p3 p4 q5)), .val (.int (v0_16 p0 p1 p2 p3 p4 q5)), .val (.int (v0_17 p0 p1 p2 p3 p4 q5)), .val (.int (v0_18 p0 p1 p2 p3 p4 q5)), .val (.int (v0_19 p0 p1 p2 p3 p4 q5)), .val (.ref b21), .val (.ref b29), .val (.int (v0_20 p0 p1 p2 p3 p4 q5)), .val (.int (v0_21 p0 p1 p2 p3 p4 q5))] [(.int (f6 (v0_1 p0 p1 p2 p3 p4 q5) (v0_15 p0 p1 p2 p3 p4 q5) (v0_3 p0 p1 p2 p3 p4 q5) (v0_16 p0 p1 p2 p3 p4 q5) p2 (v0_17 p0 p1 p2 p3 p4 q5) (v0_4 p0 p1 p2 p3 p4 q5) (v0_18 p0 p1 p2 p3 p4 q5) (v0_6 p0 p1 p2 p3 p4 q5) (v0_19 p0 p1 p2 p3 p4 q5)))])) t → Steps p.tables e below (s₁.setTop (entryFrame m #[(.int p0), (.int p1), (.int p2), (.int p3), (.int p4), (.long q5)] maxLocals)) t := by
      intro t k
      refine pre46 t ?_
      show Steps p.tables e below (T45.setTop (mkF m 227 #[.val (.int p0), .val (.int p1), .val (.int p2), .val (.int p3), .val (.int p4), .val (.long q5), .second, .val (.int (v0_1 p0 p1 p2 p3 p4 q5)), .val (.int (v0_3 p0 p1 p2 p3 p4 q5)), .val (.int p2), .val (.int (v0_4 p0 p1 p2 p3 p4 q5)), .val (.int (v0_6 p0 p1 p2 p3 p4 q5)), .val (.int (v0_7 p0 p1 p2 p3 p4 q5)), .val (.int (v0_9 p0 p1 p2 p3 p4 q5)), .val (.int (v0_15 p0 p1 p2 p3 p4 q5)), .val (.int (v0_16 p0 p1 p2 p3 p4 q5)), .val (.int (v0_17 p0 p1 p2 p3 p4 q5)), .val (.int (v0_18 p0 p1 p2 p3 p4 q5)), .val (.int (v0_19 p0 p1 p2 p3 p4 q5)), .val (.ref b21), .val (.ref b29), .val (.int (v0_20 p0 p1 p2 p3 p4 q5)), .val (.int (v0_21 p0 p1 p2 p3 p4 q5))] [(.int (5 : Int32)), (.int (v0_7 p0 p1 p2 p3 p4 q5))])) _
      refine XS.icmpYes X45.here hx rfl (pc0 := 227) (pc' := 263) rfl (hb hby at_227) rfl (XT.ii_lt_t c47) (by decide) (by decide) ?_
      show Steps p.tables e below (T45.setTop (mkF m 263 #[.val (.int p0), .val (.int p1), .val (.int p2), .val (.int p3), .val (.int p4), .val (.long q5), .second, .val (.int (v0_1 p0 p1 p2 p3 p4 q5)), .val (.int (v0_3 p0 p1 p2 p3 p4 q5)), .val (.int p2), .val (.int (v0_4 p0 p1 p2 p3 p4 q5)), .val (.int (v0_6 p0 p1 p2 p3 p4 q5)), .val (.int (v0_7 p0 p1 p2 p3 p4 q5)), .val (.int (v0_9 p0 p1 p2 p3 p4 q5)), .val (.int (v0_15 p0 p1 p2 p3 p4 q5)), .val (.int (v0_16 p0 p1 p2 p3 p4 q5)), .val (.int (v0_17 p0 p1 p2 p3 p4 q5)), .val (.int (v0_18 p0 p1 p2 p3 p4 q5)), .val (.int (v0_19 p0 p1 p2 p3 p4 q5)), .val (.ref b21), .val (.ref b29), .val (.int (v0_20 p0 p1 p2 p3 p4 q5)), .val (.int (v0_21 p0 p1 p2 p3 p4 q5))] [])) _
      refine XS.aload X45.here hx rfl (hb hby at_263) rfl rfl ?_
      show Steps p.tables e below (T45.setTop (mkF m 265 #[.val (.int p0), .val (.int p1), .val (.int p2), .val (.int p3), .val (.int p4), .val (.long q5), .second, .val (.int (v0_1 p0 p1 p2 p3 p4 q5)), .val (.int (v0_3 p0 p1 p2 p3 p4 q5)), .val (.int p2), .val (.int (v0_4 p0 p1 p2 p3 p4 q5)), .val (.int (v0_6 p0 p1 p2 p3 p4 q5)), .val (.int (v0_7 p0 p1 p2 p3 p4 q5)), .val (.int (v0_9 p0 p1 p2 p3 p4 q5)), .val (.int (v0_15 p0 p1 p2 p3 p4 q5)), .val (.int (v0_16 p0 p1 p2 p3 p4 q5)), .val (.int (v0_17 p0 p1 p2 p3 p4 q5)), .val (.int (v0_18 p0 p1 p2 p3 p4 q5)), .val (.int (v0_19 p0 p1 p2 p3 p4 q5)), .val (.ref b21), .val (.ref b29), .val (.int (v0_20 p0 p1 p2 p3 p4 q5)), .val (.int (v0_21 p0 p1 p2 p3 p4 q5))] [(.ref b21)])) _
      refine XS.aload X45.here hx rfl (hb hby at_265) rfl rfl ?_
      show Steps p.tables e below (T45.setTop (mkF m 267 #[.val (.int p0), .val (.int p1), .val (.int p2), .val (.int p3), .val (.int p4), .val (.long q5), .second, .val (.int (v0_1 p0 p1 p2 p3 p4 q5)), .val (.int (v0_3 p0 p1 p2 p3 p4 q5)), .val (.int p2), .val (.int (v0_4 p0 p1 p2 p3 p4 q5)), .val (.int (v0_6 p0 p1 p2 p3 p4 q5)), .val (.int (v0_7 p0 p1 p2 p3 p4 q5)), .val (.int (v0_9 p0 p1 p2 p3 p4 q5)), .val (.int (v0_15 p0 p1 p2 p3 p4 q5)), .val (.int (v0_16 p0 p1 p2 p3 p4 q5)), .val (.int (v0_17 p0 p1 p2 p3 p4 q5)), .val (.int (v0_18 p0 p1 p2 p3 p4 q5)), .val (.int (v0_19 p0 p1 p2 p3 p4 q5)), .val (.ref b21), .val (.ref b29), .val (.int (v0_20 p0 p1 p2 p3 p4 q5)), .val (.int (v0_21 p0 p1 p2 p3 p4 q5))] [(.ref b29), (.ref b21)])) _
      refine st48.trans ?_
      exact k
    have pre53 : ∀ t, Steps p.tables e below (T48.setTop (mkF m 285 #[.val (.int p0), .val (.int p1), .val (.int p2), .val (.int p3), .val (.int p4), .val (.long q5), .second, .val (.int (v0_1 p0 p1 p2 p3 p4 q5)), .val (.int (v0_3 p0 p1 p2 p3 p4 q5)), .val (.int p2), .val (.int (v0_4 p0 p1 p2 p3 p4 q5)), .val (.int (v0_6 p0 p1 p2 p3 p4 q5)), .val (.int (v0_7 p0 p1 p2 p3 p4 q5)), .val (.int (v0_9 p0 p1 p2 p3 p4 q5)), .val (.int (v0_15 p0 p1 p2 p3 p4 q5)), .val (.int (v0_16 p0 p1 p2 p3 p4 q5)), .val (.int (v0_17 p0 p1 p2 p3 p4 q5)), .val (.int (v0_18 p0 p1 p2 p3 p4 q5)), .val (.int (v0_19 p0 p1 p2 p3 p4 q5)), .val (.ref b21), .val (.ref b29), .val (.int (v0_20 p0 p1 p2 p3 p4 q5)), .val (.int (v0_21 p0 p1 p2 p3 p4 q5))] [(.int (v0_23 p0 p1 p2 p3 p4 q5))])) t → Steps p.tables e below (s₁.setTop (entryFrame m #[(.int p0), (.int p1), (.int p2), (.int p3), (.int p4), (.long q5)] maxLocals)) t := by
      intro t k
      by_cases c50 : (v0_22 p0 p1 p2 p3 p4 q5) = (0 : Int32)
      · skip
        have pre51 : ∀ t, Steps p.tables e below (T48.setTop (mkF m 277 #[.val (.int p0), .val (.int p1), .val (.int p2), .val (.int p3), .val (.int p4), .val (.long q5), .second, .val (.int (v0_1 p0 p1 p2 p3 p4 q5)), .val (.int (v0_3 p0 p1 p2 p3 p4 q5)), .val (.int p2), .val (.int (v0_4 p0 p1 p2 p3 p4 q5)), .val (.int (v0_6 p0 p1 p2 p3 p4 q5)), .val (.int (v0_7 p0 p1 p2 p3 p4 q5)), .val (.int (v0_9 p0 p1 p2 p3 p4 q5)), .val (.int (v0_15 p0 p1 p2 p3 p4 q5)), .val (.int (v0_16 p0 p1 p2 p3 p4 q5)), .val (.int (v0_17 p0 p1 p2 p3 p4 q5)), .val (.int (v0_18 p0 p1 p2 p3 p4 q5)), .val (.int (v0_19 p0 p1 p2 p3 p4 q5)), .val (.ref b21), .val (.ref b29), .val (.int (v0_20 p0 p1 p2 p3 p4 q5)), .val (.int (v0_21 p0 p1 p2 p3 p4 q5))] [(.int (v0_21 p0 p1 p2 p3 p4 q5)), (.int (v0_20 p0 p1 p2 p3 p4 q5))])) t → Steps p.tables e below (s₁.setTop (entryFrame m #[(.int p0), (.int p1), (.int p2), (.int p3), (.int p4), (.long q5)] maxLocals)) t := by
          intro t k
          refine pre49 t ?_
          show Steps p.tables e below (T48.setTop (mkF m 270 #[.val (.int p0), .val (.int p1), .val (.int p2), .val (.int p3), .val (.int p4), .val (.long q5), .second, .val (.int (v0_1 p0 p1 p2 p3 p4 q5)), .val (.int (v0_3 p0 p1 p2 p3 p4 q5)), .val (.int p2), .val (.int (v0_4 p0 p1 p2 p3 p4 q5)), .val (.int (v0_6 p0 p1 p2 p3 p4 q5)), .val (.int (v0_7 p0 p1 p2 p3 p4 q5)), .val (.int (v0_9 p0 p1 p2 p3 p4 q5)), .val (.int (v0_15 p0 p1 p2 p3 p4 q5)), .val (.int (v0_16 p0 p1 p2 p3 p4 q5)), .val (.int (v0_17 p0 p1 p2 p3 p4 q5)), .val (.int (v0_18 p0 p1 p2 p3 p4 q5)), .val (.int (v0_19 p0 p1 p2 p3 p4 q5)), .val (.ref b21), .val (.ref b29), .val (.int (v0_20 p0 p1 p2 p3 p4 q5)), .val (.int (v0_21 p0 p1 p2 p3 p4 q5))] [(.int (f6 (v0_1 p0 p1 p2 p3 p4 q5) (v0_15 p0 p1 p2 p3 p4 q5) (v0_3 p0 p1 p2 p3 p4 q5) (v0_16 p0 p1 p2 p3 p4 q5) p2 (v0_17 p0 p1 p2 p3 p4 q5) (v0_4 p0 p1 p2 p3 p4 q5) (v0_18 p0 p1 p2 p3 p4 q5) (v0_6 p0 p1 p2 p3 p4 q5) (v0_19 p0 p1 p2 p3 p4 q5)))])) _
          refine XS.ifNo X48.here hx rfl (hb hby at_270) rfl (XT.i0_ne_f c50) ?_
          show Steps p.tables e below (T48.setTop (mkF m 273 #[.val (.int p0), .val (.int p1), .val (.int p2), .val (.int p3), .val (.int p4), .val (.long q5), .second, .val (.int (v0_1 p0 p1 p2 p3 p4 q5)), .val (.int (v0_3 p0 p1 p2 p3 p4 q5)), .val (.int p2), .val (.int (v0_4 p0 p1 p2 p3 p4 q5)), .val (.int (v0_6 p0 p1 p2 p3 p4 q5)), .val (.int (v0_7 p0 p1 p2 p3 p4 q5)), .val (.int (v0_9 p0 p1 p2 p3 p4 q5)), .val (.int (v0_15 p0 p1 p2 p3 p4 q5)), .val (.int (v0_16 p0 p1 p2 p3 p4 q5)), .val (.int (v0_17 p0 p1 p2 p3 p4 q5)), .val (.int (v0_18 p0 p1 p2 p3 p4 q5)), .val (.int (v0_19 p0 p1 p2 p3 p4 q5)), .val (.ref b21), .val (.ref b29), .val (.int (v0_20 p0 p1 p2 p3 p4 q5)), .val (.int (v0_21 p0 p1 p2 p3 p4 q5))] [])) _
          refine XS.iload X48.here hx rfl (hb hby at_273) rfl ?_
          show Steps p.tables e below (T48.setTop (mkF m 275 #[.val (.int p0), .val (.int p1), .val (.int p2), .val (.int p3), .val (.int p4), .val (.long q5), .second, .val (.int (v0_1 p0 p1 p2 p3 p4 q5)), .val (.int (v0_3 p0 p1 p2 p3 p4 q5)), .val (.int p2), .val (.int (v0_4 p0 p1 p2 p3 p4 q5)), .val (.int (v0_6 p0 p1 p2 p3 p4 q5)), .val (.int (v0_7 p0 p1 p2 p3 p4 q5)), .val (.int (v0_9 p0 p1 p2 p3 p4 q5)), .val (.int (v0_15 p0 p1 p2 p3 p4 q5)), .val (.int (v0_16 p0 p1 p2 p3 p4 q5)), .val (.int (v0_17 p0 p1 p2 p3 p4 q5)), .val (.int (v0_18 p0 p1 p2 p3 p4 q5)), .val (.int (v0_19 p0 p1 p2 p3 p4 q5)), .val (.ref b21), .val (.ref b29), .val (.int (v0_20 p0 p1 p2 p3 p4 q5)), .val (.int (v0_21 p0 p1 p2 p3 p4 q5))] [(.int (v0_20 p0 p1 p2 p3 p4 q5))])) _
          refine XS.iload X48.here hx rfl (hb hby at_275) rfl ?_
          exact k
        by_cases c52 : (v0_20 p0 p1 p2 p3 p4 q5) = (v0_21 p0 p1 p2 p3 p4 q5)
        · skip
          rw [show (v0_23 p0 p1 p2 p3 p4 q5) = (0 : Int32) from ((if_pos c50).trans (if_pos c52))] at k
          refine pre51 t ?_
          show Steps p.tables e below (T48.setTop (mkF m 277 #[.val (.int p0), .val (.int p1), .val (.int p2), .val (.int p3), .val (.int p4), .val (.long q5), .second, .val (.int (v0_1 p0 p1 p2 p3 p4 q5)), .val (.int (v0_3 p0 p1 p2 p3 p4 q5)), .val (.int p2), .val (.int (v0_4 p0 p1 p2 p3 p4 q5)), .val (.int (v0_6 p0 p1 p2 p3 p4 q5)), .val (.int (v0_7 p0 p1 p2 p3 p4 q5)), .val (.int (v0_9 p0 p1 p2 p3 p4 q5)), .val (.int (v0_15 p0 p1 p2 p3 p4 q5)), .val (.int (v0_16 p0 p1 p2 p3 p4 q5)), .val (.int (v0_17 p0 p1 p2 p3 p4 q5)), .val (.int (v0_18 p0 p1 p2 p3 p4 q5)), .val (.int (v0_19 p0 p1 p2 p3 p4 q5)), .val (.ref b21), .val (.ref b29), .val (.int (v0_20 p0 p1 p2 p3 p4 q5)), .val (.int (v0_21 p0 p1 p2 p3 p4 q5))] [(.int (v0_21 p0 p1 p2 p3 p4 q5)), (.int (v0_20 p0 p1 p2 p3 p4 q5))])) _
          refine XS.icmpYes X48.here hx rfl (pc0 := 277) (pc' := 284) rfl (hb hby at_277) rfl (XT.ii_eq_t c52) (by decide) (by decide) ?_
          show Steps p.tables e below (T48.setTop (mkF m 284 #[.val (.int p0), .val (.int p1), .val (.int p2), .val (.int p3), .val (.int p4), .val (.long q5), .second, .val (.int (v0_1 p0 p1 p2 p3 p4 q5)), .val (.int (v0_3 p0 p1 p2 p3 p4 q5)), .val (.int p2), .val (.int (v0_4 p0 p1 p2 p3 p4 q5)), .val (.int (v0_6 p0 p1 p2 p3 p4 q5)), .val (.int (v0_7 p0 p1 p2 p3 p4 q5)), .val (.int (v0_9 p0 p1 p2 p3 p4 q5)), .val (.int (v0_15 p0 p1 p2 p3 p4 q5)), .val (.int (v0_16 p0 p1 p2 p3 p4 q5)), .val (.int (v0_17 p0 p1 p2 p3 p4 q5)), .val (.int (v0_18 p0 p1 p2 p3 p4 q5)), .val (.int (v0_19 p0 p1 p2 p3 p4 q5)), .val (.ref b21), .val (.ref b29), .val (.int (v0_20 p0 p1 p2 p3 p4 q5)), .val (.int (v0_21 p0 p1 p2 p3 p4 q5))] [])) _
          refine XT.iconstV X48.here hx rfl (0 : Int32) (hb hby at_284) (by decide) ?_
          exact k
        · skip
          rw [show (v0_23 p0 p1 p2 p3 p4 q5) = (1 : Int32) from ((if_pos c50).trans (if_neg c52))] at k
          refine pre51 t ?_
          show Steps p.tables e below (T48.setTop (mkF m 277 #[.val (.int p0), .val (.int p1), .val (.int p2), .val (.int p3), .val (.int p4), .val (.long q5), .second, .val (.int (v0_1 p0 p1 p2 p3 p4 q5)), .val (.int (v0_3 p0 p1 p2 p3 p4 q5)), .val (.int p2), .val (.int (v0_4 p0 p1 p2 p3 p4 q5)), .val (.int (v0_6 p0 p1 p2 p3 p4 q5)), .val (.int (v0_7 p0 p1 p2 p3 p4 q5)), .val (.int (v0_9 p0 p1 p2 p3 p4 q5)), .val (.int (v0_15 p0 p1 p2 p3 p4 q5)), .val (.int (v0_16 p0 p1 p2 p3 p4 q5)), .val (.int (v0_17 p0 p1 p2 p3 p4 q5)), .val (.int (v0_18 p0 p1 p2 p3 p4 q5)), .val (.int (v0_19 p0 p1 p2 p3 p4 q5)), .val (.ref b21), .val (.ref b29), .val (.int (v0_20 p0 p1 p2 p3 p4 q5)), .val (.int (v0_21 p0 p1 p2 p3 p4 q5))] [(.int (v0_21 p0 p1 p2 p3 p4 q5)), (.int (v0_20 p0 p1 p2 p3 p4 q5))])) _
          refine XS.icmpNo X48.here hx rfl (hb hby at_277) rfl (XT.ii_eq_f c52) ?_
          show Steps p.tables e below (T48.setTop (mkF m 280 #[.val (.int p0), .val (.int p1), .val (.int p2), .val (.int p3), .val (.int p4), .val (.long q5), .second, .val (.int (v0_1 p0 p1 p2 p3 p4 q5)), .val (.int (v0_3 p0 p1 p2 p3 p4 q5)), .val (.int p2), .val (.int (v0_4 p0 p1 p2 p3 p4 q5)), .val (.int (v0_6 p0 p1 p2 p3 p4 q5)), .val (.int (v0_7 p0 p1 p2 p3 p4 q5)), .val (.int (v0_9 p0 p1 p2 p3 p4 q5)), .val (.int (v0_15 p0 p1 p2 p3 p4 q5)), .val (.int (v0_16 p0 p1 p2 p3 p4 q5)), .val (.int (v0_17 p0 p1 p2 p3 p4 q5)), .val (.int (v0_18 p0 p1 p2 p3 p4 q5)), .val (.int (v0_19 p0 p1 p2 p3 p4 q5)), .val (.ref b21), .val (.ref b29), .val (.int (v0_20 p0 p1 p2 p3 p4 q5)), .val (.int (v0_21 p0 p1 p2 p3 p4 q5))] [])) _
          refine XT.iconstV X48.here hx rfl (1 : Int32) (hb hby at_280) (by decide) ?_
          show Steps p.tables e below (T48.setTop (mkF m 281 #[.val (.int p0), .val (.int p1), .val (.int p2), .val (.int p3), .val (.int p4), .val (.long q5), .second, .val (.int (v0_1 p0 p1 p2 p3 p4 q5)), .val (.int (v0_3 p0 p1 p2 p3 p4 q5)), .val (.int p2), .val (.int (v0_4 p0 p1 p2 p3 p4 q5)), .val (.int (v0_6 p0 p1 p2 p3 p4 q5)), .val (.int (v0_7 p0 p1 p2 p3 p4 q5)), .val (.int (v0_9 p0 p1 p2 p3 p4 q5)), .val (.int (v0_15 p0 p1 p2 p3 p4 q5)), .val (.int (v0_16 p0 p1 p2 p3 p4 q5)), .val (.int (v0_17 p0 p1 p2 p3 p4 q5)), .val (.int (v0_18 p0 p1 p2 p3 p4 q5)), .val (.int (v0_19 p0 p1 p2 p3 p4 q5)), .val (.ref b21), .val (.ref b29), .val (.int (v0_20 p0 p1 p2 p3 p4 q5)), .val (.int (v0_21 p0 p1 p2 p3 p4 q5))] [(.int (1 : Int32))])) _
          refine XS.goto X48.here hx rfl (pc0 := 281) (pc' := 285) rfl (hb hby at_281) (by decide) (by decide) ?_
          exact k
      · skip
        rw [show (v0_23 p0 p1 p2 p3 p4 q5) = (0 : Int32) from (if_neg c50)] at k
        refine pre49 t ?_
        show Steps p.tables e below (T48.setTop (mkF m 270 #[.val (.int p0), .val (.int p1), .val (.int p2), .val (.int p3), .val (.int p4), .val (.long q5), .second, .val (.int (v0_1 p0 p1 p2 p3 p4 q5)), .val (.int (v0_3 p0 p1 p2 p3 p4 q5)), .val (.int p2), .val (.int (v0_4 p0 p1 p2 p3 p4 q5)), .val (.int (v0_6 p0 p1 p2 p3 p4 q5)), .val (.int (v0_7 p0 p1 p2 p3 p4 q5)), .val (.int (v0_9 p0 p1 p2 p3 p4 q5)), .val (.int (v0_15 p0 p1 p2 p3 p4 q5)), .val (.int (v0_16 p0 p1 p2 p3 p4 q5)), .val (.int (v0_17 p0 p1 p2 p3 p4 q5)), .val (.int (v0_18 p0 p1 p2 p3 p4 q5)), .val (.int (v0_19 p0 p1 p2 p3 p4 q5)), .val (.ref b21), .val (.ref b29), .val (.int (v0_20 p0 p1 p2 p3 p4 q5)), .val (.int (v0_21 p0 p1 p2 p3 p4 q5))] [(.int (f6 (v0_1 p0 p1 p2 p3 p4 q5) (v0_15 p0 p1 p2 p3 p4 q5) (v0_3 p0 p1 p2 p3 p4 q5) (v0_16 p0 p1 p2 p3 p4 q5) p2 (v0_17 p0 p1 p2 p3 p4 q5) (v0_4 p0 p1 p2 p3 p4 q5) (v0_18 p0 p1 p2 p3 p4 q5) (v0_6 p0 p1 p2 p3 p4 q5) (v0_19 p0 p1 p2 p3 p4 q5)))])) _
        refine XS.ifYes X48.here hx rfl (pc0 := 270) (pc' := 284) rfl (hb hby at_270) rfl (XT.i0_ne_t c50) (by decide) (by decide) ?_
        show Steps p.tables e below (T48.setTop (mkF m 284 #[.val (.int p0), .val (.int p1), .val (.int p2), .val (.int p3), .val (.int p4), .val (.long q5), .second, .val (.int (v0_1 p0 p1 p2 p3 p4 q5)), .val (.int (v0_3 p0 p1 p2 p3 p4 q5)), .val (.int p2), .val (.int (v0_4 p0 p1 p2 p3 p4 q5)), .val (.int (v0_6 p0 p1 p2 p3 p4 q5)), .val (.int (v0_7 p0 p1 p2 p3 p4 q5)), .val (.int (v0_9 p0 p1 p2 p3 p4 q5)), .val (.int (v0_15 p0 p1 p2 p3 p4 q5)), .val (.int (v0_16 p0 p1 p2 p3 p4 q5)), .val (.int (v0_17 p0 p1 p2 p3 p4 q5)), .val (.int (v0_18 p0 p1 p2 p3 p4 q5)), .val (.int (v0_19 p0 p1 p2 p3 p4 q5)), .val (.ref b21), .val (.ref b29), .val (.int (v0_20 p0 p1 p2 p3 p4 q5)), .val (.int (v0_21 p0 p1 p2 p3 p4 q5))] [])) _
        refine XT.iconstV X48.here hx rfl (0 : Int32) (hb hby at_284) (by decide) ?_
        exact k
    have hv54 : (v0_23 p0 p1 p2 p3 p4 q5) = (1 : Int32) := own_v0_23 p0 p1 p2 p3 p4 q5 c47
    obtain ⟨fs, hr, hrun, hended, hW, hsame⟩ := X48.leave (v := some (.int (1 : Int32))) (fun h => by rw [Bd.returns] at h; cases h)
    refine ⟨_, _, pre53 _ ?_, hrun, hended, _, _, rfl, ?_, ⟨_, rfl⟩, hW, hsame.mono (by decide) (by decide)⟩
    · skip
      show Steps p.tables e below (T48.setTop (mkF m 285 #[.val (.int p0), .val (.int p1), .val (.int p2), .val (.int p3), .val (.int p4), .val (.long q5), .second, .val (.int (v0_1 p0 p1 p2 p3 p4 q5)), .val (.int (v0_3 p0 p1 p2 p3 p4 q5)), .val (.int p2), .val (.int (v0_4 p0 p1 p2 p3 p4 q5)), .val (.int (v0_6 p0 p1 p2 p3 p4 q5)), .val (.int (v0_7 p0 p1 p2 p3 p4 q5)), .val (.int (v0_9 p0 p1 p2 p3 p4 q5)), .val (.int (v0_15 p0 p1 p2 p3 p4 q5)), .val (.int (v0_16 p0 p1 p2 p3 p4 q5)), .val (.int (v0_17 p0 p1 p2 p3 p4 q5)), .val (.int (v0_18 p0 p1 p2 p3 p4 q5)), .val (.int (v0_19 p0 p1 p2 p3 p4 q5)), .val (.ref b21), .val (.ref b29), .val (.int (v0_20 p0 p1 p2 p3 p4 q5)), .val (.int (v0_21 p0 p1 p2 p3 p4 q5))] [(.int (v0_23 p0 p1 p2 p3 p4 q5))])) _
      rw [hv54]
      exact retN X48 hx (t := .boolean) Bd.returns (by simp) (hb hby at_285) hr
    · skip
      show Q0 Z p0 p1 p2 p3 p4 q5 h0 n0 _ T48.heap _
      rw [e48]
      exact ⟨rfl, N48⟩
  · skip
    obtain ⟨cq55, kq55, q55a, q55b, q55c⟩ := isOf hZ e45 k44
    obtain ⟨_, _, ⟨T55, L55, k55, n55⟩, -, X55, ⟨Lc55, hQ55, l55, y55, z55⟩, st55⟩ := X45.virtualBack hx (y := (⟨"com/example/vannus/vannus/Passage", "equals", "(Ljava/lang/Object;)Z"⟩ : MethodName)) (z := (⟨"com/example/vannus/vannus/Passage", "equals", "(Ljava/lang/Object;)Z"⟩ : MethodName)) hown (mvT hZ (hw _ (List.mem_of_getElem? (i := 34) rfl))) (mvT hZ (hw _ (List.mem_of_getElem? (i := 35) rfl))) (notFace_of_selects (args := #[]) (mvT hZ (hw _ (List.mem_of_getElem? (i := 37) rfl)))) (mvT hZ (hw _ (List.mem_of_getElem? (i := 37) rfl))) (mvT hZ (hw _ (List.mem_of_getElem? (i := 36) rfl))) (by decide) (backOf (W := 0) (rm6 l Z a0 hw [] b21 b29 (v0_1 p0 p1 p2 p3 p4 q5) (v0_15 p0 p1 p2 p3 p4 q5) (v0_3 p0 p1 p2 p3 p4 q5) (v0_16 p0 p1 p2 p3 p4 q5) p2 (v0_17 p0 p1 p2 p3 p4 q5) (v0_4 p0 p1 p2 p3 p4 q5) (v0_18 p0 p1 p2 p3 p4 q5) (v0_6 p0 p1 p2 p3 p4 q5) (v0_19 p0 p1 p2 p3 p4 q5) T35.heap n0 z36 po35_0 k39 po35_1 k40 po35_2 k41 po35_3 k42 po35_4 k43 po35_5) hZ (hw _ (List.mem_of_getElem? (i := 38) rfl)) (hw _ (List.mem_of_getElem? (i := 12) rfl)) (by decide) (by decide)) q55a q55c (g := (mkF m 234 #[.val (.int p0), .val (.int p1), .val (.int p2), .val (.int p3), .val (.int p4), .val (.long q5), .second, .val (.int (v0_1 p0 p1 p2 p3 p4 q5)), .val (.int (v0_3 p0 p1 p2 p3 p4 q5)), .val (.int p2), .val (.int (v0_4 p0 p1 p2 p3 p4 q5)), .val (.int (v0_6 p0 p1 p2 p3 p4 q5)), .val (.int (v0_7 p0 p1 p2 p3 p4 q5)), .val (.int (v0_9 p0 p1 p2 p3 p4 q5)), .val (.int (v0_15 p0 p1 p2 p3 p4 q5)), .val (.int (v0_16 p0 p1 p2 p3 p4 q5)), .val (.int (v0_17 p0 p1 p2 p3 p4 q5)), .val (.int (v0_18 p0 p1 p2 p3 p4 q5)), .val (.int (v0_19 p0 p1 p2 p3 p4 q5)), .val (.ref b21), .val (.ref b29), .val (.int (v0_20 p0 p1 p2 p3 p4 q5)), .val (.int (v0_21 p0 p1 p2 p3 p4 q5))] [(.ref b29), (.ref b21)])) rfl (by rw [hml]; rfl) (Steps.refl _) (argsL := [(.ref b29)]) (rest := []) (lenOf pd__Ljava_lang_Object__Z rfl) rfl (by show 2 * 0 + _ ≤ _; exact Nat.le_of_eq rfl) (hb hby at_234) (fun _ _ => ⟨rfl, e45, (by decide : 2 + 0 ≤ _), (by decide : 10 + 0 ≤ _)⟩)
    dsimp only [Pt.U, Pt.locs, Pt.cells, Pt.slots] at X55 l55 y55 z55 st55 hQ55
    subst l55 y55 z55
    obtain ⟨N55q, rfl, e55⟩ := hQ55
    have N55 := Fr.app N45 N55q
    have pre56 : ∀ t, Steps p.tables e below (T55.setTop (mkF m 237 #[.val (.int p0), .val (.int p1), .val (.int p2), .val (.int p3), .val (.int p4), .val (.long q5), .second, .val (.int (v0_1 p0 p1 p2 p3 p4 q5)), .val (.int (v0_3 p0 p1 p2 p3 p4 q5)), .val (.int p2), .val (.int (v0_4 p0 p1 p2 p3 p4 q5)), .val (.int (v0_6 p0 p1 p2 p3 p4 q5)), .val (.int (v0_7 p0 p1 p2 p3 p4 q5)), .val (.int (v0_9 p0 p1 p2 p3 p4 q5)), .val (.int (v0_15 p0 p1 p2 p3 p4 q5)), .val (.int (v0_16 p0 p1 p2 p3 p4 q5)), .val (.int (v0_17 p0 p1 p2 p3 p4 q5)), .val (.int (v0_18 p0 p1 p2 p3 p4 q5)), .val (.int (v0_19 p0 p1 p2 p3 p4 q5)), .val (.ref b21), .val (.ref b29), .val (.int (v0_20 p0 p1 p2 p3 p4 q5)), .val (.int (v0_21 p0 p1 p2 p3 p4 q5))] [(.int (f6 (v0_1 p0 p1 p2 p3 p4 q5) (v0_15 p0 p1 p2 p3 p4 q5) (v0_3 p0 p1 p2 p3 p4 q5) (v0_16 p0 p1 p2 p3 p4 q5) p2 (v0_17 p0 p1 p2 p3 p4 q5) (v0_4 p0 p1 p2 p3 p4 q5) (v0_18 p0 p1 p2 p3 p4 q5) (v0_6 p0 p1 p2 p3 p4 q5) (v0_19 p0 p1 p2 p3 p4 q5)))])) t → Steps p.tables e below (s₁.setTop (entryFrame m #[(.int p0), (.int p1), (.int p2), (.int p3), (.int p4), (.long q5)] maxLocals)) t := by
      intro t k
      refine pre46 t ?_
      show Steps p.tables e below (T45.setTop (mkF m 227 #[.val (.int p0), .val (.int p1), .val (.int p2), .val (.int p3), .val (.int p4), .val (.long q5), .second, .val (.int (v0_1 p0 p1 p2 p3 p4 q5)), .val (.int (v0_3 p0 p1 p2 p3 p4 q5)), .val (.int p2), .val (.int (v0_4 p0 p1 p2 p3 p4 q5)), .val (.int (v0_6 p0 p1 p2 p3 p4 q5)), .val (.int (v0_7 p0 p1 p2 p3 p4 q5)), .val (.int (v0_9 p0 p1 p2 p3 p4 q5)), .val (.int (v0_15 p0 p1 p2 p3 p4 q5)), .val (.int (v0_16 p0 p1 p2 p3 p4 q5)), .val (.int (v0_17 p0 p1 p2 p3 p4 q5)), .val (.int (v0_18 p0 p1 p2 p3 p4 q5)), .val (.int (v0_19 p0 p1 p2 p3 p4 q5)), .val (.ref b21), .val (.ref b29), .val (.int (v0_20 p0 p1 p2 p3 p4 q5)), .val (.int (v0_21 p0 p1 p2 p3 p4 q5))] [(.int (5 : Int32)), (.int (v0_7 p0 p1 p2 p3 p4 q5))])) _
      refine XS.icmpNo X45.here hx rfl (hb hby at_227) rfl (XT.ii_lt_f c47) ?_
      show Steps p.tables e below (T45.setTop (mkF m 230 #[.val (.int p0), .val (.int p1), .val (.int p2), .val (.int p3), .val (.int p4), .val (.long q5), .second, .val (.int (v0_1 p0 p1 p2 p3 p4 q5)), .val (.int (v0_3 p0 p1 p2 p3 p4 q5)), .val (.int p2), .val (.int (v0_4 p0 p1 p2 p3 p4 q5)), .val (.int (v0_6 p0 p1 p2 p3 p4 q5)), .val (.int (v0_7 p0 p1 p2 p3 p4 q5)), .val (.int (v0_9 p0 p1 p2 p3 p4 q5)), .val (.int (v0_15 p0 p1 p2 p3 p4 q5)), .val (.int (v0_16 p0 p1 p2 p3 p4 q5)), .val (.int (v0_17 p0 p1 p2 p3 p4 q5)), .val (.int (v0_18 p0 p1 p2 p3 p4 q5)), .val (.int (v0_19 p0 p1 p2 p3 p4 q5)), .val (.ref b21), .val (.ref b29), .val (.int (v0_20 p0 p1 p2 p3 p4 q5)), .val (.int (v0_21 p0 p1 p2 p3 p4 q5))] [])) _
      refine XS.aload X45.here hx rfl (hb hby at_230) rfl rfl ?_
      show Steps p.tables e below (T45.setTop (mkF m 232 #[.val (.int p0), .val (.int p1), .val (.int p2), .val (.int p3), .val (.int p4), .val (.long q5), .second, .val (.int (v0_1 p0 p1 p2 p3 p4 q5)), .val (.int (v0_3 p0 p1 p2 p3 p4 q5)), .val (.int p2), .val (.int (v0_4 p0 p1 p2 p3 p4 q5)), .val (.int (v0_6 p0 p1 p2 p3 p4 q5)), .val (.int (v0_7 p0 p1 p2 p3 p4 q5)), .val (.int (v0_9 p0 p1 p2 p3 p4 q5)), .val (.int (v0_15 p0 p1 p2 p3 p4 q5)), .val (.int (v0_16 p0 p1 p2 p3 p4 q5)), .val (.int (v0_17 p0 p1 p2 p3 p4 q5)), .val (.int (v0_18 p0 p1 p2 p3 p4 q5)), .val (.int (v0_19 p0 p1 p2 p3 p4 q5)), .val (.ref b21), .val (.ref b29), .val (.int (v0_20 p0 p1 p2 p3 p4 q5)), .val (.int (v0_21 p0 p1 p2 p3 p4 q5))] [(.ref b21)])) _
      refine XS.aload X45.here hx rfl (hb hby at_232) rfl rfl ?_
      show Steps p.tables e below (T45.setTop (mkF m 234 #[.val (.int p0), .val (.int p1), .val (.int p2), .val (.int p3), .val (.int p4), .val (.long q5), .second, .val (.int (v0_1 p0 p1 p2 p3 p4 q5)), .val (.int (v0_3 p0 p1 p2 p3 p4 q5)), .val (.int p2), .val (.int (v0_4 p0 p1 p2 p3 p4 q5)), .val (.int (v0_6 p0 p1 p2 p3 p4 q5)), .val (.int (v0_7 p0 p1 p2 p3 p4 q5)), .val (.int (v0_9 p0 p1 p2 p3 p4 q5)), .val (.int (v0_15 p0 p1 p2 p3 p4 q5)), .val (.int (v0_16 p0 p1 p2 p3 p4 q5)), .val (.int (v0_17 p0 p1 p2 p3 p4 q5)), .val (.int (v0_18 p0 p1 p2 p3 p4 q5)), .val (.int (v0_19 p0 p1 p2 p3 p4 q5)), .val (.ref b21), .val (.ref b29), .val (.int (v0_20 p0 p1 p2 p3 p4 q5)), .val (.int (v0_21 p0 p1 p2 p3 p4 q5))] [(.ref b29), (.ref b21)])) _
      refine st55.trans ?_
      exact k
    obtain ⟨T63, L63, X63, e63, N63, pre63⟩ : ∃ (T' : State) (L' : List Loc), Stand p l e room_1 s m #[(.int p0), (.int p1), (.int p2), (.int p3), (.int p4), (.long q5)] below meth c T' L' 2 10 ∧ T'.heap = T35.heap ∧ Fr n0 L' ∧ ∀ t, Steps p.tables e below (T'.setTop (mkF m 262 #[.val (.int p0), .val (.int p1), .val (.int p2), .val (.int p3), .val (.int p4), .val (.long q5), .second, .val (.int (v0_1 p0 p1 p2 p3 p4 q5)), .val (.int (v0_3 p0 p1 p2 p3 p4 q5)), .val (.int p2), .val (.int (v0_4 p0 p1 p2 p3 p4 q5)), .val (.int (v0_6 p0 p1 p2 p3 p4 q5)), .val (.int (v0_7 p0 p1 p2 p3 p4 q5)), .val (.int (v0_9 p0 p1 p2 p3 p4 q5)), .val (.int (v0_15 p0 p1 p2 p3 p4 q5)), .val (.int (v0_16 p0 p1 p2 p3 p4 q5)), .val (.int (v0_17 p0 p1 p2 p3 p4 q5)), .val (.int (v0_18 p0 p1 p2 p3 p4 q5)), .val (.int (v0_19 p0 p1 p2 p3 p4 q5)), .val (.ref b21), .val (.ref b29), .val (.int (v0_20 p0 p1 p2 p3 p4 q5)), .val (.int (v0_21 p0 p1 p2 p3 p4 q5))] [(.int (v0_26 p0 p1 p2 p3 p4 q5))])) t → Steps p.tables e below (s₁.setTop (entryFrame m #[(.int p0), (.int p1), (.int p2), (.int p3), (.int p4), (.long q5)] maxLocals)) t := by
      by_cases c57 : (v0_24 p0 p1 p2 p3 p4 q5) = (0 : Int32)
      · skip
        refine ⟨T55, _, X55, e55, N55, fun t k => ?_⟩
        rw [show (v0_26 p0 p1 p2 p3 p4 q5) = (0 : Int32) from (if_pos c57)] at k
        refine pre56 t ?_
        show Steps p.tables e below (T55.setTop (mkF m 237 #[.val (.int p0), .val (.int p1), .val (.int p2), .val (.int p3), .val (.int p4), .val (.long q5), .second, .val (.int (v0_1 p0 p1 p2 p3 p4 q5)), .val (.int (v0_3 p0 p1 p2 p3 p4 q5)), .val (.int p2), .val (.int (v0_4 p0 p1 p2 p3 p4 q5)), .val (.int (v0_6 p0 p1 p2 p3 p4 q5)), .val (.int (v0_7 p0 p1 p2 p3 p4 q5)), .val (.int (v0_9 p0 p1 p2 p3 p4 q5)), .val (.int (v0_15 p0 p1 p2 p3 p4 q5)), .val (.int (v0_16 p0 p1 p2 p3 p4 q5)), .val (.int (v0_17 p0 p1 p2 p3 p4 q5)), .val (.int (v0_18 p0 p1 p2 p3 p4 q5)), .val (.int (v0_19 p0 p1 p2 p3 p4 q5)), .val (.ref b21), .val (.ref b29), .val (.int (v0_20 p0 p1 p2 p3 p4 q5)), .val (.int (v0_21 p0 p1 p2 p3 p4 q5))] [(.int (f6 (v0_1 p0 p1 p2 p3 p4 q5) (v0_15 p0 p1 p2 p3 p4 q5) (v0_3 p0 p1 p2 p3 p4 q5) (v0_16 p0 p1 p2 p3 p4 q5) p2 (v0_17 p0 p1 p2 p3 p4 q5) (v0_4 p0 p1 p2 p3 p4 q5) (v0_18 p0 p1 p2 p3 p4 q5) (v0_6 p0 p1 p2 p3 p4 q5) (v0_19 p0 p1 p2 p3 p4 q5)))])) _
        refine XS.ifYes X55.here hx rfl (pc0 := 237) (pc' := 261) rfl (hb hby at_237) rfl (XT.i0_eq_t c57) (by decide) (by decide) ?_
        show Steps p.tables e below (T55.setTop (mkF m 261 #[.val (.int p0), .val (.int p1), .val (.int p2), .val (.int p3), .val (.int p4), .val (.long q5), .second, .val (.int (v0_1 p0 p1 p2 p3 p4 q5)), .val (.int (v0_3 p0 p1 p2 p3 p4 q5)), .val (.int p2), .val (.int (v0_4 p0 p1 p2 p3 p4 q5)), .val (.int (v0_6 p0 p1 p2 p3 p4 q5)), .val (.int (v0_7 p0 p1 p2 p3 p4 q5)), .val (.int (v0_9 p0 p1 p2 p3 p4 q5)), .val (.int (v0_15 p0 p1 p2 p3 p4 q5)), .val (.int (v0_16 p0 p1 p2 p3 p4 q5)), .val (.int (v0_17 p0 p1 p2 p3 p4 q5)), .val (.int (v0_18 p0 p1 p2 p3 p4 q5)), .val (.int (v0_19 p0 p1 p2 p3 p4 q5)), .val (.ref b21), .val (.ref b29), .val (.int (v0_20 p0 p1 p2 p3 p4 q5)), .val (.int (v0_21 p0 p1 p2 p3 p4 q5))] [])) _
        refine XT.iconstV X55.here hx rfl (0 : Int32) (hb hby at_261) (by decide) ?_
        exact k
      · skip
        have pre58 : ∀ t, Steps p.tables e below (T55.setTop (mkF m 244 #[.val (.int p0), .val (.int p1), .val (.int p2), .val (.int p3), .val (.int p4), .val (.long q5), .second, .val (.int (v0_1 p0 p1 p2 p3 p4 q5)), .val (.int (v0_3 p0 p1 p2 p3 p4 q5)), .val (.int p2), .val (.int (v0_4 p0 p1 p2 p3 p4 q5)), .val (.int (v0_6 p0 p1 p2 p3 p4 q5)), .val (.int (v0_7 p0 p1 p2 p3 p4 q5)), .val (.int (v0_9 p0 p1 p2 p3 p4 q5)), .val (.int (v0_15 p0 p1 p2 p3 p4 q5)), .val (.int (v0_16 p0 p1 p2 p3 p4 q5)), .val (.int (v0_17 p0 p1 p2 p3 p4 q5)), .val (.int (v0_18 p0 p1 p2 p3 p4 q5)), .val (.int (v0_19 p0 p1 p2 p3 p4 q5)), .val (.ref b21), .val (.ref b29), .val (.int (v0_20 p0 p1 p2 p3 p4 q5)), .val (.int (v0_21 p0 p1 p2 p3 p4 q5))] [(.int (v0_21 p0 p1 p2 p3 p4 q5)), (.int (v0_20 p0 p1 p2 p3 p4 q5))])) t → Steps p.tables e below (s₁.setTop (entryFrame m #[(.int p0), (.int p1), (.int p2), (.int p3), (.int p4), (.long q5)] maxLocals)) t := by
          intro t k
          refine pre56 t ?_
          show Steps p.tables e below (T55.setTop (mkF m 237 #[.val (.int p0), .val (.int p1), .val (.int p2), .val (.int p3), .val (.int p4), .val (.long q5), .second, .val (.int (v0_1 p0 p1 p2 p3 p4 q5)), .val (.int (v0_3 p0 p1 p2 p3 p4 q5)), .val (.int p2), .val (.int (v0_4 p0 p1 p2 p3 p4 q5)), .val (.int (v0_6 p0 p1 p2 p3 p4 q5)), .val (.int (v0_7 p0 p1 p2 p3 p4 q5)), .val (.int (v0_9 p0 p1 p2 p3 p4 q5)), .val (.int (v0_15 p0 p1 p2 p3 p4 q5)), .val (.int (v0_16 p0 p1 p2 p3 p4 q5)), .val (.int (v0_17 p0 p1 p2 p3 p4 q5)), .val (.int (v0_18 p0 p1 p2 p3 p4 q5)), .val (.int (v0_19 p0 p1 p2 p3 p4 q5)), .val (.ref b21), .val (.ref b29), .val (.int (v0_20 p0 p1 p2 p3 p4 q5)), .val (.int (v0_21 p0 p1 p2 p3 p4 q5))] [(.int (f6 (v0_1 p0 p1 p2 p3 p4 q5) (v0_15 p0 p1 p2 p3 p4 q5) (v0_3 p0 p1 p2 p3 p4 q5) (v0_16 p0 p1 p2 p3 p4 q5) p2 (v0_17 p0 p1 p2 p3 p4 q5) (v0_4 p0 p1 p2 p3 p4 q5) (v0_18 p0 p1 p2 p3 p4 q5) (v0_6 p0 p1 p2 p3 p4 q5) (v0_19 p0 p1 p2 p3 p4 q5)))])) _
          refine XS.ifNo X55.here hx rfl (hb hby at_237) rfl (XT.i0_eq_f c57) ?_
          show Steps p.tables e below (T55.setTop (mkF m 240 #[.val (.int p0), .val (.int p1), .val (.int p2), .val (.int p3), .val (.int p4), .val (.long q5), .second, .val (.int (v0_1 p0 p1 p2 p3 p4 q5)), .val (.int (v0_3 p0 p1 p2 p3 p4 q5)), .val (.int p2), .val (.int (v0_4 p0 p1 p2 p3 p4 q5)), .val (.int (v0_6 p0 p1 p2 p3 p4 q5)), .val (.int (v0_7 p0 p1 p2 p3 p4 q5)), .val (.int (v0_9 p0 p1 p2 p3 p4 q5)), .val (.int (v0_15 p0 p1 p2 p3 p4 q5)), .val (.int (v0_16 p0 p1 p2 p3 p4 q5)), .val (.int (v0_17 p0 p1 p2 p3 p4 q5)), .val (.int (v0_18 p0 p1 p2 p3 p4 q5)), .val (.int (v0_19 p0 p1 p2 p3 p4 q5)), .val (.ref b21), .val (.ref b29), .val (.int (v0_20 p0 p1 p2 p3 p4 q5)), .val (.int (v0_21 p0 p1 p2 p3 p4 q5))] [])) _
          refine XS.iload X55.here hx rfl (hb hby at_240) rfl ?_
          show Steps p.tables e below (T55.setTop (mkF m 242 #[.val (.int p0), .val (.int p1), .val (.int p2), .val (.int p3), .val (.int p4), .val (.long q5), .second, .val (.int (v0_1 p0 p1 p2 p3 p4 q5)), .val (.int (v0_3 p0 p1 p2 p3 p4 q5)), .val (.int p2), .val (.int (v0_4 p0 p1 p2 p3 p4 q5)), .val (.int (v0_6 p0 p1 p2 p3 p4 q5)), .val (.int (v0_7 p0 p1 p2 p3 p4 q5)), .val (.int (v0_9 p0 p1 p2 p3 p4 q5)), .val (.int (v0_15 p0 p1 p2 p3 p4 q5)), .val (.int (v0_16 p0 p1 p2 p3 p4 q5)), .val (.int (v0_17 p0 p1 p2 p3 p4 q5)), .val (.int (v0_18 p0 p1 p2 p3 p4 q5)), .val (.int (v0_19 p0 p1 p2 p3 p4 q5)), .val (.ref b21), .val (.ref b29), .val (.int (v0_20 p0 p1 p2 p3 p4 q5)), .val (.int (v0_21 p0 p1 p2 p3 p4 q5))] [(.int (v0_20 p0 p1 p2 p3 p4 q5))])) _
          refine XS.iload X55.here hx rfl (hb hby at_242) rfl ?_
          exact k
        by_cases c59 : (v0_20 p0 p1 p2 p3 p4 q5) = (v0_21 p0 p1 p2 p3 p4 q5)
        · skip
          obtain ⟨cq60, kq60, q60a, q60b, q60c⟩ := isOf hZ e55 k44
          obtain ⟨_, _, ⟨T60, L60, k60, n60⟩, -, X60, ⟨Lc60, hQ60, l60, y60, z60⟩, st60⟩ := X55.virtualBack hx (y := (⟨"com/example/vannus/vannus/Passage", "hashCode", "()I"⟩ : MethodName)) (z := (⟨"com/example/vannus/vannus/Passage", "hashCode", "()I"⟩ : MethodName)) hown (mvT hZ (hw _ (List.mem_of_getElem? (i := 29) rfl))) (mvT hZ (hw _ (List.mem_of_getElem? (i := 30) rfl))) (notFace_of_selects (args := #[]) (mvT hZ (hw _ (List.mem_of_getElem? (i := 32) rfl)))) (mvT hZ (hw _ (List.mem_of_getElem? (i := 32) rfl))) (mvT hZ (hw _ (List.mem_of_getElem? (i := 31) rfl))) (by decide) (backOf (W := 1) (rm5 l Z a0 hw [] b21 (v0_1 p0 p1 p2 p3 p4 q5) (v0_3 p0 p1 p2 p3 p4 q5) p2 (v0_4 p0 p1 p2 p3 p4 q5) (v0_6 p0 p1 p2 p3 p4 q5) T35.heap n0 z36 k39 k40 k41 k42 k43) hZ (hw _ (List.mem_of_getElem? (i := 33) rfl)) (hw _ (List.mem_of_getElem? (i := 12) rfl)) (by decide) (by decide)) q60a q60c (g := (mkF m 251 #[.val (.int p0), .val (.int p1), .val (.int p2), .val (.int p3), .val (.int p4), .val (.long q5), .second, .val (.int (v0_1 p0 p1 p2 p3 p4 q5)), .val (.int (v0_3 p0 p1 p2 p3 p4 q5)), .val (.int p2), .val (.int (v0_4 p0 p1 p2 p3 p4 q5)), .val (.int (v0_6 p0 p1 p2 p3 p4 q5)), .val (.int (v0_7 p0 p1 p2 p3 p4 q5)), .val (.int (v0_9 p0 p1 p2 p3 p4 q5)), .val (.int (v0_15 p0 p1 p2 p3 p4 q5)), .val (.int (v0_16 p0 p1 p2 p3 p4 q5)), .val (.int (v0_17 p0 p1 p2 p3 p4 q5)), .val (.int (v0_18 p0 p1 p2 p3 p4 q5)), .val (.int (v0_19 p0 p1 p2 p3 p4 q5)), .val (.ref b21), .val (.ref b29), .val (.int (v0_20 p0 p1 p2 p3 p4 q5)), .val (.int (v0_21 p0 p1 p2 p3 p4 q5))] [(.ref b21), (.int (v0_20 p0 p1 p2 p3 p4 q5))])) rfl (by rw [hml]; rfl) (Steps.refl _) (argsL := []) (rest := [(.int (v0_20 p0 p1 p2 p3 p4 q5))]) (lenOf pd___I rfl) rfl (by show 2 * 0 + _ ≤ _; exact Nat.le_of_eq rfl) (hb hby at_251) (fun _ _ => ⟨rfl, e55, (by decide : 2 + 0 ≤ _), (by decide : 10 + 0 ≤ _)⟩)
          dsimp only [Pt.U, Pt.locs, Pt.cells, Pt.slots] at X60 l60 y60 z60 st60 hQ60
          subst l60 y60 z60
          obtain ⟨N60q, rfl, e60⟩ := hQ60
          have N60 := Fr.app N55 N60q
          have pre61 : ∀ t, Steps p.tables e below (T60.setTop (mkF m 254 #[.val (.int p0), .val (.int p1), .val (.int p2), .val (.int p3), .val (.int p4), .val (.long q5), .second, .val (.int (v0_1 p0 p1 p2 p3 p4 q5)), .val (.int (v0_3 p0 p1 p2 p3 p4 q5)), .val (.int p2), .val (.int (v0_4 p0 p1 p2 p3 p4 q5)), .val (.int (v0_6 p0 p1 p2 p3 p4 q5)), .val (.int (v0_7 p0 p1 p2 p3 p4 q5)), .val (.int (v0_9 p0 p1 p2 p3 p4 q5)), .val (.int (v0_15 p0 p1 p2 p3 p4 q5)), .val (.int (v0_16 p0 p1 p2 p3 p4 q5)), .val (.int (v0_17 p0 p1 p2 p3 p4 q5)), .val (.int (v0_18 p0 p1 p2 p3 p4 q5)), .val (.int (v0_19 p0 p1 p2 p3 p4 q5)), .val (.ref b21), .val (.ref b29), .val (.int (v0_20 p0 p1 p2 p3 p4 q5)), .val (.int (v0_21 p0 p1 p2 p3 p4 q5))] [(.int (f5 (v0_1 p0 p1 p2 p3 p4 q5) (v0_3 p0 p1 p2 p3 p4 q5) p2 (v0_4 p0 p1 p2 p3 p4 q5) (v0_6 p0 p1 p2 p3 p4 q5))), (.int (v0_20 p0 p1 p2 p3 p4 q5))])) t → Steps p.tables e below (s₁.setTop (entryFrame m #[(.int p0), (.int p1), (.int p2), (.int p3), (.int p4), (.long q5)] maxLocals)) t := by
            intro t k
            refine pre58 t ?_
            show Steps p.tables e below (T55.setTop (mkF m 244 #[.val (.int p0), .val (.int p1), .val (.int p2), .val (.int p3), .val (.int p4), .val (.long q5), .second, .val (.int (v0_1 p0 p1 p2 p3 p4 q5)), .val (.int (v0_3 p0 p1 p2 p3 p4 q5)), .val (.int p2), .val (.int (v0_4 p0 p1 p2 p3 p4 q5)), .val (.int (v0_6 p0 p1 p2 p3 p4 q5)), .val (.int (v0_7 p0 p1 p2 p3 p4 q5)), .val (.int (v0_9 p0 p1 p2 p3 p4 q5)), .val (.int (v0_15 p0 p1 p2 p3 p4 q5)), .val (.int (v0_16 p0 p1 p2 p3 p4 q5)), .val (.int (v0_17 p0 p1 p2 p3 p4 q5)), .val (.int (v0_18 p0 p1 p2 p3 p4 q5)), .val (.int (v0_19 p0 p1 p2 p3 p4 q5)), .val (.ref b21), .val (.ref b29), .val (.int (v0_20 p0 p1 p2 p3 p4 q5)), .val (.int (v0_21 p0 p1 p2 p3 p4 q5))] [(.int (v0_21 p0 p1 p2 p3 p4 q5)), (.int (v0_20 p0 p1 p2 p3 p4 q5))])) _
            refine XS.icmpNo X55.here hx rfl (hb hby at_244) rfl (XT.ii_ne_f c59) ?_
            show Steps p.tables e below (T55.setTop (mkF m 247 #[.val (.int p0), .val (.int p1), .val (.int p2), .val (.int p3), .val (.int p4), .val (.long q5), .second, .val (.int (v0_1 p0 p1 p2 p3 p4 q5)), .val (.int (v0_3 p0 p1 p2 p3 p4 q5)), .val (.int p2), .val (.int (v0_4 p0 p1 p2 p3 p4 q5)), .val (.int (v0_6 p0 p1 p2 p3 p4 q5)), .val (.int (v0_7 p0 p1 p2 p3 p4 q5)), .val (.int (v0_9 p0 p1 p2 p3 p4 q5)), .val (.int (v0_15 p0 p1 p2 p3 p4 q5)), .val (.int (v0_16 p0 p1 p2 p3 p4 q5)), .val (.int (v0_17 p0 p1 p2 p3 p4 q5)), .val (.int (v0_18 p0 p1 p2 p3 p4 q5)), .val (.int (v0_19 p0 p1 p2 p3 p4 q5)), .val (.ref b21), .val (.ref b29), .val (.int (v0_20 p0 p1 p2 p3 p4 q5)), .val (.int (v0_21 p0 p1 p2 p3 p4 q5))] [])) _
            refine XS.iload X55.here hx rfl (hb hby at_247) rfl ?_
            show Steps p.tables e below (T55.setTop (mkF m 249 #[.val (.int p0), .val (.int p1), .val (.int p2), .val (.int p3), .val (.int p4), .val (.long q5), .second, .val (.int (v0_1 p0 p1 p2 p3 p4 q5)), .val (.int (v0_3 p0 p1 p2 p3 p4 q5)), .val (.int p2), .val (.int (v0_4 p0 p1 p2 p3 p4 q5)), .val (.int (v0_6 p0 p1 p2 p3 p4 q5)), .val (.int (v0_7 p0 p1 p2 p3 p4 q5)), .val (.int (v0_9 p0 p1 p2 p3 p4 q5)), .val (.int (v0_15 p0 p1 p2 p3 p4 q5)), .val (.int (v0_16 p0 p1 p2 p3 p4 q5)), .val (.int (v0_17 p0 p1 p2 p3 p4 q5)), .val (.int (v0_18 p0 p1 p2 p3 p4 q5)), .val (.int (v0_19 p0 p1 p2 p3 p4 q5)), .val (.ref b21), .val (.ref b29), .val (.int (v0_20 p0 p1 p2 p3 p4 q5)), .val (.int (v0_21 p0 p1 p2 p3 p4 q5))] [(.int (v0_20 p0 p1 p2 p3 p4 q5))])) _
            refine XS.aload X55.here hx rfl (hb hby at_249) rfl rfl ?_
            show Steps p.tables e below (T55.setTop (mkF m 251 #[.val (.int p0), .val (.int p1), .val (.int p2), .val (.int p3), .val (.int p4), .val (.long q5), .second, .val (.int (v0_1 p0 p1 p2 p3 p4 q5)), .val (.int (v0_3 p0 p1 p2 p3 p4 q5)), .val (.int p2), .val (.int (v0_4 p0 p1 p2 p3 p4 q5)), .val (.int (v0_6 p0 p1 p2 p3 p4 q5)), .val (.int (v0_7 p0 p1 p2 p3 p4 q5)), .val (.int (v0_9 p0 p1 p2 p3 p4 q5)), .val (.int (v0_15 p0 p1 p2 p3 p4 q5)), .val (.int (v0_16 p0 p1 p2 p3 p4 q5)), .val (.int (v0_17 p0 p1 p2 p3 p4 q5)), .val (.int (v0_18 p0 p1 p2 p3 p4 q5)), .val (.int (v0_19 p0 p1 p2 p3 p4 q5)), .val (.ref b21), .val (.ref b29), .val (.int (v0_20 p0 p1 p2 p3 p4 q5)), .val (.int (v0_21 p0 p1 p2 p3 p4 q5))] [(.ref b21), (.int (v0_20 p0 p1 p2 p3 p4 q5))])) _
            refine st60.trans ?_
            exact k
          by_cases c62 : (v0_20 p0 p1 p2 p3 p4 q5) = (v0_25 p0 p1 p2 p3 p4 q5)
          · skip
            refine ⟨T60, _, X60, e60, N60, fun t k => ?_⟩
            rw [show (v0_26 p0 p1 p2 p3 p4 q5) = (1 : Int32) from (((if_neg c57).trans (if_pos c59)).trans (if_pos c62))] at k
            refine pre61 t ?_
            show Steps p.tables e below (T60.setTop (mkF m 254 #[.val (.int p0), .val (.int p1), .val (.int p2), .val (.int p3), .val (.int p4), .val (.long q5), .second, .val (.int (v0_1 p0 p1 p2 p3 p4 q5)), .val (.int (v0_3 p0 p1 p2 p3 p4 q5)), .val (.int p2), .val (.int (v0_4 p0 p1 p2 p3 p4 q5)), .val (.int (v0_6 p0 p1 p2 p3 p4 q5)), .val (.int (v0_7 p0 p1 p2 p3 p4 q5)), .val (.int (v0_9 p0 p1 p2 p3 p4 q5)), .val (.int (v0_15 p0 p1 p2 p3 p4 q5)), .val (.int (v0_16 p0 p1 p2 p3 p4 q5)), .val (.int (v0_17 p0 p1 p2 p3 p4 q5)), .val (.int (v0_18 p0 p1 p2 p3 p4 q5)), .val (.int (v0_19 p0 p1 p2 p3 p4 q5)), .val (.ref b21), .val (.ref b29), .val (.int (v0_20 p0 p1 p2 p3 p4 q5)), .val (.int (v0_21 p0 p1 p2 p3 p4 q5))] [(.int (f5 (v0_1 p0 p1 p2 p3 p4 q5) (v0_3 p0 p1 p2 p3 p4 q5) p2 (v0_4 p0 p1 p2 p3 p4 q5) (v0_6 p0 p1 p2 p3 p4 q5))), (.int (v0_20 p0 p1 p2 p3 p4 q5))])) _
            refine XS.icmpNo X60.here hx rfl (hb hby at_254) rfl (XT.ii_ne_f c62) ?_
            show Steps p.tables e below (T60.setTop (mkF m 257 #[.val (.int p0), .val (.int p1), .val (.int p2), .val (.int p3), .val (.int p4), .val (.long q5), .second, .val (.int (v0_1 p0 p1 p2 p3 p4 q5)), .val (.int (v0_3 p0 p1 p2 p3 p4 q5)), .val (.int p2), .val (.int (v0_4 p0 p1 p2 p3 p4 q5)), .val (.int (v0_6 p0 p1 p2 p3 p4 q5)), .val (.int (v0_7 p0 p1 p2 p3 p4 q5)), .val (.int (v0_9 p0 p1 p2 p3 p4 q5)), .val (.int (v0_15 p0 p1 p2 p3 p4 q5)), .val (.int (v0_16 p0 p1 p2 p3 p4 q5)), .val (.int (v0_17 p0 p1 p2 p3 p4 q5)), .val (.int (v0_18 p0 p1 p2 p3 p4 q5)), .val (.int (v0_19 p0 p1 p2 p3 p4 q5)), .val (.ref b21), .val (.ref b29), .val (.int (v0_20 p0 p1 p2 p3 p4 q5)), .val (.int (v0_21 p0 p1 p2 p3 p4 q5))] [])) _
            refine XT.iconstV X60.here hx rfl (1 : Int32) (hb hby at_257) (by decide) ?_
            show Steps p.tables e below (T60.setTop (mkF m 258 #[.val (.int p0), .val (.int p1), .val (.int p2), .val (.int p3), .val (.int p4), .val (.long q5), .second, .val (.int (v0_1 p0 p1 p2 p3 p4 q5)), .val (.int (v0_3 p0 p1 p2 p3 p4 q5)), .val (.int p2), .val (.int (v0_4 p0 p1 p2 p3 p4 q5)), .val (.int (v0_6 p0 p1 p2 p3 p4 q5)), .val (.int (v0_7 p0 p1 p2 p3 p4 q5)), .val (.int (v0_9 p0 p1 p2 p3 p4 q5)), .val (.int (v0_15 p0 p1 p2 p3 p4 q5)), .val (.int (v0_16 p0 p1 p2 p3 p4 q5)), .val (.int (v0_17 p0 p1 p2 p3 p4 q5)), .val (.int (v0_18 p0 p1 p2 p3 p4 q5)), .val (.int (v0_19 p0 p1 p2 p3 p4 q5)), .val (.ref b21), .val (.ref b29), .val (.int (v0_20 p0 p1 p2 p3 p4 q5)), .val (.int (v0_21 p0 p1 p2 p3 p4 q5))] [(.int (1 : Int32))])) _
            refine XS.goto X60.here hx rfl (pc0 := 258) (pc' := 262) rfl (hb hby at_258) (by decide) (by decide) ?_
            exact k
          · skip
            refine ⟨T60, _, X60, e60, N60, fun t k => ?_⟩
            rw [show (v0_26 p0 p1 p2 p3 p4 q5) = (0 : Int32) from (((if_neg c57).trans (if_pos c59)).trans (if_neg c62))] at k
            refine pre61 t ?_
            show Steps p.tables e below (T60.setTop (mkF m 254 #[.val (.int p0), .val (.int p1), .val (.int p2), .val (.int p3), .val (.int p4), .val (.long q5), .second, .val (.int (v0_1 p0 p1 p2 p3 p4 q5)), .val (.int (v0_3 p0 p1 p2 p3 p4 q5)), .val (.int p2), .val (.int (v0_4 p0 p1 p2 p3 p4 q5)), .val (.int (v0_6 p0 p1 p2 p3 p4 q5)), .val (.int (v0_7 p0 p1 p2 p3 p4 q5)), .val (.int (v0_9 p0 p1 p2 p3 p4 q5)), .val (.int (v0_15 p0 p1 p2 p3 p4 q5)), .val (.int (v0_16 p0 p1 p2 p3 p4 q5)), .val (.int (v0_17 p0 p1 p2 p3 p4 q5)), .val (.int (v0_18 p0 p1 p2 p3 p4 q5)), .val (.int (v0_19 p0 p1 p2 p3 p4 q5)), .val (.ref b21), .val (.ref b29), .val (.int (v0_20 p0 p1 p2 p3 p4 q5)), .val (.int (v0_21 p0 p1 p2 p3 p4 q5))] [(.int (f5 (v0_1 p0 p1 p2 p3 p4 q5) (v0_3 p0 p1 p2 p3 p4 q5) p2 (v0_4 p0 p1 p2 p3 p4 q5) (v0_6 p0 p1 p2 p3 p4 q5))), (.int (v0_20 p0 p1 p2 p3 p4 q5))])) _
            refine XS.icmpYes X60.here hx rfl (pc0 := 254) (pc' := 261) rfl (hb hby at_254) rfl (XT.ii_ne_t c62) (by decide) (by decide) ?_
            show Steps p.tables e below (T60.setTop (mkF m 261 #[.val (.int p0), .val (.int p1), .val (.int p2), .val (.int p3), .val (.int p4), .val (.long q5), .second, .val (.int (v0_1 p0 p1 p2 p3 p4 q5)), .val (.int (v0_3 p0 p1 p2 p3 p4 q5)), .val (.int p2), .val (.int (v0_4 p0 p1 p2 p3 p4 q5)), .val (.int (v0_6 p0 p1 p2 p3 p4 q5)), .val (.int (v0_7 p0 p1 p2 p3 p4 q5)), .val (.int (v0_9 p0 p1 p2 p3 p4 q5)), .val (.int (v0_15 p0 p1 p2 p3 p4 q5)), .val (.int (v0_16 p0 p1 p2 p3 p4 q5)), .val (.int (v0_17 p0 p1 p2 p3 p4 q5)), .val (.int (v0_18 p0 p1 p2 p3 p4 q5)), .val (.int (v0_19 p0 p1 p2 p3 p4 q5)), .val (.ref b21), .val (.ref b29), .val (.int (v0_20 p0 p1 p2 p3 p4 q5)), .val (.int (v0_21 p0 p1 p2 p3 p4 q5))] [])) _
            refine XT.iconstV X60.here hx rfl (0 : Int32) (hb hby at_261) (by decide) ?_
            exact k
        · skip
          refine ⟨T55, _, X55, e55, N55, fun t k => ?_⟩
          rw [show (v0_26 p0 p1 p2 p3 p4 q5) = (0 : Int32) from ((if_neg c57).trans (if_neg c59))] at k
          refine pre58 t ?_
          show Steps p.tables e below (T55.setTop (mkF m 244 #[.val (.int p0), .val (.int p1), .val (.int p2), .val (.int p3), .val (.int p4), .val (.long q5), .second, .val (.int (v0_1 p0 p1 p2 p3 p4 q5)), .val (.int (v0_3 p0 p1 p2 p3 p4 q5)), .val (.int p2), .val (.int (v0_4 p0 p1 p2 p3 p4 q5)), .val (.int (v0_6 p0 p1 p2 p3 p4 q5)), .val (.int (v0_7 p0 p1 p2 p3 p4 q5)), .val (.int (v0_9 p0 p1 p2 p3 p4 q5)), .val (.int (v0_15 p0 p1 p2 p3 p4 q5)), .val (.int (v0_16 p0 p1 p2 p3 p4 q5)), .val (.int (v0_17 p0 p1 p2 p3 p4 q5)), .val (.int (v0_18 p0 p1 p2 p3 p4 q5)), .val (.int (v0_19 p0 p1 p2 p3 p4 q5)), .val (.ref b21), .val (.ref b29), .val (.int (v0_20 p0 p1 p2 p3 p4 q5)), .val (.int (v0_21 p0 p1 p2 p3 p4 q5))] [(.int (v0_21 p0 p1 p2 p3 p4 q5)), (.int (v0_20 p0 p1 p2 p3 p4 q5))])) _
          refine XS.icmpYes X55.here hx rfl (pc0 := 244) (pc' := 261) rfl (hb hby at_244) rfl (XT.ii_ne_t c59) (by decide) (by decide) ?_
          show Steps p.tables e below (T55.setTop (mkF m 261 #[.val (.int p0), .val (.int p1), .val (.int p2), .val (.int p3), .val (.int p4), .val (.long q5), .second, .val (.int (v0_1 p0 p1 p2 p3 p4 q5)), .val (.int (v0_3 p0 p1 p2 p3 p4 q5)), .val (.int p2), .val (.int (v0_4 p0 p1 p2 p3 p4 q5)), .val (.int (v0_6 p0 p1 p2 p3 p4 q5)), .val (.int (v0_7 p0 p1 p2 p3 p4 q5)), .val (.int (v0_9 p0 p1 p2 p3 p4 q5)), .val (.int (v0_15 p0 p1 p2 p3 p4 q5)), .val (.int (v0_16 p0 p1 p2 p3 p4 q5)), .val (.int (v0_17 p0 p1 p2 p3 p4 q5)), .val (.int (v0_18 p0 p1 p2 p3 p4 q5)), .val (.int (v0_19 p0 p1 p2 p3 p4 q5)), .val (.ref b21), .val (.ref b29), .val (.int (v0_20 p0 p1 p2 p3 p4 q5)), .val (.int (v0_21 p0 p1 p2 p3 p4 q5))] [])) _
          refine XT.iconstV X55.here hx rfl (0 : Int32) (hb hby at_261) (by decide) ?_
          exact k
    have hv64 : (v0_26 p0 p1 p2 p3 p4 q5) = (1 : Int32) := own_v0_26 p0 p1 p2 p3 p4 q5 c47
    obtain ⟨fs, hr, hrun, hended, hW, hsame⟩ := X63.leave (v := some (.int (1 : Int32))) (fun h => by rw [Bd.returns] at h; cases h)
    refine ⟨_, _, pre63 _ ?_, hrun, hended, _, _, rfl, ?_, ⟨_, rfl⟩, hW, hsame.mono (by decide) (by decide)⟩
    · skip
      show Steps p.tables e below (T63.setTop (mkF m 262 #[.val (.int p0), .val (.int p1), .val (.int p2), .val (.int p3), .val (.int p4), .val (.long q5), .second, .val (.int (v0_1 p0 p1 p2 p3 p4 q5)), .val (.int (v0_3 p0 p1 p2 p3 p4 q5)), .val (.int p2), .val (.int (v0_4 p0 p1 p2 p3 p4 q5)), .val (.int (v0_6 p0 p1 p2 p3 p4 q5)), .val (.int (v0_7 p0 p1 p2 p3 p4 q5)), .val (.int (v0_9 p0 p1 p2 p3 p4 q5)), .val (.int (v0_15 p0 p1 p2 p3 p4 q5)), .val (.int (v0_16 p0 p1 p2 p3 p4 q5)), .val (.int (v0_17 p0 p1 p2 p3 p4 q5)), .val (.int (v0_18 p0 p1 p2 p3 p4 q5)), .val (.int (v0_19 p0 p1 p2 p3 p4 q5)), .val (.ref b21), .val (.ref b29), .val (.int (v0_20 p0 p1 p2 p3 p4 q5)), .val (.int (v0_21 p0 p1 p2 p3 p4 q5))] [(.int (v0_26 p0 p1 p2 p3 p4 q5))])) _
      rw [hv64]
      exact retN X63 hx (t := .boolean) Bd.returns (by simp) (hb hby at_262) hr
    · skip
      show Q0 Z p0 p1 p2 p3 p4 q5 h0 n0 _ T63.heap _
      rw [e63]
      exact ⟨rfl, N63⟩
set_option maxRecDepth 65536 in
set_option maxHeartbeats 40000000 in
theorem comes_1 {Post : Tables → Env → Array Value → State → Outcome → State → Prop} (hpost : ∀ tb e args s v u, (limb_1_1.after args s (.returned v) u = true ∧ limb_1_2.after args s (.returned v) u = true ∧ True) → FrameEnd s (.returned v) u (Jvm.fieldLocs frame_1_writes args s ++ Jvm.arrayLocs frame_1_arrays args s ++ Jvm.staticLocs frame_1_statics s) 16 128 → Post tb e args s (.returned v) u) :
    ArmFor flags0 classFile x code maxLocals ret World_1 tables_1 room_1 Calls_1 rest_1 Pre_1 Post := by
  intro l hfl _ _ p e ha hc hk s m args below hf hA hF happ hP
  obtain ⟨hcalls, hrest, hpre⟩ := hP
  obtain ⟨-, -, -, hnamed, -, -, -, hat⟩ := (Spec.applies_iff hf).mp happ
  obtain ⟨hg, hn⟩ := and_e (Cond.before_iff.mp (show (Jvm.Cond.and given_1 narrow_1).before args s = true from hpre))
  obtain ⟨hcount, r0⟩ := and_e hg
  obtain ⟨ha0, r1⟩ := and_e r0
  obtain ⟨ha1, r2⟩ := and_e r1
  obtain ⟨ha2, r3⟩ := and_e r2
  obtain ⟨ha3, r4⟩ := and_e r3
  obtain ⟨ha4, r5⟩ := and_e r4
  obtain ⟨w0, w1, w2, w3, w4, w5, rfl⟩ : ∃ w0 w1 w2 w3 w4 w5 : Value, args = #[w0, w1, w2, w3, w4, w5] := by
    have hs : args.size = 6 := by simpa [Cond.value, given_1] using hcount
    obtain ⟨L⟩ := args
    match L, hs with
    | [w0, w1, w2, w3, w4, w5], _ => exact ⟨w0, w1, w2, w3, w4, w5, rfl⟩
  have hw := fun d (hd : d ∈ tables_1) => atoms_spec (ws := Jvm.Cond.code x code maxLocals ret :: tables_1) hat d (List.mem_cons_of_mem _ hd)
  have hfit : Fit s := fun {y c} hc i hi => by
    obtain ⟨ha, rfl⟩ := Array.getElem?_eq_some_iff.mp hc
    have q := List.all_eq_true.mp ((Array.all_eq_true_iff_forall_mem.mp hF) _ (Array.getElem_mem ha)) i (List.mem_range.mpr hi)
    simpa [Array.getElem?_eq_getElem hi] using q
  obtain ⟨i0, ei0⟩ := is_v ha0
  obtain rfl : w0 = (.int i0) := Option.some.inj ei0
  obtain ⟨i1, ei1⟩ := is_v ha1
  obtain rfl : w1 = (.int i1) := Option.some.inj ei1
  obtain ⟨i2, ei2⟩ := is_v ha2
  obtain rfl : w2 = (.int i2) := Option.some.inj ei2
  obtain ⟨i3, ei3⟩ := is_v ha3
  obtain rfl : w3 = (.int i3) := Option.some.inj ei3
  obtain ⟨i4, ei4⟩ := is_v ha4
  obtain rfl : w4 = (.int i4) := Option.some.inj ei4
  obtain ⟨i5, ei5⟩ := isL_v r5
  obtain rfl : w5 = (.long i5) := Option.some.inj ei5
  obtain ⟨n, o, h1, h2, h3, _, L, rfl, ⟨rfl, N⟩, hq⟩ := rm0 l s _ hw tables_1 i0 i1 i2 i3 i4 i5 s.heap s.heap.size (Nat.le_refl _) p e ha hc hk s m _ below hf ((Spec.applies_iff_loose hf).mp happ).1 ⟨rfl, State.Warmed39.refl s, rfl⟩ trivial
  refine ⟨n, _, h1, h2, h3, hpost _ _ _ _ _ _ ⟨Cond.after_iff.mpr rfl, Cond.after_iff.mpr (eq_i res_at (Term.int_eval (1)) rfl), trivial⟩ ⟨hq.1, hq.2.1, (hq.2.2.sift fun y hy => Or.inr (N y hy)).mono (by decide) (by decide)⟩⟩
theorem main_1_1 : Claimed_1_1 := comes_1 fun _ _ _ _ _ _ h hF => ⟨h.1, hF⟩
theorem main_1_2 : Claimed_1_2 := comes_1 fun _ _ _ _ _ _ h hF => ⟨h.2.1, hF⟩
end Jvm.Pilot.@@N@@
namespace Jvm.Pilot.@@N@@
open Jvm Jvm.ClassFile Sem Op Lib Jvm.Free Jvm.Stand Jvm.Pilot.@@N@@.Jvm.D
/-! MADE BY PROGRAM (witnessworld.py) out of the Statement's table words and the real class files: 8 classes; the members and pool entries that the words name. The judged class is class 1, her method 2. -/
namespace start1
open Jvm.ClassFile
def u (s : String) : CpInfo := .utf8 (stringToUtf16 s)
/-- a pool by its gaps: so many unusable entries, then the entry; so many at the end -/
def gap : Nat → List CpInfo → List CpInfo
  | 0, r => r
  | n + 1, r => .unusable :: gap n r
def poolList (es : List (Nat × CpInfo)) (last : Nat) : List CpInfo := es.foldr (fun e r => gap e.1 (e.2 :: r)) (gap last [])
def pool (es : List (Nat × CpInfo)) (last : Nat) : Array CpInfo := ⟨poolList es last⟩
def fileOf (pool : Array CpInfo) (this : Nat) (attrs : Array Attribute := #[]) (ms : Array MethodInfo := #[]) (fl : Nat := 33) (sup : Nat := 0) (ifs : Array Nat := #[]) (fds : Array FieldInfo := #[]) : ClassFile where
  minorVersion := 0
  majorVersion := 65
  constantPool := pool
  accessFlags := fl
  thisClass := this
  superClass := sup
  interfaces := ifs
  fields := fds
  methods := ms
  attributes := attrs
def plain (name : String) (sup : Option ClassId) : Class where
  name := name
  kind := .ordinary
  loader := none
  accessFlags := 33
  super := sup
  interfaces := #[]
  cf := none
  fields := #[]
  methods := #[]
  instanceTypes := #[]
  staticTypes := #[]
  resolved := #[]
  callSites := []
  init := .initialized
  statics := none
  mirror := none

def pool0 : Array CpInfo := pool [(5, u "<init>"), (0, u "()V"), (1, .class_ 10), (1, u "java/lang/Object")] 113

def k0c0 : Code := { maxStack := 0, maxLocals := 1, code := object_method_1_code, exceptionTable := #[], attributes := #[] }
def k0m0 : Method := { name := "<init>", desc := "()V", sig := { parameters := [], returnType := none }, accessFlags := 1, code := some k0c0 }
/-- java/lang/Object -/
def k0 : Class := { plain "java/lang/Object" none with
  accessFlags := 33
  interfaces := #[]
  cf := some (fileOf pool0 8 #[] #[{ accessFlags := 1, nameIndex := 5, descriptorIndex := 6, attributes := #[] }] 33 0 #[] #[])
  fields := #[]
  methods := #[k0m0]
  instanceTypes := #[]
  staticTypes := #[]
  resolved := Array.replicate 124 none
  statics := none }

def pool1 : Array CpInfo := pool [(2, .class_ 4), (1, u "java/lang/Object"), (0, u "<init>"), (0, u "()V"), (0, .integer 2147483647), (0, .methodref 9 10), (0, .class_ 11), (0, .nameAndType 12 13), (0, u "java/lang/Math"), (0, u "max"), (0, u "(II)I"), (0, .long 7), (1, .methodref 17 18), (0, .class_ 19), (0, .nameAndType 20 21), (0, u "com/example/vannus/vannus/PassageHashCodePinLaw"), (0, u "other"), (0, u "(III)I"), (0, .class_ 23), (0, u "com/example/vannus/vannus/Passage"), (0, .methodref 22 25), (0, .nameAndType 5 26), (0, u "(IIIII)V"), (0, .methodref 22 28), (0, .nameAndType 29 30), (0, u "hashCode"), (0, u "()I"), (0, .methodref 22 32), (0, .nameAndType 33 34), (0, u "equals"), (0, u "(Ljava/lang/Object;)Z"), (3, u "law"), (0, u "(IIIIIJ)Z")] 2

def k1m0 : Method := { name := "<init>", desc := "()V", sig := { parameters := [], returnType := none }, accessFlags := 1, code := none }
def k1c1 : Code := { maxStack := 2, maxLocals := 4, code := method_2_code, exceptionTable := #[], attributes := #[] }
def k1m1 : Method := { name := "other", desc := "(III)I", sig := { parameters := [.int, .int, .int], returnType := some .int }, accessFlags := 10, code := some k1c1 }
def k1c2 : Code := { maxStack := 7, maxLocals := 23, code := code, exceptionTable := #[], attributes := #[] }
def k1m2 : Method := { name := "law", desc := "(IIIIIJ)Z", sig := { parameters := [.int, .int, .int, .int, .int, .long], returnType := some .boolean }, accessFlags := 9, code := some k1c2 }
/-- com/example/vannus/vannus/PassageHashCodePinLaw -/
def k1 : Class := { plain "com/example/vannus/vannus/PassageHashCodePinLaw" (some 0) with
  accessFlags := 49
  interfaces := #[]
  cf := some (fileOf pool1 17 #[] #[{ accessFlags := 1, nameIndex := 5, descriptorIndex := 6, attributes := #[] }, { accessFlags := 10, nameIndex := 20, descriptorIndex := 21, attributes := #[] }, { accessFlags := 9, nameIndex := 38, descriptorIndex := 39, attributes := #[] }] 49 2 #[] #[])
  fields := #[]
  methods := #[k1m0, k1m1, k1m2]
  instanceTypes := #[]
  staticTypes := #[]
  resolved := Array.replicate 42 none
  statics := none }

def pool2 : Array CpInfo := pool [(1, .class_ 2), (0, u "java/lang/Math"), (1, .class_ 6), (1, u "java/lang/Object"), (0, u "<init>"), (0, u "()V"), (89, .class_ 100), (1, u "java/lang/Math$RandomNumberGeneratorHolder"), (71, u "negativeZeroFloatBits"), (0, u "J"), (2, u "negativeZeroDoubleBits"), (21, u "max"), (46, u "$assertionsDisabled"), (0, u "Z"), (88, u "(II)I"), (2, u "twoToTheDoubleScaleDown"), (0, u "D"), (4, u "twoToTheDoubleScaleUp"), (9, u "E"), (3, u "PI"), (2, u "TAU"), (2, u "DEGREES_TO_RADIANS"), (0, u "RADIANS_TO_DEGREES")] 94

def k2m0 : Method := { name := "<init>", desc := "()V", sig := { parameters := [], returnType := none }, accessFlags := 2, code := none }
def k2c1 : Code := { maxStack := 2, maxLocals := 2, code := jdk_29_method_65_code, exceptionTable := #[], attributes := #[] }
def k2m1 : Method := { name := "max", desc := "(II)I", sig := { parameters := [.int, .int], returnType := some .int }, accessFlags := 9, code := some k2c1 }
/-- java/lang/Math -/
def k2 : Class := { plain "java/lang/Math" (some 0) with
  accessFlags := 49
  interfaces := #[]
  cf := some (fileOf pool2 1 #[.nestMembers #[98]] #[{ accessFlags := 2, nameIndex := 7, descriptorIndex := 8, attributes := #[] }, { accessFlags := 9, nameIndex := 198, descriptorIndex := 335, attributes := #[] }] 49 4 #[] #[{ accessFlags := 25, nameIndex := 354, descriptorIndex := 339, attributes := #[] }, { accessFlags := 25, nameIndex := 358, descriptorIndex := 339, attributes := #[] }, { accessFlags := 25, nameIndex := 361, descriptorIndex := 339, attributes := #[] }, { accessFlags := 26, nameIndex := 364, descriptorIndex := 339, attributes := #[] }, { accessFlags := 26, nameIndex := 365, descriptorIndex := 339, attributes := #[] }, { accessFlags := 26, nameIndex := 172, descriptorIndex := 173, attributes := #[] }, { accessFlags := 26, nameIndex := 176, descriptorIndex := 173, attributes := #[] }, { accessFlags := 8, nameIndex := 344, descriptorIndex := 339, attributes := #[] }, { accessFlags := 8, nameIndex := 338, descriptorIndex := 339, attributes := #[] }, { accessFlags := 4120, nameIndex := 245, descriptorIndex := 246, attributes := #[] }])
  fields := #[{ name := "E", type := .double, accessFlags := 25, slot := 0, constantValue := 0 }, { name := "PI", type := .double, accessFlags := 25, slot := 1, constantValue := 0 }, { name := "TAU", type := .double, accessFlags := 25, slot := 2, constantValue := 0 }, { name := "DEGREES_TO_RADIANS", type := .double, accessFlags := 26, slot := 3, constantValue := 0 }, { name := "RADIANS_TO_DEGREES", type := .double, accessFlags := 26, slot := 4, constantValue := 0 }, { name := "negativeZeroFloatBits", type := .long, accessFlags := 26, slot := 5, constantValue := 0 }, { name := "negativeZeroDoubleBits", type := .long, accessFlags := 26, slot := 6, constantValue := 0 }, { name := "twoToTheDoubleScaleUp", type := .double, accessFlags := 8, slot := 7, constantValue := 0 }, { name := "twoToTheDoubleScaleDown", type := .double, accessFlags := 8, slot := 8, constantValue := 0 }, { name := "$assertionsDisabled", type := .boolean, accessFlags := 4120, slot := 9, constantValue := 0 }]
  methods := #[k2m0, k2m1]
  instanceTypes := #[]
  staticTypes := #[.double, .double, .double, .double, .double, .long, .long, .double, .double, .boolean]
  resolved := Array.replicate 460 none
  statics := none }

def pool3 : Array CpInfo := pool [(1, .methodref 2 3), (0, .class_ 4), (0, .nameAndType 5 6), (0, u "java/lang/Object"), (0, u "<init>"), (0, u "()V"), (10, .fieldref 18 19), (0, .class_ 20), (0, .nameAndType 21 22), (0, u "com/example/vannus/vannus/Passage"), (0, u "start"), (0, u "I"), (0, .fieldref 18 24), (0, .nameAndType 25 22), (0, u "length"), (0, .fieldref 18 27), (0, .nameAndType 28 22), (0, u "source"), (0, .fieldref 18 30), (0, .nameAndType 31 22), (0, u "sourceStart"), (0, .fieldref 18 33), (0, .nameAndType 34 22), (0, u "sourceLength"), (3, u "(IIIII)V"), (3, u "()I"), (2, u "equals"), (0, u "(Ljava/lang/Object;)Z"), (0, u "hashCode")] 23

def k3c0 : Code := { maxStack := 4, maxLocals := 6, code := prog_26_method_1_code, exceptionTable := #[], attributes := #[] }
def k3m0 : Method := { name := "<init>", desc := "(IIIII)V", sig := { parameters := [.int, .int, .int, .int, .int], returnType := none }, accessFlags := 1, code := some k3c0 }
def k3c1 : Code := { maxStack := 2, maxLocals := 3, code := prog_26_method_9_code, exceptionTable := #[], attributes := #[] }
def k3m1 : Method := { name := "equals", desc := "(Ljava/lang/Object;)Z", sig := { parameters := [(.object "java/lang/Object")], returnType := some .boolean }, accessFlags := 1, code := some k3c1 }
def k3c2 : Code := { maxStack := 2, maxLocals := 2, code := prog_26_method_10_code, exceptionTable := #[], attributes := #[] }
def k3m2 : Method := { name := "hashCode", desc := "()I", sig := { parameters := [], returnType := some .int }, accessFlags := 1, code := some k3c2 }
/-- com/example/vannus/vannus/Passage -/
def k3 : Class := { plain "com/example/vannus/vannus/Passage" (some 0) with
  accessFlags := 49
  interfaces := #[]
  cf := some (fileOf pool3 18 #[] #[{ accessFlags := 1, nameIndex := 5, descriptorIndex := 38, attributes := #[] }, { accessFlags := 1, nameIndex := 45, descriptorIndex := 46, attributes := #[] }, { accessFlags := 1, nameIndex := 47, descriptorIndex := 42, attributes := #[] }] 49 2 #[] #[{ accessFlags := 18, nameIndex := 21, descriptorIndex := 22, attributes := #[] }, { accessFlags := 18, nameIndex := 25, descriptorIndex := 22, attributes := #[] }, { accessFlags := 18, nameIndex := 28, descriptorIndex := 22, attributes := #[] }, { accessFlags := 18, nameIndex := 31, descriptorIndex := 22, attributes := #[] }, { accessFlags := 18, nameIndex := 34, descriptorIndex := 22, attributes := #[] }])
  fields := #[{ name := "start", type := .int, accessFlags := 18, slot := 0, constantValue := 0 }, { name := "length", type := .int, accessFlags := 18, slot := 1, constantValue := 0 }, { name := "source", type := .int, accessFlags := 18, slot := 2, constantValue := 0 }, { name := "sourceStart", type := .int, accessFlags := 18, slot := 3, constantValue := 0 }, { name := "sourceLength", type := .int, accessFlags := 18, slot := 4, constantValue := 0 }]
  methods := #[k3m0, k3m1, k3m2]
  instanceTypes := #[.int, .int, .int, .int, .int]
  staticTypes := #[]
  resolved := Array.replicate 71 none
  statics := none }

def pool4 : Array CpInfo := pool [(1, u "java/lang/Cloneable"), (0, .class_ 1), (0, u "java/lang/Object"), (0, .class_ 3)] 3

/-- java/lang/Cloneable -/
def k4 : Class := { plain "java/lang/Cloneable" (some 0) with
  accessFlags := 1537
  interfaces := #[]
  cf := some (fileOf pool4 2 #[] #[] 1537 4 #[] #[])
  fields := #[]
  methods := #[]
  instanceTypes := #[]
  staticTypes := #[]
  resolved := Array.replicate 8 none
  statics := none }

def pool5 : Array CpInfo := pool [(1, u "java/io/Serializable"), (0, .class_ 1), (0, u "java/lang/Object"), (0, .class_ 3)] 3

/-- java/io/Serializable -/
def k5 : Class := { plain "java/io/Serializable" (some 0) with
  accessFlags := 1537
  interfaces := #[]
  cf := some (fileOf pool5 2 #[] #[] 1537 4 #[] #[])
  fields := #[]
  methods := #[]
  instanceTypes := #[]
  staticTypes := #[]
  resolved := Array.replicate 8 none
  statics := none }

/-- the primitive byte -/
def k6 : Class := { plain "byte" none with kind := .primitive 'B', accessFlags := 0x411 }
/-- [B -/
def k7 : Class := { plain "[B" (some 0) with kind := .array 6 .byte, interfaces := #[4, 5], accessFlags := 1041 }

def heap : Heap := #[]
def classes : Array Class := #[k0, k1, k2, k3, k4, k5, k6, k7]
def interned : List (Array UInt16 × Addr) := []
def slotsUsed : Nat := 0
def theMethod : MethodId := ⟨1, 2⟩
def args0 : Array Value := #[.int 5, .int 7, .int 9, .int 11, .int 1, .long 3]
def aboutOver (below : List Frame) : State where
  vm := { classes := classes, interned := interned.toArray }
  heap := heap
  slotsUsed := slotsUsed
  threads := #[{ frames := .invoking theMethod args0 :: below }]
def below0 : List Frame := [.native { method := ⟨0, 0⟩, args := #[] }]
def about1 : State := aboutOver below0
def p0 : Program := .bare "" "" ""
def e0 : Env := launch0.env 0 0 0
theorem w_frames : about1.frames = Frame.invoking theMethod args0 :: below0 := rfl
set_option maxRecDepth 65536 in
theorem w_args : argsFit about1.vm theMethod args0 = true := by decide +kernel
set_option maxRecDepth 65536 in
theorem w_heap : heapFits about1 = true := by decide +kernel
set_option maxRecDepth 65536 in
theorem w_runnable : about1.curStatus? = some .runnable := by decide +kernel
set_option maxRecDepth 65536 in
theorem w_alone : about1.alone = true := by decide +kernel
set_option maxRecDepth 65536 in
theorem w_named : about1.methodNamed? x = some theMethod := by decide +kernel
set_option maxRecDepth 65536 in
theorem w_hears : about1.hears theMethod below0 = true := by decide +kernel
set_option maxRecDepth 65536 in
theorem w_ripe : about1.ripe theMethod args0 below0 = true := by decide +kernel
theorem w_running : about1.status = .running := rfl
set_option maxRecDepth 65536 in
theorem w_room : about1.hasRoom e0.platform room_1 = true :=
  launch0.hasRoom_least _ room_1 (by decide +kernel) (by decide +kernel) (by decide +kernel) (by decide +kernel) (by decide +kernel) (by decide +kernel)
theorem allAtoms_all (ts : List Jvm.Cond) (a : Array Jvm.Value) (st : Jvm.State) : (allAtoms ts).before a st = ts.all (fun c => c.before a st) := by
  induction ts with
  | nil => rfl
  | cons c t ih =>
    show (Jvm.Cond.and c (allAtoms t)).before a st = _
    rw [Jvm.Cond.before_and, ih, List.all_cons]
def words1 : List Jvm.Cond := Jvm.Cond.code x code maxLocals ret :: tables_1
/-- a 'code' word, met by the world's own term for the bytes: nothing is compared byte by byte -/
theorem code_word {y : MethodName} {bytes : ByteArray} {mx : Nat} {rt : Option FieldType} {a : Array Value} {s : State} {m : MethodId} {meth : Method} {c : Code} (h1 : s.methodNamed? y = some m) (h2 : s.vm.method? m = some meth) (h3 : meth.code = some c) (h4 : c.code = bytes)
    (h5 : (c.maxLocals == mx && c.exceptionTable.isEmpty && decide (c.maxStack ≤ mostOperands) && decide (meth.sig.returnType = rt) && !meth.locks && decide (parseMethodDescriptor y.desc = some meth.sig)) = true) : (Jvm.Cond.code y bytes mx rt).before a s = true := by
  simp only [Bool.and_eq_true, beq_iff_eq, Bool.not_eq_true', decide_eq_true_eq] at h5
  obtain ⟨⟨⟨⟨⟨g1, g2⟩, g3⟩, g4⟩, g5⟩, g6⟩ := h5
  simp [Cond.before, Cond.holds, Cond.value, h1, h2, h3, h4, g1, g2, g3, g4, g5, g6]
def isCode : Jvm.Cond → Bool
  | .code _ _ _ _ => true
  | _ => false
theorem all_split {L : List Jvm.Cond} {P : Jvm.Cond → Bool} (h1 : L.all (fun c => isCode c || P c) = true) (h2 : ∀ c ∈ L.filter isCode, P c = true) : L.all P = true := by
  refine List.all_eq_true.mpr fun c hc => ?_
  have h := List.all_eq_true.mp h1 c hc
  rcases Bool.eq_false_or_eq_true (isCode c) with hi | hi
  · exact h2 c (List.mem_filter.mpr ⟨hc, hi⟩)
  · simpa [hi] using h
set_option maxRecDepth 65536 in
theorem w_c0 : (Jvm.Cond.code x code maxLocals ret).before args0 about1 = true := code_word (m := ⟨1, 2⟩) (meth := k1m2) (c := k1c2) (by decide +kernel) rfl rfl rfl (by decide +kernel)
set_option maxRecDepth 65536 in
theorem w_c1 : (Jvm.Cond.code ({ cls := "java/lang/Math", name := "max", desc := "(II)I" } : Jvm.MethodName) jdk_29_method_65_code (2 : Nat) (Option.some Jvm.ClassFile.FieldType.int)).before args0 about1 = true := code_word (m := ⟨2, 1⟩) (meth := k2m1) (c := k2c1) (by decide +kernel) rfl rfl rfl (by decide +kernel)
set_option maxRecDepth 65536 in
theorem w_c2 : (Jvm.Cond.code ({ cls := "com/example/vannus/vannus/PassageHashCodePinLaw", name := "other", desc := "(III)I" } : Jvm.MethodName) method_2_code (4 : Nat) (Option.some Jvm.ClassFile.FieldType.int)).before args0 about1 = true := code_word (m := ⟨1, 1⟩) (meth := k1m1) (c := k1c1) (by decide +kernel) rfl rfl rfl (by decide +kernel)
set_option maxRecDepth 65536 in
theorem w_c3 : (Jvm.Cond.code ({ cls := "com/example/vannus/vannus/Passage", name := "<init>", desc := "(IIIII)V" } : Jvm.MethodName) prog_26_method_1_code (6 : Nat) (Option.none : Option Jvm.ClassFile.FieldType)).before args0 about1 = true := code_word (m := ⟨3, 0⟩) (meth := k3m0) (c := k3c0) (by decide +kernel) rfl rfl rfl (by decide +kernel)
set_option maxRecDepth 65536 in
theorem w_c4 : (Jvm.Cond.code ({ cls := "java/lang/Object", name := "<init>", desc := "()V" } : Jvm.MethodName) object_method_1_code (1 : Nat) (Option.none : Option Jvm.ClassFile.FieldType)).before args0 about1 = true := code_word (m := ⟨0, 0⟩) (meth := k0m0) (c := k0c0) (by decide +kernel) rfl rfl rfl (by decide +kernel)
set_option maxRecDepth 65536 in
theorem w_c5 : (Jvm.Cond.code ({ cls := "com/example/vannus/vannus/Passage", name := "hashCode", desc := "()I" } : Jvm.MethodName) prog_26_method_10_code (2 : Nat) (Option.some Jvm.ClassFile.FieldType.int)).before args0 about1 = true := code_word (m := ⟨3, 2⟩) (meth := k3m2) (c := k3c2) (by decide +kernel) rfl rfl rfl (by decide +kernel)
set_option maxRecDepth 65536 in
theorem w_c6 : (Jvm.Cond.code ({ cls := "com/example/vannus/vannus/Passage", name := "equals", desc := "(Ljava/lang/Object;)Z" } : Jvm.MethodName) prog_26_method_9_code (3 : Nat) (Option.some Jvm.ClassFile.FieldType.boolean)).before args0 about1 = true := code_word (m := ⟨3, 1⟩) (meth := k3m1) (c := k3c1) (by decide +kernel) rfl rfl rfl (by decide +kernel)
def codes1 : List Jvm.Cond := [Jvm.Cond.code x code maxLocals ret, Jvm.Cond.code ({ cls := "java/lang/Math", name := "max", desc := "(II)I" } : Jvm.MethodName) jdk_29_method_65_code (2 : Nat) (Option.some Jvm.ClassFile.FieldType.int), Jvm.Cond.code ({ cls := "com/example/vannus/vannus/PassageHashCodePinLaw", name := "other", desc := "(III)I" } : Jvm.MethodName) method_2_code (4 : Nat) (Option.some Jvm.ClassFile.FieldType.int), Jvm.Cond.code ({ cls := "com/example/vannus/vannus/Passage", name := "<init>", desc := "(IIIII)V" } : Jvm.MethodName) prog_26_method_1_code (6 : Nat) (Option.none : Option Jvm.ClassFile.FieldType), Jvm.Cond.code ({ cls := "java/lang/Object", name := "<init>", desc := "()V" } : Jvm.MethodName) object_method_1_code (1 : Nat) (Option.none : Option Jvm.ClassFile.FieldType), Jvm.Cond.code ({ cls := "com/example/vannus/vannus/Passage", name := "hashCode", desc := "()I" } : Jvm.MethodName) prog_26_method_10_code (2 : Nat) (Option.some Jvm.ClassFile.FieldType.int), Jvm.Cond.code ({ cls := "com/example/vannus/vannus/Passage", name := "equals", desc := "(Ljava/lang/Object;)Z" } : Jvm.MethodName) prog_26_method_9_code (3 : Nat) (Option.some Jvm.ClassFile.FieldType.boolean)]
set_option maxRecDepth 65536 in
theorem codes_eq : words1.filter isCode = codes1 := rfl
theorem w_codes : ∀ c ∈ words1.filter isCode, c.before args0 about1 = true := by
  rw [codes_eq]
  intro c hc
  simp only [codes1, List.mem_cons, List.not_mem_nil, or_false] at hc
  rcases hc with rfl | rfl | rfl | rfl | rfl | rfl | rfl
  · exact w_c0
  · exact w_c1
  · exact w_c2
  · exact w_c3
  · exact w_c4
  · exact w_c5
  · exact w_c6
set_option maxRecDepth 65536 in
theorem w_t1 : (words1.take 24).all (fun c => isCode c || c.before args0 about1) = true := by decide +kernel
set_option maxRecDepth 65536 in
theorem w_t2 : (words1.drop 24).all (fun c => isCode c || c.before args0 about1) = true := by decide +kernel
theorem w_tables : (allAtoms (Jvm.Cond.code x code maxLocals ret :: tables_1)).before args0 about1 = true := by
  rw [allAtoms_all]
  show words1.all (fun c => c.before args0 about1) = true
  refine all_split ?_ w_codes
  rw [← List.take_append_drop 24 words1, List.all_append, w_t1, w_t2]
  rfl
set_option maxRecDepth 65536 in
theorem w_case : (Jvm.Cond.and given_1 narrow_1).before args0 about1 = true := by decide +kernel
theorem w_applies : (headSpec (Jvm.Cond.code x code maxLocals ret :: tables_1) room_1).applies x e0.platform about1 = true :=
  (Spec.applies_iff w_frames).mpr ⟨w_running, w_runnable, w_alone, w_named, w_hears, w_ripe, w_room, w_tables⟩
theorem atStart : AtStart classFile x code maxLocals ret World_1 tables_1 room_1 Calls_1 rest_1 Pre_1 launch0 p0 e0 about1 theMethod args0 below0 :=
  ⟨lists_1, trivial, launch0.admits_env _ _ _, launch0.least_env, fairChoices_fair.cas, fairChoices_fair.clock, w_frames, w_args, w_heap, w_applies, trivial, trivial, w_case⟩
end start1
theorem witness_1 : WitnessClaimed_1 := ⟨start1.p0, start1.e0, start1.about1, start1.theMethod, start1.args0, start1.below0, start1.atStart⟩
end Jvm.Pilot.@@N@@
