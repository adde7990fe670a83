import JvmDerived
import JvmDerived.Pilot.@@N@@Statement
import JvmDerived.Pilot.@@N@@Code
set_option linter.unusedVariables false
set_option linter.unusedSimpArgs false
@@BLOCK:NumsL.lean.txt@@
namespace Jvm.RoadKit
open Sem ClassFile Op Lib Jvm.Stand Jvm.Free Jvm.LawKit
section New
variable {p : Program} {l : Launch} {e : Env} {R : Room} {s : State} {m : MethodId} {args : Array Value} {below : List Frame} {meth : Method} {c : Code} {T : State} {locs : List Loc} {cells slots : Nat}
theorem retI (X : Stand p l e R s m args below meth c T locs cells slots) (hx : p.tables.exec = Jvm.exec) {pc : Nat} {Ls : Array Slot} {z : Int32} {rest : List Value} (hret : meth.sig.returnType = some .int) (hd : decode c.code pc = .ok (.ireturn, 1)) {fs : List Frame}
    (hl : ∀ (f : JFrame) (acts : List Action), f.method = m → f.locked = none → f.entered = [] → (doReturn e (T.setTop f) acts (some (.int z))).1 = T.setFrames fs) : Steps p.tables e below (T.setTop (mkF m pc Ls (.int z :: rest))) (T.setFrames fs) := by
  have hm' : T.vm.method? m = some meth := X.method'
  have hn : narrow .int (.int z) = .int z := rfl
  show Steps p.tables e below (T.setTop { method := m, pc := pc, locals := Ls, stack := _ :: rest, locked := none }) _
  jvm_step X.here [X.here.top, hx, hd, hm', hret, hn]
  first | (intro acts; rw [hl _ acts rfl rfl rfl]) | rw [hl _ _ rfl rfl rfl]
  exact Steps.refl _
end New
end Jvm.RoadKit
namespace Jvm.Pilot.@@N@@
open Jvm Jvm.ClassFile Sem Op Lib Jvm.Free Jvm.Stand Jvm.LawKit Jvm.RoadKit Bundle Jvm.Pilot.@@N@@.Jvm.D
theorem own_rem32 (x y : Int32) : (x - (x / y) * y).toInt = x.toInt.tmod y.toInt := by
  rw [Int32.toInt_sub, Int32.toInt_mul, Int32.toInt_div]
  simp only [Int.bmod_mul_bmod, Int.sub_bmod_bmod]
  rw [Int.tmod_def, Int.mul_comm y.toInt]
  have h := Int32.toInt_mod x y
  have h1 := (x % y).toInt_lt
  have h2 := (x % y).le_toInt
  rw [h, Int.tmod_def, Int.mul_comm y.toInt] at h1 h2
  exact Int.bmod_eq_of_le (by omega) (by omega)
theorem d1_0 : decode prog_25_method_2_code 0 = .ok (.iload_n 0, 1) := by decide +kernel
theorem d1_1 : decode prog_25_method_2_code 1 = .ok (.ldc 12, 2) := by decide +kernel
theorem d1_3 : decode prog_25_method_2_code 3 = .ok (.if_icmp .lt 9, 3) := by decide +kernel
theorem d1_6 : decode prog_25_method_2_code 6 = .ok (.iload_n 0, 1) := by decide +kernel
theorem d1_7 : decode prog_25_method_2_code 7 = .ok (.ldc 13, 2) := by decide +kernel
theorem d1_9 : decode prog_25_method_2_code 9 = .ok (.if_icmp .le 7, 3) := by decide +kernel
theorem d1_12 : decode prog_25_method_2_code 12 = .ok (.iconst 1, 1) := by decide +kernel
theorem d1_13 : decode prog_25_method_2_code 13 = .ok (.goto 4, 3) := by decide +kernel
theorem d1_16 : decode prog_25_method_2_code 16 = .ok (.iconst 0, 1) := by decide +kernel
theorem d1_17 : decode prog_25_method_2_code 17 = .ok (.ireturn, 1) := by decide +kernel
theorem pn_com_example_strict_lease_strictlease_grant_Utf8 : plainName "com/example/strict_lease/strictlease/grant/Utf8" = true := by first | (simp [plainName, overriddenIn]; done) | decide +kernel
theorem ef_1 (m : MethodId) (p0 : Int32) : entryFrame m #[(.int p0)] 1 = mkF m 0 #[.val (.int p0)] [] := by first | (simp [entryFrame, mkF, argsToLocals, Value.category]; done) | rfl
def v1_1 (p0 : Int32) : Int32 := (if p0 < (55296 : Int32) then (1 : Int32) else (if (57343 : Int32) < p0 then (1 : Int32) else (0 : Int32)))
def f1 (p0 : Int32) : Int32 := (nar .boolean (v1_1 p0))
def Q1 (Z : State) (p0 : Int32) (h0 : Heap) (n0 : Nat) (v : Option Value) (h : Heap) (L : List Loc) : Prop := Fr n0 L ∧ v = some (.int (f1 p0)) ∧ h = h0
set_option maxRecDepth 65536 in
set_option maxHeartbeats 40000000 in
theorem rm1 (l : Launch) (Z : State) (a0 : Array Value) (hw : ∀ d ∈ tables_1, d.before a0 Z = true) (ws : List Jvm.Cond) (p0 : Int32) (h0 : Heap) (n0 : Nat) (Z0 : n0 ≤ h0.size) :
    MetFree l (⟨"com/example/strict_lease/strictlease/grant/Utf8", "isEncodable", "(I)Z"⟩ : MethodName) (head1 (Jvm.Cond.code (⟨"com/example/strict_lease/strictlease/grant/Utf8", "isEncodable", "(I)Z"⟩ : MethodName) prog_25_method_2_code 1 (some .boolean) :: ws) ({ frames := 0, cells := 0, slots := 0, locals := 0 } : Room)) (fun a U => a = #[(.int p0)] ∧ Z.Warmed39 U.vm ∧ U.heap = h0) (fun _ _ _ _ _ => True) (fun _ U o U' => ∃ v L, o = .returned v ∧ Q1 Z p0 h0 n0 v U'.heap L ∧ FrameEnd U o U' L ({ frames := 0, cells := 0, slots := 0, locals := 0 } : Room).cells ({ frames := 0, cells := 0, slots := 0, locals := 0 } : Room).slots) := by
  refine MetFree.of_bodySF (plainFor_of_name pn_com_example_strict_lease_strictlease_grant_Utf8) hisR ?_
  intro p e s m args below meth c s₁ Bd hml0 hP hK
  obtain ⟨rfl, hZ, hh⟩ := hP
  have hx := Bd.exec
  have hby := Bd.bytes
  have hml : c.maxLocals = 1 := hml0
  have hown : s.vm.findClass "com/example/strict_lease/strictlease/grant/Utf8" = some m.cls := findClass_of_methodNamed Bd.named
  have hnm := (name_of_methodNamed Bd.named Bd.method).1
  have X0 : Stand p l e ({ frames := 0, cells := 0, slots := 0, locals := 0 } : Room) s m #[(.int p0)] below meth c s₁ [] 0 0 := Stand.of_body Bd
  have e0 : s₁.heap = h0 := by rw [← hh, Bd.state]; rfl
  have N0 := Fr.nil n0
  have pre0 : ∀ t, Steps p.tables e below (s₁.setTop (mkF m 0 #[.val (.int p0)] [])) t → Steps p.tables e below (s₁.setTop (entryFrame m #[(.int p0)] 1)) t := fun t k => castTop (ef_1 m p0) k
  have pre1 : ∀ t, Steps p.tables e below (s₁.setTop (mkF m 3 #[.val (.int p0)] [(.int (55296 : Int32)), (.int p0)])) t → Steps p.tables e below (s₁.setTop (entryFrame m #[(.int p0)] 1)) t := by
    intro t k
    refine pre0 t ?_
    show Steps p.tables e below (s₁.setTop (mkF m 0 #[.val (.int p0)] [])) _
    refine XS.iloadN X0.here hx rfl (hb hby d1_0) rfl ?_
    show Steps p.tables e below (s₁.setTop (mkF m 1 #[.val (.int p0)] [(.int p0)])) _
    refine X0.ldcI hx hown (mvT hZ (hw _ (List.mem_of_getElem? (i := 7) rfl))) rfl (hb hby d1_1) ?_
    exact k
  have pre5 : ∀ t, Steps p.tables e below (s₁.setTop (mkF m 17 #[.val (.int p0)] [(.int (v1_1 p0))])) t → Steps p.tables e below (s₁.setTop (entryFrame m #[(.int p0)] 1)) t := by
    intro t k
    by_cases c2 : p0 < (55296 : Int32)
    · skip
      rw [show (v1_1 p0) = (1 : Int32) from (if_pos c2)] at k
      refine pre1 t ?_
      show Steps p.tables e below (s₁.setTop (mkF m 3 #[.val (.int p0)] [(.int (55296 : Int32)), (.int p0)])) _
      refine XS.icmpYes X0.here hx rfl (pc0 := 3) (pc' := 12) rfl (hb hby d1_3) rfl (XT.ii_lt_t c2) (by decide) (by decide) ?_
      show Steps p.tables e below (s₁.setTop (mkF m 12 #[.val (.int p0)] [])) _
      refine XT.iconstV X0.here hx rfl (1 : Int32) (hb hby d1_12) (by decide) ?_
      show Steps p.tables e below (s₁.setTop (mkF m 13 #[.val (.int p0)] [(.int (1 : Int32))])) _
      refine XS.goto X0.here hx rfl (pc0 := 13) (pc' := 17) rfl (hb hby d1_13) (by decide) (by decide) ?_
      exact k
    · skip
      have pre3 : ∀ t, Steps p.tables e below (s₁.setTop (mkF m 9 #[.val (.int p0)] [(.int (57343 : Int32)), (.int p0)])) t → Steps p.tables e below (s₁.setTop (entryFrame m #[(.int p0)] 1)) t := by
        intro t k
        refine pre1 t ?_
        show Steps p.tables e below (s₁.setTop (mkF m 3 #[.val (.int p0)] [(.int (55296 : Int32)), (.int p0)])) _
        refine XS.icmpNo X0.here hx rfl (hb hby d1_3) rfl (XT.ii_lt_f c2) ?_
        show Steps p.tables e below (s₁.setTop (mkF m 6 #[.val (.int p0)] [])) _
        refine XS.iloadN X0.here hx rfl (hb hby d1_6) rfl ?_
        show Steps p.tables e below (s₁.setTop (mkF m 7 #[.val (.int p0)] [(.int p0)])) _
        refine X0.ldcI hx hown (mvT hZ (hw _ (List.mem_of_getElem? (i := 8) rfl))) rfl (hb hby d1_7) ?_
        exact k
      by_cases c4 : (57343 : Int32) < p0
      · skip
        rw [show (v1_1 p0) = (1 : Int32) from ((if_neg c2).trans (if_pos c4))] at k
        refine pre3 t ?_
        show Steps p.tables e below (s₁.setTop (mkF m 9 #[.val (.int p0)] [(.int (57343 : Int32)), (.int p0)])) _
        refine XS.icmpNo X0.here hx rfl (hb hby d1_9) rfl (XT.ii_le_f c4) ?_
        show Steps p.tables e below (s₁.setTop (mkF m 12 #[.val (.int p0)] [])) _
        refine XT.iconstV X0.here hx rfl (1 : Int32) (hb hby d1_12) (by decide) ?_
        show Steps p.tables e below (s₁.setTop (mkF m 13 #[.val (.int p0)] [(.int (1 : Int32))])) _
        refine XS.goto X0.here hx rfl (pc0 := 13) (pc' := 17) rfl (hb hby d1_13) (by decide) (by decide) ?_
        exact k
      · skip
        rw [show (v1_1 p0) = (0 : Int32) from ((if_neg c2).trans (if_neg c4))] at k
        refine pre3 t ?_
        show Steps p.tables e below (s₁.setTop (mkF m 9 #[.val (.int p0)] [(.int (57343 : Int32)), (.int p0)])) _
        refine XS.icmpYes X0.here hx rfl (pc0 := 9) (pc' := 16) rfl (hb hby d1_9) rfl (XT.ii_le_t c4) (by decide) (by decide) ?_
        show Steps p.tables e below (s₁.setTop (mkF m 16 #[.val (.int p0)] [])) _
        refine XT.iconstV X0.here hx rfl (0 : Int32) (hb hby d1_16) (by decide) ?_
        exact k
  obtain ⟨fs, hr, hrun, hended, hW, hsame⟩ := X0.leave (v := some (.int (nar .boolean (v1_1 p0)))) (fun h => by rw [Bd.returns] at h; cases h)
  refine ⟨_, _, pre5 _ ?_, hrun, hended, _, _, rfl, ?_, ⟨_, rfl⟩, hW, hsame.mono (by decide) (by decide)⟩
  · skip
    show Steps p.tables e below (s₁.setTop (mkF m 17 #[.val (.int p0)] [(.int (v1_1 p0))])) _
    exact retN X0 hx (t := .boolean) Bd.returns (by simp) (hb hby d1_17) hr
  · skip
    show Q1 Z p0 h0 n0 _ s₁.heap _
    rw [e0]
    exact ⟨N0, rfl, rfl⟩
theorem pd__I_Z : parseMethodDescriptor "(I)Z" = some ⟨[.int], some .boolean⟩ := by decide +kernel
theorem pn_com_example_strict_lease_strictlease_grant_Utf8IsEncodablePinLaw : plainName "com/example/strict_lease/strictlease/grant/Utf8IsEncodablePinLaw" = true := by first | (simp [plainName, overriddenIn]; done) | decide +kernel
theorem ef_0 (m : MethodId) (p0 : Int32) (p1 : Int32) : entryFrame m #[(.int p0), (.int p1)] maxLocals = mkF m 0 #[.val (.int p0), .val (.int p1), .unset, .unset, .unset, .unset, .unset, .unset, .unset, .unset, .unset] [] := by first | (simp [entryFrame, mkF, argsToLocals, Value.category, maxLocals]; done) | rfl
def v0_1 (p0 : Int32) (p1 : Int32) : Int32 := (p0 &&& (2147483647 : Int32))
def v0_2 (p0 : Int32) (p1 : Int32) : Int32 := ((v0_1 p0 p1) - ((v0_1 p0 p1) / (1114112 : Int32)) * (1114112 : Int32))
def v0_3 (p0 : Int32) (p1 : Int32) : Int32 := (XT.ushr (v0_2 p0 p1) (11 : Int32))
def v0_4 (p0 : Int32) (p1 : Int32) : Int32 := (if (v0_3 p0 p1) = (27 : Int32) then (0 : Int32) else (1 : Int32))
def v0_5 (p0 : Int32) (p1 : Int32) : Int32 := ((55296 : Int32) + (p1 &&& (2047 : Int32)))
def v0_6 (p0 : Int32) (p1 : Int32) : Int32 := (f1 (v0_2 p0 p1))
def v0_7 (p0 : Int32) (p1 : Int32) : Int32 := (if (v0_6 p0 p1) = (v0_4 p0 p1) then (1 : Int32) else (0 : Int32))
def v0_8 (p0 : Int32) (p1 : Int32) : Int32 := (f1 (v0_5 p0 p1))
def v0_9 (p0 : Int32) (p1 : Int32) : Int32 := (if (v0_8 p0 p1) = (0 : Int32) then (1 : Int32) else (0 : Int32))
def v0_10 (p0 : Int32) (p1 : Int32) : Int32 := (f1 (55295 : Int32))
def v0_11 (p0 : Int32) (p1 : Int32) : Int32 := (f1 (57344 : Int32))
def v0_12 (p0 : Int32) (p1 : Int32) : Int32 := (f1 (0 : Int32))
def v0_13 (p0 : Int32) (p1 : Int32) : Int32 := (f1 (1114111 : Int32))
def v0_14 (p0 : Int32) (p1 : Int32) : Int32 := (if (v0_7 p0 p1) = (0 : Int32) then (0 : Int32) else (if (v0_9 p0 p1) = (0 : Int32) then (0 : Int32) else (if (v0_10 p0 p1) = (0 : Int32) then (0 : Int32) else (if (v0_11 p0 p1) = (0 : Int32) then (0 : Int32) else (if (v0_12 p0 p1) = (0 : Int32) then (0 : Int32) else (if (v0_13 p0 p1) = (0 : Int32) then (0 : Int32) else (1 : Int32)))))))
/-own-/
theorem own_f1 (p : Int32) (hp : 0 ≤ p.toInt) : f1 p = if p.toInt / 2 ^ 11 = 27 then 0 else 1 := by
  unfold f1 v1_1
  have h1 : (p < (55296 : Int32)) ↔ p.toInt < 55296 := by rw [Int32.lt_iff_toInt_lt]; exact Iff.rfl
  have h2 : ((57343 : Int32) < p) ↔ 57343 < p.toInt := by rw [Int32.lt_iff_toInt_lt]; exact Iff.rfl
  simp only [h1, h2]
  by_cases c : p.toInt / 2 ^ 11 = 27
  · rw [if_pos c, if_neg (by omega), if_neg (by omega)]; decide
  · rw [if_neg c]
    by_cases d : p.toInt < 55296
    · rw [if_pos d]; decide
    · rw [if_neg d, if_pos (by omega)]; decide
theorem own_law (p0 p1 : Int32) : v0_14 p0 p1 = (1 : Int32) := by
  have e1 : (v0_1 p0 p1).toInt = p0.toInt % 2 ^ 31 := Jvm.Kit.i32_mask p0 2147483647 (k := 31) (by decide) (by decide)
  have e2 : (v0_2 p0 p1).toInt = (v0_1 p0 p1).toInt.tmod 1114112 := own_rem32 _ _
  have e3 : 0 ≤ (v0_2 p0 p1).toInt := by rw [e2]; exact Int.tmod_nonneg _ (by omega)
  have e4 : (v0_3 p0 p1).toInt = (v0_2 p0 p1).toInt / 2 ^ 11 := Jvm.Kit.i32_iushr (Jvm.Kit.i32_nonneg.mpr e3) (by decide) (by decide)
  have e5 : (p1 &&& (2047 : Int32)).toInt = p1.toInt % 2 ^ 11 := Jvm.Kit.i32_mask p1 2047 (k := 11) (by decide) (by decide)
  have e5' : (55296 : Int32).toInt = 55296 := by decide
  have e6 : (v0_5 p0 p1).toInt = 55296 + p1.toInt % 2 ^ 11 := by
    unfold v0_5; rw [Jvm.Kit.i32_add (by omega) (by omega), e5, e5']
  have e7 : v0_7 p0 p1 = 1 := by
    unfold v0_7
    refine if_pos ?_
    unfold v0_6 v0_4
    rw [own_f1 _ e3]
    have : (v0_3 p0 p1 = (27 : Int32)) ↔ (v0_2 p0 p1).toInt / 2 ^ 11 = 27 := by
      rw [← Int32.toInt_inj, e4]; exact Iff.rfl
    simp only [this]
  have e8 : v0_9 p0 p1 = 1 := by
    unfold v0_9 v0_8
    have : f1 (v0_5 p0 p1) = 0 := by rw [own_f1 _ (by omega)]; exact if_pos (by omega)
    exact if_pos this
  have e9 : v0_10 p0 p1 = 1 := show f1 55295 = 1 by decide
  have e10 : v0_11 p0 p1 = 1 := show f1 57344 = 1 by decide
  have e11 : v0_12 p0 p1 = 1 := show f1 0 = 1 by decide
  have e12 : v0_13 p0 p1 = 1 := show f1 1114111 = 1 by decide
  unfold v0_14
  rw [e7, e8, e9, e10, e11, e12]
  decide
def Q0 (Z : State) (p0 : Int32) (p1 : Int32) (h0 : Heap) (n0 : Nat) (v : Option Value) (h : Heap) (L : List Loc) : Prop := v = some (.int (1 : Int32)) ∧ Fr n0 L
set_option maxRecDepth 65536 in
set_option maxHeartbeats 40000000 in
theorem rm0 (l : Launch) (Z : State) (a0 : Array Value) (hw : ∀ d ∈ tables_1, d.before a0 Z = true) (ws : List Jvm.Cond) (p0 : Int32) (p1 : Int32) (h0 : Heap) (n0 : Nat) (Z0 : n0 ≤ h0.size) :
    MetFree l x (head1 (Jvm.Cond.code x code maxLocals ret :: ws) room_1) (fun a U => a = #[(.int p0), (.int p1)] ∧ Z.Warmed39 U.vm ∧ U.heap = h0) (fun _ _ _ _ _ => True) (fun _ U o U' => ∃ v L, o = .returned v ∧ Q0 Z p0 p1 h0 n0 v U'.heap L ∧ FrameEnd U o U' L room_1.cells room_1.slots) := by
  refine MetFree.of_bodySF (plainFor_of_name pn_com_example_strict_lease_strictlease_grant_Utf8IsEncodablePinLaw) hisR ?_
  intro p e s m args below meth c s₁ Bd hml0 hP hK
  obtain ⟨rfl, hZ, hh⟩ := hP
  have hx := Bd.exec
  have hby := Bd.bytes
  have hml : c.maxLocals = 11 := hml0
  have hown : s.vm.findClass "com/example/strict_lease/strictlease/grant/Utf8IsEncodablePinLaw" = some m.cls := findClass_of_methodNamed Bd.named
  have hnm := (name_of_methodNamed Bd.named Bd.method).1
  have X0 : Stand p l e room_1 s m #[(.int p0), (.int p1)] below meth c s₁ [] 0 0 := Stand.of_body Bd
  have e0 : s₁.heap = h0 := by rw [← hh, Bd.state]; rfl
  have N0 := Fr.nil n0
  have pre0 : ∀ t, Steps p.tables e below (s₁.setTop (mkF m 0 #[.val (.int p0), .val (.int p1), .unset, .unset, .unset, .unset, .unset, .unset, .unset, .unset, .unset] [])) t → Steps p.tables e below (s₁.setTop (entryFrame m #[(.int p0), (.int p1)] maxLocals)) t := fun t k => castTop (ef_0 m p0 p1) k
  have pre1 : ∀ t, Steps p.tables e below (s₁.setTop (mkF m 14 #[.val (.int p0), .val (.int p1), .val (.int (v0_2 p0 p1)), .unset, .unset, .unset, .unset, .unset, .unset, .unset, .unset] [(.int (27 : Int32)), (.int (XT.ushr (v0_2 p0 p1) (11 : Int32)))])) t → Steps p.tables e below (s₁.setTop (entryFrame m #[(.int p0), (.int p1)] maxLocals)) t := by
    intro t k
    refine pre0 t ?_
    show Steps p.tables e below (s₁.setTop (mkF m 0 #[.val (.int p0), .val (.int p1), .unset, .unset, .unset, .unset, .unset, .unset, .unset, .unset, .unset] [])) _
    refine XS.iloadN X0.here hx rfl (hb hby at_0) rfl ?_
    show Steps p.tables e below (s₁.setTop (mkF m 1 #[.val (.int p0), .val (.int p1), .unset, .unset, .unset, .unset, .unset, .unset, .unset, .unset, .unset] [(.int p0)])) _
    refine X0.ldcI hx hown (mvT hZ (hw _ (List.mem_of_getElem? (i := 0) rfl))) rfl (hb hby at_1) ?_
    show Steps p.tables e below (s₁.setTop (mkF m 3 #[.val (.int p0), .val (.int p1), .unset, .unset, .unset, .unset, .unset, .unset, .unset, .unset, .unset] [(.int (2147483647 : Int32)), (.int p0)])) _
    refine XS.iand X0.here hx rfl (hb hby at_3) rfl ?_
    show Steps p.tables e below (s₁.setTop (mkF m 4 #[.val (.int p0), .val (.int p1), .unset, .unset, .unset, .unset, .unset, .unset, .unset, .unset, .unset] [(.int (p0 &&& (2147483647 : Int32)))])) _
    refine X0.ldcI hx hown (mvT hZ (hw _ (List.mem_of_getElem? (i := 1) rfl))) rfl (hb hby at_4) ?_
    show Steps p.tables e below (s₁.setTop (mkF m 6 #[.val (.int p0), .val (.int p1), .unset, .unset, .unset, .unset, .unset, .unset, .unset, .unset, .unset] [(.int (1114112 : Int32)), (.int (p0 &&& (2147483647 : Int32)))])) _
    refine XS.irem X0.here hx rfl (hb hby at_6) rfl (by decide) ?_
    show Steps p.tables e below (s₁.setTop (mkF m 7 #[.val (.int p0), .val (.int p1), .unset, .unset, .unset, .unset, .unset, .unset, .unset, .unset, .unset] [(.int ((v0_1 p0 p1) - ((v0_1 p0 p1) / (1114112 : Int32)) * (1114112 : Int32)))])) _
    refine XS.istoreN X0.here hx rfl (hb hby at_7) rfl (l' := #[.val (.int p0), .val (.int p1), .val (.int (v0_2 p0 p1)), .unset, .unset, .unset, .unset, .unset, .unset, .unset, .unset]) rfl ?_
    show Steps p.tables e below (s₁.setTop (mkF m 8 #[.val (.int p0), .val (.int p1), .val (.int (v0_2 p0 p1)), .unset, .unset, .unset, .unset, .unset, .unset, .unset, .unset] [])) _
    refine XS.iloadN X0.here hx rfl (hb hby at_8) rfl ?_
    show Steps p.tables e below (s₁.setTop (mkF m 9 #[.val (.int p0), .val (.int p1), .val (.int (v0_2 p0 p1)), .unset, .unset, .unset, .unset, .unset, .unset, .unset, .unset] [(.int (v0_2 p0 p1))])) _
    refine XT.bipushV X0.here hx rfl (11 : Int32) (hb hby at_9) (by decide) ?_
    show Steps p.tables e below (s₁.setTop (mkF m 11 #[.val (.int p0), .val (.int p1), .val (.int (v0_2 p0 p1)), .unset, .unset, .unset, .unset, .unset, .unset, .unset, .unset] [(.int (11 : Int32)), (.int (v0_2 p0 p1))])) _
    refine XT.iushr X0.here hx rfl (hb hby at_11) rfl ?_
    show Steps p.tables e below (s₁.setTop (mkF m 12 #[.val (.int p0), .val (.int p1), .val (.int (v0_2 p0 p1)), .unset, .unset, .unset, .unset, .unset, .unset, .unset, .unset] [(.int (XT.ushr (v0_2 p0 p1) (11 : Int32)))])) _
    refine XT.bipushV X0.here hx rfl (27 : Int32) (hb hby at_12) (by decide) ?_
    exact k
  have pre3 : ∀ t, Steps p.tables e below (s₁.setTop (mkF m 22 #[.val (.int p0), .val (.int p1), .val (.int (v0_2 p0 p1)), .unset, .unset, .unset, .unset, .unset, .unset, .unset, .unset] [(.int (v0_4 p0 p1))])) t → Steps p.tables e below (s₁.setTop (entryFrame m #[(.int p0), (.int p1)] maxLocals)) t := by
    intro t k
    by_cases c2 : (v0_3 p0 p1) = (27 : Int32)
    · skip
      rw [show (v0_4 p0 p1) = (0 : Int32) from (if_pos c2)] at k
      refine pre1 t ?_
      show Steps p.tables e below (s₁.setTop (mkF m 14 #[.val (.int p0), .val (.int p1), .val (.int (v0_2 p0 p1)), .unset, .unset, .unset, .unset, .unset, .unset, .unset, .unset] [(.int (27 : Int32)), (.int (XT.ushr (v0_2 p0 p1) (11 : Int32)))])) _
      refine XS.icmpYes X0.here hx rfl (pc0 := 14) (pc' := 21) rfl (hb hby at_14) rfl (XT.ii_eq_t c2) (by decide) (by decide) ?_
      show Steps p.tables e below (s₁.setTop (mkF m 21 #[.val (.int p0), .val (.int p1), .val (.int (v0_2 p0 p1)), .unset, .unset, .unset, .unset, .unset, .unset, .unset, .unset] [])) _
      refine XT.iconstV X0.here hx rfl (0 : Int32) (hb hby at_21) (by decide) ?_
      exact k
    · skip
      rw [show (v0_4 p0 p1) = (1 : Int32) from (if_neg c2)] at k
      refine pre1 t ?_
      show Steps p.tables e below (s₁.setTop (mkF m 14 #[.val (.int p0), .val (.int p1), .val (.int (v0_2 p0 p1)), .unset, .unset, .unset, .unset, .unset, .unset, .unset, .unset] [(.int (27 : Int32)), (.int (XT.ushr (v0_2 p0 p1) (11 : Int32)))])) _
      refine XS.icmpNo X0.here hx rfl (hb hby at_14) rfl (XT.ii_eq_f c2) ?_
      show Steps p.tables e below (s₁.setTop (mkF m 17 #[.val (.int p0), .val (.int p1), .val (.int (v0_2 p0 p1)), .unset, .unset, .unset, .unset, .unset, .unset, .unset, .unset] [])) _
      refine XT.iconstV X0.here hx rfl (1 : Int32) (hb hby at_17) (by decide) ?_
      show Steps p.tables e below (s₁.setTop (mkF m 18 #[.val (.int p0), .val (.int p1), .val (.int (v0_2 p0 p1)), .unset, .unset, .unset, .unset, .unset, .unset, .unset, .unset] [(.int (1 : Int32))])) _
      refine XS.goto X0.here hx rfl (pc0 := 18) (pc' := 22) rfl (hb hby at_18) (by decide) (by decide) ?_
      exact k
  obtain ⟨_, _, ⟨T4, L4, k4, n4⟩, -, X4, ⟨Lc4, hQ4, l4, y4, z4⟩, st4⟩ := Jvm.LawKit.callS X0 hx (y := (⟨"com/example/strict_lease/strictlease/grant/Utf8", "isEncodable", "(I)Z"⟩ : MethodName)) hown (mvT hZ (hw _ (List.mem_of_getElem? (i := 3) rfl))) (mvT hZ (hw _ (List.mem_of_getElem? (i := 4) rfl))) (mvT hZ (hw _ (List.mem_of_getElem? (i := 5) rfl))) (mvT hZ (hw _ (List.mem_of_getElem? (i := 6) rfl))) (by decide) (backOf (W := 0) (rm1 l Z a0 hw [] (v0_2 p0 p1) h0 n0 Z0) hZ (hw _ (List.mem_of_getElem? (i := 6) rfl)) (hw _ (List.mem_of_getElem? (i := 5) rfl)) (by decide) (by decide)) (g := (mkF m 34 #[.val (.int p0), .val (.int p1), .val (.int (v0_2 p0 p1)), .val (.int (v0_4 p0 p1)), .val (.int (v0_5 p0 p1)), .unset, .unset, .unset, .unset, .unset, .unset] [(.int (v0_2 p0 p1))])) rfl (by rw [hml]; rfl) (argsL := [(.int (v0_2 p0 p1))]) (rest := []) (lenOf pd__I_Z rfl) rfl (by show 2 * 0 + _ ≤ _; exact Nat.le_of_eq rfl) (hb hby at_34) (fun _ _ => ⟨rfl, e0, (by decide : 0 + 0 ≤ _), (by decide : 0 + 0 ≤ _)⟩)
  dsimp only [Pt.U, Pt.locs, Pt.cells, Pt.slots] at X4 l4 y4 z4 st4 hQ4
  subst l4 y4 z4
  obtain ⟨N4q, rfl, e4⟩ := hQ4
  have N4 := Fr.app N0 N4q
  have pre5 : ∀ t, Steps p.tables e below (T4.setTop (mkF m 38 #[.val (.int p0), .val (.int p1), .val (.int (v0_2 p0 p1)), .val (.int (v0_4 p0 p1)), .val (.int (v0_5 p0 p1)), .unset, .unset, .unset, .unset, .unset, .unset] [(.int (v0_4 p0 p1)), (.int (f1 (v0_2 p0 p1)))])) t → Steps p.tables e below (s₁.setTop (entryFrame m #[(.int p0), (.int p1)] maxLocals)) t := by
    intro t k
    refine pre3 t ?_
    show Steps p.tables e below (s₁.setTop (mkF m 22 #[.val (.int p0), .val (.int p1), .val (.int (v0_2 p0 p1)), .unset, .unset, .unset, .unset, .unset, .unset, .unset, .unset] [(.int (v0_4 p0 p1))])) _
    refine XS.istoreN X0.here hx rfl (hb hby at_22) rfl (l' := #[.val (.int p0), .val (.int p1), .val (.int (v0_2 p0 p1)), .val (.int (v0_4 p0 p1)), .unset, .unset, .unset, .unset, .unset, .unset, .unset]) rfl ?_
    show Steps p.tables e below (s₁.setTop (mkF m 23 #[.val (.int p0), .val (.int p1), .val (.int (v0_2 p0 p1)), .val (.int (v0_4 p0 p1)), .unset, .unset, .unset, .unset, .unset, .unset, .unset] [])) _
    refine X0.ldcI hx hown (mvT hZ (hw _ (List.mem_of_getElem? (i := 2) rfl))) rfl (hb hby at_23) ?_
    show Steps p.tables e below (s₁.setTop (mkF m 25 #[.val (.int p0), .val (.int p1), .val (.int (v0_2 p0 p1)), .val (.int (v0_4 p0 p1)), .unset, .unset, .unset, .unset, .unset, .unset, .unset] [(.int (55296 : Int32))])) _
    refine XS.iloadN X0.here hx rfl (hb hby at_25) rfl ?_
    show Steps p.tables e below (s₁.setTop (mkF m 26 #[.val (.int p0), .val (.int p1), .val (.int (v0_2 p0 p1)), .val (.int (v0_4 p0 p1)), .unset, .unset, .unset, .unset, .unset, .unset, .unset] [(.int p1), (.int (55296 : Int32))])) _
    refine XT.sipushV X0.here hx rfl (2047 : Int32) (hb hby at_26) (by decide) ?_
    show Steps p.tables e below (s₁.setTop (mkF m 29 #[.val (.int p0), .val (.int p1), .val (.int (v0_2 p0 p1)), .val (.int (v0_4 p0 p1)), .unset, .unset, .unset, .unset, .unset, .unset, .unset] [(.int (2047 : Int32)), (.int p1), (.int (55296 : Int32))])) _
    refine XS.iand X0.here hx rfl (hb hby at_29) rfl ?_
    show Steps p.tables e below (s₁.setTop (mkF m 30 #[.val (.int p0), .val (.int p1), .val (.int (v0_2 p0 p1)), .val (.int (v0_4 p0 p1)), .unset, .unset, .unset, .unset, .unset, .unset, .unset] [(.int (p1 &&& (2047 : Int32))), (.int (55296 : Int32))])) _
    refine XS.iadd X0.here hx rfl (hb hby at_30) rfl ?_
    show Steps p.tables e below (s₁.setTop (mkF m 31 #[.val (.int p0), .val (.int p1), .val (.int (v0_2 p0 p1)), .val (.int (v0_4 p0 p1)), .unset, .unset, .unset, .unset, .unset, .unset, .unset] [(.int ((55296 : Int32) + (p1 &&& (2047 : Int32))))])) _
    refine XS.istore X0.here hx rfl (hb hby at_31) rfl (l' := #[.val (.int p0), .val (.int p1), .val (.int (v0_2 p0 p1)), .val (.int (v0_4 p0 p1)), .val (.int (v0_5 p0 p1)), .unset, .unset, .unset, .unset, .unset, .unset]) rfl ?_
    show Steps p.tables e below (s₁.setTop (mkF m 33 #[.val (.int p0), .val (.int p1), .val (.int (v0_2 p0 p1)), .val (.int (v0_4 p0 p1)), .val (.int (v0_5 p0 p1)), .unset, .unset, .unset, .unset, .unset, .unset] [])) _
    refine XS.iloadN X0.here hx rfl (hb hby at_33) rfl ?_
    show Steps p.tables e below (s₁.setTop (mkF m 34 #[.val (.int p0), .val (.int p1), .val (.int (v0_2 p0 p1)), .val (.int (v0_4 p0 p1)), .val (.int (v0_5 p0 p1)), .unset, .unset, .unset, .unset, .unset, .unset] [(.int (v0_2 p0 p1))])) _
    refine st4 _ ?_
    show Steps p.tables e below (T4.setTop (mkF m 37 #[.val (.int p0), .val (.int p1), .val (.int (v0_2 p0 p1)), .val (.int (v0_4 p0 p1)), .val (.int (v0_5 p0 p1)), .unset, .unset, .unset, .unset, .unset, .unset] [(.int (f1 (v0_2 p0 p1)))])) _
    refine XS.iloadN X4.here hx rfl (hb hby at_37) rfl ?_
    exact k
  have pre7 : ∀ t, Steps p.tables e below (T4.setTop (mkF m 46 #[.val (.int p0), .val (.int p1), .val (.int (v0_2 p0 p1)), .val (.int (v0_4 p0 p1)), .val (.int (v0_5 p0 p1)), .unset, .unset, .unset, .unset, .unset, .unset] [(.int (v0_7 p0 p1))])) t → Steps p.tables e below (s₁.setTop (entryFrame m #[(.int p0), (.int p1)] maxLocals)) t := by
    intro t k
    by_cases c6 : (v0_6 p0 p1) = (v0_4 p0 p1)
    · skip
      rw [show (v0_7 p0 p1) = (1 : Int32) from (if_pos c6)] at k
      refine pre5 t ?_
      show Steps p.tables e below (T4.setTop (mkF m 38 #[.val (.int p0), .val (.int p1), .val (.int (v0_2 p0 p1)), .val (.int (v0_4 p0 p1)), .val (.int (v0_5 p0 p1)), .unset, .unset, .unset, .unset, .unset, .unset] [(.int (v0_4 p0 p1)), (.int (f1 (v0_2 p0 p1)))])) _
      refine XS.icmpNo X4.here hx rfl (hb hby at_38) rfl (XT.ii_ne_f c6) ?_
      show Steps p.tables e below (T4.setTop (mkF m 41 #[.val (.int p0), .val (.int p1), .val (.int (v0_2 p0 p1)), .val (.int (v0_4 p0 p1)), .val (.int (v0_5 p0 p1)), .unset, .unset, .unset, .unset, .unset, .unset] [])) _
      refine XT.iconstV X4.here hx rfl (1 : Int32) (hb hby at_41) (by decide) ?_
      show Steps p.tables e below (T4.setTop (mkF m 42 #[.val (.int p0), .val (.int p1), .val (.int (v0_2 p0 p1)), .val (.int (v0_4 p0 p1)), .val (.int (v0_5 p0 p1)), .unset, .unset, .unset, .unset, .unset, .unset] [(.int (1 : Int32))])) _
      refine XS.goto X4.here hx rfl (pc0 := 42) (pc' := 46) rfl (hb hby at_42) (by decide) (by decide) ?_
      exact k
    · skip
      rw [show (v0_7 p0 p1) = (0 : Int32) from (if_neg c6)] at k
      refine pre5 t ?_
      show Steps p.tables e below (T4.setTop (mkF m 38 #[.val (.int p0), .val (.int p1), .val (.int (v0_2 p0 p1)), .val (.int (v0_4 p0 p1)), .val (.int (v0_5 p0 p1)), .unset, .unset, .unset, .unset, .unset, .unset] [(.int (v0_4 p0 p1)), (.int (f1 (v0_2 p0 p1)))])) _
      refine XS.icmpYes X4.here hx rfl (pc0 := 38) (pc' := 45) rfl (hb hby at_38) rfl (XT.ii_ne_t c6) (by decide) (by decide) ?_
      show Steps p.tables e below (T4.setTop (mkF m 45 #[.val (.int p0), .val (.int p1), .val (.int (v0_2 p0 p1)), .val (.int (v0_4 p0 p1)), .val (.int (v0_5 p0 p1)), .unset, .unset, .unset, .unset, .unset, .unset] [])) _
      refine XT.iconstV X4.here hx rfl (0 : Int32) (hb hby at_45) (by decide) ?_
      exact k
  obtain ⟨_, _, ⟨T8, L8, k8, n8⟩, -, X8, ⟨Lc8, hQ8, l8, y8, z8⟩, st8⟩ := Jvm.LawKit.callS X4 hx (y := (⟨"com/example/strict_lease/strictlease/grant/Utf8", "isEncodable", "(I)Z"⟩ : MethodName)) hown (mvT hZ (hw _ (List.mem_of_getElem? (i := 3) rfl))) (mvT hZ (hw _ (List.mem_of_getElem? (i := 4) rfl))) (mvT hZ (hw _ (List.mem_of_getElem? (i := 5) rfl))) (mvT hZ (hw _ (List.mem_of_getElem? (i := 6) rfl))) (by decide) (backOf (W := 0) (rm1 l Z a0 hw [] (v0_5 p0 p1) h0 n0 Z0) hZ (hw _ (List.mem_of_getElem? (i := 6) rfl)) (hw _ (List.mem_of_getElem? (i := 5) rfl)) (by decide) (by decide)) (g := (mkF m 50 #[.val (.int p0), .val (.int p1), .val (.int (v0_2 p0 p1)), .val (.int (v0_4 p0 p1)), .val (.int (v0_5 p0 p1)), .val (.int (v0_7 p0 p1)), .unset, .unset, .unset, .unset, .unset] [(.int (v0_5 p0 p1))])) rfl (by rw [hml]; rfl) (argsL := [(.int (v0_5 p0 p1))]) (rest := []) (lenOf pd__I_Z rfl) rfl (by show 2 * 0 + _ ≤ _; exact Nat.le_of_eq rfl) (hb hby at_50) (fun _ _ => ⟨rfl, e4, (by decide : 0 + 0 ≤ _), (by decide : 0 + 0 ≤ _)⟩)
  dsimp only [Pt.U, Pt.locs, Pt.cells, Pt.slots] at X8 l8 y8 z8 st8 hQ8
  subst l8 y8 z8
  obtain ⟨N8q, rfl, e8⟩ := hQ8
  have N8 := Fr.app N4 N8q
  have pre9 : ∀ t, Steps p.tables e below (T8.setTop (mkF m 53 #[.val (.int p0), .val (.int p1), .val (.int (v0_2 p0 p1)), .val (.int (v0_4 p0 p1)), .val (.int (v0_5 p0 p1)), .val (.int (v0_7 p0 p1)), .unset, .unset, .unset, .unset, .unset] [(.int (f1 (v0_5 p0 p1)))])) t → Steps p.tables e below (s₁.setTop (entryFrame m #[(.int p0), (.int p1)] maxLocals)) t := by
    intro t k
    refine pre7 t ?_
    show Steps p.tables e below (T4.setTop (mkF m 46 #[.val (.int p0), .val (.int p1), .val (.int (v0_2 p0 p1)), .val (.int (v0_4 p0 p1)), .val (.int (v0_5 p0 p1)), .unset, .unset, .unset, .unset, .unset, .unset] [(.int (v0_7 p0 p1))])) _
    refine XS.istore X4.here hx rfl (hb hby at_46) rfl (l' := #[.val (.int p0), .val (.int p1), .val (.int (v0_2 p0 p1)), .val (.int (v0_4 p0 p1)), .val (.int (v0_5 p0 p1)), .val (.int (v0_7 p0 p1)), .unset, .unset, .unset, .unset, .unset]) rfl ?_
    show Steps p.tables e below (T4.setTop (mkF m 48 #[.val (.int p0), .val (.int p1), .val (.int (v0_2 p0 p1)), .val (.int (v0_4 p0 p1)), .val (.int (v0_5 p0 p1)), .val (.int (v0_7 p0 p1)), .unset, .unset, .unset, .unset, .unset] [])) _
    refine XS.iload X4.here hx rfl (hb hby at_48) rfl ?_
    show Steps p.tables e below (T4.setTop (mkF m 50 #[.val (.int p0), .val (.int p1), .val (.int (v0_2 p0 p1)), .val (.int (v0_4 p0 p1)), .val (.int (v0_5 p0 p1)), .val (.int (v0_7 p0 p1)), .unset, .unset, .unset, .unset, .unset] [(.int (v0_5 p0 p1))])) _
    refine st8 _ ?_
    exact k
  have pre11 : ∀ t, Steps p.tables e below (T8.setTop (mkF m 61 #[.val (.int p0), .val (.int p1), .val (.int (v0_2 p0 p1)), .val (.int (v0_4 p0 p1)), .val (.int (v0_5 p0 p1)), .val (.int (v0_7 p0 p1)), .unset, .unset, .unset, .unset, .unset] [(.int (v0_9 p0 p1))])) t → Steps p.tables e below (s₁.setTop (entryFrame m #[(.int p0), (.int p1)] maxLocals)) t := by
    intro t k
    by_cases c10 : (v0_8 p0 p1) = (0 : Int32)
    · skip
      rw [show (v0_9 p0 p1) = (1 : Int32) from (if_pos c10)] at k
      refine pre9 t ?_
      show Steps p.tables e below (T8.setTop (mkF m 53 #[.val (.int p0), .val (.int p1), .val (.int (v0_2 p0 p1)), .val (.int (v0_4 p0 p1)), .val (.int (v0_5 p0 p1)), .val (.int (v0_7 p0 p1)), .unset, .unset, .unset, .unset, .unset] [(.int (f1 (v0_5 p0 p1)))])) _
      refine XS.ifNo X8.here hx rfl (hb hby at_53) rfl (XT.i0_ne_f c10) ?_
      show Steps p.tables e below (T8.setTop (mkF m 56 #[.val (.int p0), .val (.int p1), .val (.int (v0_2 p0 p1)), .val (.int (v0_4 p0 p1)), .val (.int (v0_5 p0 p1)), .val (.int (v0_7 p0 p1)), .unset, .unset, .unset, .unset, .unset] [])) _
      refine XT.iconstV X8.here hx rfl (1 : Int32) (hb hby at_56) (by decide) ?_
      show Steps p.tables e below (T8.setTop (mkF m 57 #[.val (.int p0), .val (.int p1), .val (.int (v0_2 p0 p1)), .val (.int (v0_4 p0 p1)), .val (.int (v0_5 p0 p1)), .val (.int (v0_7 p0 p1)), .unset, .unset, .unset, .unset, .unset] [(.int (1 : Int32))])) _
      refine XS.goto X8.here hx rfl (pc0 := 57) (pc' := 61) rfl (hb hby at_57) (by decide) (by decide) ?_
      exact k
    · skip
      rw [show (v0_9 p0 p1) = (0 : Int32) from (if_neg c10)] at k
      refine pre9 t ?_
      show Steps p.tables e below (T8.setTop (mkF m 53 #[.val (.int p0), .val (.int p1), .val (.int (v0_2 p0 p1)), .val (.int (v0_4 p0 p1)), .val (.int (v0_5 p0 p1)), .val (.int (v0_7 p0 p1)), .unset, .unset, .unset, .unset, .unset] [(.int (f1 (v0_5 p0 p1)))])) _
      refine XS.ifYes X8.here hx rfl (pc0 := 53) (pc' := 60) rfl (hb hby at_53) rfl (XT.i0_ne_t c10) (by decide) (by decide) ?_
      show Steps p.tables e below (T8.setTop (mkF m 60 #[.val (.int p0), .val (.int p1), .val (.int (v0_2 p0 p1)), .val (.int (v0_4 p0 p1)), .val (.int (v0_5 p0 p1)), .val (.int (v0_7 p0 p1)), .unset, .unset, .unset, .unset, .unset] [])) _
      refine XT.iconstV X8.here hx rfl (0 : Int32) (hb hby at_60) (by decide) ?_
      exact k
  obtain ⟨_, _, ⟨T12, L12, k12, n12⟩, -, X12, ⟨Lc12, hQ12, l12, y12, z12⟩, st12⟩ := Jvm.LawKit.callS X8 hx (y := (⟨"com/example/strict_lease/strictlease/grant/Utf8", "isEncodable", "(I)Z"⟩ : MethodName)) hown (mvT hZ (hw _ (List.mem_of_getElem? (i := 3) rfl))) (mvT hZ (hw _ (List.mem_of_getElem? (i := 4) rfl))) (mvT hZ (hw _ (List.mem_of_getElem? (i := 5) rfl))) (mvT hZ (hw _ (List.mem_of_getElem? (i := 6) rfl))) (by decide) (backOf (W := 0) (rm1 l Z a0 hw [] (55295 : Int32) h0 n0 Z0) hZ (hw _ (List.mem_of_getElem? (i := 6) rfl)) (hw _ (List.mem_of_getElem? (i := 5) rfl)) (by decide) (by decide)) (g := (mkF m 65 #[.val (.int p0), .val (.int p1), .val (.int (v0_2 p0 p1)), .val (.int (v0_4 p0 p1)), .val (.int (v0_5 p0 p1)), .val (.int (v0_7 p0 p1)), .val (.int (v0_9 p0 p1)), .unset, .unset, .unset, .unset] [(.int (55295 : Int32))])) rfl (by rw [hml]; rfl) (argsL := [(.int (55295 : Int32))]) (rest := []) (lenOf pd__I_Z rfl) rfl (by show 2 * 0 + _ ≤ _; exact Nat.le_of_eq rfl) (hb hby at_65) (fun _ _ => ⟨rfl, e8, (by decide : 0 + 0 ≤ _), (by decide : 0 + 0 ≤ _)⟩)
  dsimp only [Pt.U, Pt.locs, Pt.cells, Pt.slots] at X12 l12 y12 z12 st12 hQ12
  subst l12 y12 z12
  obtain ⟨N12q, rfl, e12⟩ := hQ12
  have N12 := Fr.app N8 N12q
  obtain ⟨_, _, ⟨T13, L13, k13, n13⟩, -, X13, ⟨Lc13, hQ13, l13, y13, z13⟩, st13⟩ := Jvm.LawKit.callS X12 hx (y := (⟨"com/example/strict_lease/strictlease/grant/Utf8", "isEncodable", "(I)Z"⟩ : MethodName)) hown (mvT hZ (hw _ (List.mem_of_getElem? (i := 3) rfl))) (mvT hZ (hw _ (List.mem_of_getElem? (i := 4) rfl))) (mvT hZ (hw _ (List.mem_of_getElem? (i := 5) rfl))) (mvT hZ (hw _ (List.mem_of_getElem? (i := 6) rfl))) (by decide) (backOf (W := 0) (rm1 l Z a0 hw [] (57344 : Int32) h0 n0 Z0) hZ (hw _ (List.mem_of_getElem? (i := 6) rfl)) (hw _ (List.mem_of_getElem? (i := 5) rfl)) (by decide) (by decide)) (g := (mkF m 72 #[.val (.int p0), .val (.int p1), .val (.int (v0_2 p0 p1)), .val (.int (v0_4 p0 p1)), .val (.int (v0_5 p0 p1)), .val (.int (v0_7 p0 p1)), .val (.int (v0_9 p0 p1)), .val (.int (v0_10 p0 p1)), .unset, .unset, .unset] [(.int (57344 : Int32))])) rfl (by rw [hml]; rfl) (argsL := [(.int (57344 : Int32))]) (rest := []) (lenOf pd__I_Z rfl) rfl (by show 2 * 0 + _ ≤ _; exact Nat.le_of_eq rfl) (hb hby at_72) (fun _ _ => ⟨rfl, e12, (by decide : 0 + 0 ≤ _), (by decide : 0 + 0 ≤ _)⟩)
  dsimp only [Pt.U, Pt.locs, Pt.cells, Pt.slots] at X13 l13 y13 z13 st13 hQ13
  subst l13 y13 z13
  obtain ⟨N13q, rfl, e13⟩ := hQ13
  have N13 := Fr.app N12 N13q
  obtain ⟨_, _, ⟨T14, L14, k14, n14⟩, -, X14, ⟨Lc14, hQ14, l14, y14, z14⟩, st14⟩ := Jvm.LawKit.callS X13 hx (y := (⟨"com/example/strict_lease/strictlease/grant/Utf8", "isEncodable", "(I)Z"⟩ : MethodName)) hown (mvT hZ (hw _ (List.mem_of_getElem? (i := 3) rfl))) (mvT hZ (hw _ (List.mem_of_getElem? (i := 4) rfl))) (mvT hZ (hw _ (List.mem_of_getElem? (i := 5) rfl))) (mvT hZ (hw _ (List.mem_of_getElem? (i := 6) rfl))) (by decide) (backOf (W := 0) (rm1 l Z a0 hw [] (0 : Int32) h0 n0 Z0) hZ (hw _ (List.mem_of_getElem? (i := 6) rfl)) (hw _ (List.mem_of_getElem? (i := 5) rfl)) (by decide) (by decide)) (g := (mkF m 78 #[.val (.int p0), .val (.int p1), .val (.int (v0_2 p0 p1)), .val (.int (v0_4 p0 p1)), .val (.int (v0_5 p0 p1)), .val (.int (v0_7 p0 p1)), .val (.int (v0_9 p0 p1)), .val (.int (v0_10 p0 p1)), .val (.int (v0_11 p0 p1)), .unset, .unset] [(.int (0 : Int32))])) rfl (by rw [hml]; rfl) (argsL := [(.int (0 : Int32))]) (rest := []) (lenOf pd__I_Z rfl) rfl (by show 2 * 0 + _ ≤ _; exact Nat.le_of_eq rfl) (hb hby at_78) (fun _ _ => ⟨rfl, e13, (by decide : 0 + 0 ≤ _), (by decide : 0 + 0 ≤ _)⟩)
  dsimp only [Pt.U, Pt.locs, Pt.cells, Pt.slots] at X14 l14 y14 z14 st14 hQ14
  subst l14 y14 z14
  obtain ⟨N14q, rfl, e14⟩ := hQ14
  have N14 := Fr.app N13 N14q
  obtain ⟨_, _, ⟨T15, L15, k15, n15⟩, -, X15, ⟨Lc15, hQ15, l15, y15, z15⟩, st15⟩ := Jvm.LawKit.callS X14 hx (y := (⟨"com/example/strict_lease/strictlease/grant/Utf8", "isEncodable", "(I)Z"⟩ : MethodName)) hown (mvT hZ (hw _ (List.mem_of_getElem? (i := 3) rfl))) (mvT hZ (hw _ (List.mem_of_getElem? (i := 4) rfl))) (mvT hZ (hw _ (List.mem_of_getElem? (i := 5) rfl))) (mvT hZ (hw _ (List.mem_of_getElem? (i := 6) rfl))) (by decide) (backOf (W := 0) (rm1 l Z a0 hw [] (1114111 : Int32) h0 n0 Z0) hZ (hw _ (List.mem_of_getElem? (i := 6) rfl)) (hw _ (List.mem_of_getElem? (i := 5) rfl)) (by decide) (by decide)) (g := (mkF m 85 #[.val (.int p0), .val (.int p1), .val (.int (v0_2 p0 p1)), .val (.int (v0_4 p0 p1)), .val (.int (v0_5 p0 p1)), .val (.int (v0_7 p0 p1)), .val (.int (v0_9 p0 p1)), .val (.int (v0_10 p0 p1)), .val (.int (v0_11 p0 p1)), .val (.int (v0_12 p0 p1)), .unset] [(.int (1114111 : Int32))])) rfl (by rw [hml]; rfl) (argsL := [(.int (1114111 : Int32))]) (rest := []) (lenOf pd__I_Z rfl) rfl (by show 2 * 0 + _ ≤ _; exact Nat.le_of_eq rfl) (hb hby at_85) (fun _ _ => ⟨rfl, e14, (by decide : 0 + 0 ≤ _), (by decide : 0 + 0 ≤ _)⟩)
  dsimp only [Pt.U, Pt.locs, Pt.cells, Pt.slots] at X15 l15 y15 z15 st15 hQ15
  subst l15 y15 z15
  obtain ⟨N15q, rfl, e15⟩ := hQ15
  have N15 := Fr.app N14 N15q
  have pre16 : ∀ t, Steps p.tables e below (T15.setTop (mkF m 92 #[.val (.int p0), .val (.int p1), .val (.int (v0_2 p0 p1)), .val (.int (v0_4 p0 p1)), .val (.int (v0_5 p0 p1)), .val (.int (v0_7 p0 p1)), .val (.int (v0_9 p0 p1)), .val (.int (v0_10 p0 p1)), .val (.int (v0_11 p0 p1)), .val (.int (v0_12 p0 p1)), .val (.int (v0_13 p0 p1))] [(.int (v0_7 p0 p1))])) t → Steps p.tables e below (s₁.setTop (entryFrame m #[(.int p0), (.int p1)] maxLocals)) t := by
    intro t k
    refine pre11 t ?_
    show Steps p.tables e below (T8.setTop (mkF m 61 #[.val (.int p0), .val (.int p1), .val (.int (v0_2 p0 p1)), .val (.int (v0_4 p0 p1)), .val (.int (v0_5 p0 p1)), .val (.int (v0_7 p0 p1)), .unset, .unset, .unset, .unset, .unset] [(.int (v0_9 p0 p1))])) _
    refine XS.istore X8.here hx rfl (hb hby at_61) rfl (l' := #[.val (.int p0), .val (.int p1), .val (.int (v0_2 p0 p1)), .val (.int (v0_4 p0 p1)), .val (.int (v0_5 p0 p1)), .val (.int (v0_7 p0 p1)), .val (.int (v0_9 p0 p1)), .unset, .unset, .unset, .unset]) rfl ?_
    show Steps p.tables e below (T8.setTop (mkF m 63 #[.val (.int p0), .val (.int p1), .val (.int (v0_2 p0 p1)), .val (.int (v0_4 p0 p1)), .val (.int (v0_5 p0 p1)), .val (.int (v0_7 p0 p1)), .val (.int (v0_9 p0 p1)), .unset, .unset, .unset, .unset] [])) _
    refine X8.ldcI hx hown (mvT hZ (hw _ (List.mem_of_getElem? (i := 9) rfl))) rfl (hb hby at_63) ?_
    show Steps p.tables e below (T8.setTop (mkF m 65 #[.val (.int p0), .val (.int p1), .val (.int (v0_2 p0 p1)), .val (.int (v0_4 p0 p1)), .val (.int (v0_5 p0 p1)), .val (.int (v0_7 p0 p1)), .val (.int (v0_9 p0 p1)), .unset, .unset, .unset, .unset] [(.int (55295 : Int32))])) _
    refine st12 _ ?_
    show Steps p.tables e below (T12.setTop (mkF m 68 #[.val (.int p0), .val (.int p1), .val (.int (v0_2 p0 p1)), .val (.int (v0_4 p0 p1)), .val (.int (v0_5 p0 p1)), .val (.int (v0_7 p0 p1)), .val (.int (v0_9 p0 p1)), .unset, .unset, .unset, .unset] [(.int (f1 (55295 : Int32)))])) _
    refine XS.istore X12.here hx rfl (hb hby at_68) rfl (l' := #[.val (.int p0), .val (.int p1), .val (.int (v0_2 p0 p1)), .val (.int (v0_4 p0 p1)), .val (.int (v0_5 p0 p1)), .val (.int (v0_7 p0 p1)), .val (.int (v0_9 p0 p1)), .val (.int (v0_10 p0 p1)), .unset, .unset, .unset]) rfl ?_
    show Steps p.tables e below (T12.setTop (mkF m 70 #[.val (.int p0), .val (.int p1), .val (.int (v0_2 p0 p1)), .val (.int (v0_4 p0 p1)), .val (.int (v0_5 p0 p1)), .val (.int (v0_7 p0 p1)), .val (.int (v0_9 p0 p1)), .val (.int (v0_10 p0 p1)), .unset, .unset, .unset] [])) _
    refine X12.ldcI hx hown (mvT hZ (hw _ (List.mem_of_getElem? (i := 10) rfl))) rfl (hb hby at_70) ?_
    show Steps p.tables e below (T12.setTop (mkF m 72 #[.val (.int p0), .val (.int p1), .val (.int (v0_2 p0 p1)), .val (.int (v0_4 p0 p1)), .val (.int (v0_5 p0 p1)), .val (.int (v0_7 p0 p1)), .val (.int (v0_9 p0 p1)), .val (.int (v0_10 p0 p1)), .unset, .unset, .unset] [(.int (57344 : Int32))])) _
    refine st13 _ ?_
    show Steps p.tables e below (T13.setTop (mkF m 75 #[.val (.int p0), .val (.int p1), .val (.int (v0_2 p0 p1)), .val (.int (v0_4 p0 p1)), .val (.int (v0_5 p0 p1)), .val (.int (v0_7 p0 p1)), .val (.int (v0_9 p0 p1)), .val (.int (v0_10 p0 p1)), .unset, .unset, .unset] [(.int (f1 (57344 : Int32)))])) _
    refine XS.istore X13.here hx rfl (hb hby at_75) rfl (l' := #[.val (.int p0), .val (.int p1), .val (.int (v0_2 p0 p1)), .val (.int (v0_4 p0 p1)), .val (.int (v0_5 p0 p1)), .val (.int (v0_7 p0 p1)), .val (.int (v0_9 p0 p1)), .val (.int (v0_10 p0 p1)), .val (.int (v0_11 p0 p1)), .unset, .unset]) rfl ?_
    show Steps p.tables e below (T13.setTop (mkF m 77 #[.val (.int p0), .val (.int p1), .val (.int (v0_2 p0 p1)), .val (.int (v0_4 p0 p1)), .val (.int (v0_5 p0 p1)), .val (.int (v0_7 p0 p1)), .val (.int (v0_9 p0 p1)), .val (.int (v0_10 p0 p1)), .val (.int (v0_11 p0 p1)), .unset, .unset] [])) _
    refine XT.iconstV X13.here hx rfl (0 : Int32) (hb hby at_77) (by decide) ?_
    show Steps p.tables e below (T13.setTop (mkF m 78 #[.val (.int p0), .val (.int p1), .val (.int (v0_2 p0 p1)), .val (.int (v0_4 p0 p1)), .val (.int (v0_5 p0 p1)), .val (.int (v0_7 p0 p1)), .val (.int (v0_9 p0 p1)), .val (.int (v0_10 p0 p1)), .val (.int (v0_11 p0 p1)), .unset, .unset] [(.int (0 : Int32))])) _
    refine st14 _ ?_
    show Steps p.tables e below (T14.setTop (mkF m 81 #[.val (.int p0), .val (.int p1), .val (.int (v0_2 p0 p1)), .val (.int (v0_4 p0 p1)), .val (.int (v0_5 p0 p1)), .val (.int (v0_7 p0 p1)), .val (.int (v0_9 p0 p1)), .val (.int (v0_10 p0 p1)), .val (.int (v0_11 p0 p1)), .unset, .unset] [(.int (f1 (0 : Int32)))])) _
    refine XS.istore X14.here hx rfl (hb hby at_81) rfl (l' := #[.val (.int p0), .val (.int p1), .val (.int (v0_2 p0 p1)), .val (.int (v0_4 p0 p1)), .val (.int (v0_5 p0 p1)), .val (.int (v0_7 p0 p1)), .val (.int (v0_9 p0 p1)), .val (.int (v0_10 p0 p1)), .val (.int (v0_11 p0 p1)), .val (.int (v0_12 p0 p1)), .unset]) rfl ?_
    show Steps p.tables e below (T14.setTop (mkF m 83 #[.val (.int p0), .val (.int p1), .val (.int (v0_2 p0 p1)), .val (.int (v0_4 p0 p1)), .val (.int (v0_5 p0 p1)), .val (.int (v0_7 p0 p1)), .val (.int (v0_9 p0 p1)), .val (.int (v0_10 p0 p1)), .val (.int (v0_11 p0 p1)), .val (.int (v0_12 p0 p1)), .unset] [])) _
    refine X14.ldcI hx hown (mvT hZ (hw _ (List.mem_of_getElem? (i := 11) rfl))) rfl (hb hby at_83) ?_
    show Steps p.tables e below (T14.setTop (mkF m 85 #[.val (.int p0), .val (.int p1), .val (.int (v0_2 p0 p1)), .val (.int (v0_4 p0 p1)), .val (.int (v0_5 p0 p1)), .val (.int (v0_7 p0 p1)), .val (.int (v0_9 p0 p1)), .val (.int (v0_10 p0 p1)), .val (.int (v0_11 p0 p1)), .val (.int (v0_12 p0 p1)), .unset] [(.int (1114111 : Int32))])) _
    refine st15 _ ?_
    show Steps p.tables e below (T15.setTop (mkF m 88 #[.val (.int p0), .val (.int p1), .val (.int (v0_2 p0 p1)), .val (.int (v0_4 p0 p1)), .val (.int (v0_5 p0 p1)), .val (.int (v0_7 p0 p1)), .val (.int (v0_9 p0 p1)), .val (.int (v0_10 p0 p1)), .val (.int (v0_11 p0 p1)), .val (.int (v0_12 p0 p1)), .unset] [(.int (f1 (1114111 : Int32)))])) _
    refine XS.istore X15.here hx rfl (hb hby at_88) rfl (l' := #[.val (.int p0), .val (.int p1), .val (.int (v0_2 p0 p1)), .val (.int (v0_4 p0 p1)), .val (.int (v0_5 p0 p1)), .val (.int (v0_7 p0 p1)), .val (.int (v0_9 p0 p1)), .val (.int (v0_10 p0 p1)), .val (.int (v0_11 p0 p1)), .val (.int (v0_12 p0 p1)), .val (.int (v0_13 p0 p1))]) rfl ?_
    show Steps p.tables e below (T15.setTop (mkF m 90 #[.val (.int p0), .val (.int p1), .val (.int (v0_2 p0 p1)), .val (.int (v0_4 p0 p1)), .val (.int (v0_5 p0 p1)), .val (.int (v0_7 p0 p1)), .val (.int (v0_9 p0 p1)), .val (.int (v0_10 p0 p1)), .val (.int (v0_11 p0 p1)), .val (.int (v0_12 p0 p1)), .val (.int (v0_13 p0 p1))] [])) _
    refine XS.iload X15.here hx rfl (hb hby at_90) rfl ?_
    exact k
  have pre28 : ∀ t, Steps p.tables e below (T15.setTop (mkF m 125 #[.val (.int p0), .val (.int p1), .val (.int (v0_2 p0 p1)), .val (.int (v0_4 p0 p1)), .val (.int (v0_5 p0 p1)), .val (.int (v0_7 p0 p1)), .val (.int (v0_9 p0 p1)), .val (.int (v0_10 p0 p1)), .val (.int (v0_11 p0 p1)), .val (.int (v0_12 p0 p1)), .val (.int (v0_13 p0 p1))] [(.int (v0_14 p0 p1))])) t → Steps p.tables e below (s₁.setTop (entryFrame m #[(.int p0), (.int p1)] maxLocals)) t := by
    intro t k
    by_cases c17 : (v0_7 p0 p1) = (0 : Int32)
    · skip
      rw [show (v0_14 p0 p1) = (0 : Int32) from (if_pos c17)] at k
      refine pre16 t ?_
      show Steps p.tables e below (T15.setTop (mkF m 92 #[.val (.int p0), .val (.int p1), .val (.int (v0_2 p0 p1)), .val (.int (v0_4 p0 p1)), .val (.int (v0_5 p0 p1)), .val (.int (v0_7 p0 p1)), .val (.int (v0_9 p0 p1)), .val (.int (v0_10 p0 p1)), .val (.int (v0_11 p0 p1)), .val (.int (v0_12 p0 p1)), .val (.int (v0_13 p0 p1))] [(.int (v0_7 p0 p1))])) _
      refine XS.ifYes X15.here hx rfl (pc0 := 92) (pc' := 124) rfl (hb hby at_92) rfl (XT.i0_eq_t c17) (by decide) (by decide) ?_
      show Steps p.tables e below (T15.setTop (mkF m 124 #[.val (.int p0), .val (.int p1), .val (.int (v0_2 p0 p1)), .val (.int (v0_4 p0 p1)), .val (.int (v0_5 p0 p1)), .val (.int (v0_7 p0 p1)), .val (.int (v0_9 p0 p1)), .val (.int (v0_10 p0 p1)), .val (.int (v0_11 p0 p1)), .val (.int (v0_12 p0 p1)), .val (.int (v0_13 p0 p1))] [])) _
      refine XT.iconstV X15.here hx rfl (0 : Int32) (hb hby at_124) (by decide) ?_
      exact k
    · skip
      have pre18 : ∀ t, Steps p.tables e below (T15.setTop (mkF m 97 #[.val (.int p0), .val (.int p1), .val (.int (v0_2 p0 p1)), .val (.int (v0_4 p0 p1)), .val (.int (v0_5 p0 p1)), .val (.int (v0_7 p0 p1)), .val (.int (v0_9 p0 p1)), .val (.int (v0_10 p0 p1)), .val (.int (v0_11 p0 p1)), .val (.int (v0_12 p0 p1)), .val (.int (v0_13 p0 p1))] [(.int (v0_9 p0 p1))])) t → Steps p.tables e below (s₁.setTop (entryFrame m #[(.int p0), (.int p1)] maxLocals)) t := by
        intro t k
        refine pre16 t ?_
        show Steps p.tables e below (T15.setTop (mkF m 92 #[.val (.int p0), .val (.int p1), .val (.int (v0_2 p0 p1)), .val (.int (v0_4 p0 p1)), .val (.int (v0_5 p0 p1)), .val (.int (v0_7 p0 p1)), .val (.int (v0_9 p0 p1)), .val (.int (v0_10 p0 p1)), .val (.int (v0_11 p0 p1)), .val (.int (v0_12 p0 p1)), .val (.int (v0_13 p0 p1))] [(.int (v0_7 p0 p1))])) _
        refine XS.ifNo X15.here hx rfl (hb hby at_92) rfl (XT.i0_eq_f c17) ?_
        show Steps p.tables e below (T15.setTop (mkF m 95 #[.val (.int p0), .val (.int p1), .val (.int (v0_2 p0 p1)), .val (.int (v0_4 p0 p1)), .val (.int (v0_5 p0 p1)), .val (.int (v0_7 p0 p1)), .val (.int (v0_9 p0 p1)), .val (.int (v0_10 p0 p1)), .val (.int (v0_11 p0 p1)), .val (.int (v0_12 p0 p1)), .val (.int (v0_13 p0 p1))] [])) _
        refine XS.iload X15.here hx rfl (hb hby at_95) rfl ?_
        exact k
      by_cases c19 : (v0_9 p0 p1) = (0 : Int32)
      · skip
        rw [show (v0_14 p0 p1) = (0 : Int32) from ((if_neg c17).trans (if_pos c19))] at k
        refine pre18 t ?_
        show Steps p.tables e below (T15.setTop (mkF m 97 #[.val (.int p0), .val (.int p1), .val (.int (v0_2 p0 p1)), .val (.int (v0_4 p0 p1)), .val (.int (v0_5 p0 p1)), .val (.int (v0_7 p0 p1)), .val (.int (v0_9 p0 p1)), .val (.int (v0_10 p0 p1)), .val (.int (v0_11 p0 p1)), .val (.int (v0_12 p0 p1)), .val (.int (v0_13 p0 p1))] [(.int (v0_9 p0 p1))])) _
        refine XS.ifYes X15.here hx rfl (pc0 := 97) (pc' := 124) rfl (hb hby at_97) rfl (XT.i0_eq_t c19) (by decide) (by decide) ?_
        show Steps p.tables e below (T15.setTop (mkF m 124 #[.val (.int p0), .val (.int p1), .val (.int (v0_2 p0 p1)), .val (.int (v0_4 p0 p1)), .val (.int (v0_5 p0 p1)), .val (.int (v0_7 p0 p1)), .val (.int (v0_9 p0 p1)), .val (.int (v0_10 p0 p1)), .val (.int (v0_11 p0 p1)), .val (.int (v0_12 p0 p1)), .val (.int (v0_13 p0 p1))] [])) _
        refine XT.iconstV X15.here hx rfl (0 : Int32) (hb hby at_124) (by decide) ?_
        exact k
      · skip
        have pre20 : ∀ t, Steps p.tables e below (T15.setTop (mkF m 102 #[.val (.int p0), .val (.int p1), .val (.int (v0_2 p0 p1)), .val (.int (v0_4 p0 p1)), .val (.int (v0_5 p0 p1)), .val (.int (v0_7 p0 p1)), .val (.int (v0_9 p0 p1)), .val (.int (v0_10 p0 p1)), .val (.int (v0_11 p0 p1)), .val (.int (v0_12 p0 p1)), .val (.int (v0_13 p0 p1))] [(.int (v0_10 p0 p1))])) t → Steps p.tables e below (s₁.setTop (entryFrame m #[(.int p0), (.int p1)] maxLocals)) t := by
          intro t k
          refine pre18 t ?_
          show Steps p.tables e below (T15.setTop (mkF m 97 #[.val (.int p0), .val (.int p1), .val (.int (v0_2 p0 p1)), .val (.int (v0_4 p0 p1)), .val (.int (v0_5 p0 p1)), .val (.int (v0_7 p0 p1)), .val (.int (v0_9 p0 p1)), .val (.int (v0_10 p0 p1)), .val (.int (v0_11 p0 p1)), .val (.int (v0_12 p0 p1)), .val (.int (v0_13 p0 p1))] [(.int (v0_9 p0 p1))])) _
          refine XS.ifNo X15.here hx rfl (hb hby at_97) rfl (XT.i0_eq_f c19) ?_
          show Steps p.tables e below (T15.setTop (mkF m 100 #[.val (.int p0), .val (.int p1), .val (.int (v0_2 p0 p1)), .val (.int (v0_4 p0 p1)), .val (.int (v0_5 p0 p1)), .val (.int (v0_7 p0 p1)), .val (.int (v0_9 p0 p1)), .val (.int (v0_10 p0 p1)), .val (.int (v0_11 p0 p1)), .val (.int (v0_12 p0 p1)), .val (.int (v0_13 p0 p1))] [])) _
          refine XS.iload X15.here hx rfl (hb hby at_100) rfl ?_
          exact k
        by_cases c21 : (v0_10 p0 p1) = (0 : Int32)
        · skip
          rw [show (v0_14 p0 p1) = (0 : Int32) from (((if_neg c17).trans (if_neg c19)).trans (if_pos c21))] at k
          refine pre20 t ?_
          show Steps p.tables e below (T15.setTop (mkF m 102 #[.val (.int p0), .val (.int p1), .val (.int (v0_2 p0 p1)), .val (.int (v0_4 p0 p1)), .val (.int (v0_5 p0 p1)), .val (.int (v0_7 p0 p1)), .val (.int (v0_9 p0 p1)), .val (.int (v0_10 p0 p1)), .val (.int (v0_11 p0 p1)), .val (.int (v0_12 p0 p1)), .val (.int (v0_13 p0 p1))] [(.int (v0_10 p0 p1))])) _
          refine XS.ifYes X15.here hx rfl (pc0 := 102) (pc' := 124) rfl (hb hby at_102) rfl (XT.i0_eq_t c21) (by decide) (by decide) ?_
          show Steps p.tables e below (T15.setTop (mkF m 124 #[.val (.int p0), .val (.int p1), .val (.int (v0_2 p0 p1)), .val (.int (v0_4 p0 p1)), .val (.int (v0_5 p0 p1)), .val (.int (v0_7 p0 p1)), .val (.int (v0_9 p0 p1)), .val (.int (v0_10 p0 p1)), .val (.int (v0_11 p0 p1)), .val (.int (v0_12 p0 p1)), .val (.int (v0_13 p0 p1))] [])) _
          refine XT.iconstV X15.here hx rfl (0 : Int32) (hb hby at_124) (by decide) ?_
          exact k
        · skip
          have pre22 : ∀ t, Steps p.tables e below (T15.setTop (mkF m 107 #[.val (.int p0), .val (.int p1), .val (.int (v0_2 p0 p1)), .val (.int (v0_4 p0 p1)), .val (.int (v0_5 p0 p1)), .val (.int (v0_7 p0 p1)), .val (.int (v0_9 p0 p1)), .val (.int (v0_10 p0 p1)), .val (.int (v0_11 p0 p1)), .val (.int (v0_12 p0 p1)), .val (.int (v0_13 p0 p1))] [(.int (v0_11 p0 p1))])) t → Steps p.tables e below (s₁.setTop (entryFrame m #[(.int p0), (.int p1)] maxLocals)) t := by
            intro t k
            refine pre20 t ?_
            show Steps p.tables e below (T15.setTop (mkF m 102 #[.val (.int p0), .val (.int p1), .val (.int (v0_2 p0 p1)), .val (.int (v0_4 p0 p1)), .val (.int (v0_5 p0 p1)), .val (.int (v0_7 p0 p1)), .val (.int (v0_9 p0 p1)), .val (.int (v0_10 p0 p1)), .val (.int (v0_11 p0 p1)), .val (.int (v0_12 p0 p1)), .val (.int (v0_13 p0 p1))] [(.int (v0_10 p0 p1))])) _
            refine XS.ifNo X15.here hx rfl (hb hby at_102) rfl (XT.i0_eq_f c21) ?_
            show Steps p.tables e below (T15.setTop (mkF m 105 #[.val (.int p0), .val (.int p1), .val (.int (v0_2 p0 p1)), .val (.int (v0_4 p0 p1)), .val (.int (v0_5 p0 p1)), .val (.int (v0_7 p0 p1)), .val (.int (v0_9 p0 p1)), .val (.int (v0_10 p0 p1)), .val (.int (v0_11 p0 p1)), .val (.int (v0_12 p0 p1)), .val (.int (v0_13 p0 p1))] [])) _
            refine XS.iload X15.here hx rfl (hb hby at_105) rfl ?_
            exact k
          by_cases c23 : (v0_11 p0 p1) = (0 : Int32)
          · skip
            rw [show (v0_14 p0 p1) = (0 : Int32) from ((((if_neg c17).trans (if_neg c19)).trans (if_neg c21)).trans (if_pos c23))] at k
            refine pre22 t ?_
            show Steps p.tables e below (T15.setTop (mkF m 107 #[.val (.int p0), .val (.int p1), .val (.int (v0_2 p0 p1)), .val (.int (v0_4 p0 p1)), .val (.int (v0_5 p0 p1)), .val (.int (v0_7 p0 p1)), .val (.int (v0_9 p0 p1)), .val (.int (v0_10 p0 p1)), .val (.int (v0_11 p0 p1)), .val (.int (v0_12 p0 p1)), .val (.int (v0_13 p0 p1))] [(.int (v0_11 p0 p1))])) _
            refine XS.ifYes X15.here hx rfl (pc0 := 107) (pc' := 124) rfl (hb hby at_107) rfl (XT.i0_eq_t c23) (by decide) (by decide) ?_
            show Steps p.tables e below (T15.setTop (mkF m 124 #[.val (.int p0), .val (.int p1), .val (.int (v0_2 p0 p1)), .val (.int (v0_4 p0 p1)), .val (.int (v0_5 p0 p1)), .val (.int (v0_7 p0 p1)), .val (.int (v0_9 p0 p1)), .val (.int (v0_10 p0 p1)), .val (.int (v0_11 p0 p1)), .val (.int (v0_12 p0 p1)), .val (.int (v0_13 p0 p1))] [])) _
            refine XT.iconstV X15.here hx rfl (0 : Int32) (hb hby at_124) (by decide) ?_
            exact k
          · skip
            have pre24 : ∀ t, Steps p.tables e below (T15.setTop (mkF m 112 #[.val (.int p0), .val (.int p1), .val (.int (v0_2 p0 p1)), .val (.int (v0_4 p0 p1)), .val (.int (v0_5 p0 p1)), .val (.int (v0_7 p0 p1)), .val (.int (v0_9 p0 p1)), .val (.int (v0_10 p0 p1)), .val (.int (v0_11 p0 p1)), .val (.int (v0_12 p0 p1)), .val (.int (v0_13 p0 p1))] [(.int (v0_12 p0 p1))])) t → Steps p.tables e below (s₁.setTop (entryFrame m #[(.int p0), (.int p1)] maxLocals)) t := by
              intro t k
              refine pre22 t ?_
              show Steps p.tables e below (T15.setTop (mkF m 107 #[.val (.int p0), .val (.int p1), .val (.int (v0_2 p0 p1)), .val (.int (v0_4 p0 p1)), .val (.int (v0_5 p0 p1)), .val (.int (v0_7 p0 p1)), .val (.int (v0_9 p0 p1)), .val (.int (v0_10 p0 p1)), .val (.int (v0_11 p0 p1)), .val (.int (v0_12 p0 p1)), .val (.int (v0_13 p0 p1))] [(.int (v0_11 p0 p1))])) _
              refine XS.ifNo X15.here hx rfl (hb hby at_107) rfl (XT.i0_eq_f c23) ?_
              show Steps p.tables e below (T15.setTop (mkF m 110 #[.val (.int p0), .val (.int p1), .val (.int (v0_2 p0 p1)), .val (.int (v0_4 p0 p1)), .val (.int (v0_5 p0 p1)), .val (.int (v0_7 p0 p1)), .val (.int (v0_9 p0 p1)), .val (.int (v0_10 p0 p1)), .val (.int (v0_11 p0 p1)), .val (.int (v0_12 p0 p1)), .val (.int (v0_13 p0 p1))] [])) _
              refine XS.iload X15.here hx rfl (hb hby at_110) rfl ?_
              exact k
            by_cases c25 : (v0_12 p0 p1) = (0 : Int32)
            · skip
              rw [show (v0_14 p0 p1) = (0 : Int32) from (((((if_neg c17).trans (if_neg c19)).trans (if_neg c21)).trans (if_neg c23)).trans (if_pos c25))] at k
              refine pre24 t ?_
              show Steps p.tables e below (T15.setTop (mkF m 112 #[.val (.int p0), .val (.int p1), .val (.int (v0_2 p0 p1)), .val (.int (v0_4 p0 p1)), .val (.int (v0_5 p0 p1)), .val (.int (v0_7 p0 p1)), .val (.int (v0_9 p0 p1)), .val (.int (v0_10 p0 p1)), .val (.int (v0_11 p0 p1)), .val (.int (v0_12 p0 p1)), .val (.int (v0_13 p0 p1))] [(.int (v0_12 p0 p1))])) _
              refine XS.ifYes X15.here hx rfl (pc0 := 112) (pc' := 124) rfl (hb hby at_112) rfl (XT.i0_eq_t c25) (by decide) (by decide) ?_
              show Steps p.tables e below (T15.setTop (mkF m 124 #[.val (.int p0), .val (.int p1), .val (.int (v0_2 p0 p1)), .val (.int (v0_4 p0 p1)), .val (.int (v0_5 p0 p1)), .val (.int (v0_7 p0 p1)), .val (.int (v0_9 p0 p1)), .val (.int (v0_10 p0 p1)), .val (.int (v0_11 p0 p1)), .val (.int (v0_12 p0 p1)), .val (.int (v0_13 p0 p1))] [])) _
              refine XT.iconstV X15.here hx rfl (0 : Int32) (hb hby at_124) (by decide) ?_
              exact k
            · skip
              have pre26 : ∀ t, Steps p.tables e below (T15.setTop (mkF m 117 #[.val (.int p0), .val (.int p1), .val (.int (v0_2 p0 p1)), .val (.int (v0_4 p0 p1)), .val (.int (v0_5 p0 p1)), .val (.int (v0_7 p0 p1)), .val (.int (v0_9 p0 p1)), .val (.int (v0_10 p0 p1)), .val (.int (v0_11 p0 p1)), .val (.int (v0_12 p0 p1)), .val (.int (v0_13 p0 p1))] [(.int (v0_13 p0 p1))])) t → Steps p.tables e below (s₁.setTop (entryFrame m #[(.int p0), (.int p1)] maxLocals)) t := by
                intro t k
                refine pre24 t ?_
                show Steps p.tables e below (T15.setTop (mkF m 112 #[.val (.int p0), .val (.int p1), .val (.int (v0_2 p0 p1)), .val (.int (v0_4 p0 p1)), .val (.int (v0_5 p0 p1)), .val (.int (v0_7 p0 p1)), .val (.int (v0_9 p0 p1)), .val (.int (v0_10 p0 p1)), .val (.int (v0_11 p0 p1)), .val (.int (v0_12 p0 p1)), .val (.int (v0_13 p0 p1))] [(.int (v0_12 p0 p1))])) _
                refine XS.ifNo X15.here hx rfl (hb hby at_112) rfl (XT.i0_eq_f c25) ?_
                show Steps p.tables e below (T15.setTop (mkF m 115 #[.val (.int p0), .val (.int p1), .val (.int (v0_2 p0 p1)), .val (.int (v0_4 p0 p1)), .val (.int (v0_5 p0 p1)), .val (.int (v0_7 p0 p1)), .val (.int (v0_9 p0 p1)), .val (.int (v0_10 p0 p1)), .val (.int (v0_11 p0 p1)), .val (.int (v0_12 p0 p1)), .val (.int (v0_13 p0 p1))] [])) _
                refine XS.iload X15.here hx rfl (hb hby at_115) rfl ?_
                exact k
              by_cases c27 : (v0_13 p0 p1) = (0 : Int32)
              · skip
                rw [show (v0_14 p0 p1) = (0 : Int32) from ((((((if_neg c17).trans (if_neg c19)).trans (if_neg c21)).trans (if_neg c23)).trans (if_neg c25)).trans (if_pos c27))] at k
                refine pre26 t ?_
                show Steps p.tables e below (T15.setTop (mkF m 117 #[.val (.int p0), .val (.int p1), .val (.int (v0_2 p0 p1)), .val (.int (v0_4 p0 p1)), .val (.int (v0_5 p0 p1)), .val (.int (v0_7 p0 p1)), .val (.int (v0_9 p0 p1)), .val (.int (v0_10 p0 p1)), .val (.int (v0_11 p0 p1)), .val (.int (v0_12 p0 p1)), .val (.int (v0_13 p0 p1))] [(.int (v0_13 p0 p1))])) _
                refine XS.ifYes X15.here hx rfl (pc0 := 117) (pc' := 124) rfl (hb hby at_117) rfl (XT.i0_eq_t c27) (by decide) (by decide) ?_
                show Steps p.tables e below (T15.setTop (mkF m 124 #[.val (.int p0), .val (.int p1), .val (.int (v0_2 p0 p1)), .val (.int (v0_4 p0 p1)), .val (.int (v0_5 p0 p1)), .val (.int (v0_7 p0 p1)), .val (.int (v0_9 p0 p1)), .val (.int (v0_10 p0 p1)), .val (.int (v0_11 p0 p1)), .val (.int (v0_12 p0 p1)), .val (.int (v0_13 p0 p1))] [])) _
                refine XT.iconstV X15.here hx rfl (0 : Int32) (hb hby at_124) (by decide) ?_
                exact k
              · skip
                rw [show (v0_14 p0 p1) = (1 : Int32) from ((((((if_neg c17).trans (if_neg c19)).trans (if_neg c21)).trans (if_neg c23)).trans (if_neg c25)).trans (if_neg c27))] at k
                refine pre26 t ?_
                show Steps p.tables e below (T15.setTop (mkF m 117 #[.val (.int p0), .val (.int p1), .val (.int (v0_2 p0 p1)), .val (.int (v0_4 p0 p1)), .val (.int (v0_5 p0 p1)), .val (.int (v0_7 p0 p1)), .val (.int (v0_9 p0 p1)), .val (.int (v0_10 p0 p1)), .val (.int (v0_11 p0 p1)), .val (.int (v0_12 p0 p1)), .val (.int (v0_13 p0 p1))] [(.int (v0_13 p0 p1))])) _
                refine XS.ifNo X15.here hx rfl (hb hby at_117) rfl (XT.i0_eq_f c27) ?_
                show Steps p.tables e below (T15.setTop (mkF m 120 #[.val (.int p0), .val (.int p1), .val (.int (v0_2 p0 p1)), .val (.int (v0_4 p0 p1)), .val (.int (v0_5 p0 p1)), .val (.int (v0_7 p0 p1)), .val (.int (v0_9 p0 p1)), .val (.int (v0_10 p0 p1)), .val (.int (v0_11 p0 p1)), .val (.int (v0_12 p0 p1)), .val (.int (v0_13 p0 p1))] [])) _
                refine XT.iconstV X15.here hx rfl (1 : Int32) (hb hby at_120) (by decide) ?_
                show Steps p.tables e below (T15.setTop (mkF m 121 #[.val (.int p0), .val (.int p1), .val (.int (v0_2 p0 p1)), .val (.int (v0_4 p0 p1)), .val (.int (v0_5 p0 p1)), .val (.int (v0_7 p0 p1)), .val (.int (v0_9 p0 p1)), .val (.int (v0_10 p0 p1)), .val (.int (v0_11 p0 p1)), .val (.int (v0_12 p0 p1)), .val (.int (v0_13 p0 p1))] [(.int (1 : Int32))])) _
                refine XS.goto X15.here hx rfl (pc0 := 121) (pc' := 125) rfl (hb hby at_121) (by decide) (by decide) ?_
                exact k
  have hv29 : (v0_14 p0 p1) = (1 : Int32) := own_law p0 p1
  obtain ⟨fs, hr, hrun, hended, hW, hsame⟩ := X15.leave (v := some (.int (1 : Int32))) (fun h => by rw [Bd.returns] at h; cases h)
  refine ⟨_, _, pre28 _ ?_, hrun, hended, _, _, rfl, ?_, ⟨_, rfl⟩, hW, hsame.mono (by decide) (by decide)⟩
  · skip
    show Steps p.tables e below (T15.setTop (mkF m 125 #[.val (.int p0), .val (.int p1), .val (.int (v0_2 p0 p1)), .val (.int (v0_4 p0 p1)), .val (.int (v0_5 p0 p1)), .val (.int (v0_7 p0 p1)), .val (.int (v0_9 p0 p1)), .val (.int (v0_10 p0 p1)), .val (.int (v0_11 p0 p1)), .val (.int (v0_12 p0 p1)), .val (.int (v0_13 p0 p1))] [(.int (v0_14 p0 p1))])) _
    rw [hv29]
    exact retN X15 hx (t := .boolean) Bd.returns (by simp) (hb hby at_125) hr
  · skip
    show Q0 Z p0 p1 h0 n0 _ T15.heap _
    rw [e15]
    exact ⟨rfl, N15⟩
set_option maxRecDepth 65536 in
set_option maxHeartbeats 40000000 in
theorem comes_1 {Post : Tables → Env → Array Value → State → Outcome → State → Prop} (hpost : ∀ tb e args s v u, (limb_1_1.after args s (.returned v) u = true ∧ limb_1_2.after args s (.returned v) u = true ∧ True) → FrameEnd s (.returned v) u (Jvm.fieldLocs frame_1_writes args s ++ Jvm.arrayLocs frame_1_arrays args s ++ Jvm.staticLocs frame_1_statics s) 0 0 → Post tb e args s (.returned v) u) :
    ArmFor flags0 classFile x code maxLocals ret World_1 tables_1 room_1 Calls_1 rest_1 Pre_1 Post := by
  intro l hfl _ _ p e ha hc hk s m args below hf hA hF happ hP
  obtain ⟨hcalls, hrest, hpre⟩ := hP
  obtain ⟨-, -, -, hnamed, -, -, -, hat⟩ := (Spec.applies_iff hf).mp happ
  obtain ⟨hg, hn⟩ := and_e (Cond.before_iff.mp (show (Jvm.Cond.and given_1 narrow_1).before args s = true from hpre))
  obtain ⟨hcount, r0⟩ := and_e hg
  obtain ⟨ha0, r1⟩ := and_e r0
  obtain ⟨w0, w1, rfl⟩ : ∃ w0 w1 : Value, args = #[w0, w1] := by
    have hs : args.size = 2 := by simpa [Cond.value, given_1] using hcount
    obtain ⟨L⟩ := args
    match L, hs with
    | [w0, w1], _ => exact ⟨w0, w1, rfl⟩
  have hw := fun d (hd : d ∈ tables_1) => atoms_spec (ws := Jvm.Cond.code x code maxLocals ret :: tables_1) hat d (List.mem_cons_of_mem _ hd)
  have hfit : Fit s := fun {y c} hc i hi => by
    obtain ⟨ha, rfl⟩ := Array.getElem?_eq_some_iff.mp hc
    have q := List.all_eq_true.mp ((Array.all_eq_true_iff_forall_mem.mp hF) _ (Array.getElem_mem ha)) i (List.mem_range.mpr hi)
    simpa [Array.getElem?_eq_getElem hi] using q
  obtain ⟨i0, ei0⟩ := is_v ha0
  obtain rfl : w0 = (.int i0) := Option.some.inj ei0
  obtain ⟨i1, ei1⟩ := is_v r1
  obtain rfl : w1 = (.int i1) := Option.some.inj ei1
  obtain ⟨n, o, h1, h2, h3, _, L, rfl, ⟨rfl, N⟩, hq⟩ := rm0 l s _ hw tables_1 i0 i1 s.heap s.heap.size (Nat.le_refl _) p e ha hc hk s m _ below hf ((Spec.applies_iff_loose hf).mp happ).1 ⟨rfl, State.Warmed39.refl s, rfl⟩ trivial
  refine ⟨n, _, h1, h2, h3, hpost _ _ _ _ _ _ ⟨Cond.after_iff.mpr rfl, Cond.after_iff.mpr (eq_i res_at (Term.int_eval (1)) rfl), trivial⟩ ⟨hq.1, hq.2.1, (hq.2.2.sift fun y hy => Or.inr (N y hy)).mono (by decide) (by decide)⟩⟩
theorem main_1_1 : Claimed_1_1 := comes_1 fun _ _ _ _ _ _ h hF => ⟨h.1, hF⟩
theorem main_1_2 : Claimed_1_2 := comes_1 fun _ _ _ _ _ _ h hF => ⟨h.2.1, hF⟩
end Jvm.Pilot.@@N@@
namespace Jvm.Pilot.@@N@@
open Jvm Jvm.ClassFile Sem Op Lib Jvm.Free Jvm.Stand Jvm.Pilot.@@N@@.Jvm.D
/-! MADE BY PROGRAM (witnessworld.py) out of the Statement's table words and the real class files: 7 classes; the members and pool entries that the words name. The judged class is class 1, her method 1. -/
namespace start1
open Jvm.ClassFile
def u (s : String) : CpInfo := .utf8 (stringToUtf16 s)
/-- a pool by its gaps: so many unusable entries, then the entry; so many at the end -/
def gap : Nat → List CpInfo → List CpInfo
  | 0, r => r
  | n + 1, r => .unusable :: gap n r
def poolList (es : List (Nat × CpInfo)) (last : Nat) : List CpInfo := es.foldr (fun e r => gap e.1 (e.2 :: r)) (gap last [])
def pool (es : List (Nat × CpInfo)) (last : Nat) : Array CpInfo := ⟨poolList es last⟩
def fileOf (pool : Array CpInfo) (this : Nat) (attrs : Array Attribute := #[]) (ms : Array MethodInfo := #[]) (fl : Nat := 33) (sup : Nat := 0) (ifs : Array Nat := #[]) (fds : Array FieldInfo := #[]) : ClassFile where
  minorVersion := 0
  majorVersion := 65
  constantPool := pool
  accessFlags := fl
  thisClass := this
  superClass := sup
  interfaces := ifs
  fields := fds
  methods := ms
  attributes := attrs
def plain (name : String) (sup : Option ClassId) : Class where
  name := name
  kind := .ordinary
  loader := none
  accessFlags := 33
  super := sup
  interfaces := #[]
  cf := none
  fields := #[]
  methods := #[]
  instanceTypes := #[]
  staticTypes := #[]
  resolved := #[]
  callSites := []
  init := .initialized
  statics := none
  mirror := none

def pool0 : Array CpInfo := pool [(5, u "<init>"), (0, u "()V"), (1, .class_ 10), (1, u "java/lang/Object")] 113

def k0m0 : Method := { name := "<init>", desc := "()V", sig := { parameters := [], returnType := none }, accessFlags := 1, code := none }
/-- java/lang/Object -/
def k0 : Class := { plain "java/lang/Object" none with
  accessFlags := 33
  interfaces := #[]
  cf := some (fileOf pool0 8 #[] #[{ accessFlags := 1, nameIndex := 5, descriptorIndex := 6, attributes := #[] }] 33 0 #[] #[])
  fields := #[]
  methods := #[k0m0]
  instanceTypes := #[]
  staticTypes := #[]
  resolved := Array.replicate 124 none
  statics := none }

def pool1 : Array CpInfo := pool [(2, .class_ 4), (1, u "java/lang/Object"), (0, u "<init>"), (0, u "()V"), (0, .integer 2147483647), (0, .integer 1114112), (0, .integer 55296), (0, .methodref 11 12), (0, .class_ 13), (0, .nameAndType 14 15), (0, u "com/example/strict_lease/strictlease/grant/Utf8"), (0, u "isEncodable"), (0, u "(I)Z"), (0, .integer 55295), (0, .integer 57344), (0, .integer 1114111), (0, .class_ 20), (0, u "com/example/strict_lease/strictlease/grant/Utf8IsEncodablePinLaw"), (2, u "law"), (0, u "(II)Z")] 3

def k1m0 : Method := { name := "<init>", desc := "()V", sig := { parameters := [], returnType := none }, accessFlags := 2, code := none }
def k1c1 : Code := { maxStack := 3, maxLocals := 11, code := code, exceptionTable := #[], attributes := #[] }
def k1m1 : Method := { name := "law", desc := "(II)Z", sig := { parameters := [.int, .int], returnType := some .boolean }, accessFlags := 9, code := some k1c1 }
/-- com/example/strict_lease/strictlease/grant/Utf8IsEncodablePinLaw -/
def k1 : Class := { plain "com/example/strict_lease/strictlease/grant/Utf8IsEncodablePinLaw" (some 0) with
  accessFlags := 49
  interfaces := #[]
  cf := some (fileOf pool1 19 #[] #[{ accessFlags := 2, nameIndex := 5, descriptorIndex := 6, attributes := #[] }, { accessFlags := 9, nameIndex := 23, descriptorIndex := 24, attributes := #[] }] 49 2 #[] #[])
  fields := #[]
  methods := #[k1m0, k1m1]
  instanceTypes := #[]
  staticTypes := #[]
  resolved := Array.replicate 28 none
  statics := none }

def pool2 : Array CpInfo := pool [(2, .class_ 4), (1, u "java/lang/Object"), (0, u "<init>"), (0, u "()V"), (5, .integer 55296), (0, .integer 57343), (23, .class_ 38), (0, u "com/example/strict_lease/strictlease/grant/Utf8"), (2, u "isEncodable"), (0, u "(I)Z")] 20

def k2m0 : Method := { name := "<init>", desc := "()V", sig := { parameters := [], returnType := none }, accessFlags := 2, code := none }
def k2c1 : Code := { maxStack := 2, maxLocals := 1, code := prog_25_method_2_code, exceptionTable := #[], attributes := #[] }
def k2m1 : Method := { name := "isEncodable", desc := "(I)Z", sig := { parameters := [.int], returnType := some .boolean }, accessFlags := 8, code := some k2c1 }
/-- com/example/strict_lease/strictlease/grant/Utf8 -/
def k2 : Class := { plain "com/example/strict_lease/strictlease/grant/Utf8" (some 0) with
  accessFlags := 48
  interfaces := #[]
  cf := some (fileOf pool2 37 #[] #[{ accessFlags := 2, nameIndex := 5, descriptorIndex := 6, attributes := #[] }, { accessFlags := 8, nameIndex := 41, descriptorIndex := 42, attributes := #[] }] 48 2 #[] #[])
  fields := #[]
  methods := #[k2m0, k2m1]
  instanceTypes := #[]
  staticTypes := #[]
  resolved := Array.replicate 63 none
  statics := none }

def pool3 : Array CpInfo := pool [(1, u "java/lang/Cloneable"), (0, .class_ 1), (0, u "java/lang/Object"), (0, .class_ 3)] 3

/-- java/lang/Cloneable -/
def k3 : Class := { plain "java/lang/Cloneable" (some 0) with
  accessFlags := 1537
  interfaces := #[]
  cf := some (fileOf pool3 2 #[] #[] 1537 4 #[] #[])
  fields := #[]
  methods := #[]
  instanceTypes := #[]
  staticTypes := #[]
  resolved := Array.replicate 8 none
  statics := none }

def pool4 : Array CpInfo := pool [(1, u "java/io/Serializable"), (0, .class_ 1), (0, u "java/lang/Object"), (0, .class_ 3)] 3

/-- java/io/Serializable -/
def k4 : Class := { plain "java/io/Serializable" (some 0) with
  accessFlags := 1537
  interfaces := #[]
  cf := some (fileOf pool4 2 #[] #[] 1537 4 #[] #[])
  fields := #[]
  methods := #[]
  instanceTypes := #[]
  staticTypes := #[]
  resolved := Array.replicate 8 none
  statics := none }

/-- the primitive byte -/
def k5 : Class := { plain "byte" none with kind := .primitive 'B', accessFlags := 0x411 }
/-- [B -/
def k6 : Class := { plain "[B" (some 0) with kind := .array 5 .byte, interfaces := #[3, 4], accessFlags := 1041 }

def heap : Heap := #[]
def classes : Array Class := #[k0, k1, k2, k3, k4, k5, k6]
def interned : List (Array UInt16 × Addr) := []
def slotsUsed : Nat := 0
def theMethod : MethodId := ⟨1, 1⟩
def args0 : Array Value := #[.int 5, .int 7]
def aboutOver (below : List Frame) : State where
  vm := { classes := classes, interned := interned.toArray }
  heap := heap
  slotsUsed := slotsUsed
  threads := #[{ frames := .invoking theMethod args0 :: below }]
def below0 : List Frame := [.native { method := ⟨0, 0⟩, args := #[] }]
def about1 : State := aboutOver below0
def p0 : Program := .bare "" "" ""
def e0 : Env := launch0.env 0 0 0
theorem w_frames : about1.frames = Frame.invoking theMethod args0 :: below0 := rfl
set_option maxRecDepth 65536 in
theorem w_args : argsFit about1.vm theMethod args0 = true := by decide +kernel
set_option maxRecDepth 65536 in
theorem w_heap : heapFits about1 = true := by decide +kernel
set_option maxRecDepth 65536 in
theorem w_runnable : about1.curStatus? = some .runnable := by decide +kernel
set_option maxRecDepth 65536 in
theorem w_alone : about1.alone = true := by decide +kernel
set_option maxRecDepth 65536 in
theorem w_named : about1.methodNamed? x = some theMethod := by decide +kernel
set_option maxRecDepth 65536 in
theorem w_hears : about1.hears theMethod below0 = true := by decide +kernel
set_option maxRecDepth 65536 in
theorem w_ripe : about1.ripe theMethod args0 below0 = true := by decide +kernel
theorem w_running : about1.status = .running := rfl
set_option maxRecDepth 65536 in
theorem w_room : about1.hasRoom e0.platform room_1 = true :=
  launch0.hasRoom_least _ room_1 (by decide +kernel) (by decide +kernel) (by decide +kernel) (by decide +kernel) (by decide +kernel) (by decide +kernel)
theorem allAtoms_all (ts : List Jvm.Cond) (a : Array Jvm.Value) (st : Jvm.State) : (allAtoms ts).before a st = ts.all (fun c => c.before a st) := by
  induction ts with
  | nil => rfl
  | cons c t ih =>
    show (Jvm.Cond.and c (allAtoms t)).before a st = _
    rw [Jvm.Cond.before_and, ih, List.all_cons]
def words1 : List Jvm.Cond := Jvm.Cond.code x code maxLocals ret :: tables_1
/-- a 'code' word, met by the world's own term for the bytes: nothing is compared byte by byte -/
theorem code_word {y : MethodName} {bytes : ByteArray} {mx : Nat} {rt : Option FieldType} {a : Array Value} {s : State} {m : MethodId} {meth : Method} {c : Code} (h1 : s.methodNamed? y = some m) (h2 : s.vm.method? m = some meth) (h3 : meth.code = some c) (h4 : c.code = bytes)
    (h5 : (c.maxLocals == mx && c.exceptionTable.isEmpty && decide (c.maxStack ≤ mostOperands) && decide (meth.sig.returnType = rt) && !meth.locks && decide (parseMethodDescriptor y.desc = some meth.sig)) = true) : (Jvm.Cond.code y bytes mx rt).before a s = true := by
  simp only [Bool.and_eq_true, beq_iff_eq, Bool.not_eq_true', decide_eq_true_eq] at h5
  obtain ⟨⟨⟨⟨⟨g1, g2⟩, g3⟩, g4⟩, g5⟩, g6⟩ := h5
  simp [Cond.before, Cond.holds, Cond.value, h1, h2, h3, h4, g1, g2, g3, g4, g5, g6]
def isCode : Jvm.Cond → Bool
  | .code _ _ _ _ => true
  | _ => false
theorem all_split {L : List Jvm.Cond} {P : Jvm.Cond → Bool} (h1 : L.all (fun c => isCode c || P c) = true) (h2 : ∀ c ∈ L.filter isCode, P c = true) : L.all P = true := by
  refine List.all_eq_true.mpr fun c hc => ?_
  have h := List.all_eq_true.mp h1 c hc
  rcases Bool.eq_false_or_eq_true (isCode c) with hi | hi
  · exact h2 c (List.mem_filter.mpr ⟨hc, hi⟩)
  · simpa [hi] using h
set_option maxRecDepth 65536 in
theorem w_c0 : (Jvm.Cond.code x code maxLocals ret).before args0 about1 = true := code_word (m := ⟨1, 1⟩) (meth := k1m1) (c := k1c1) (by decide +kernel) rfl rfl rfl (by decide +kernel)
set_option maxRecDepth 65536 in
theorem w_c1 : (Jvm.Cond.code ({ cls := "com/example/strict_lease/strictlease/grant/Utf8", name := "isEncodable", desc := "(I)Z" } : Jvm.MethodName) prog_25_method_2_code (1 : Nat) (Option.some Jvm.ClassFile.FieldType.boolean)).before args0 about1 = true := code_word (m := ⟨2, 1⟩) (meth := k2m1) (c := k2c1) (by decide +kernel) rfl rfl rfl (by decide +kernel)
def codes1 : List Jvm.Cond := [Jvm.Cond.code x code maxLocals ret, Jvm.Cond.code ({ cls := "com/example/strict_lease/strictlease/grant/Utf8", name := "isEncodable", desc := "(I)Z" } : Jvm.MethodName) prog_25_method_2_code (1 : Nat) (Option.some Jvm.ClassFile.FieldType.boolean)]
set_option maxRecDepth 65536 in
theorem codes_eq : words1.filter isCode = codes1 := rfl
theorem w_codes : ∀ c ∈ words1.filter isCode, c.before args0 about1 = true := by
  rw [codes_eq]
  intro c hc
  simp only [codes1, List.mem_cons, List.not_mem_nil, or_false] at hc
  rcases hc with rfl | rfl
  · exact w_c0
  · exact w_c1
set_option maxRecDepth 65536 in
theorem w_t1 : words1.all (fun c => isCode c || c.before args0 about1) = true := by decide +kernel
theorem w_tables : (allAtoms (Jvm.Cond.code x code maxLocals ret :: tables_1)).before args0 about1 = true := by
  rw [allAtoms_all]
  show words1.all (fun c => c.before args0 about1) = true
  refine all_split ?_ w_codes
  rw [w_t1]
set_option maxRecDepth 65536 in
theorem w_case : (Jvm.Cond.and given_1 narrow_1).before args0 about1 = true := by decide +kernel
theorem w_applies : (headSpec (Jvm.Cond.code x code maxLocals ret :: tables_1) room_1).applies x e0.platform about1 = true :=
  (Spec.applies_iff w_frames).mpr ⟨w_running, w_runnable, w_alone, w_named, w_hears, w_ripe, w_room, w_tables⟩
theorem atStart : AtStart classFile x code maxLocals ret World_1 tables_1 room_1 Calls_1 rest_1 Pre_1 launch0 p0 e0 about1 theMethod args0 below0 :=
  ⟨lists_1, trivial, launch0.admits_env _ _ _, launch0.least_env, fairChoices_fair.cas, fairChoices_fair.clock, w_frames, w_args, w_heap, w_applies, trivial, trivial, w_case⟩
end start1
theorem witness_1 : WitnessClaimed_1 := ⟨start1.p0, start1.e0, start1.about1, start1.theMethod, start1.args0, start1.below0, start1.atStart⟩
end Jvm.Pilot.@@N@@
