import JvmDerived
import JvmDerived.Pilot.@@N@@Statement
import JvmDerived.Pilot.@@N@@Code
set_option linter.unusedVariables false
set_option linter.unusedSimpArgs false
@@BLOCK:NumsL.lean.txt@@
namespace Jvm.RoadKit
open Sem ClassFile Op Lib Jvm.Stand Jvm.Free Jvm.LawKit
section New
variable {p : Program} {l : Launch} {e : Env} {R : Room} {s : State} {m : MethodId} {args : Array Value} {below : List Frame} {meth : Method} {c : Code} {T : State} {locs : List Loc} {cells slots : Nat}
theorem retI (X : Stand p l e R s m args below meth c T locs cells slots) (hx : p.tables.exec = Jvm.exec) {pc : Nat} {Ls : Array Slot} {z : Int32} {rest : List Value} (hret : meth.sig.returnType = some .int) (hd : decode c.code pc = .ok (.ireturn, 1)) {fs : List Frame}
    (hl : ∀ (f : JFrame) (acts : List Action), f.method = m → f.locked = none → f.entered = [] → (doReturn e (T.setTop f) acts (some (.int z))).1 = T.setFrames fs) : Steps p.tables e below (T.setTop (mkF m pc Ls (.int z :: rest))) (T.setFrames fs) := by
  have hm' : T.vm.method? m = some meth := X.method'
  have hn : narrow .int (.int z) = .int z := rfl
  show Steps p.tables e below (T.setTop { method := m, pc := pc, locals := Ls, stack := _ :: rest, locked := none }) _
  jvm_step X.here [X.here.top, hx, hd, hm', hret, hn]
  first | (intro acts; rw [hl _ acts rfl rfl rfl]) | rw [hl _ _ rfl rfl rfl]
  exact Steps.refl _
end New
end Jvm.RoadKit
namespace Jvm.Pilot.@@N@@
open Jvm Jvm.ClassFile Sem Op Lib Jvm.Free Jvm.Stand Jvm.LawKit Jvm.RoadKit Bundle Jvm.Pilot.@@N@@.Jvm.D
theorem own_rem32 (x y : Int32) : (x - (x / y) * y).toInt = x.toInt.tmod y.toInt := by
  rw [Int32.toInt_sub, Int32.toInt_mul, Int32.toInt_div]
  simp only [Int.bmod_mul_bmod, Int.sub_bmod_bmod]
  rw [Int.tmod_def, Int.mul_comm y.toInt]
  have h := Int32.toInt_mod x y
  have h1 := (x % y).toInt_lt
  have h2 := (x % y).le_toInt
  rw [h, Int.tmod_def, Int.mul_comm y.toInt] at h1 h2
  exact Int.bmod_eq_of_le (by omega) (by omega)
theorem d1_0 : decode prog_67_method_29_code 0 = .ok (.iload_n 0, 1) := by decide +kernel
theorem d1_1 : decode prog_67_method_29_code 1 = .ok (.i2l, 1) := by decide +kernel
theorem d1_2 : decode prog_67_method_29_code 2 = .ok (.iload_n 1, 1) := by decide +kernel
theorem d1_3 : decode prog_67_method_29_code 3 = .ok (.i2l, 1) := by decide +kernel
theorem d1_4 : decode prog_67_method_29_code 4 = .ok (.lmul, 1) := by decide +kernel
theorem d1_5 : decode prog_67_method_29_code 5 = .ok (.iload_n 2, 1) := by decide +kernel
theorem d1_6 : decode prog_67_method_29_code 6 = .ok (.i2l, 1) := by decide +kernel
theorem d1_7 : decode prog_67_method_29_code 7 = .ok (.ladd, 1) := by decide +kernel
theorem d1_8 : decode prog_67_method_29_code 8 = .ok (.lconst 1, 1) := by decide +kernel
theorem d1_9 : decode prog_67_method_29_code 9 = .ok (.lsub, 1) := by decide +kernel
theorem d1_10 : decode prog_67_method_29_code 10 = .ok (.iload_n 2, 1) := by decide +kernel
theorem d1_11 : decode prog_67_method_29_code 11 = .ok (.i2l, 1) := by decide +kernel
theorem d1_12 : decode prog_67_method_29_code 12 = .ok (.ldiv, 1) := by decide +kernel
theorem d1_13 : decode prog_67_method_29_code 13 = .ok (.l2i, 1) := by decide +kernel
theorem d1_14 : decode prog_67_method_29_code 14 = .ok (.ireturn, 1) := by decide +kernel
theorem pn_com_example_gryphon_gryphon_store_BlockStore : plainName "com/example/gryphon/gryphon/store/BlockStore" = true := by first | (simp [plainName, overriddenIn]; done) | decide +kernel
theorem ef_1 (m : MethodId) (p0 : Int32) (p1 : Int32) (p2 : Int32) : entryFrame m #[(.int p0), (.int p1), (.int p2)] 3 = mkF m 0 #[.val (.int p0), .val (.int p1), .val (.int p2)] [] := by first | (simp [entryFrame, mkF, argsToLocals, Value.category]; done) | rfl
def v1_1 (p0 : Int32) (p1 : Int32) (p2 : Int32) : Int64 := (p2.toInt64)
def v1_2 (p0 : Int32) (p1 : Int32) (p2 : Int32) : Int64 := ((((p0.toInt64) * (p1.toInt64)) + (p2.toInt64)) - (1 : Int64))
def f1 (p0 : Int32) (p1 : Int32) (p2 : Int32) : Int32 := (((v1_2 p0 p1 p2) / (v1_1 p0 p1 p2)).toInt32)
def Q1 (Z : State) (p0 : Int32) (p1 : Int32) (p2 : Int32) (h0 : Heap) (n0 : Nat) (v : Option Value) (h : Heap) (L : List Loc) : Prop := Fr n0 L ∧ v = some (.int (f1 p0 p1 p2)) ∧ h = h0
set_option maxRecDepth 65536 in
set_option maxHeartbeats 40000000 in
theorem rm1 (l : Launch) (Z : State) (a0 : Array Value) (hw : ∀ d ∈ tables_1, d.before a0 Z = true) (ws : List Jvm.Cond) (p0 : Int32) (p1 : Int32) (p2 : Int32) (h0 : Heap) (n0 : Nat) (Z0 : n0 ≤ h0.size) (hy0 : ¬ ((v1_1 p0 p1 p2) = (0 : Int64))) :
    MetFree l (⟨"com/example/gryphon/gryphon/store/BlockStore", "firstVertex", "(III)I"⟩ : MethodName) (head1 (Jvm.Cond.code (⟨"com/example/gryphon/gryphon/store/BlockStore", "firstVertex", "(III)I"⟩ : MethodName) prog_67_method_29_code 3 (some .int) :: ws) ({ frames := 0, cells := 0, slots := 0, locals := 0 } : Room)) (fun a U => a = #[(.int p0), (.int p1), (.int p2)] ∧ Z.Warmed39 U.vm ∧ U.heap = h0) (fun _ _ _ _ _ => True) (fun _ U o U' => ∃ v L, o = .returned v ∧ Q1 Z p0 p1 p2 h0 n0 v U'.heap L ∧ FrameEnd U o U' L ({ frames := 0, cells := 0, slots := 0, locals := 0 } : Room).cells ({ frames := 0, cells := 0, slots := 0, locals := 0 } : Room).slots) := by
  refine MetFree.of_bodySF (plainFor_of_name pn_com_example_gryphon_gryphon_store_BlockStore) hisR ?_
  intro p e s m args below meth c s₁ Bd hml0 hP hK
  obtain ⟨rfl, hZ, hh⟩ := hP
  have hx := Bd.exec
  have hby := Bd.bytes
  have hml : c.maxLocals = 3 := hml0
  have hown : s.vm.findClass "com/example/gryphon/gryphon/store/BlockStore" = some m.cls := findClass_of_methodNamed Bd.named
  have hnm := (name_of_methodNamed Bd.named Bd.method).1
  have X0 : Stand p l e ({ frames := 0, cells := 0, slots := 0, locals := 0 } : Room) s m #[(.int p0), (.int p1), (.int p2)] below meth c s₁ [] 0 0 := Stand.of_body Bd
  have e0 : s₁.heap = h0 := by rw [← hh, Bd.state]; rfl
  have N0 := Fr.nil n0
  have pre0 : ∀ t, Steps p.tables e below (s₁.setTop (mkF m 0 #[.val (.int p0), .val (.int p1), .val (.int p2)] [])) t → Steps p.tables e below (s₁.setTop (entryFrame m #[(.int p0), (.int p1), (.int p2)] 3)) t := fun t k => castTop (ef_1 m p0 p1 p2) k
  obtain ⟨fs, hr, hrun, hended, hW, hsame⟩ := X0.leave (v := some (.int (((v1_2 p0 p1 p2) / (v1_1 p0 p1 p2)).toInt32))) (fun h => by rw [Bd.returns] at h; cases h)
  refine ⟨_, _, pre0 _ ?_, hrun, hended, _, _, rfl, ?_, ⟨_, rfl⟩, hW, hsame.mono (by decide) (by decide)⟩
  · skip
    show Steps p.tables e below (s₁.setTop (mkF m 0 #[.val (.int p0), .val (.int p1), .val (.int p2)] [])) _
    refine XS.iloadN X0.here hx rfl (hb hby d1_0) rfl ?_
    show Steps p.tables e below (s₁.setTop (mkF m 1 #[.val (.int p0), .val (.int p1), .val (.int p2)] [(.int p0)])) _
    refine XT.i2l X0.here hx rfl (hb hby d1_1) rfl ?_
    show Steps p.tables e below (s₁.setTop (mkF m 2 #[.val (.int p0), .val (.int p1), .val (.int p2)] [(.long (p0.toInt64))])) _
    refine XS.iloadN X0.here hx rfl (hb hby d1_2) rfl ?_
    show Steps p.tables e below (s₁.setTop (mkF m 3 #[.val (.int p0), .val (.int p1), .val (.int p2)] [(.int p1), (.long (p0.toInt64))])) _
    refine XT.i2l X0.here hx rfl (hb hby d1_3) rfl ?_
    show Steps p.tables e below (s₁.setTop (mkF m 4 #[.val (.int p0), .val (.int p1), .val (.int p2)] [(.long (p1.toInt64)), (.long (p0.toInt64))])) _
    refine XT.lmul X0.here hx rfl (hb hby d1_4) rfl ?_
    show Steps p.tables e below (s₁.setTop (mkF m 5 #[.val (.int p0), .val (.int p1), .val (.int p2)] [(.long ((p0.toInt64) * (p1.toInt64)))])) _
    refine XS.iloadN X0.here hx rfl (hb hby d1_5) rfl ?_
    show Steps p.tables e below (s₁.setTop (mkF m 6 #[.val (.int p0), .val (.int p1), .val (.int p2)] [(.int p2), (.long ((p0.toInt64) * (p1.toInt64)))])) _
    refine XT.i2l X0.here hx rfl (hb hby d1_6) rfl ?_
    show Steps p.tables e below (s₁.setTop (mkF m 7 #[.val (.int p0), .val (.int p1), .val (.int p2)] [(.long (p2.toInt64)), (.long ((p0.toInt64) * (p1.toInt64)))])) _
    refine XT.ladd X0.here hx rfl (hb hby d1_7) rfl ?_
    show Steps p.tables e below (s₁.setTop (mkF m 8 #[.val (.int p0), .val (.int p1), .val (.int p2)] [(.long (((p0.toInt64) * (p1.toInt64)) + (p2.toInt64)))])) _
    refine XT.lconstV X0.here hx rfl (1 : Int64) (hb hby d1_8) (by decide) ?_
    show Steps p.tables e below (s₁.setTop (mkF m 9 #[.val (.int p0), .val (.int p1), .val (.int p2)] [(.long (1 : Int64)), (.long (((p0.toInt64) * (p1.toInt64)) + (p2.toInt64)))])) _
    refine XT.lsub X0.here hx rfl (hb hby d1_9) rfl ?_
    show Steps p.tables e below (s₁.setTop (mkF m 10 #[.val (.int p0), .val (.int p1), .val (.int p2)] [(.long ((((p0.toInt64) * (p1.toInt64)) + (p2.toInt64)) - (1 : Int64)))])) _
    refine XS.iloadN X0.here hx rfl (hb hby d1_10) rfl ?_
    show Steps p.tables e below (s₁.setTop (mkF m 11 #[.val (.int p0), .val (.int p1), .val (.int p2)] [(.int p2), (.long ((((p0.toInt64) * (p1.toInt64)) + (p2.toInt64)) - (1 : Int64)))])) _
    refine XT.i2l X0.here hx rfl (hb hby d1_11) rfl ?_
    show Steps p.tables e below (s₁.setTop (mkF m 12 #[.val (.int p0), .val (.int p1), .val (.int p2)] [(.long (p2.toInt64)), (.long ((((p0.toInt64) * (p1.toInt64)) + (p2.toInt64)) - (1 : Int64)))])) _
    refine XT.ldiv X0.here hx rfl (hb hby d1_12) rfl hy0 ?_
    show Steps p.tables e below (s₁.setTop (mkF m 13 #[.val (.int p0), .val (.int p1), .val (.int p2)] [(.long ((v1_2 p0 p1 p2) / (v1_1 p0 p1 p2)))])) _
    refine XT.l2i X0.here hx rfl (hb hby d1_13) rfl ?_
    show Steps p.tables e below (s₁.setTop (mkF m 14 #[.val (.int p0), .val (.int p1), .val (.int p2)] [(.int (((v1_2 p0 p1 p2) / (v1_1 p0 p1 p2)).toInt32))])) _
    exact retI X0 hx Bd.returns (hb hby d1_14) hr
  · skip
    show Q1 Z p0 p1 p2 h0 n0 _ s₁.heap _
    rw [e0]
    exact ⟨N0, rfl, rfl⟩
theorem pd__III_I : parseMethodDescriptor "(III)I" = some ⟨[.int, .int, .int], some .int⟩ := by decide +kernel
theorem pn_com_example_gryphon_gryphon_store_BlockStoreFirstVertexPinLaw : plainName "com/example/gryphon/gryphon/store/BlockStoreFirstVertexPinLaw" = true := by first | (simp [plainName, overriddenIn]; done) | decide +kernel
theorem ef_0 (m : MethodId) (p0 : Int32) (p1 : Int32) (p2 : Int32) : entryFrame m #[(.int p0), (.int p1), (.int p2)] maxLocals = mkF m 0 #[.val (.int p0), .val (.int p1), .val (.int p2), .unset, .unset, .unset, .unset, .unset, .unset, .unset, .unset] [] := by first | (simp [entryFrame, mkF, argsToLocals, Value.category, maxLocals]; done) | rfl
def v0_1 (p0 : Int32) (p1 : Int32) (p2 : Int32) : Int32 := ((1 : Int32) + (p0 &&& (1023 : Int32)))
def v0_2 (p0 : Int32) (p1 : Int32) (p2 : Int32) : Int32 := ((v0_1 p0 p1 p2) + (1 : Int32))
def v0_3 (p0 : Int32) (p1 : Int32) (p2 : Int32) : Int32 := (p1 &&& (2147483647 : Int32))
def v0_4 (p0 : Int32) (p1 : Int32) (p2 : Int32) : Int32 := ((v0_3 p0 p1 p2) - ((v0_3 p0 p1 p2) / (v0_2 p0 p1 p2)) * (v0_2 p0 p1 p2))
def v0_5 (p0 : Int32) (p1 : Int32) (p2 : Int32) : Int32 := (p2 &&& (2147483647 : Int32))
def v0_6 (p0 : Int32) (p1 : Int32) (p2 : Int32) : Int32 := ((v0_5 p0 p1 p2) - ((v0_5 p0 p1 p2) / (2147483640 : Int32)) * (2147483640 : Int32))
def v0_7 (p0 : Int32) (p1 : Int32) (p2 : Int32) : Int32 := (f1 (v0_4 p0 p1 p2) (v0_6 p0 p1 p2) (v0_1 p0 p1 p2))
def v0_8 (p0 : Int32) (p1 : Int32) (p2 : Int32) : Int64 := (((v0_4 p0 p1 p2).toInt64) * ((v0_6 p0 p1 p2).toInt64))
def v0_9 (p0 : Int32) (p1 : Int32) (p2 : Int32) : Int64 := (((v0_7 p0 p1 p2).toInt64) * ((v0_1 p0 p1 p2).toInt64))
def v0_10 (p0 : Int32) (p1 : Int32) (p2 : Int32) : Int32 := (if (v0_9 p0 p1 p2) < (v0_8 p0 p1 p2) then (0 : Int32) else (1 : Int32))
def v0_11 (p0 : Int32) (p1 : Int32) (p2 : Int32) : Int64 := ((((v0_7 p0 p1 p2).toInt64) - (1 : Int64)) * ((v0_1 p0 p1 p2).toInt64))
def v0_12 (p0 : Int32) (p1 : Int32) (p2 : Int32) : Int32 := (if (v0_11 p0 p1 p2) < (v0_8 p0 p1 p2) then (1 : Int32) else (0 : Int32))
def v0_13 (p0 : Int32) (p1 : Int32) (p2 : Int32) : Int32 := (if (v0_10 p0 p1 p2) = (0 : Int32) then (0 : Int32) else (if (v0_12 p0 p1 p2) = (0 : Int32) then (0 : Int32) else (1 : Int32)))
/-own-/
theorem own_b (p0 p1 p2 : Int32) : 1 ≤ (v0_1 p0 p1 p2).toInt ∧ (v0_1 p0 p1 p2).toInt ≤ 1024 := by
  have e5 : (p0 &&& (1023 : Int32)).toInt = p0.toInt % 2 ^ 10 := Jvm.Kit.i32_mask p0 1023 (k := 10) (by decide) (by decide)
  have c : (1 : Int32).toInt = 1 := by decide
  have : (v0_1 p0 p1 p2).toInt = 1 + p0.toInt % 2 ^ 10 := by
    unfold v0_1; rw [Jvm.Kit.i32_add (by omega) (by omega), e5, c]
  omega
theorem own_b2 (p0 p1 p2 : Int32) : (v0_2 p0 p1 p2).toInt = (v0_1 p0 p1 p2).toInt + 1 := by
  have := own_b p0 p1 p2
  have c : (1 : Int32).toInt = 1 := by decide
  unfold v0_2; rw [Jvm.Kit.i32_add (by omega) (by omega), c]
theorem own_nz (p0 p1 p2 : Int32) : ¬ ((v0_2 p0 p1 p2) = (0 : Int32)) := by
  intro h
  have := own_b p0 p1 p2
  have := own_b2 p0 p1 p2
  rw [h] at this
  have c : (0 : Int32).toInt = 0 := by decide
  omega
theorem own_nz2 (p0 p1 p2 : Int32) : ¬ ((v1_1 (v0_4 p0 p1 p2) (v0_6 p0 p1 p2) (v0_1 p0 p1 p2)) = (0 : Int64)) := by
  intro h
  have := own_b p0 p1 p2
  have q : (v0_1 p0 p1 p2).toInt64.toInt = 0 := by
    have : (v0_1 p0 p1 p2).toInt64 = 0 := h
    rw [this]; decide
  rw [Jvm.Kit.i64_of_i32] at q
  omega
theorem own_core (b v B : Int32) (h1 : 0 ≤ b.toInt) (h2 : b.toInt ≤ B.toInt) (h3 : 1 ≤ B.toInt) (h4 : B.toInt ≤ 1024) (h5 : 0 ≤ v.toInt) :
    ∃ r : Int, (f1 b v B).toInt = r ∧ 0 ≤ r ∧ r ≤ v.toInt ∧ b.toInt * v.toInt ≤ r * B.toInt ∧ (r - 1) * B.toInt < b.toInt * v.toInt := by
  have v1 := v.toInt_lt
  have hm : b.toInt * v.toInt ≤ B.toInt * v.toInt := Int.mul_le_mul_of_nonneg_right h2 h5
  have hm2 : B.toInt * v.toInt ≤ 1024 * v.toInt := Int.mul_le_mul_of_nonneg_right h4 h5
  have hm0 : 0 ≤ b.toInt * v.toInt := Int.mul_nonneg h1 h5
  have c : (1 : Int64).toInt = 1 := by decide
  have m1 : (b.toInt64 * v.toInt64).toInt = b.toInt * v.toInt := by
    rw [Jvm.Kit.i64_mul (by rw [Jvm.Kit.i64_of_i32, Jvm.Kit.i64_of_i32]; omega) (by rw [Jvm.Kit.i64_of_i32, Jvm.Kit.i64_of_i32]; omega), Jvm.Kit.i64_of_i32, Jvm.Kit.i64_of_i32]
  have m2 : (b.toInt64 * v.toInt64 + B.toInt64).toInt = b.toInt * v.toInt + B.toInt := by
    rw [Jvm.Kit.i64_add (by rw [m1, Jvm.Kit.i64_of_i32]; omega) (by rw [m1, Jvm.Kit.i64_of_i32]; omega), m1, Jvm.Kit.i64_of_i32]
  have m3 : (v1_2 b v B).toInt = b.toInt * v.toInt + B.toInt - 1 := by
    unfold v1_2
    rw [Jvm.Kit.i64_sub (by rw [m2, c]; omega) (by rw [m2, c]; omega), m2, c]
  have m4 : (v1_1 b v B).toInt = B.toInt := Jvm.Kit.i64_of_i32 B
  have m5 : (v1_2 b v B / v1_1 b v B).toInt = (b.toInt * v.toInt + B.toInt - 1) / B.toInt := by
    rw [Jvm.Kit.i64_div (by rw [m3, m4]; omega), m3, m4, Int.tdiv_eq_ediv_of_nonneg (by omega)]
  have d1 := Int.mul_ediv_add_emod (b.toInt * v.toInt + B.toInt - 1) B.toInt
  have d2 := Int.emod_nonneg (b.toInt * v.toInt + B.toInt - 1) (b := B.toInt) (by omega)
  have d3 := Int.emod_lt_of_pos (b.toInt * v.toInt + B.toInt - 1) (b := B.toInt) (by omega)
  generalize hr : (b.toInt * v.toInt + B.toInt - 1) / B.toInt = r at *
  have r0 : 0 ≤ r := by
    rw [← hr]; exact Int.ediv_nonneg (by omega) (by omega)
  have r1 : r ≤ v.toInt := by
    apply Int.le_of_lt_add_one
    apply Int.lt_of_mul_lt_mul_left (a := B.toInt) _ (by omega)
    rw [Int.mul_add]
    omega
  refine ⟨r, ?_, r0, r1, ?_, ?_⟩
  · unfold f1
    rw [Jvm.Kit.i32_of_i64 (by rw [m5]; omega) (by rw [m5]; omega), m5]
  · rw [Int.mul_comm r]; omega
  · rw [Int.sub_mul, Int.mul_comm r]; omega
theorem own_main (b v B : Int32) (h1 : 0 ≤ b.toInt) (h2 : b.toInt ≤ B.toInt) (h3 : 1 ≤ B.toInt) (h4 : B.toInt ≤ 1024) (h5 : 0 ≤ v.toInt) :
    ¬ ((f1 b v B).toInt64 * B.toInt64 < b.toInt64 * v.toInt64) ∧ ((f1 b v B).toInt64 - (1 : Int64)) * B.toInt64 < b.toInt64 * v.toInt64 := by
  obtain ⟨r, q1, q2, q3, q4, q5⟩ := own_core b v B h1 h2 h3 h4 h5
  have v1 := v.toInt_lt
  generalize f1 b v B = R at *
  have one : (1 : Int64).toInt = 1 := by decide
  have l : b.toInt * v.toInt ≤ 1024 * v.toInt := Int.mul_le_mul_of_nonneg_right (by omega) h5
  have l0 := Int.mul_nonneg h1 h5
  have lr1 : r * B.toInt ≤ r * 1024 := Int.mul_le_mul_of_nonneg_left h4 q2
  have lr0 : 0 ≤ r * B.toInt := Int.mul_nonneg q2 (by omega)
  have k : (r - 1) * B.toInt = r * B.toInt - B.toInt := by rw [Int.sub_mul, Int.one_mul]
  have p8 : (b.toInt64 * v.toInt64).toInt = b.toInt * v.toInt := by
    rw [Jvm.Kit.i64_mul (by rw [Jvm.Kit.i64_of_i32, Jvm.Kit.i64_of_i32]; omega) (by rw [Jvm.Kit.i64_of_i32, Jvm.Kit.i64_of_i32]; omega), Jvm.Kit.i64_of_i32, Jvm.Kit.i64_of_i32]
  have p9 : (R.toInt64 * B.toInt64).toInt = r * B.toInt := by
    rw [Jvm.Kit.i64_mul (by rw [Jvm.Kit.i64_of_i32, Jvm.Kit.i64_of_i32, q1]; omega) (by rw [Jvm.Kit.i64_of_i32, Jvm.Kit.i64_of_i32, q1]; omega), Jvm.Kit.i64_of_i32, Jvm.Kit.i64_of_i32, q1]
  have s7 : (R.toInt64 - (1 : Int64)).toInt = r - 1 := by
    rw [Jvm.Kit.i64_sub (by rw [Jvm.Kit.i64_of_i32, q1, one]; omega) (by rw [Jvm.Kit.i64_of_i32, q1, one]; omega), Jvm.Kit.i64_of_i32, q1, one]
  have p11 : ((R.toInt64 - (1 : Int64)) * B.toInt64).toInt = (r - 1) * B.toInt := by
    rw [Jvm.Kit.i64_mul (by rw [s7, Jvm.Kit.i64_of_i32, k]; omega) (by rw [s7, Jvm.Kit.i64_of_i32, k]; omega), s7, Jvm.Kit.i64_of_i32]
  constructor
  · rw [Int64.lt_iff_toInt_lt, p8, p9]; omega
  · rw [Int64.lt_iff_toInt_lt, p8, p11]; omega
theorem own_mod (x m : Int32) (hx : 0 ≤ x.toInt) (hm : 0 < m.toInt) : 0 ≤ (x - (x / m) * m).toInt ∧ (x - (x / m) * m).toInt < m.toInt := by
  rw [own_rem32, Int.tmod_eq_emod_of_nonneg hx]
  exact ⟨Int.emod_nonneg _ (by omega), Int.emod_lt_of_pos _ hm⟩
theorem own_law (p0 p1 p2 : Int32) : v0_13 p0 p1 p2 = (1 : Int32) := by
  obtain ⟨b1, b2⟩ := own_b p0 p1 p2
  have b3 := own_b2 p0 p1 p2
  have e3 : 0 ≤ (v0_3 p0 p1 p2).toInt := by
    have : (v0_3 p0 p1 p2).toInt = p1.toInt % 2 ^ 31 := Jvm.Kit.i32_mask p1 2147483647 (k := 31) (by decide) (by decide)
    omega
  have e5 : 0 ≤ (v0_5 p0 p1 p2).toInt := by
    have : (v0_5 p0 p1 p2).toInt = p2.toInt % 2 ^ 31 := Jvm.Kit.i32_mask p2 2147483647 (k := 31) (by decide) (by decide)
    omega
  have e4 := own_mod (v0_3 p0 p1 p2) (v0_2 p0 p1 p2) e3 (by omega)
  have e6 := own_mod (v0_5 p0 p1 p2) (2147483640 : Int32) e5 (by decide)
  have w := own_main (v0_4 p0 p1 p2) (v0_6 p0 p1 p2) (v0_1 p0 p1 p2) e4.1 (by have := e4.2; unfold v0_4; omega) b1 b2 e6.1
  have w1 : v0_10 p0 p1 p2 = 1 := if_neg w.1
  have w2 : v0_12 p0 p1 p2 = 1 := if_pos w.2
  refine (if_neg ?_).trans (if_neg ?_)
  · rw [w1]; decide
  · rw [w2]; decide
def Q0 (Z : State) (p0 : Int32) (p1 : Int32) (p2 : Int32) (h0 : Heap) (n0 : Nat) (v : Option Value) (h : Heap) (L : List Loc) : Prop := v = some (.int (1 : Int32)) ∧ Fr n0 L
set_option maxRecDepth 65536 in
set_option maxHeartbeats 40000000 in
theorem rm0 (l : Launch) (Z : State) (a0 : Array Value) (hw : ∀ d ∈ tables_1, d.before a0 Z = true) (ws : List Jvm.Cond) (p0 : Int32) (p1 : Int32) (p2 : Int32) (h0 : Heap) (n0 : Nat) (Z0 : n0 ≤ h0.size) :
    MetFree l x (head1 (Jvm.Cond.code x code maxLocals ret :: ws) room_1) (fun a U => a = #[(.int p0), (.int p1), (.int p2)] ∧ Z.Warmed39 U.vm ∧ U.heap = h0) (fun _ _ _ _ _ => True) (fun _ U o U' => ∃ v L, o = .returned v ∧ Q0 Z p0 p1 p2 h0 n0 v U'.heap L ∧ FrameEnd U o U' L room_1.cells room_1.slots) := by
  refine MetFree.of_bodySF (plainFor_of_name pn_com_example_gryphon_gryphon_store_BlockStoreFirstVertexPinLaw) hisR ?_
  intro p e s m args below meth c s₁ Bd hml0 hP hK
  obtain ⟨rfl, hZ, hh⟩ := hP
  have hx := Bd.exec
  have hby := Bd.bytes
  have hml : c.maxLocals = 11 := hml0
  have hown : s.vm.findClass "com/example/gryphon/gryphon/store/BlockStoreFirstVertexPinLaw" = some m.cls := findClass_of_methodNamed Bd.named
  have hnm := (name_of_methodNamed Bd.named Bd.method).1
  have X0 : Stand p l e room_1 s m #[(.int p0), (.int p1), (.int p2)] below meth c s₁ [] 0 0 := Stand.of_body Bd
  have e0 : s₁.heap = h0 := by rw [← hh, Bd.state]; rfl
  have N0 := Fr.nil n0
  have pre0 : ∀ t, Steps p.tables e below (s₁.setTop (mkF m 0 #[.val (.int p0), .val (.int p1), .val (.int p2), .unset, .unset, .unset, .unset, .unset, .unset, .unset, .unset] [])) t → Steps p.tables e below (s₁.setTop (entryFrame m #[(.int p0), (.int p1), (.int p2)] maxLocals)) t := fun t k => castTop (ef_0 m p0 p1 p2) k
  obtain ⟨_, _, ⟨T1, L1, k1, n1⟩, -, X1, ⟨Lc1, hQ1, l1, y1, z1⟩, st1⟩ := Jvm.LawKit.callS X0 hx (y := (⟨"com/example/gryphon/gryphon/store/BlockStore", "firstVertex", "(III)I"⟩ : MethodName)) hown (mvT hZ (hw _ (List.mem_of_getElem? (i := 2) rfl))) (mvT hZ (hw _ (List.mem_of_getElem? (i := 3) rfl))) (mvT hZ (hw _ (List.mem_of_getElem? (i := 4) rfl))) (mvT hZ (hw _ (List.mem_of_getElem? (i := 5) rfl))) (by decide) (backOf (W := 0) (rm1 l Z a0 hw [] (v0_4 p0 p1 p2) (v0_6 p0 p1 p2) (v0_1 p0 p1 p2) h0 n0 Z0 (own_nz2 p0 p1 p2)) hZ (hw _ (List.mem_of_getElem? (i := 5) rfl)) (hw _ (List.mem_of_getElem? (i := 4) rfl)) (by decide) (by decide)) (g := (mkF m 32 #[.val (.int p0), .val (.int p1), .val (.int p2), .val (.int (v0_1 p0 p1 p2)), .val (.int (v0_4 p0 p1 p2)), .val (.int (v0_6 p0 p1 p2)), .unset, .unset, .unset, .unset, .unset] [(.int (v0_1 p0 p1 p2)), (.int (v0_6 p0 p1 p2)), (.int (v0_4 p0 p1 p2))])) rfl (by rw [hml]; rfl) (argsL := [(.int (v0_4 p0 p1 p2)), (.int (v0_6 p0 p1 p2)), (.int (v0_1 p0 p1 p2))]) (rest := []) (lenOf pd__III_I rfl) rfl (by show 2 * 0 + _ ≤ _; exact Nat.le_of_eq rfl) (hb hby at_32) (fun _ _ => ⟨rfl, e0, (by decide : 0 + 0 ≤ _), (by decide : 0 + 0 ≤ _)⟩)
  dsimp only [Pt.U, Pt.locs, Pt.cells, Pt.slots] at X1 l1 y1 z1 st1 hQ1
  subst l1 y1 z1
  obtain ⟨N1q, rfl, e1⟩ := hQ1
  have N1 := Fr.app N0 N1q
  have pre2 : ∀ t, Steps p.tables e below (T1.setTop (mkF m 55 #[.val (.int p0), .val (.int p1), .val (.int p2), .val (.int (v0_1 p0 p1 p2)), .val (.int (v0_4 p0 p1 p2)), .val (.int (v0_6 p0 p1 p2)), .val (.int (v0_7 p0 p1 p2)), .val (.long (v0_8 p0 p1 p2)), .second, .unset, .unset] [(.int (XT.cmpL (v0_9 p0 p1 p2) (v0_8 p0 p1 p2)))])) t → Steps p.tables e below (s₁.setTop (entryFrame m #[(.int p0), (.int p1), (.int p2)] maxLocals)) t := by
    intro t k
    refine pre0 t ?_
    show Steps p.tables e below (s₁.setTop (mkF m 0 #[.val (.int p0), .val (.int p1), .val (.int p2), .unset, .unset, .unset, .unset, .unset, .unset, .unset, .unset] [])) _
    refine XT.iconstV X0.here hx rfl (1 : Int32) (hb hby at_0) (by decide) ?_
    show Steps p.tables e below (s₁.setTop (mkF m 1 #[.val (.int p0), .val (.int p1), .val (.int p2), .unset, .unset, .unset, .unset, .unset, .unset, .unset, .unset] [(.int (1 : Int32))])) _
    refine XS.iloadN X0.here hx rfl (hb hby at_1) rfl ?_
    show Steps p.tables e below (s₁.setTop (mkF m 2 #[.val (.int p0), .val (.int p1), .val (.int p2), .unset, .unset, .unset, .unset, .unset, .unset, .unset, .unset] [(.int p0), (.int (1 : Int32))])) _
    refine XT.sipushV X0.here hx rfl (1023 : Int32) (hb hby at_2) (by decide) ?_
    show Steps p.tables e below (s₁.setTop (mkF m 5 #[.val (.int p0), .val (.int p1), .val (.int p2), .unset, .unset, .unset, .unset, .unset, .unset, .unset, .unset] [(.int (1023 : Int32)), (.int p0), (.int (1 : Int32))])) _
    refine XS.iand X0.here hx rfl (hb hby at_5) rfl ?_
    show Steps p.tables e below (s₁.setTop (mkF m 6 #[.val (.int p0), .val (.int p1), .val (.int p2), .unset, .unset, .unset, .unset, .unset, .unset, .unset, .unset] [(.int (p0 &&& (1023 : Int32))), (.int (1 : Int32))])) _
    refine XS.iadd X0.here hx rfl (hb hby at_6) rfl ?_
    show Steps p.tables e below (s₁.setTop (mkF m 7 #[.val (.int p0), .val (.int p1), .val (.int p2), .unset, .unset, .unset, .unset, .unset, .unset, .unset, .unset] [(.int ((1 : Int32) + (p0 &&& (1023 : Int32))))])) _
    refine XS.istoreN X0.here hx rfl (hb hby at_7) rfl (l' := #[.val (.int p0), .val (.int p1), .val (.int p2), .val (.int (v0_1 p0 p1 p2)), .unset, .unset, .unset, .unset, .unset, .unset, .unset]) rfl ?_
    show Steps p.tables e below (s₁.setTop (mkF m 8 #[.val (.int p0), .val (.int p1), .val (.int p2), .val (.int (v0_1 p0 p1 p2)), .unset, .unset, .unset, .unset, .unset, .unset, .unset] [])) _
    refine XS.iloadN X0.here hx rfl (hb hby at_8) rfl ?_
    show Steps p.tables e below (s₁.setTop (mkF m 9 #[.val (.int p0), .val (.int p1), .val (.int p2), .val (.int (v0_1 p0 p1 p2)), .unset, .unset, .unset, .unset, .unset, .unset, .unset] [(.int p1)])) _
    refine X0.ldcI hx hown (mvT hZ (hw _ (List.mem_of_getElem? (i := 0) rfl))) rfl (hb hby at_9) ?_
    show Steps p.tables e below (s₁.setTop (mkF m 11 #[.val (.int p0), .val (.int p1), .val (.int p2), .val (.int (v0_1 p0 p1 p2)), .unset, .unset, .unset, .unset, .unset, .unset, .unset] [(.int (2147483647 : Int32)), (.int p1)])) _
    refine XS.iand X0.here hx rfl (hb hby at_11) rfl ?_
    show Steps p.tables e below (s₁.setTop (mkF m 12 #[.val (.int p0), .val (.int p1), .val (.int p2), .val (.int (v0_1 p0 p1 p2)), .unset, .unset, .unset, .unset, .unset, .unset, .unset] [(.int (p1 &&& (2147483647 : Int32)))])) _
    refine XS.iloadN X0.here hx rfl (hb hby at_12) rfl ?_
    show Steps p.tables e below (s₁.setTop (mkF m 13 #[.val (.int p0), .val (.int p1), .val (.int p2), .val (.int (v0_1 p0 p1 p2)), .unset, .unset, .unset, .unset, .unset, .unset, .unset] [(.int (v0_1 p0 p1 p2)), (.int (p1 &&& (2147483647 : Int32)))])) _
    refine XT.iconstV X0.here hx rfl (1 : Int32) (hb hby at_13) (by decide) ?_
    show Steps p.tables e below (s₁.setTop (mkF m 14 #[.val (.int p0), .val (.int p1), .val (.int p2), .val (.int (v0_1 p0 p1 p2)), .unset, .unset, .unset, .unset, .unset, .unset, .unset] [(.int (1 : Int32)), (.int (v0_1 p0 p1 p2)), (.int (p1 &&& (2147483647 : Int32)))])) _
    refine XS.iadd X0.here hx rfl (hb hby at_14) rfl ?_
    show Steps p.tables e below (s₁.setTop (mkF m 15 #[.val (.int p0), .val (.int p1), .val (.int p2), .val (.int (v0_1 p0 p1 p2)), .unset, .unset, .unset, .unset, .unset, .unset, .unset] [(.int ((v0_1 p0 p1 p2) + (1 : Int32))), (.int (p1 &&& (2147483647 : Int32)))])) _
    refine XS.irem X0.here hx rfl (hb hby at_15) rfl (own_nz p0 p1 p2) ?_
    show Steps p.tables e below (s₁.setTop (mkF m 16 #[.val (.int p0), .val (.int p1), .val (.int p2), .val (.int (v0_1 p0 p1 p2)), .unset, .unset, .unset, .unset, .unset, .unset, .unset] [(.int ((v0_3 p0 p1 p2) - ((v0_3 p0 p1 p2) / (v0_2 p0 p1 p2)) * (v0_2 p0 p1 p2)))])) _
    refine XS.istore X0.here hx rfl (hb hby at_16) rfl (l' := #[.val (.int p0), .val (.int p1), .val (.int p2), .val (.int (v0_1 p0 p1 p2)), .val (.int (v0_4 p0 p1 p2)), .unset, .unset, .unset, .unset, .unset, .unset]) rfl ?_
    show Steps p.tables e below (s₁.setTop (mkF m 18 #[.val (.int p0), .val (.int p1), .val (.int p2), .val (.int (v0_1 p0 p1 p2)), .val (.int (v0_4 p0 p1 p2)), .unset, .unset, .unset, .unset, .unset, .unset] [])) _
    refine XS.iloadN X0.here hx rfl (hb hby at_18) rfl ?_
    show Steps p.tables e below (s₁.setTop (mkF m 19 #[.val (.int p0), .val (.int p1), .val (.int p2), .val (.int (v0_1 p0 p1 p2)), .val (.int (v0_4 p0 p1 p2)), .unset, .unset, .unset, .unset, .unset, .unset] [(.int p2)])) _
    refine X0.ldcI hx hown (mvT hZ (hw _ (List.mem_of_getElem? (i := 0) rfl))) rfl (hb hby at_19) ?_
    show Steps p.tables e below (s₁.setTop (mkF m 21 #[.val (.int p0), .val (.int p1), .val (.int p2), .val (.int (v0_1 p0 p1 p2)), .val (.int (v0_4 p0 p1 p2)), .unset, .unset, .unset, .unset, .unset, .unset] [(.int (2147483647 : Int32)), (.int p2)])) _
    refine XS.iand X0.here hx rfl (hb hby at_21) rfl ?_
    show Steps p.tables e below (s₁.setTop (mkF m 22 #[.val (.int p0), .val (.int p1), .val (.int p2), .val (.int (v0_1 p0 p1 p2)), .val (.int (v0_4 p0 p1 p2)), .unset, .unset, .unset, .unset, .unset, .unset] [(.int (p2 &&& (2147483647 : Int32)))])) _
    refine X0.ldcI hx hown (mvT hZ (hw _ (List.mem_of_getElem? (i := 1) rfl))) rfl (hb hby at_22) ?_
    show Steps p.tables e below (s₁.setTop (mkF m 24 #[.val (.int p0), .val (.int p1), .val (.int p2), .val (.int (v0_1 p0 p1 p2)), .val (.int (v0_4 p0 p1 p2)), .unset, .unset, .unset, .unset, .unset, .unset] [(.int (2147483640 : Int32)), (.int (p2 &&& (2147483647 : Int32)))])) _
    refine XS.irem X0.here hx rfl (hb hby at_24) rfl (by decide) ?_
    show Steps p.tables e below (s₁.setTop (mkF m 25 #[.val (.int p0), .val (.int p1), .val (.int p2), .val (.int (v0_1 p0 p1 p2)), .val (.int (v0_4 p0 p1 p2)), .unset, .unset, .unset, .unset, .unset, .unset] [(.int ((v0_5 p0 p1 p2) - ((v0_5 p0 p1 p2) / (2147483640 : Int32)) * (2147483640 : Int32)))])) _
    refine XS.istore X0.here hx rfl (hb hby at_25) rfl (l' := #[.val (.int p0), .val (.int p1), .val (.int p2), .val (.int (v0_1 p0 p1 p2)), .val (.int (v0_4 p0 p1 p2)), .val (.int (v0_6 p0 p1 p2)), .unset, .unset, .unset, .unset, .unset]) rfl ?_
    show Steps p.tables e below (s₁.setTop (mkF m 27 #[.val (.int p0), .val (.int p1), .val (.int p2), .val (.int (v0_1 p0 p1 p2)), .val (.int (v0_4 p0 p1 p2)), .val (.int (v0_6 p0 p1 p2)), .unset, .unset, .unset, .unset, .unset] [])) _
    refine XS.iload X0.here hx rfl (hb hby at_27) rfl ?_
    show Steps p.tables e below (s₁.setTop (mkF m 29 #[.val (.int p0), .val (.int p1), .val (.int p2), .val (.int (v0_1 p0 p1 p2)), .val (.int (v0_4 p0 p1 p2)), .val (.int (v0_6 p0 p1 p2)), .unset, .unset, .unset, .unset, .unset] [(.int (v0_4 p0 p1 p2))])) _
    refine XS.iload X0.here hx rfl (hb hby at_29) rfl ?_
    show Steps p.tables e below (s₁.setTop (mkF m 31 #[.val (.int p0), .val (.int p1), .val (.int p2), .val (.int (v0_1 p0 p1 p2)), .val (.int (v0_4 p0 p1 p2)), .val (.int (v0_6 p0 p1 p2)), .unset, .unset, .unset, .unset, .unset] [(.int (v0_6 p0 p1 p2)), (.int (v0_4 p0 p1 p2))])) _
    refine XS.iloadN X0.here hx rfl (hb hby at_31) rfl ?_
    show Steps p.tables e below (s₁.setTop (mkF m 32 #[.val (.int p0), .val (.int p1), .val (.int p2), .val (.int (v0_1 p0 p1 p2)), .val (.int (v0_4 p0 p1 p2)), .val (.int (v0_6 p0 p1 p2)), .unset, .unset, .unset, .unset, .unset] [(.int (v0_1 p0 p1 p2)), (.int (v0_6 p0 p1 p2)), (.int (v0_4 p0 p1 p2))])) _
    refine st1 _ ?_
    show Steps p.tables e below (T1.setTop (mkF m 35 #[.val (.int p0), .val (.int p1), .val (.int p2), .val (.int (v0_1 p0 p1 p2)), .val (.int (v0_4 p0 p1 p2)), .val (.int (v0_6 p0 p1 p2)), .unset, .unset, .unset, .unset, .unset] [(.int (f1 (v0_4 p0 p1 p2) (v0_6 p0 p1 p2) (v0_1 p0 p1 p2)))])) _
    refine XS.istore X1.here hx rfl (hb hby at_35) rfl (l' := #[.val (.int p0), .val (.int p1), .val (.int p2), .val (.int (v0_1 p0 p1 p2)), .val (.int (v0_4 p0 p1 p2)), .val (.int (v0_6 p0 p1 p2)), .val (.int (v0_7 p0 p1 p2)), .unset, .unset, .unset, .unset]) rfl ?_
    show Steps p.tables e below (T1.setTop (mkF m 37 #[.val (.int p0), .val (.int p1), .val (.int p2), .val (.int (v0_1 p0 p1 p2)), .val (.int (v0_4 p0 p1 p2)), .val (.int (v0_6 p0 p1 p2)), .val (.int (v0_7 p0 p1 p2)), .unset, .unset, .unset, .unset] [])) _
    refine XS.iload X1.here hx rfl (hb hby at_37) rfl ?_
    show Steps p.tables e below (T1.setTop (mkF m 39 #[.val (.int p0), .val (.int p1), .val (.int p2), .val (.int (v0_1 p0 p1 p2)), .val (.int (v0_4 p0 p1 p2)), .val (.int (v0_6 p0 p1 p2)), .val (.int (v0_7 p0 p1 p2)), .unset, .unset, .unset, .unset] [(.int (v0_4 p0 p1 p2))])) _
    refine XT.i2l X1.here hx rfl (hb hby at_39) rfl ?_
    show Steps p.tables e below (T1.setTop (mkF m 40 #[.val (.int p0), .val (.int p1), .val (.int p2), .val (.int (v0_1 p0 p1 p2)), .val (.int (v0_4 p0 p1 p2)), .val (.int (v0_6 p0 p1 p2)), .val (.int (v0_7 p0 p1 p2)), .unset, .unset, .unset, .unset] [(.long ((v0_4 p0 p1 p2).toInt64))])) _
    refine XS.iload X1.here hx rfl (hb hby at_40) rfl ?_
    show Steps p.tables e below (T1.setTop (mkF m 42 #[.val (.int p0), .val (.int p1), .val (.int p2), .val (.int (v0_1 p0 p1 p2)), .val (.int (v0_4 p0 p1 p2)), .val (.int (v0_6 p0 p1 p2)), .val (.int (v0_7 p0 p1 p2)), .unset, .unset, .unset, .unset] [(.int (v0_6 p0 p1 p2)), (.long ((v0_4 p0 p1 p2).toInt64))])) _
    refine XT.i2l X1.here hx rfl (hb hby at_42) rfl ?_
    show Steps p.tables e below (T1.setTop (mkF m 43 #[.val (.int p0), .val (.int p1), .val (.int p2), .val (.int (v0_1 p0 p1 p2)), .val (.int (v0_4 p0 p1 p2)), .val (.int (v0_6 p0 p1 p2)), .val (.int (v0_7 p0 p1 p2)), .unset, .unset, .unset, .unset] [(.long ((v0_6 p0 p1 p2).toInt64)), (.long ((v0_4 p0 p1 p2).toInt64))])) _
    refine XT.lmul X1.here hx rfl (hb hby at_43) rfl ?_
    show Steps p.tables e below (T1.setTop (mkF m 44 #[.val (.int p0), .val (.int p1), .val (.int p2), .val (.int (v0_1 p0 p1 p2)), .val (.int (v0_4 p0 p1 p2)), .val (.int (v0_6 p0 p1 p2)), .val (.int (v0_7 p0 p1 p2)), .unset, .unset, .unset, .unset] [(.long (((v0_4 p0 p1 p2).toInt64) * ((v0_6 p0 p1 p2).toInt64)))])) _
    refine XT.lstore X1.here hx rfl (hb hby at_44) rfl (l' := #[.val (.int p0), .val (.int p1), .val (.int p2), .val (.int (v0_1 p0 p1 p2)), .val (.int (v0_4 p0 p1 p2)), .val (.int (v0_6 p0 p1 p2)), .val (.int (v0_7 p0 p1 p2)), .val (.long (v0_8 p0 p1 p2)), .second, .unset, .unset]) rfl ?_
    show Steps p.tables e below (T1.setTop (mkF m 46 #[.val (.int p0), .val (.int p1), .val (.int p2), .val (.int (v0_1 p0 p1 p2)), .val (.int (v0_4 p0 p1 p2)), .val (.int (v0_6 p0 p1 p2)), .val (.int (v0_7 p0 p1 p2)), .val (.long (v0_8 p0 p1 p2)), .second, .unset, .unset] [])) _
    refine XS.iload X1.here hx rfl (hb hby at_46) rfl ?_
    show Steps p.tables e below (T1.setTop (mkF m 48 #[.val (.int p0), .val (.int p1), .val (.int p2), .val (.int (v0_1 p0 p1 p2)), .val (.int (v0_4 p0 p1 p2)), .val (.int (v0_6 p0 p1 p2)), .val (.int (v0_7 p0 p1 p2)), .val (.long (v0_8 p0 p1 p2)), .second, .unset, .unset] [(.int (v0_7 p0 p1 p2))])) _
    refine XT.i2l X1.here hx rfl (hb hby at_48) rfl ?_
    show Steps p.tables e below (T1.setTop (mkF m 49 #[.val (.int p0), .val (.int p1), .val (.int p2), .val (.int (v0_1 p0 p1 p2)), .val (.int (v0_4 p0 p1 p2)), .val (.int (v0_6 p0 p1 p2)), .val (.int (v0_7 p0 p1 p2)), .val (.long (v0_8 p0 p1 p2)), .second, .unset, .unset] [(.long ((v0_7 p0 p1 p2).toInt64))])) _
    refine XS.iloadN X1.here hx rfl (hb hby at_49) rfl ?_
    show Steps p.tables e below (T1.setTop (mkF m 50 #[.val (.int p0), .val (.int p1), .val (.int p2), .val (.int (v0_1 p0 p1 p2)), .val (.int (v0_4 p0 p1 p2)), .val (.int (v0_6 p0 p1 p2)), .val (.int (v0_7 p0 p1 p2)), .val (.long (v0_8 p0 p1 p2)), .second, .unset, .unset] [(.int (v0_1 p0 p1 p2)), (.long ((v0_7 p0 p1 p2).toInt64))])) _
    refine XT.i2l X1.here hx rfl (hb hby at_50) rfl ?_
    show Steps p.tables e below (T1.setTop (mkF m 51 #[.val (.int p0), .val (.int p1), .val (.int p2), .val (.int (v0_1 p0 p1 p2)), .val (.int (v0_4 p0 p1 p2)), .val (.int (v0_6 p0 p1 p2)), .val (.int (v0_7 p0 p1 p2)), .val (.long (v0_8 p0 p1 p2)), .second, .unset, .unset] [(.long ((v0_1 p0 p1 p2).toInt64)), (.long ((v0_7 p0 p1 p2).toInt64))])) _
    refine XT.lmul X1.here hx rfl (hb hby at_51) rfl ?_
    show Steps p.tables e below (T1.setTop (mkF m 52 #[.val (.int p0), .val (.int p1), .val (.int p2), .val (.int (v0_1 p0 p1 p2)), .val (.int (v0_4 p0 p1 p2)), .val (.int (v0_6 p0 p1 p2)), .val (.int (v0_7 p0 p1 p2)), .val (.long (v0_8 p0 p1 p2)), .second, .unset, .unset] [(.long (((v0_7 p0 p1 p2).toInt64) * ((v0_1 p0 p1 p2).toInt64)))])) _
    refine XT.lload X1.here hx rfl (hb hby at_52) rfl ?_
    show Steps p.tables e below (T1.setTop (mkF m 54 #[.val (.int p0), .val (.int p1), .val (.int p2), .val (.int (v0_1 p0 p1 p2)), .val (.int (v0_4 p0 p1 p2)), .val (.int (v0_6 p0 p1 p2)), .val (.int (v0_7 p0 p1 p2)), .val (.long (v0_8 p0 p1 p2)), .second, .unset, .unset] [(.long (v0_8 p0 p1 p2)), (.long (((v0_7 p0 p1 p2).toInt64) * ((v0_1 p0 p1 p2).toInt64)))])) _
    refine XT.lcmp X1.here hx rfl (hb hby at_54) rfl ?_
    exact k
  have pre4 : ∀ t, Steps p.tables e below (T1.setTop (mkF m 63 #[.val (.int p0), .val (.int p1), .val (.int p2), .val (.int (v0_1 p0 p1 p2)), .val (.int (v0_4 p0 p1 p2)), .val (.int (v0_6 p0 p1 p2)), .val (.int (v0_7 p0 p1 p2)), .val (.long (v0_8 p0 p1 p2)), .second, .unset, .unset] [(.int (v0_10 p0 p1 p2))])) t → Steps p.tables e below (s₁.setTop (entryFrame m #[(.int p0), (.int p1), (.int p2)] maxLocals)) t := by
    intro t k
    by_cases c3 : (v0_9 p0 p1 p2) < (v0_8 p0 p1 p2)
    · skip
      rw [show (v0_10 p0 p1 p2) = (0 : Int32) from (if_pos c3)] at k
      refine pre2 t ?_
      show Steps p.tables e below (T1.setTop (mkF m 55 #[.val (.int p0), .val (.int p1), .val (.int p2), .val (.int (v0_1 p0 p1 p2)), .val (.int (v0_4 p0 p1 p2)), .val (.int (v0_6 p0 p1 p2)), .val (.int (v0_7 p0 p1 p2)), .val (.long (v0_8 p0 p1 p2)), .second, .unset, .unset] [(.int (XT.cmpL (v0_9 p0 p1 p2) (v0_8 p0 p1 p2)))])) _
      refine XS.ifYes X1.here hx rfl (pc0 := 55) (pc' := 62) rfl (hb hby at_55) rfl (XT.ll_lt_t c3) (by decide) (by decide) ?_
      show Steps p.tables e below (T1.setTop (mkF m 62 #[.val (.int p0), .val (.int p1), .val (.int p2), .val (.int (v0_1 p0 p1 p2)), .val (.int (v0_4 p0 p1 p2)), .val (.int (v0_6 p0 p1 p2)), .val (.int (v0_7 p0 p1 p2)), .val (.long (v0_8 p0 p1 p2)), .second, .unset, .unset] [])) _
      refine XT.iconstV X1.here hx rfl (0 : Int32) (hb hby at_62) (by decide) ?_
      exact k
    · skip
      rw [show (v0_10 p0 p1 p2) = (1 : Int32) from (if_neg c3)] at k
      refine pre2 t ?_
      show Steps p.tables e below (T1.setTop (mkF m 55 #[.val (.int p0), .val (.int p1), .val (.int p2), .val (.int (v0_1 p0 p1 p2)), .val (.int (v0_4 p0 p1 p2)), .val (.int (v0_6 p0 p1 p2)), .val (.int (v0_7 p0 p1 p2)), .val (.long (v0_8 p0 p1 p2)), .second, .unset, .unset] [(.int (XT.cmpL (v0_9 p0 p1 p2) (v0_8 p0 p1 p2)))])) _
      refine XS.ifNo X1.here hx rfl (hb hby at_55) rfl (XT.ll_lt_f c3) ?_
      show Steps p.tables e below (T1.setTop (mkF m 58 #[.val (.int p0), .val (.int p1), .val (.int p2), .val (.int (v0_1 p0 p1 p2)), .val (.int (v0_4 p0 p1 p2)), .val (.int (v0_6 p0 p1 p2)), .val (.int (v0_7 p0 p1 p2)), .val (.long (v0_8 p0 p1 p2)), .second, .unset, .unset] [])) _
      refine XT.iconstV X1.here hx rfl (1 : Int32) (hb hby at_58) (by decide) ?_
      show Steps p.tables e below (T1.setTop (mkF m 59 #[.val (.int p0), .val (.int p1), .val (.int p2), .val (.int (v0_1 p0 p1 p2)), .val (.int (v0_4 p0 p1 p2)), .val (.int (v0_6 p0 p1 p2)), .val (.int (v0_7 p0 p1 p2)), .val (.long (v0_8 p0 p1 p2)), .second, .unset, .unset] [(.int (1 : Int32))])) _
      refine XS.goto X1.here hx rfl (pc0 := 59) (pc' := 63) rfl (hb hby at_59) (by decide) (by decide) ?_
      exact k
  have pre5 : ∀ t, Steps p.tables e below (T1.setTop (mkF m 76 #[.val (.int p0), .val (.int p1), .val (.int p2), .val (.int (v0_1 p0 p1 p2)), .val (.int (v0_4 p0 p1 p2)), .val (.int (v0_6 p0 p1 p2)), .val (.int (v0_7 p0 p1 p2)), .val (.long (v0_8 p0 p1 p2)), .second, .val (.int (v0_10 p0 p1 p2)), .unset] [(.int (XT.cmpL (v0_11 p0 p1 p2) (v0_8 p0 p1 p2)))])) t → Steps p.tables e below (s₁.setTop (entryFrame m #[(.int p0), (.int p1), (.int p2)] maxLocals)) t := by
    intro t k
    refine pre4 t ?_
    show Steps p.tables e below (T1.setTop (mkF m 63 #[.val (.int p0), .val (.int p1), .val (.int p2), .val (.int (v0_1 p0 p1 p2)), .val (.int (v0_4 p0 p1 p2)), .val (.int (v0_6 p0 p1 p2)), .val (.int (v0_7 p0 p1 p2)), .val (.long (v0_8 p0 p1 p2)), .second, .unset, .unset] [(.int (v0_10 p0 p1 p2))])) _
    refine XS.istore X1.here hx rfl (hb hby at_63) rfl (l' := #[.val (.int p0), .val (.int p1), .val (.int p2), .val (.int (v0_1 p0 p1 p2)), .val (.int (v0_4 p0 p1 p2)), .val (.int (v0_6 p0 p1 p2)), .val (.int (v0_7 p0 p1 p2)), .val (.long (v0_8 p0 p1 p2)), .second, .val (.int (v0_10 p0 p1 p2)), .unset]) rfl ?_
    show Steps p.tables e below (T1.setTop (mkF m 65 #[.val (.int p0), .val (.int p1), .val (.int p2), .val (.int (v0_1 p0 p1 p2)), .val (.int (v0_4 p0 p1 p2)), .val (.int (v0_6 p0 p1 p2)), .val (.int (v0_7 p0 p1 p2)), .val (.long (v0_8 p0 p1 p2)), .second, .val (.int (v0_10 p0 p1 p2)), .unset] [])) _
    refine XS.iload X1.here hx rfl (hb hby at_65) rfl ?_
    show Steps p.tables e below (T1.setTop (mkF m 67 #[.val (.int p0), .val (.int p1), .val (.int p2), .val (.int (v0_1 p0 p1 p2)), .val (.int (v0_4 p0 p1 p2)), .val (.int (v0_6 p0 p1 p2)), .val (.int (v0_7 p0 p1 p2)), .val (.long (v0_8 p0 p1 p2)), .second, .val (.int (v0_10 p0 p1 p2)), .unset] [(.int (v0_7 p0 p1 p2))])) _
    refine XT.i2l X1.here hx rfl (hb hby at_67) rfl ?_
    show Steps p.tables e below (T1.setTop (mkF m 68 #[.val (.int p0), .val (.int p1), .val (.int p2), .val (.int (v0_1 p0 p1 p2)), .val (.int (v0_4 p0 p1 p2)), .val (.int (v0_6 p0 p1 p2)), .val (.int (v0_7 p0 p1 p2)), .val (.long (v0_8 p0 p1 p2)), .second, .val (.int (v0_10 p0 p1 p2)), .unset] [(.long ((v0_7 p0 p1 p2).toInt64))])) _
    refine XT.lconstV X1.here hx rfl (1 : Int64) (hb hby at_68) (by decide) ?_
    show Steps p.tables e below (T1.setTop (mkF m 69 #[.val (.int p0), .val (.int p1), .val (.int p2), .val (.int (v0_1 p0 p1 p2)), .val (.int (v0_4 p0 p1 p2)), .val (.int (v0_6 p0 p1 p2)), .val (.int (v0_7 p0 p1 p2)), .val (.long (v0_8 p0 p1 p2)), .second, .val (.int (v0_10 p0 p1 p2)), .unset] [(.long (1 : Int64)), (.long ((v0_7 p0 p1 p2).toInt64))])) _
    refine XT.lsub X1.here hx rfl (hb hby at_69) rfl ?_
    show Steps p.tables e below (T1.setTop (mkF m 70 #[.val (.int p0), .val (.int p1), .val (.int p2), .val (.int (v0_1 p0 p1 p2)), .val (.int (v0_4 p0 p1 p2)), .val (.int (v0_6 p0 p1 p2)), .val (.int (v0_7 p0 p1 p2)), .val (.long (v0_8 p0 p1 p2)), .second, .val (.int (v0_10 p0 p1 p2)), .unset] [(.long (((v0_7 p0 p1 p2).toInt64) - (1 : Int64)))])) _
    refine XS.iloadN X1.here hx rfl (hb hby at_70) rfl ?_
    show Steps p.tables e below (T1.setTop (mkF m 71 #[.val (.int p0), .val (.int p1), .val (.int p2), .val (.int (v0_1 p0 p1 p2)), .val (.int (v0_4 p0 p1 p2)), .val (.int (v0_6 p0 p1 p2)), .val (.int (v0_7 p0 p1 p2)), .val (.long (v0_8 p0 p1 p2)), .second, .val (.int (v0_10 p0 p1 p2)), .unset] [(.int (v0_1 p0 p1 p2)), (.long (((v0_7 p0 p1 p2).toInt64) - (1 : Int64)))])) _
    refine XT.i2l X1.here hx rfl (hb hby at_71) rfl ?_
    show Steps p.tables e below (T1.setTop (mkF m 72 #[.val (.int p0), .val (.int p1), .val (.int p2), .val (.int (v0_1 p0 p1 p2)), .val (.int (v0_4 p0 p1 p2)), .val (.int (v0_6 p0 p1 p2)), .val (.int (v0_7 p0 p1 p2)), .val (.long (v0_8 p0 p1 p2)), .second, .val (.int (v0_10 p0 p1 p2)), .unset] [(.long ((v0_1 p0 p1 p2).toInt64)), (.long (((v0_7 p0 p1 p2).toInt64) - (1 : Int64)))])) _
    refine XT.lmul X1.here hx rfl (hb hby at_72) rfl ?_
    show Steps p.tables e below (T1.setTop (mkF m 73 #[.val (.int p0), .val (.int p1), .val (.int p2), .val (.int (v0_1 p0 p1 p2)), .val (.int (v0_4 p0 p1 p2)), .val (.int (v0_6 p0 p1 p2)), .val (.int (v0_7 p0 p1 p2)), .val (.long (v0_8 p0 p1 p2)), .second, .val (.int (v0_10 p0 p1 p2)), .unset] [(.long ((((v0_7 p0 p1 p2).toInt64) - (1 : Int64)) * ((v0_1 p0 p1 p2).toInt64)))])) _
    refine XT.lload X1.here hx rfl (hb hby at_73) rfl ?_
    show Steps p.tables e below (T1.setTop (mkF m 75 #[.val (.int p0), .val (.int p1), .val (.int p2), .val (.int (v0_1 p0 p1 p2)), .val (.int (v0_4 p0 p1 p2)), .val (.int (v0_6 p0 p1 p2)), .val (.int (v0_7 p0 p1 p2)), .val (.long (v0_8 p0 p1 p2)), .second, .val (.int (v0_10 p0 p1 p2)), .unset] [(.long (v0_8 p0 p1 p2)), (.long ((((v0_7 p0 p1 p2).toInt64) - (1 : Int64)) * ((v0_1 p0 p1 p2).toInt64)))])) _
    refine XT.lcmp X1.here hx rfl (hb hby at_75) rfl ?_
    exact k
  have pre7 : ∀ t, Steps p.tables e below (T1.setTop (mkF m 84 #[.val (.int p0), .val (.int p1), .val (.int p2), .val (.int (v0_1 p0 p1 p2)), .val (.int (v0_4 p0 p1 p2)), .val (.int (v0_6 p0 p1 p2)), .val (.int (v0_7 p0 p1 p2)), .val (.long (v0_8 p0 p1 p2)), .second, .val (.int (v0_10 p0 p1 p2)), .unset] [(.int (v0_12 p0 p1 p2))])) t → Steps p.tables e below (s₁.setTop (entryFrame m #[(.int p0), (.int p1), (.int p2)] maxLocals)) t := by
    intro t k
    by_cases c6 : (v0_11 p0 p1 p2) < (v0_8 p0 p1 p2)
    · skip
      rw [show (v0_12 p0 p1 p2) = (1 : Int32) from (if_pos c6)] at k
      refine pre5 t ?_
      show Steps p.tables e below (T1.setTop (mkF m 76 #[.val (.int p0), .val (.int p1), .val (.int p2), .val (.int (v0_1 p0 p1 p2)), .val (.int (v0_4 p0 p1 p2)), .val (.int (v0_6 p0 p1 p2)), .val (.int (v0_7 p0 p1 p2)), .val (.long (v0_8 p0 p1 p2)), .second, .val (.int (v0_10 p0 p1 p2)), .unset] [(.int (XT.cmpL (v0_11 p0 p1 p2) (v0_8 p0 p1 p2)))])) _
      refine XS.ifNo X1.here hx rfl (hb hby at_76) rfl (XT.ll_ge_f c6) ?_
      show Steps p.tables e below (T1.setTop (mkF m 79 #[.val (.int p0), .val (.int p1), .val (.int p2), .val (.int (v0_1 p0 p1 p2)), .val (.int (v0_4 p0 p1 p2)), .val (.int (v0_6 p0 p1 p2)), .val (.int (v0_7 p0 p1 p2)), .val (.long (v0_8 p0 p1 p2)), .second, .val (.int (v0_10 p0 p1 p2)), .unset] [])) _
      refine XT.iconstV X1.here hx rfl (1 : Int32) (hb hby at_79) (by decide) ?_
      show Steps p.tables e below (T1.setTop (mkF m 80 #[.val (.int p0), .val (.int p1), .val (.int p2), .val (.int (v0_1 p0 p1 p2)), .val (.int (v0_4 p0 p1 p2)), .val (.int (v0_6 p0 p1 p2)), .val (.int (v0_7 p0 p1 p2)), .val (.long (v0_8 p0 p1 p2)), .second, .val (.int (v0_10 p0 p1 p2)), .unset] [(.int (1 : Int32))])) _
      refine XS.goto X1.here hx rfl (pc0 := 80) (pc' := 84) rfl (hb hby at_80) (by decide) (by decide) ?_
      exact k
    · skip
      rw [show (v0_12 p0 p1 p2) = (0 : Int32) from (if_neg c6)] at k
      refine pre5 t ?_
      show Steps p.tables e below (T1.setTop (mkF m 76 #[.val (.int p0), .val (.int p1), .val (.int p2), .val (.int (v0_1 p0 p1 p2)), .val (.int (v0_4 p0 p1 p2)), .val (.int (v0_6 p0 p1 p2)), .val (.int (v0_7 p0 p1 p2)), .val (.long (v0_8 p0 p1 p2)), .second, .val (.int (v0_10 p0 p1 p2)), .unset] [(.int (XT.cmpL (v0_11 p0 p1 p2) (v0_8 p0 p1 p2)))])) _
      refine XS.ifYes X1.here hx rfl (pc0 := 76) (pc' := 83) rfl (hb hby at_76) rfl (XT.ll_ge_t c6) (by decide) (by decide) ?_
      show Steps p.tables e below (T1.setTop (mkF m 83 #[.val (.int p0), .val (.int p1), .val (.int p2), .val (.int (v0_1 p0 p1 p2)), .val (.int (v0_4 p0 p1 p2)), .val (.int (v0_6 p0 p1 p2)), .val (.int (v0_7 p0 p1 p2)), .val (.long (v0_8 p0 p1 p2)), .second, .val (.int (v0_10 p0 p1 p2)), .unset] [])) _
      refine XT.iconstV X1.here hx rfl (0 : Int32) (hb hby at_83) (by decide) ?_
      exact k
  have pre8 : ∀ t, Steps p.tables e below (T1.setTop (mkF m 88 #[.val (.int p0), .val (.int p1), .val (.int p2), .val (.int (v0_1 p0 p1 p2)), .val (.int (v0_4 p0 p1 p2)), .val (.int (v0_6 p0 p1 p2)), .val (.int (v0_7 p0 p1 p2)), .val (.long (v0_8 p0 p1 p2)), .second, .val (.int (v0_10 p0 p1 p2)), .val (.int (v0_12 p0 p1 p2))] [(.int (v0_10 p0 p1 p2))])) t → Steps p.tables e below (s₁.setTop (entryFrame m #[(.int p0), (.int p1), (.int p2)] maxLocals)) t := by
    intro t k
    refine pre7 t ?_
    show Steps p.tables e below (T1.setTop (mkF m 84 #[.val (.int p0), .val (.int p1), .val (.int p2), .val (.int (v0_1 p0 p1 p2)), .val (.int (v0_4 p0 p1 p2)), .val (.int (v0_6 p0 p1 p2)), .val (.int (v0_7 p0 p1 p2)), .val (.long (v0_8 p0 p1 p2)), .second, .val (.int (v0_10 p0 p1 p2)), .unset] [(.int (v0_12 p0 p1 p2))])) _
    refine XS.istore X1.here hx rfl (hb hby at_84) rfl (l' := #[.val (.int p0), .val (.int p1), .val (.int p2), .val (.int (v0_1 p0 p1 p2)), .val (.int (v0_4 p0 p1 p2)), .val (.int (v0_6 p0 p1 p2)), .val (.int (v0_7 p0 p1 p2)), .val (.long (v0_8 p0 p1 p2)), .second, .val (.int (v0_10 p0 p1 p2)), .val (.int (v0_12 p0 p1 p2))]) rfl ?_
    show Steps p.tables e below (T1.setTop (mkF m 86 #[.val (.int p0), .val (.int p1), .val (.int p2), .val (.int (v0_1 p0 p1 p2)), .val (.int (v0_4 p0 p1 p2)), .val (.int (v0_6 p0 p1 p2)), .val (.int (v0_7 p0 p1 p2)), .val (.long (v0_8 p0 p1 p2)), .second, .val (.int (v0_10 p0 p1 p2)), .val (.int (v0_12 p0 p1 p2))] [])) _
    refine XS.iload X1.here hx rfl (hb hby at_86) rfl ?_
    exact k
  have pre12 : ∀ t, Steps p.tables e below (T1.setTop (mkF m 101 #[.val (.int p0), .val (.int p1), .val (.int p2), .val (.int (v0_1 p0 p1 p2)), .val (.int (v0_4 p0 p1 p2)), .val (.int (v0_6 p0 p1 p2)), .val (.int (v0_7 p0 p1 p2)), .val (.long (v0_8 p0 p1 p2)), .second, .val (.int (v0_10 p0 p1 p2)), .val (.int (v0_12 p0 p1 p2))] [(.int (v0_13 p0 p1 p2))])) t → Steps p.tables e below (s₁.setTop (entryFrame m #[(.int p0), (.int p1), (.int p2)] maxLocals)) t := by
    intro t k
    by_cases c9 : (v0_10 p0 p1 p2) = (0 : Int32)
    · skip
      rw [show (v0_13 p0 p1 p2) = (0 : Int32) from (if_pos c9)] at k
      refine pre8 t ?_
      show Steps p.tables e below (T1.setTop (mkF m 88 #[.val (.int p0), .val (.int p1), .val (.int p2), .val (.int (v0_1 p0 p1 p2)), .val (.int (v0_4 p0 p1 p2)), .val (.int (v0_6 p0 p1 p2)), .val (.int (v0_7 p0 p1 p2)), .val (.long (v0_8 p0 p1 p2)), .second, .val (.int (v0_10 p0 p1 p2)), .val (.int (v0_12 p0 p1 p2))] [(.int (v0_10 p0 p1 p2))])) _
      refine XS.ifYes X1.here hx rfl (pc0 := 88) (pc' := 100) rfl (hb hby at_88) rfl (XT.i0_eq_t c9) (by decide) (by decide) ?_
      show Steps p.tables e below (T1.setTop (mkF m 100 #[.val (.int p0), .val (.int p1), .val (.int p2), .val (.int (v0_1 p0 p1 p2)), .val (.int (v0_4 p0 p1 p2)), .val (.int (v0_6 p0 p1 p2)), .val (.int (v0_7 p0 p1 p2)), .val (.long (v0_8 p0 p1 p2)), .second, .val (.int (v0_10 p0 p1 p2)), .val (.int (v0_12 p0 p1 p2))] [])) _
      refine XT.iconstV X1.here hx rfl (0 : Int32) (hb hby at_100) (by decide) ?_
      exact k
    · skip
      have pre10 : ∀ t, Steps p.tables e below (T1.setTop (mkF m 93 #[.val (.int p0), .val (.int p1), .val (.int p2), .val (.int (v0_1 p0 p1 p2)), .val (.int (v0_4 p0 p1 p2)), .val (.int (v0_6 p0 p1 p2)), .val (.int (v0_7 p0 p1 p2)), .val (.long (v0_8 p0 p1 p2)), .second, .val (.int (v0_10 p0 p1 p2)), .val (.int (v0_12 p0 p1 p2))] [(.int (v0_12 p0 p1 p2))])) t → Steps p.tables e below (s₁.setTop (entryFrame m #[(.int p0), (.int p1), (.int p2)] maxLocals)) t := by
        intro t k
        refine pre8 t ?_
        show Steps p.tables e below (T1.setTop (mkF m 88 #[.val (.int p0), .val (.int p1), .val (.int p2), .val (.int (v0_1 p0 p1 p2)), .val (.int (v0_4 p0 p1 p2)), .val (.int (v0_6 p0 p1 p2)), .val (.int (v0_7 p0 p1 p2)), .val (.long (v0_8 p0 p1 p2)), .second, .val (.int (v0_10 p0 p1 p2)), .val (.int (v0_12 p0 p1 p2))] [(.int (v0_10 p0 p1 p2))])) _
        refine XS.ifNo X1.here hx rfl (hb hby at_88) rfl (XT.i0_eq_f c9) ?_
        show Steps p.tables e below (T1.setTop (mkF m 91 #[.val (.int p0), .val (.int p1), .val (.int p2), .val (.int (v0_1 p0 p1 p2)), .val (.int (v0_4 p0 p1 p2)), .val (.int (v0_6 p0 p1 p2)), .val (.int (v0_7 p0 p1 p2)), .val (.long (v0_8 p0 p1 p2)), .second, .val (.int (v0_10 p0 p1 p2)), .val (.int (v0_12 p0 p1 p2))] [])) _
        refine XS.iload X1.here hx rfl (hb hby at_91) rfl ?_
        exact k
      by_cases c11 : (v0_12 p0 p1 p2) = (0 : Int32)
      · skip
        rw [show (v0_13 p0 p1 p2) = (0 : Int32) from ((if_neg c9).trans (if_pos c11))] at k
        refine pre10 t ?_
        show Steps p.tables e below (T1.setTop (mkF m 93 #[.val (.int p0), .val (.int p1), .val (.int p2), .val (.int (v0_1 p0 p1 p2)), .val (.int (v0_4 p0 p1 p2)), .val (.int (v0_6 p0 p1 p2)), .val (.int (v0_7 p0 p1 p2)), .val (.long (v0_8 p0 p1 p2)), .second, .val (.int (v0_10 p0 p1 p2)), .val (.int (v0_12 p0 p1 p2))] [(.int (v0_12 p0 p1 p2))])) _
        refine XS.ifYes X1.here hx rfl (pc0 := 93) (pc' := 100) rfl (hb hby at_93) rfl (XT.i0_eq_t c11) (by decide) (by decide) ?_
        show Steps p.tables e below (T1.setTop (mkF m 100 #[.val (.int p0), .val (.int p1), .val (.int p2), .val (.int (v0_1 p0 p1 p2)), .val (.int (v0_4 p0 p1 p2)), .val (.int (v0_6 p0 p1 p2)), .val (.int (v0_7 p0 p1 p2)), .val (.long (v0_8 p0 p1 p2)), .second, .val (.int (v0_10 p0 p1 p2)), .val (.int (v0_12 p0 p1 p2))] [])) _
        refine XT.iconstV X1.here hx rfl (0 : Int32) (hb hby at_100) (by decide) ?_
        exact k
      · skip
        rw [show (v0_13 p0 p1 p2) = (1 : Int32) from ((if_neg c9).trans (if_neg c11))] at k
        refine pre10 t ?_
        show Steps p.tables e below (T1.setTop (mkF m 93 #[.val (.int p0), .val (.int p1), .val (.int p2), .val (.int (v0_1 p0 p1 p2)), .val (.int (v0_4 p0 p1 p2)), .val (.int (v0_6 p0 p1 p2)), .val (.int (v0_7 p0 p1 p2)), .val (.long (v0_8 p0 p1 p2)), .second, .val (.int (v0_10 p0 p1 p2)), .val (.int (v0_12 p0 p1 p2))] [(.int (v0_12 p0 p1 p2))])) _
        refine XS.ifNo X1.here hx rfl (hb hby at_93) rfl (XT.i0_eq_f c11) ?_
        show Steps p.tables e below (T1.setTop (mkF m 96 #[.val (.int p0), .val (.int p1), .val (.int p2), .val (.int (v0_1 p0 p1 p2)), .val (.int (v0_4 p0 p1 p2)), .val (.int (v0_6 p0 p1 p2)), .val (.int (v0_7 p0 p1 p2)), .val (.long (v0_8 p0 p1 p2)), .second, .val (.int (v0_10 p0 p1 p2)), .val (.int (v0_12 p0 p1 p2))] [])) _
        refine XT.iconstV X1.here hx rfl (1 : Int32) (hb hby at_96) (by decide) ?_
        show Steps p.tables e below (T1.setTop (mkF m 97 #[.val (.int p0), .val (.int p1), .val (.int p2), .val (.int (v0_1 p0 p1 p2)), .val (.int (v0_4 p0 p1 p2)), .val (.int (v0_6 p0 p1 p2)), .val (.int (v0_7 p0 p1 p2)), .val (.long (v0_8 p0 p1 p2)), .second, .val (.int (v0_10 p0 p1 p2)), .val (.int (v0_12 p0 p1 p2))] [(.int (1 : Int32))])) _
        refine XS.goto X1.here hx rfl (pc0 := 97) (pc' := 101) rfl (hb hby at_97) (by decide) (by decide) ?_
        exact k
  have hv13 : (v0_13 p0 p1 p2) = (1 : Int32) := own_law p0 p1 p2
  obtain ⟨fs, hr, hrun, hended, hW, hsame⟩ := X1.leave (v := some (.int (1 : Int32))) (fun h => by rw [Bd.returns] at h; cases h)
  refine ⟨_, _, pre12 _ ?_, hrun, hended, _, _, rfl, ?_, ⟨_, rfl⟩, hW, hsame.mono (by decide) (by decide)⟩
  · skip
    show Steps p.tables e below (T1.setTop (mkF m 101 #[.val (.int p0), .val (.int p1), .val (.int p2), .val (.int (v0_1 p0 p1 p2)), .val (.int (v0_4 p0 p1 p2)), .val (.int (v0_6 p0 p1 p2)), .val (.int (v0_7 p0 p1 p2)), .val (.long (v0_8 p0 p1 p2)), .second, .val (.int (v0_10 p0 p1 p2)), .val (.int (v0_12 p0 p1 p2))] [(.int (v0_13 p0 p1 p2))])) _
    rw [hv13]
    exact retN X1 hx (t := .boolean) Bd.returns (by simp) (hb hby at_101) hr
  · skip
    show Q0 Z p0 p1 p2 h0 n0 _ T1.heap _
    rw [e1]
    exact ⟨rfl, N1⟩
set_option maxRecDepth 65536 in
set_option maxHeartbeats 40000000 in
theorem comes_1 {Post : Tables → Env → Array Value → State → Outcome → State → Prop} (hpost : ∀ tb e args s v u, (limb_1_1.after args s (.returned v) u = true ∧ limb_1_2.after args s (.returned v) u = true ∧ True) → FrameEnd s (.returned v) u (Jvm.fieldLocs frame_1_writes args s ++ Jvm.arrayLocs frame_1_arrays args s ++ Jvm.staticLocs frame_1_statics s) 0 0 → Post tb e args s (.returned v) u) :
    ArmFor flags0 classFile x code maxLocals ret World_1 tables_1 room_1 Calls_1 rest_1 Pre_1 Post := by
  intro l hfl _ _ p e ha hc hk s m args below hf hA hF happ hP
  obtain ⟨hcalls, hrest, hpre⟩ := hP
  obtain ⟨-, -, -, hnamed, -, -, -, hat⟩ := (Spec.applies_iff hf).mp happ
  obtain ⟨hg, hn⟩ := and_e (Cond.before_iff.mp (show (Jvm.Cond.and given_1 narrow_1).before args s = true from hpre))
  obtain ⟨hcount, r0⟩ := and_e hg
  obtain ⟨ha0, r1⟩ := and_e r0
  obtain ⟨ha1, r2⟩ := and_e r1
  obtain ⟨w0, w1, w2, rfl⟩ : ∃ w0 w1 w2 : Value, args = #[w0, w1, w2] := by
    have hs : args.size = 3 := by simpa [Cond.value, given_1] using hcount
    obtain ⟨L⟩ := args
    match L, hs with
    | [w0, w1, w2], _ => exact ⟨w0, w1, w2, rfl⟩
  have hw := fun d (hd : d ∈ tables_1) => atoms_spec (ws := Jvm.Cond.code x code maxLocals ret :: tables_1) hat d (List.mem_cons_of_mem _ hd)
  have hfit : Fit s := fun {y c} hc i hi => by
    obtain ⟨ha, rfl⟩ := Array.getElem?_eq_some_iff.mp hc
    have q := List.all_eq_true.mp ((Array.all_eq_true_iff_forall_mem.mp hF) _ (Array.getElem_mem ha)) i (List.mem_range.mpr hi)
    simpa [Array.getElem?_eq_getElem hi] using q
  obtain ⟨i0, ei0⟩ := is_v ha0
  obtain rfl : w0 = (.int i0) := Option.some.inj ei0
  obtain ⟨i1, ei1⟩ := is_v ha1
  obtain rfl : w1 = (.int i1) := Option.some.inj ei1
  obtain ⟨i2, ei2⟩ := is_v r2
  obtain rfl : w2 = (.int i2) := Option.some.inj ei2
  obtain ⟨n, o, h1, h2, h3, _, L, rfl, ⟨rfl, N⟩, hq⟩ := rm0 l s _ hw tables_1 i0 i1 i2 s.heap s.heap.size (Nat.le_refl _) p e ha hc hk s m _ below hf ((Spec.applies_iff_loose hf).mp happ).1 ⟨rfl, State.Warmed39.refl s, rfl⟩ trivial
  refine ⟨n, _, h1, h2, h3, hpost _ _ _ _ _ _ ⟨Cond.after_iff.mpr rfl, Cond.after_iff.mpr (eq_i res_at (Term.int_eval (1)) rfl), trivial⟩ ⟨hq.1, hq.2.1, (hq.2.2.sift fun y hy => Or.inr (N y hy)).mono (by decide) (by decide)⟩⟩
theorem main_1_1 : Claimed_1_1 := comes_1 fun _ _ _ _ _ _ h hF => ⟨h.1, hF⟩
theorem main_1_2 : Claimed_1_2 := comes_1 fun _ _ _ _ _ _ h hF => ⟨h.2.1, hF⟩
end Jvm.Pilot.@@N@@
namespace Jvm.Pilot.@@N@@
open Jvm Jvm.ClassFile Sem Op Lib Jvm.Free Jvm.Stand Jvm.Pilot.@@N@@.Jvm.D
/-! MADE BY PROGRAM (witnessworld.py) out of the Statement's table words and the real class files: 9 classes; the members and pool entries that the words name. The judged class is class 1, her method 1. -/
namespace start1
open Jvm.ClassFile
def u (s : String) : CpInfo := .utf8 (stringToUtf16 s)
/-- a pool by its gaps: so many unusable entries, then the entry; so many at the end -/
def gap : Nat → List CpInfo → List CpInfo
  | 0, r => r
  | n + 1, r => .unusable :: gap n r
def poolList (es : List (Nat × CpInfo)) (last : Nat) : List CpInfo := es.foldr (fun e r => gap e.1 (e.2 :: r)) (gap last [])
def pool (es : List (Nat × CpInfo)) (last : Nat) : Array CpInfo := ⟨poolList es last⟩
def fileOf (pool : Array CpInfo) (this : Nat) (attrs : Array Attribute := #[]) (ms : Array MethodInfo := #[]) (fl : Nat := 33) (sup : Nat := 0) (ifs : Array Nat := #[]) (fds : Array FieldInfo := #[]) : ClassFile where
  minorVersion := 0
  majorVersion := 65
  constantPool := pool
  accessFlags := fl
  thisClass := this
  superClass := sup
  interfaces := ifs
  fields := fds
  methods := ms
  attributes := attrs
def plain (name : String) (sup : Option ClassId) : Class where
  name := name
  kind := .ordinary
  loader := none
  accessFlags := 33
  super := sup
  interfaces := #[]
  cf := none
  fields := #[]
  methods := #[]
  instanceTypes := #[]
  staticTypes := #[]
  resolved := #[]
  callSites := []
  init := .initialized
  statics := none
  mirror := none

def pool0 : Array CpInfo := pool [(5, u "<init>"), (0, u "()V"), (1, .class_ 10), (1, u "java/lang/Object")] 113

def k0m0 : Method := { name := "<init>", desc := "()V", sig := { parameters := [], returnType := none }, accessFlags := 1, code := none }
/-- java/lang/Object -/
def k0 : Class := { plain "java/lang/Object" none with
  accessFlags := 33
  interfaces := #[]
  cf := some (fileOf pool0 8 #[] #[{ accessFlags := 1, nameIndex := 5, descriptorIndex := 6, attributes := #[] }] 33 0 #[] #[])
  fields := #[]
  methods := #[k0m0]
  instanceTypes := #[]
  staticTypes := #[]
  resolved := Array.replicate 124 none
  statics := none }

def pool1 : Array CpInfo := pool [(2, .class_ 4), (1, u "java/lang/Object"), (0, u "<init>"), (0, u "()V"), (0, .integer 2147483647), (0, .class_ 9), (0, u "com/example/gryphon/gryphon/store/BlockStore"), (0, .integer 2147483640), (0, .methodref 8 12), (0, .nameAndType 13 14), (0, u "firstVertex"), (0, u "(III)I"), (0, .class_ 16), (0, u "com/example/gryphon/gryphon/store/BlockStoreFirstVertexPinLaw"), (2, u "law"), (0, u "(III)Z")] 3

def k1m0 : Method := { name := "<init>", desc := "()V", sig := { parameters := [], returnType := none }, accessFlags := 2, code := none }
def k1c1 : Code := { maxStack := 4, maxLocals := 11, code := code, exceptionTable := #[], attributes := #[] }
def k1m1 : Method := { name := "law", desc := "(III)Z", sig := { parameters := [.int, .int, .int], returnType := some .boolean }, accessFlags := 9, code := some k1c1 }
/-- com/example/gryphon/gryphon/store/BlockStoreFirstVertexPinLaw -/
def k1 : Class := { plain "com/example/gryphon/gryphon/store/BlockStoreFirstVertexPinLaw" (some 0) with
  accessFlags := 49
  interfaces := #[]
  cf := some (fileOf pool1 15 #[] #[{ accessFlags := 2, nameIndex := 5, descriptorIndex := 6, attributes := #[] }, { accessFlags := 9, nameIndex := 19, descriptorIndex := 20, attributes := #[] }] 49 2 #[] #[])
  fields := #[]
  methods := #[k1m0, k1m1]
  instanceTypes := #[]
  staticTypes := #[]
  resolved := Array.replicate 24 none
  statics := none }

def pool2 : Array CpInfo := pool [(3, .class_ 4), (0, u "com/example/gryphon/gryphon/store/BlockStore"), (3, .class_ 10), (1, u "java/lang/Object"), (4, u "directory"), (0, u "Ljava/nio/file/Path;"), (2, u "vertices"), (0, u "I"), (2, u "arcs"), (0, u "J"), (2, u "blocks"), (2, u "weighted"), (0, u "Z"), (2, u "blockArcs"), (0, u "[J"), (2, u "nonemptyBlocks"), (2, u "identity"), (0, u "Lcom/example/gryphon/gryphon/results/Identity;"), (91, u "MAX_ARCS"), (52, u "firstVertex"), (0, u "(III)I"), (109, .class_ 300), (1, u "com/example/gryphon/gryphon/store/BlockStore$BlockReader"), (51, u "BLOCK_FILE"), (0, u "Ljava/util/regex/Pattern;"), (94, .class_ 450), (1, u "com/example/gryphon/gryphon/store/BlockStore$Read"), (45, u "MAX_BLOCKS"), (2, u "MAX_VERTICES"), (1, u "MANIFEST"), (0, u "Ljava/lang/String;"), (0, u "VERTICES"), (0, u "FORMAT"), (0, u "EARLIER_FORMAT"), (0, u "INDEX_BYTES"), (1, u "READ_BUFFER_BYTES"), (0, u "RUN_IDS"), (1, u "GAP_IDS"), (46, .class_ 559), (0, u "com/example/gryphon/gryphon/store/BlockStore$ArcVisitor")] 91

def k2c0 : Code := { maxStack := 4, maxLocals := 3, code := prog_67_method_29_code, exceptionTable := #[], attributes := #[] }
def k2m0 : Method := { name := "firstVertex", desc := "(III)I", sig := { parameters := [.int, .int, .int], returnType := some .int }, accessFlags := 8, code := some k2c0 }
/-- com/example/gryphon/gryphon/store/BlockStore -/
def k2 : Class := { plain "com/example/gryphon/gryphon/store/BlockStore" (some 0) with
  accessFlags := 49
  interfaces := #[]
  cf := some (fileOf pool2 3 #[.nestMembers #[448, 298, 558]] #[{ accessFlags := 8, nameIndex := 187, descriptorIndex := 188, attributes := #[] }] 49 8 #[] #[{ accessFlags := 25, nameIndex := 496, descriptorIndex := 20, attributes := #[] }, { accessFlags := 24, nameIndex := 499, descriptorIndex := 20, attributes := #[] }, { accessFlags := 24, nameIndex := 501, descriptorIndex := 502, attributes := #[] }, { accessFlags := 24, nameIndex := 503, descriptorIndex := 502, attributes := #[] }, { accessFlags := 26, nameIndex := 504, descriptorIndex := 502, attributes := #[] }, { accessFlags := 26, nameIndex := 505, descriptorIndex := 502, attributes := #[] }, { accessFlags := 26, nameIndex := 506, descriptorIndex := 20, attributes := #[] }, { accessFlags := 26, nameIndex := 134, descriptorIndex := 24, attributes := #[] }, { accessFlags := 26, nameIndex := 352, descriptorIndex := 353, attributes := #[] }, { accessFlags := 26, nameIndex := 508, descriptorIndex := 20, attributes := #[] }, { accessFlags := 26, nameIndex := 509, descriptorIndex := 20, attributes := #[] }, { accessFlags := 26, nameIndex := 511, descriptorIndex := 20, attributes := #[] }, { accessFlags := 18, nameIndex := 15, descriptorIndex := 16, attributes := #[] }, { accessFlags := 18, nameIndex := 19, descriptorIndex := 20, attributes := #[] }, { accessFlags := 18, nameIndex := 23, descriptorIndex := 24, attributes := #[] }, { accessFlags := 18, nameIndex := 27, descriptorIndex := 20, attributes := #[] }, { accessFlags := 18, nameIndex := 30, descriptorIndex := 31, attributes := #[] }, { accessFlags := 18, nameIndex := 34, descriptorIndex := 35, attributes := #[] }, { accessFlags := 18, nameIndex := 38, descriptorIndex := 20, attributes := #[] }, { accessFlags := 18, nameIndex := 41, descriptorIndex := 42, attributes := #[] }])
  fields := #[{ name := "MAX_BLOCKS", type := .int, accessFlags := 25, slot := 0, constantValue := 0 }, { name := "MAX_VERTICES", type := .int, accessFlags := 24, slot := 1, constantValue := 0 }, { name := "MANIFEST", type := (.object "java/lang/String"), accessFlags := 24, slot := 2, constantValue := 0 }, { name := "VERTICES", type := (.object "java/lang/String"), accessFlags := 24, slot := 3, constantValue := 0 }, { name := "FORMAT", type := (.object "java/lang/String"), accessFlags := 26, slot := 4, constantValue := 0 }, { name := "EARLIER_FORMAT", type := (.object "java/lang/String"), accessFlags := 26, slot := 5, constantValue := 0 }, { name := "INDEX_BYTES", type := .int, accessFlags := 26, slot := 6, constantValue := 0 }, { name := "MAX_ARCS", type := .long, accessFlags := 26, slot := 7, constantValue := 0 }, { name := "BLOCK_FILE", type := (.object "java/util/regex/Pattern"), accessFlags := 26, slot := 8, constantValue := 0 }, { name := "READ_BUFFER_BYTES", type := .int, accessFlags := 26, slot := 9, constantValue := 0 }, { name := "RUN_IDS", type := .int, accessFlags := 26, slot := 10, constantValue := 0 }, { name := "GAP_IDS", type := .int, accessFlags := 26, slot := 11, constantValue := 0 }, { name := "directory", type := (.object "java/nio/file/Path"), accessFlags := 18, slot := 0, constantValue := 0 }, { name := "vertices", type := .int, accessFlags := 18, slot := 1, constantValue := 0 }, { name := "arcs", type := .long, accessFlags := 18, slot := 2, constantValue := 0 }, { name := "blocks", type := .int, accessFlags := 18, slot := 3, constantValue := 0 }, { name := "weighted", type := .boolean, accessFlags := 18, slot := 4, constantValue := 0 }, { name := "blockArcs", type := (.array .long), accessFlags := 18, slot := 5, constantValue := 0 }, { name := "nonemptyBlocks", type := .int, accessFlags := 18, slot := 6, constantValue := 0 }, { name := "identity", type := (.object "com/example/gryphon/gryphon/results/Identity"), accessFlags := 18, slot := 7, constantValue := 0 }]
  methods := #[k2m0]
  instanceTypes := #[(.object "java/nio/file/Path"), .int, .long, .int, .boolean, (.array .long), .int, (.object "com/example/gryphon/gryphon/results/Identity")]
  staticTypes := #[.int, .int, (.object "java/lang/String"), (.object "java/lang/String"), (.object "java/lang/String"), (.object "java/lang/String"), .int, .long, (.object "java/util/regex/Pattern"), .int, .int, .int]
  resolved := Array.replicate 651 none
  statics := none }

def pool3 : Array CpInfo := pool [(1, u "java/lang/Cloneable"), (0, .class_ 1), (0, u "java/lang/Object"), (0, .class_ 3)] 3

/-- java/lang/Cloneable -/
def k3 : Class := { plain "java/lang/Cloneable" (some 0) with
  accessFlags := 1537
  interfaces := #[]
  cf := some (fileOf pool3 2 #[] #[] 1537 4 #[] #[])
  fields := #[]
  methods := #[]
  instanceTypes := #[]
  staticTypes := #[]
  resolved := Array.replicate 8 none
  statics := none }

def pool4 : Array CpInfo := pool [(1, u "java/io/Serializable"), (0, .class_ 1), (0, u "java/lang/Object"), (0, .class_ 3)] 3

/-- java/io/Serializable -/
def k4 : Class := { plain "java/io/Serializable" (some 0) with
  accessFlags := 1537
  interfaces := #[]
  cf := some (fileOf pool4 2 #[] #[] 1537 4 #[] #[])
  fields := #[]
  methods := #[]
  instanceTypes := #[]
  staticTypes := #[]
  resolved := Array.replicate 8 none
  statics := none }

/-- the primitive byte -/
def k5 : Class := { plain "byte" none with kind := .primitive 'B', accessFlags := 0x411 }
/-- [B -/
def k6 : Class := { plain "[B" (some 0) with kind := .array 5 .byte, interfaces := #[3, 4], accessFlags := 1041 }

/-- the primitive int -/
def k7 : Class := { plain "int" none with kind := .primitive 'I', accessFlags := 0x411 }
/-- [I -/
def k8 : Class := { plain "[I" (some 0) with kind := .array 7 .int, interfaces := #[3, 4], accessFlags := 1041 }

def heap : Heap := #[]
def classes : Array Class := #[k0, k1, k2, k3, k4, k5, k6, k7, k8]
def interned : List (Array UInt16 × Addr) := []
def slotsUsed : Nat := 0
def theMethod : MethodId := ⟨1, 1⟩
def args0 : Array Value := #[.int 5, .int 7, .int 9]
def aboutOver (below : List Frame) : State where
  vm := { classes := classes, interned := interned.toArray }
  heap := heap
  slotsUsed := slotsUsed
  threads := #[{ frames := .invoking theMethod args0 :: below }]
def below0 : List Frame := [.native { method := ⟨0, 0⟩, args := #[] }]
def about1 : State := aboutOver below0
def p0 : Program := .bare "" "" ""
def e0 : Env := launch0.env 0 0 0
theorem w_frames : about1.frames = Frame.invoking theMethod args0 :: below0 := rfl
set_option maxRecDepth 65536 in
theorem w_args : argsFit about1.vm theMethod args0 = true := by decide +kernel
set_option maxRecDepth 65536 in
theorem w_heap : heapFits about1 = true := by decide +kernel
set_option maxRecDepth 65536 in
theorem w_runnable : about1.curStatus? = some .runnable := by decide +kernel
set_option maxRecDepth 65536 in
theorem w_alone : about1.alone = true := by decide +kernel
set_option maxRecDepth 65536 in
theorem w_named : about1.methodNamed? x = some theMethod := by decide +kernel
set_option maxRecDepth 65536 in
theorem w_hears : about1.hears theMethod below0 = true := by decide +kernel
set_option maxRecDepth 65536 in
theorem w_ripe : about1.ripe theMethod args0 below0 = true := by decide +kernel
theorem w_running : about1.status = .running := rfl
set_option maxRecDepth 65536 in
theorem w_room : about1.hasRoom e0.platform room_1 = true :=
  launch0.hasRoom_least _ room_1 (by decide +kernel) (by decide +kernel) (by decide +kernel) (by decide +kernel) (by decide +kernel) (by decide +kernel)
theorem allAtoms_all (ts : List Jvm.Cond) (a : Array Jvm.Value) (st : Jvm.State) : (allAtoms ts).before a st = ts.all (fun c => c.before a st) := by
  induction ts with
  | nil => rfl
  | cons c t ih =>
    show (Jvm.Cond.and c (allAtoms t)).before a st = _
    rw [Jvm.Cond.before_and, ih, List.all_cons]
def words1 : List Jvm.Cond := Jvm.Cond.code x code maxLocals ret :: tables_1
/-- a 'code' word, met by the world's own term for the bytes: nothing is compared byte by byte -/
theorem code_word {y : MethodName} {bytes : ByteArray} {mx : Nat} {rt : Option FieldType} {a : Array Value} {s : State} {m : MethodId} {meth : Method} {c : Code} (h1 : s.methodNamed? y = some m) (h2 : s.vm.method? m = some meth) (h3 : meth.code = some c) (h4 : c.code = bytes)
    (h5 : (c.maxLocals == mx && c.exceptionTable.isEmpty && decide (c.maxStack ≤ mostOperands) && decide (meth.sig.returnType = rt) && !meth.locks && decide (parseMethodDescriptor y.desc = some meth.sig)) = true) : (Jvm.Cond.code y bytes mx rt).before a s = true := by
  simp only [Bool.and_eq_true, beq_iff_eq, Bool.not_eq_true', decide_eq_true_eq] at h5
  obtain ⟨⟨⟨⟨⟨g1, g2⟩, g3⟩, g4⟩, g5⟩, g6⟩ := h5
  simp [Cond.before, Cond.holds, Cond.value, h1, h2, h3, h4, g1, g2, g3, g4, g5, g6]
def isCode : Jvm.Cond → Bool
  | .code _ _ _ _ => true
  | _ => false
theorem all_split {L : List Jvm.Cond} {P : Jvm.Cond → Bool} (h1 : L.all (fun c => isCode c || P c) = true) (h2 : ∀ c ∈ L.filter isCode, P c = true) : L.all P = true := by
  refine List.all_eq_true.mpr fun c hc => ?_
  have h := List.all_eq_true.mp h1 c hc
  rcases Bool.eq_false_or_eq_true (isCode c) with hi | hi
  · exact h2 c (List.mem_filter.mpr ⟨hc, hi⟩)
  · simpa [hi] using h
set_option maxRecDepth 65536 in
theorem w_c0 : (Jvm.Cond.code x code maxLocals ret).before args0 about1 = true := code_word (m := ⟨1, 1⟩) (meth := k1m1) (c := k1c1) (by decide +kernel) rfl rfl rfl (by decide +kernel)
set_option maxRecDepth 65536 in
theorem w_c1 : (Jvm.Cond.code ({ cls := "com/example/gryphon/gryphon/store/BlockStore", name := "firstVertex", desc := "(III)I" } : Jvm.MethodName) prog_67_method_29_code (3 : Nat) (Option.some Jvm.ClassFile.FieldType.int)).before args0 about1 = true := code_word (m := ⟨2, 0⟩) (meth := k2m0) (c := k2c0) (by decide +kernel) rfl rfl rfl (by decide +kernel)
def codes1 : List Jvm.Cond := [Jvm.Cond.code x code maxLocals ret, Jvm.Cond.code ({ cls := "com/example/gryphon/gryphon/store/BlockStore", name := "firstVertex", desc := "(III)I" } : Jvm.MethodName) prog_67_method_29_code (3 : Nat) (Option.some Jvm.ClassFile.FieldType.int)]
set_option maxRecDepth 65536 in
theorem codes_eq : words1.filter isCode = codes1 := rfl
theorem w_codes : ∀ c ∈ words1.filter isCode, c.before args0 about1 = true := by
  rw [codes_eq]
  intro c hc
  simp only [codes1, List.mem_cons, List.not_mem_nil, or_false] at hc
  rcases hc with rfl | rfl
  · exact w_c0
  · exact w_c1
set_option maxRecDepth 65536 in
theorem w_t1 : words1.all (fun c => isCode c || c.before args0 about1) = true := by decide +kernel
theorem w_tables : (allAtoms (Jvm.Cond.code x code maxLocals ret :: tables_1)).before args0 about1 = true := by
  rw [allAtoms_all]
  show words1.all (fun c => c.before args0 about1) = true
  refine all_split ?_ w_codes
  rw [w_t1]
set_option maxRecDepth 65536 in
theorem w_case : (Jvm.Cond.and given_1 narrow_1).before args0 about1 = true := by decide +kernel
theorem w_applies : (headSpec (Jvm.Cond.code x code maxLocals ret :: tables_1) room_1).applies x e0.platform about1 = true :=
  (Spec.applies_iff w_frames).mpr ⟨w_running, w_runnable, w_alone, w_named, w_hears, w_ripe, w_room, w_tables⟩
theorem atStart : AtStart classFile x code maxLocals ret World_1 tables_1 room_1 Calls_1 rest_1 Pre_1 launch0 p0 e0 about1 theMethod args0 below0 :=
  ⟨lists_1, trivial, launch0.admits_env _ _ _, launch0.least_env, fairChoices_fair.cas, fairChoices_fair.clock, w_frames, w_args, w_heap, w_applies, trivial, trivial, w_case⟩
end start1
theorem witness_1 : WitnessClaimed_1 := ⟨start1.p0, start1.e0, start1.about1, start1.theMethod, start1.args0, start1.below0, start1.atStart⟩
end Jvm.Pilot.@@N@@
