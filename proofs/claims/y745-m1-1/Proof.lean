import JvmDerived
import JvmDerived.Pilot.@@N@@Statement
import JvmDerived.Pilot.@@N@@Code
set_option linter.unusedVariables false
set_option linter.unusedSimpArgs false
@@BLOCK:NumsL.lean.txt@@
namespace Jvm.RoadKit
open Sem ClassFile Op Lib Jvm.Stand Jvm.Free Jvm.LawKit
section New
variable {p : Program} {l : Launch} {e : Env} {R : Room} {s : State} {m : MethodId} {args : Array Value} {below : List Frame} {meth : Method} {c : Code} {T : State} {locs : List Loc} {cells slots : Nat}
theorem retI (X : Stand p l e R s m args below meth c T locs cells slots) (hx : p.tables.exec = Jvm.exec) {pc : Nat} {Ls : Array Slot} {z : Int32} {rest : List Value} (hret : meth.sig.returnType = some .int) (hd : decode c.code pc = .ok (.ireturn, 1)) {fs : List Frame}
    (hl : ∀ (f : JFrame) (acts : List Action), f.method = m → f.locked = none → f.entered = [] → (doReturn e (T.setTop f) acts (some (.int z))).1 = T.setFrames fs) : Steps p.tables e below (T.setTop (mkF m pc Ls (.int z :: rest))) (T.setFrames fs) := by
  have hm' : T.vm.method? m = some meth := X.method'
  have hn : narrow .int (.int z) = .int z := rfl
  show Steps p.tables e below (T.setTop { method := m, pc := pc, locals := Ls, stack := _ :: rest, locked := none }) _
  jvm_step X.here [X.here.top, hx, hd, hm', hret, hn]
  first | (intro acts; rw [hl _ acts rfl rfl rfl]) | rw [hl _ _ rfl rfl rfl]
  exact Steps.refl _
end New
end Jvm.RoadKit
namespace Jvm.Pilot.@@N@@
open Jvm Jvm.ClassFile Sem Op Lib Jvm.Free Jvm.Stand Jvm.LawKit Jvm.RoadKit Bundle Jvm.Pilot.@@N@@.Jvm.D
theorem own_rem32 (x y : Int32) : (x - (x / y) * y).toInt = x.toInt.tmod y.toInt := by
  rw [Int32.toInt_sub, Int32.toInt_mul, Int32.toInt_div]
  simp only [Int.bmod_mul_bmod, Int.sub_bmod_bmod]
  rw [Int.tmod_def, Int.mul_comm y.toInt]
  have h := Int32.toInt_mod x y
  have h1 := (x % y).toInt_lt
  have h2 := (x % y).le_toInt
  rw [h, Int.tmod_def, Int.mul_comm y.toInt] at h1 h2
  exact Int.bmod_eq_of_le (by omega) (by omega)
theorem d1_0 : decode prog_33_method_1_code 0 = .ok (.aload_n 0, 1) := by decide +kernel
theorem d1_1 : decode prog_33_method_1_code 1 = .ok (.invokespecial 1, 3) := by decide +kernel
theorem d1_4 : decode prog_33_method_1_code 4 = .ok (.aload_n 0, 1) := by decide +kernel
theorem d1_5 : decode prog_33_method_1_code 5 = .ok (.lload_n 1, 1) := by decide +kernel
theorem d1_6 : decode prog_33_method_1_code 6 = .ok (.putfield 7, 3) := by decide +kernel
theorem d1_9 : decode prog_33_method_1_code 9 = .ok (.return_, 1) := by decide +kernel
theorem pn_com_example_gryphon_gryphon_generate_SplitMix : plainName "com/example/gryphon/gryphon/generate/SplitMix" = true := by first | (simp [plainName, overriddenIn]; done) | decide +kernel
theorem ef_1 (m : MethodId) (o0 : Addr) (q1 : Int64) : entryFrame m #[(.ref o0), (.long q1)] 3 = mkF m 0 #[.val (.ref o0), .val (.long q1), .second] [] := by first | (simp [entryFrame, mkF, argsToLocals, Value.category]; done) | rfl
def Q1 (Z : State) (o0 : Addr) (q1 : Int64) (u0_state : Value) (h0 : Heap) (n0 : Nat) (v : Option Value) (h : Heap) (L : List Loc) : Prop := Fr n0 L ∧ v = none ∧ Keep h0 h [o0] ∧ Exa Z h o0 "com/example/gryphon/gryphon/generate/SplitMix" ∧ Fld Z h o0 "com/example/gryphon/gryphon/generate/SplitMix" "state" "J" (.long q1)
set_option maxRecDepth 65536 in
set_option maxHeartbeats 40000000 in
theorem rm1 (l : Launch) (Z : State) (a0 : Array Value) (hw : ∀ d ∈ tables_1, d.before a0 Z = true) (ws : List Jvm.Cond) (o0 : Addr) (q1 : Int64) (u0_state : Value) (h0 : Heap) (n0 : Nat) (Z0 : n0 ≤ h0.size) (E_o0 : Exa Z h0 o0 "com/example/gryphon/gryphon/generate/SplitMix") (F_state_o0 : Fld Z h0 o0 "com/example/gryphon/gryphon/generate/SplitMix" "state" "J" u0_state) (g_o0 : n0 ≤ o0) :
    MetFree l (⟨"com/example/gryphon/gryphon/generate/SplitMix", "<init>", "(J)V"⟩ : MethodName) (head1 (Jvm.Cond.code (⟨"com/example/gryphon/gryphon/generate/SplitMix", "<init>", "(J)V"⟩ : MethodName) prog_33_method_1_code 3 none :: ws) ({ frames := 1, cells := 0, slots := 0, locals := 12 } : Room)) (fun a U => a = #[(.ref o0), (.long q1)] ∧ Z.Warmed39 U.vm ∧ U.heap = h0) (fun _ _ _ _ _ => True) (fun _ U o U' => ∃ v L, o = .returned v ∧ Q1 Z o0 q1 u0_state h0 n0 v U'.heap L ∧ FrameEnd U o U' L ({ frames := 1, cells := 0, slots := 0, locals := 12 } : Room).cells ({ frames := 1, cells := 0, slots := 0, locals := 12 } : Room).slots) := by
  refine MetFree.of_bodySF (plainFor_of_name pn_com_example_gryphon_gryphon_generate_SplitMix) hisR ?_
  intro p e s m args below meth c s₁ Bd hml0 hP hK
  obtain ⟨rfl, hZ, hh⟩ := hP
  have hx := Bd.exec
  have hby := Bd.bytes
  have hml : c.maxLocals = 3 := hml0
  have hown : s.vm.findClass "com/example/gryphon/gryphon/generate/SplitMix" = some m.cls := findClass_of_methodNamed Bd.named
  have hnm := (name_of_methodNamed Bd.named Bd.method).1
  have X0 : Stand p l e ({ frames := 1, cells := 0, slots := 0, locals := 12 } : Room) s m #[(.ref o0), (.long q1)] below meth c s₁ [] 0 0 := Stand.of_body Bd
  have e0 : s₁.heap = h0 := by rw [← hh, Bd.state]; rfl
  have N0 := Fr.nil n0
  have pre0 : ∀ t, Steps p.tables e below (s₁.setTop (mkF m 0 #[.val (.ref o0), .val (.long q1), .second] [])) t → Steps p.tables e below (s₁.setTop (entryFrame m #[(.ref o0), (.long q1)] 3)) t := fun t k => castTop (ef_1 m o0 q1) k
  obtain ⟨T1, X1, e1, st1⟩ := initO X0 hx hZ hown (hw _ (List.mem_of_getElem? (i := 6) rfl)) (hw _ (List.mem_of_getElem? (i := 7) rfl)) (hw _ (List.mem_of_getElem? (i := 8) rfl)) e0 (g := (mkF m 1 #[.val (.ref o0), .val (.long q1), .second] [(.ref o0)])) rfl (by rw [hml]; rfl) rfl (hb hby d1_1) (by decide) (W := 0) (by show 2 * 0 + _ ≤ _; exact Nat.le_of_eq rfl) (by decide)
  obtain ⟨T2, h2, X2, e2, W2, st2⟩ := putF X1 hx hZ hown (host := "") (Or.inl (hw _ (List.mem_of_getElem? (i := 9) rfl))) Via.refl e1 F_state_o0 E_o0 (Or.inl (hw _ (List.mem_of_getElem? (i := 10) rfl))) (hw _ (List.mem_of_getElem? (i := 1) rfl)) (ty := .long) (by decide) rfl rfl (g := (mkF m 6 #[.val (.ref o0), .val (.long q1), .second] [(.long q1), (.ref o0)])) rfl rfl (hb hby d1_6)
  have Fw2 := F_state_o0.same W2
  have N2 := Fr.snoc X2 N0 g_o0
  have z3 : n0 ≤ h2.size := Nat.le_trans Z0 (Keep.of_wr W2).1
  have hs4 : h0.size ≤ h2.size := Nat.le_trans (Nat.le_refl h0.size) (Keep.of_wr W2).1
  obtain ⟨fs, hr, hrun, hended, hW, hsame⟩ := X2.leave (v := none) (fun _ => rfl)
  refine ⟨_, _, pre0 _ ?_, hrun, hended, _, _, rfl, ?_, ⟨_, rfl⟩, hW, hsame.mono (by decide) (by decide)⟩
  · skip
    show Steps p.tables e below (s₁.setTop (mkF m 0 #[.val (.ref o0), .val (.long q1), .second] [])) _
    refine XS.aloadN X0.here hx rfl (hb hby d1_0) rfl rfl ?_
    show Steps p.tables e below (s₁.setTop (mkF m 1 #[.val (.ref o0), .val (.long q1), .second] [(.ref o0)])) _
    refine st1 _ ?_
    show Steps p.tables e below (T1.setTop (mkF m 4 #[.val (.ref o0), .val (.long q1), .second] [])) _
    refine XS.aloadN X1.here hx rfl (hb hby d1_4) rfl rfl ?_
    show Steps p.tables e below (T1.setTop (mkF m 5 #[.val (.ref o0), .val (.long q1), .second] [(.ref o0)])) _
    refine XT.lloadN X1.here hx rfl (hb hby d1_5) rfl ?_
    show Steps p.tables e below (T1.setTop (mkF m 6 #[.val (.ref o0), .val (.long q1), .second] [(.long q1), (.ref o0)])) _
    refine st2 _ ?_
    show Steps p.tables e below (T2.setTop (mkF m 9 #[.val (.ref o0), .val (.long q1), .second] [])) _
    exact X2.returnOut hx Bd.returns (hb hby d1_9) hr
  · skip
    show Q1 Z o0 q1 u0_state h0 n0 _ T2.heap _
    rw [e2]
    have k5 := (E_o0.wr W2)
    exact ⟨N2, rfl, ((Keep.refl h0 [o0]).wr W2 (Or.inl (List.mem_of_getElem? (i := 0) rfl))), k5, Fw2⟩
theorem d3_0 : decode prog_33_method_2_code 0 = .ok (.aload_n 0, 1) := by decide +kernel
theorem d3_1 : decode prog_33_method_2_code 1 = .ok (.dup, 1) := by decide +kernel
theorem d3_2 : decode prog_33_method_2_code 2 = .ok (.getfield 7, 3) := by decide +kernel
theorem d3_5 : decode prog_33_method_2_code 5 = .ok (.ldc2_w 13, 3) := by decide +kernel
theorem d3_8 : decode prog_33_method_2_code 8 = .ok (.ladd, 1) := by decide +kernel
theorem d3_9 : decode prog_33_method_2_code 9 = .ok (.putfield 7, 3) := by decide +kernel
theorem d3_12 : decode prog_33_method_2_code 12 = .ok (.aload_n 0, 1) := by decide +kernel
theorem d3_13 : decode prog_33_method_2_code 13 = .ok (.getfield 7, 3) := by decide +kernel
theorem d3_16 : decode prog_33_method_2_code 16 = .ok (.lstore_n 1, 1) := by decide +kernel
theorem d3_17 : decode prog_33_method_2_code 17 = .ok (.lload_n 1, 1) := by decide +kernel
theorem d3_18 : decode prog_33_method_2_code 18 = .ok (.lload_n 1, 1) := by decide +kernel
theorem d3_19 : decode prog_33_method_2_code 19 = .ok (.bipush 30, 2) := by decide +kernel
theorem d3_21 : decode prog_33_method_2_code 21 = .ok (.lushr, 1) := by decide +kernel
theorem d3_22 : decode prog_33_method_2_code 22 = .ok (.lxor, 1) := by decide +kernel
theorem d3_23 : decode prog_33_method_2_code 23 = .ok (.ldc2_w 15, 3) := by decide +kernel
theorem d3_26 : decode prog_33_method_2_code 26 = .ok (.lmul, 1) := by decide +kernel
theorem d3_27 : decode prog_33_method_2_code 27 = .ok (.lstore_n 1, 1) := by decide +kernel
theorem d3_28 : decode prog_33_method_2_code 28 = .ok (.lload_n 1, 1) := by decide +kernel
theorem d3_29 : decode prog_33_method_2_code 29 = .ok (.lload_n 1, 1) := by decide +kernel
theorem d3_30 : decode prog_33_method_2_code 30 = .ok (.bipush 27, 2) := by decide +kernel
theorem d3_32 : decode prog_33_method_2_code 32 = .ok (.lushr, 1) := by decide +kernel
theorem d3_33 : decode prog_33_method_2_code 33 = .ok (.lxor, 1) := by decide +kernel
theorem d3_34 : decode prog_33_method_2_code 34 = .ok (.ldc2_w 17, 3) := by decide +kernel
theorem d3_37 : decode prog_33_method_2_code 37 = .ok (.lmul, 1) := by decide +kernel
theorem d3_38 : decode prog_33_method_2_code 38 = .ok (.lstore_n 1, 1) := by decide +kernel
theorem d3_39 : decode prog_33_method_2_code 39 = .ok (.lload_n 1, 1) := by decide +kernel
theorem d3_40 : decode prog_33_method_2_code 40 = .ok (.lload_n 1, 1) := by decide +kernel
theorem d3_41 : decode prog_33_method_2_code 41 = .ok (.bipush 31, 2) := by decide +kernel
theorem d3_43 : decode prog_33_method_2_code 43 = .ok (.lushr, 1) := by decide +kernel
theorem d3_44 : decode prog_33_method_2_code 44 = .ok (.lxor, 1) := by decide +kernel
theorem d3_45 : decode prog_33_method_2_code 45 = .ok (.lreturn, 1) := by decide +kernel
theorem ef_3 (m : MethodId) (o0 : Addr) : entryFrame m #[(.ref o0)] 3 = mkF m 0 #[.val (.ref o0), .unset, .unset] [] := by first | (simp [entryFrame, mkF, argsToLocals, Value.category]; done) | rfl
def v3_1 (w0_state : Int64) : Int64 := (w0_state + (-7046029254386353131 : Int64))
def v3_2 (w0_state : Int64) : Int64 := (((v3_1 w0_state) ^^^ (XT.ushrL (v3_1 w0_state) (30 : Int32))) * (-4658895280553007687 : Int64))
def v3_3 (w0_state : Int64) : Int64 := (((v3_2 w0_state) ^^^ (XT.ushrL (v3_2 w0_state) (27 : Int32))) * (-7723592293110705685 : Int64))
def f3 (w0_state : Int64) : Int64 := ((v3_3 w0_state) ^^^ (XT.ushrL (v3_3 w0_state) (31 : Int32)))
def Q3 (Z : State) (o0 : Addr) (w0_state : Int64) (h0 : Heap) (n0 : Nat) (v : Option Value) (h : Heap) (L : List Loc) : Prop := Fr n0 L ∧ v = some (.long (f3 w0_state)) ∧ Keep h0 h [o0] ∧ Exa Z h o0 "com/example/gryphon/gryphon/generate/SplitMix" ∧ Fld Z h o0 "com/example/gryphon/gryphon/generate/SplitMix" "state" "J" (.long (w0_state + (-7046029254386353131 : Int64)))
set_option maxRecDepth 65536 in
set_option maxHeartbeats 40000000 in
theorem rm3 (l : Launch) (Z : State) (a0 : Array Value) (hw : ∀ d ∈ tables_1, d.before a0 Z = true) (ws : List Jvm.Cond) (o0 : Addr) (w0_state : Int64) (h0 : Heap) (n0 : Nat) (Z0 : n0 ≤ h0.size) (F_state_o0 : Fld Z h0 o0 "com/example/gryphon/gryphon/generate/SplitMix" "state" "J" (.long w0_state)) (E_o0 : Exa Z h0 o0 "com/example/gryphon/gryphon/generate/SplitMix") (g_o0 : n0 ≤ o0) :
    MetFree l (⟨"com/example/gryphon/gryphon/generate/SplitMix", "next", "()J"⟩ : MethodName) (head1 (Jvm.Cond.code (⟨"com/example/gryphon/gryphon/generate/SplitMix", "next", "()J"⟩ : MethodName) prog_33_method_2_code 3 (some .long) :: ws) ({ frames := 0, cells := 0, slots := 0, locals := 0 } : Room)) (fun a U => a = #[(.ref o0)] ∧ Z.Warmed39 U.vm ∧ U.heap = h0) (fun _ _ _ _ _ => True) (fun _ U o U' => ∃ v L, o = .returned v ∧ Q3 Z o0 w0_state h0 n0 v U'.heap L ∧ FrameEnd U o U' L ({ frames := 0, cells := 0, slots := 0, locals := 0 } : Room).cells ({ frames := 0, cells := 0, slots := 0, locals := 0 } : Room).slots) := by
  refine MetFree.of_bodySF (plainFor_of_name pn_com_example_gryphon_gryphon_generate_SplitMix) hisR ?_
  intro p e s m args below meth c s₁ Bd hml0 hP hK
  obtain ⟨rfl, hZ, hh⟩ := hP
  have hx := Bd.exec
  have hby := Bd.bytes
  have hml : c.maxLocals = 3 := hml0
  have hown : s.vm.findClass "com/example/gryphon/gryphon/generate/SplitMix" = some m.cls := findClass_of_methodNamed Bd.named
  have hnm := (name_of_methodNamed Bd.named Bd.method).1
  have X0 : Stand p l e ({ frames := 0, cells := 0, slots := 0, locals := 0 } : Room) s m #[(.ref o0)] below meth c s₁ [] 0 0 := Stand.of_body Bd
  have e0 : s₁.heap = h0 := by rw [← hh, Bd.state]; rfl
  have N0 := Fr.nil n0
  have pre0 : ∀ t, Steps p.tables e below (s₁.setTop (mkF m 0 #[.val (.ref o0), .unset, .unset] [])) t → Steps p.tables e below (s₁.setTop (entryFrame m #[(.ref o0)] 3)) t := fun t k => castTop (ef_3 m o0) k
  obtain ⟨T1, X1, e1, st1⟩ := getF X0 hx hZ hown (host := "") (Or.inl (hw _ (List.mem_of_getElem? (i := 9) rfl))) Via.refl e0 F_state_o0 (g := (mkF m 2 #[.val (.ref o0), .unset, .unset] [(.ref o0), (.ref o0)])) rfl rfl (hb hby d3_2)
  obtain ⟨T2, h2, X2, e2, W2, st2⟩ := putF X1 hx hZ hown (host := "") (Or.inl (hw _ (List.mem_of_getElem? (i := 9) rfl))) Via.refl e1 F_state_o0 E_o0 (Or.inl (hw _ (List.mem_of_getElem? (i := 10) rfl))) (hw _ (List.mem_of_getElem? (i := 1) rfl)) (ty := .long) (by decide) rfl rfl (g := (mkF m 9 #[.val (.ref o0), .unset, .unset] [(.long (w0_state + (-7046029254386353131 : Int64))), (.ref o0)])) rfl rfl (hb hby d3_9)
  have Fw2 := F_state_o0.same W2
  have N2 := Fr.snoc X2 N0 g_o0
  have z3 : n0 ≤ h2.size := Nat.le_trans Z0 (Keep.of_wr W2).1
  have hs4 : h0.size ≤ h2.size := Nat.le_trans (Nat.le_refl h0.size) (Keep.of_wr W2).1
  obtain ⟨T5, X5, e5, st5⟩ := getF X2 hx hZ hown (host := "") (Or.inl (hw _ (List.mem_of_getElem? (i := 9) rfl))) Via.refl e2 Fw2 (g := (mkF m 13 #[.val (.ref o0), .unset, .unset] [(.ref o0)])) rfl rfl (hb hby d3_13)
  obtain ⟨fs, hr, hrun, hended, hW, hsame⟩ := X5.leave (v := some (.long ((v3_3 w0_state) ^^^ (XT.ushrL (v3_3 w0_state) (31 : Int32))))) (fun h => by rw [Bd.returns] at h; cases h)
  refine ⟨_, _, pre0 _ ?_, hrun, hended, _, _, rfl, ?_, ⟨_, rfl⟩, hW, hsame.mono (by decide) (by decide)⟩
  · skip
    show Steps p.tables e below (s₁.setTop (mkF m 0 #[.val (.ref o0), .unset, .unset] [])) _
    refine XS.aloadN X0.here hx rfl (hb hby d3_0) rfl rfl ?_
    show Steps p.tables e below (s₁.setTop (mkF m 1 #[.val (.ref o0), .unset, .unset] [(.ref o0)])) _
    refine XS.dup X0.here hx rfl (hb hby d3_1) rfl rfl ?_
    show Steps p.tables e below (s₁.setTop (mkF m 2 #[.val (.ref o0), .unset, .unset] [(.ref o0), (.ref o0)])) _
    refine st1 _ ?_
    show Steps p.tables e below (T1.setTop (mkF m 5 #[.val (.ref o0), .unset, .unset] [(.long w0_state), (.ref o0)])) _
    refine X1.ldc2J hx hown (mvT hZ (hw _ (List.mem_of_getElem? (i := 16) rfl))) rfl (hb hby d3_5) ?_
    show Steps p.tables e below (T1.setTop (mkF m 8 #[.val (.ref o0), .unset, .unset] [(.long (-7046029254386353131 : Int64)), (.long w0_state), (.ref o0)])) _
    refine XT.ladd X1.here hx rfl (hb hby d3_8) rfl ?_
    show Steps p.tables e below (T1.setTop (mkF m 9 #[.val (.ref o0), .unset, .unset] [(.long (w0_state + (-7046029254386353131 : Int64))), (.ref o0)])) _
    refine st2 _ ?_
    show Steps p.tables e below (T2.setTop (mkF m 12 #[.val (.ref o0), .unset, .unset] [])) _
    refine XS.aloadN X2.here hx rfl (hb hby d3_12) rfl rfl ?_
    show Steps p.tables e below (T2.setTop (mkF m 13 #[.val (.ref o0), .unset, .unset] [(.ref o0)])) _
    refine st5 _ ?_
    show Steps p.tables e below (T5.setTop (mkF m 16 #[.val (.ref o0), .unset, .unset] [(.long (w0_state + (-7046029254386353131 : Int64)))])) _
    refine XT.lstoreN X5.here hx rfl (hb hby d3_16) rfl (l' := #[.val (.ref o0), .val (.long (v3_1 w0_state)), .second]) rfl ?_
    show Steps p.tables e below (T5.setTop (mkF m 17 #[.val (.ref o0), .val (.long (v3_1 w0_state)), .second] [])) _
    refine XT.lloadN X5.here hx rfl (hb hby d3_17) rfl ?_
    show Steps p.tables e below (T5.setTop (mkF m 18 #[.val (.ref o0), .val (.long (v3_1 w0_state)), .second] [(.long (v3_1 w0_state))])) _
    refine XT.lloadN X5.here hx rfl (hb hby d3_18) rfl ?_
    show Steps p.tables e below (T5.setTop (mkF m 19 #[.val (.ref o0), .val (.long (v3_1 w0_state)), .second] [(.long (v3_1 w0_state)), (.long (v3_1 w0_state))])) _
    refine XT.bipushV X5.here hx rfl (30 : Int32) (hb hby d3_19) (by decide) ?_
    show Steps p.tables e below (T5.setTop (mkF m 21 #[.val (.ref o0), .val (.long (v3_1 w0_state)), .second] [(.int (30 : Int32)), (.long (v3_1 w0_state)), (.long (v3_1 w0_state))])) _
    refine XT.lushr X5.here hx rfl (hb hby d3_21) rfl ?_
    show Steps p.tables e below (T5.setTop (mkF m 22 #[.val (.ref o0), .val (.long (v3_1 w0_state)), .second] [(.long (XT.ushrL (v3_1 w0_state) (30 : Int32))), (.long (v3_1 w0_state))])) _
    refine XT.lxor X5.here hx rfl (hb hby d3_22) rfl ?_
    show Steps p.tables e below (T5.setTop (mkF m 23 #[.val (.ref o0), .val (.long (v3_1 w0_state)), .second] [(.long ((v3_1 w0_state) ^^^ (XT.ushrL (v3_1 w0_state) (30 : Int32))))])) _
    refine X5.ldc2J hx hown (mvT hZ (hw _ (List.mem_of_getElem? (i := 17) rfl))) rfl (hb hby d3_23) ?_
    show Steps p.tables e below (T5.setTop (mkF m 26 #[.val (.ref o0), .val (.long (v3_1 w0_state)), .second] [(.long (-4658895280553007687 : Int64)), (.long ((v3_1 w0_state) ^^^ (XT.ushrL (v3_1 w0_state) (30 : Int32))))])) _
    refine XT.lmul X5.here hx rfl (hb hby d3_26) rfl ?_
    show Steps p.tables e below (T5.setTop (mkF m 27 #[.val (.ref o0), .val (.long (v3_1 w0_state)), .second] [(.long (((v3_1 w0_state) ^^^ (XT.ushrL (v3_1 w0_state) (30 : Int32))) * (-4658895280553007687 : Int64)))])) _
    refine XT.lstoreN X5.here hx rfl (hb hby d3_27) rfl (l' := #[.val (.ref o0), .val (.long (v3_2 w0_state)), .second]) rfl ?_
    show Steps p.tables e below (T5.setTop (mkF m 28 #[.val (.ref o0), .val (.long (v3_2 w0_state)), .second] [])) _
    refine XT.lloadN X5.here hx rfl (hb hby d3_28) rfl ?_
    show Steps p.tables e below (T5.setTop (mkF m 29 #[.val (.ref o0), .val (.long (v3_2 w0_state)), .second] [(.long (v3_2 w0_state))])) _
    refine XT.lloadN X5.here hx rfl (hb hby d3_29) rfl ?_
    show Steps p.tables e below (T5.setTop (mkF m 30 #[.val (.ref o0), .val (.long (v3_2 w0_state)), .second] [(.long (v3_2 w0_state)), (.long (v3_2 w0_state))])) _
    refine XT.bipushV X5.here hx rfl (27 : Int32) (hb hby d3_30) (by decide) ?_
    show Steps p.tables e below (T5.setTop (mkF m 32 #[.val (.ref o0), .val (.long (v3_2 w0_state)), .second] [(.int (27 : Int32)), (.long (v3_2 w0_state)), (.long (v3_2 w0_state))])) _
    refine XT.lushr X5.here hx rfl (hb hby d3_32) rfl ?_
    show Steps p.tables e below (T5.setTop (mkF m 33 #[.val (.ref o0), .val (.long (v3_2 w0_state)), .second] [(.long (XT.ushrL (v3_2 w0_state) (27 : Int32))), (.long (v3_2 w0_state))])) _
    refine XT.lxor X5.here hx rfl (hb hby d3_33) rfl ?_
    show Steps p.tables e below (T5.setTop (mkF m 34 #[.val (.ref o0), .val (.long (v3_2 w0_state)), .second] [(.long ((v3_2 w0_state) ^^^ (XT.ushrL (v3_2 w0_state) (27 : Int32))))])) _
    refine X5.ldc2J hx hown (mvT hZ (hw _ (List.mem_of_getElem? (i := 18) rfl))) rfl (hb hby d3_34) ?_
    show Steps p.tables e below (T5.setTop (mkF m 37 #[.val (.ref o0), .val (.long (v3_2 w0_state)), .second] [(.long (-7723592293110705685 : Int64)), (.long ((v3_2 w0_state) ^^^ (XT.ushrL (v3_2 w0_state) (27 : Int32))))])) _
    refine XT.lmul X5.here hx rfl (hb hby d3_37) rfl ?_
    show Steps p.tables e below (T5.setTop (mkF m 38 #[.val (.ref o0), .val (.long (v3_2 w0_state)), .second] [(.long (((v3_2 w0_state) ^^^ (XT.ushrL (v3_2 w0_state) (27 : Int32))) * (-7723592293110705685 : Int64)))])) _
    refine XT.lstoreN X5.here hx rfl (hb hby d3_38) rfl (l' := #[.val (.ref o0), .val (.long (v3_3 w0_state)), .second]) rfl ?_
    show Steps p.tables e below (T5.setTop (mkF m 39 #[.val (.ref o0), .val (.long (v3_3 w0_state)), .second] [])) _
    refine XT.lloadN X5.here hx rfl (hb hby d3_39) rfl ?_
    show Steps p.tables e below (T5.setTop (mkF m 40 #[.val (.ref o0), .val (.long (v3_3 w0_state)), .second] [(.long (v3_3 w0_state))])) _
    refine XT.lloadN X5.here hx rfl (hb hby d3_40) rfl ?_
    show Steps p.tables e below (T5.setTop (mkF m 41 #[.val (.ref o0), .val (.long (v3_3 w0_state)), .second] [(.long (v3_3 w0_state)), (.long (v3_3 w0_state))])) _
    refine XT.bipushV X5.here hx rfl (31 : Int32) (hb hby d3_41) (by decide) ?_
    show Steps p.tables e below (T5.setTop (mkF m 43 #[.val (.ref o0), .val (.long (v3_3 w0_state)), .second] [(.int (31 : Int32)), (.long (v3_3 w0_state)), (.long (v3_3 w0_state))])) _
    refine XT.lushr X5.here hx rfl (hb hby d3_43) rfl ?_
    show Steps p.tables e below (T5.setTop (mkF m 44 #[.val (.ref o0), .val (.long (v3_3 w0_state)), .second] [(.long (XT.ushrL (v3_3 w0_state) (31 : Int32))), (.long (v3_3 w0_state))])) _
    refine XT.lxor X5.here hx rfl (hb hby d3_44) rfl ?_
    show Steps p.tables e below (T5.setTop (mkF m 45 #[.val (.ref o0), .val (.long (v3_3 w0_state)), .second] [(.long ((v3_3 w0_state) ^^^ (XT.ushrL (v3_3 w0_state) (31 : Int32))))])) _
    exact X5.lreturnOut hx Bd.returns (hb hby d3_45) hr
  · skip
    show Q3 Z o0 w0_state h0 n0 _ T5.heap _
    rw [e5]
    have k6 := (E_o0.wr W2)
    exact ⟨N2, rfl, ((Keep.refl h0 [o0]).wr W2 (Or.inl (List.mem_of_getElem? (i := 0) rfl))), k6, Fw2⟩
theorem d4_0 : decode method_2_code 0 = .ok (.lload_n 0, 1) := by decide +kernel
theorem d4_1 : decode method_2_code 1 = .ok (.lstore_n 2, 1) := by decide +kernel
theorem d4_2 : decode method_2_code 2 = .ok (.lload_n 2, 1) := by decide +kernel
theorem d4_3 : decode method_2_code 3 = .ok (.ldc2_w 7, 3) := by decide +kernel
theorem d4_6 : decode method_2_code 6 = .ok (.lload_n 0, 1) := by decide +kernel
theorem d4_7 : decode method_2_code 7 = .ok (.lload_n 2, 1) := by decide +kernel
theorem d4_8 : decode method_2_code 8 = .ok (.lmul, 1) := by decide +kernel
theorem d4_9 : decode method_2_code 9 = .ok (.lsub, 1) := by decide +kernel
theorem d4_10 : decode method_2_code 10 = .ok (.lmul, 1) := by decide +kernel
theorem d4_11 : decode method_2_code 11 = .ok (.lstore_n 2, 1) := by decide +kernel
theorem d4_12 : decode method_2_code 12 = .ok (.lload_n 2, 1) := by decide +kernel
theorem d4_13 : decode method_2_code 13 = .ok (.ldc2_w 7, 3) := by decide +kernel
theorem d4_16 : decode method_2_code 16 = .ok (.lload_n 0, 1) := by decide +kernel
theorem d4_17 : decode method_2_code 17 = .ok (.lload_n 2, 1) := by decide +kernel
theorem d4_18 : decode method_2_code 18 = .ok (.lmul, 1) := by decide +kernel
theorem d4_19 : decode method_2_code 19 = .ok (.lsub, 1) := by decide +kernel
theorem d4_20 : decode method_2_code 20 = .ok (.lmul, 1) := by decide +kernel
theorem d4_21 : decode method_2_code 21 = .ok (.lstore_n 2, 1) := by decide +kernel
theorem d4_22 : decode method_2_code 22 = .ok (.lload_n 2, 1) := by decide +kernel
theorem d4_23 : decode method_2_code 23 = .ok (.ldc2_w 7, 3) := by decide +kernel
theorem d4_26 : decode method_2_code 26 = .ok (.lload_n 0, 1) := by decide +kernel
theorem d4_27 : decode method_2_code 27 = .ok (.lload_n 2, 1) := by decide +kernel
theorem d4_28 : decode method_2_code 28 = .ok (.lmul, 1) := by decide +kernel
theorem d4_29 : decode method_2_code 29 = .ok (.lsub, 1) := by decide +kernel
theorem d4_30 : decode method_2_code 30 = .ok (.lmul, 1) := by decide +kernel
theorem d4_31 : decode method_2_code 31 = .ok (.lstore_n 2, 1) := by decide +kernel
theorem d4_32 : decode method_2_code 32 = .ok (.lload_n 2, 1) := by decide +kernel
theorem d4_33 : decode method_2_code 33 = .ok (.ldc2_w 7, 3) := by decide +kernel
theorem d4_36 : decode method_2_code 36 = .ok (.lload_n 0, 1) := by decide +kernel
theorem d4_37 : decode method_2_code 37 = .ok (.lload_n 2, 1) := by decide +kernel
theorem d4_38 : decode method_2_code 38 = .ok (.lmul, 1) := by decide +kernel
theorem d4_39 : decode method_2_code 39 = .ok (.lsub, 1) := by decide +kernel
theorem d4_40 : decode method_2_code 40 = .ok (.lmul, 1) := by decide +kernel
theorem d4_41 : decode method_2_code 41 = .ok (.lstore_n 2, 1) := by decide +kernel
theorem d4_42 : decode method_2_code 42 = .ok (.lload_n 2, 1) := by decide +kernel
theorem d4_43 : decode method_2_code 43 = .ok (.ldc2_w 7, 3) := by decide +kernel
theorem d4_46 : decode method_2_code 46 = .ok (.lload_n 0, 1) := by decide +kernel
theorem d4_47 : decode method_2_code 47 = .ok (.lload_n 2, 1) := by decide +kernel
theorem d4_48 : decode method_2_code 48 = .ok (.lmul, 1) := by decide +kernel
theorem d4_49 : decode method_2_code 49 = .ok (.lsub, 1) := by decide +kernel
theorem d4_50 : decode method_2_code 50 = .ok (.lmul, 1) := by decide +kernel
theorem d4_51 : decode method_2_code 51 = .ok (.lstore_n 2, 1) := by decide +kernel
theorem d4_52 : decode method_2_code 52 = .ok (.lload_n 2, 1) := by decide +kernel
theorem d4_53 : decode method_2_code 53 = .ok (.lreturn, 1) := by decide +kernel
theorem pn_com_example_gryphon_gryphon_generate_SplitMixNextPinLaw : plainName "com/example/gryphon/gryphon/generate/SplitMixNextPinLaw" = true := by first | (simp [plainName, overriddenIn]; done) | decide +kernel
theorem ef_4 (m : MethodId) (q0 : Int64) : entryFrame m #[(.long q0)] 4 = mkF m 0 #[.val (.long q0), .second, .unset, .unset] [] := by first | (simp [entryFrame, mkF, argsToLocals, Value.category]; done) | rfl
def v4_1 (q0 : Int64) : Int64 := (q0 * ((2 : Int64) - (q0 * q0)))
def v4_2 (q0 : Int64) : Int64 := ((v4_1 q0) * ((2 : Int64) - (q0 * (v4_1 q0))))
def v4_3 (q0 : Int64) : Int64 := ((v4_2 q0) * ((2 : Int64) - (q0 * (v4_2 q0))))
def v4_4 (q0 : Int64) : Int64 := ((v4_3 q0) * ((2 : Int64) - (q0 * (v4_3 q0))))
def v4_5 (q0 : Int64) : Int64 := ((v4_4 q0) * ((2 : Int64) - (q0 * (v4_4 q0))))
def f4 (q0 : Int64) : Int64 := (v4_5 q0)
def Q4 (Z : State) (q0 : Int64) (h0 : Heap) (n0 : Nat) (v : Option Value) (h : Heap) (L : List Loc) : Prop := Fr n0 L ∧ v = some (.long (f4 q0)) ∧ h = h0
set_option maxRecDepth 65536 in
set_option maxHeartbeats 40000000 in
theorem rm4 (l : Launch) (Z : State) (a0 : Array Value) (hw : ∀ d ∈ tables_1, d.before a0 Z = true) (ws : List Jvm.Cond) (q0 : Int64) (h0 : Heap) (n0 : Nat) (Z0 : n0 ≤ h0.size) :
    MetFree l (⟨"com/example/gryphon/gryphon/generate/SplitMixNextPinLaw", "inverse", "(J)J"⟩ : MethodName) (head1 (Jvm.Cond.code (⟨"com/example/gryphon/gryphon/generate/SplitMixNextPinLaw", "inverse", "(J)J"⟩ : MethodName) method_2_code 4 (some .long) :: ws) ({ frames := 0, cells := 0, slots := 0, locals := 0 } : Room)) (fun a U => a = #[(.long q0)] ∧ Z.Warmed39 U.vm ∧ U.heap = h0) (fun _ _ _ _ _ => True) (fun _ U o U' => ∃ v L, o = .returned v ∧ Q4 Z q0 h0 n0 v U'.heap L ∧ FrameEnd U o U' L ({ frames := 0, cells := 0, slots := 0, locals := 0 } : Room).cells ({ frames := 0, cells := 0, slots := 0, locals := 0 } : Room).slots) := by
  refine MetFree.of_bodySF (plainFor_of_name pn_com_example_gryphon_gryphon_generate_SplitMixNextPinLaw) hisR ?_
  intro p e s m args below meth c s₁ Bd hml0 hP hK
  obtain ⟨rfl, hZ, hh⟩ := hP
  have hx := Bd.exec
  have hby := Bd.bytes
  have hml : c.maxLocals = 4 := hml0
  have hown : s.vm.findClass "com/example/gryphon/gryphon/generate/SplitMixNextPinLaw" = some m.cls := findClass_of_methodNamed Bd.named
  have hnm := (name_of_methodNamed Bd.named Bd.method).1
  have X0 : Stand p l e ({ frames := 0, cells := 0, slots := 0, locals := 0 } : Room) s m #[(.long q0)] below meth c s₁ [] 0 0 := Stand.of_body Bd
  have e0 : s₁.heap = h0 := by rw [← hh, Bd.state]; rfl
  have N0 := Fr.nil n0
  have pre0 : ∀ t, Steps p.tables e below (s₁.setTop (mkF m 0 #[.val (.long q0), .second, .unset, .unset] [])) t → Steps p.tables e below (s₁.setTop (entryFrame m #[(.long q0)] 4)) t := fun t k => castTop (ef_4 m q0) k
  obtain ⟨fs, hr, hrun, hended, hW, hsame⟩ := X0.leave (v := some (.long (v4_5 q0))) (fun h => by rw [Bd.returns] at h; cases h)
  refine ⟨_, _, pre0 _ ?_, hrun, hended, _, _, rfl, ?_, ⟨_, rfl⟩, hW, hsame.mono (by decide) (by decide)⟩
  · skip
    show Steps p.tables e below (s₁.setTop (mkF m 0 #[.val (.long q0), .second, .unset, .unset] [])) _
    refine XT.lloadN X0.here hx rfl (hb hby d4_0) rfl ?_
    show Steps p.tables e below (s₁.setTop (mkF m 1 #[.val (.long q0), .second, .unset, .unset] [(.long q0)])) _
    refine XT.lstoreN X0.here hx rfl (hb hby d4_1) rfl (l' := #[.val (.long q0), .second, .val (.long q0), .second]) rfl ?_
    show Steps p.tables e below (s₁.setTop (mkF m 2 #[.val (.long q0), .second, .val (.long q0), .second] [])) _
    refine XT.lloadN X0.here hx rfl (hb hby d4_2) rfl ?_
    show Steps p.tables e below (s₁.setTop (mkF m 3 #[.val (.long q0), .second, .val (.long q0), .second] [(.long q0)])) _
    refine X0.ldc2J hx hown (mvT hZ (hw _ (List.mem_of_getElem? (i := 24) rfl))) rfl (hb hby d4_3) ?_
    show Steps p.tables e below (s₁.setTop (mkF m 6 #[.val (.long q0), .second, .val (.long q0), .second] [(.long (2 : Int64)), (.long q0)])) _
    refine XT.lloadN X0.here hx rfl (hb hby d4_6) rfl ?_
    show Steps p.tables e below (s₁.setTop (mkF m 7 #[.val (.long q0), .second, .val (.long q0), .second] [(.long q0), (.long (2 : Int64)), (.long q0)])) _
    refine XT.lloadN X0.here hx rfl (hb hby d4_7) rfl ?_
    show Steps p.tables e below (s₁.setTop (mkF m 8 #[.val (.long q0), .second, .val (.long q0), .second] [(.long q0), (.long q0), (.long (2 : Int64)), (.long q0)])) _
    refine XT.lmul X0.here hx rfl (hb hby d4_8) rfl ?_
    show Steps p.tables e below (s₁.setTop (mkF m 9 #[.val (.long q0), .second, .val (.long q0), .second] [(.long (q0 * q0)), (.long (2 : Int64)), (.long q0)])) _
    refine XT.lsub X0.here hx rfl (hb hby d4_9) rfl ?_
    show Steps p.tables e below (s₁.setTop (mkF m 10 #[.val (.long q0), .second, .val (.long q0), .second] [(.long ((2 : Int64) - (q0 * q0))), (.long q0)])) _
    refine XT.lmul X0.here hx rfl (hb hby d4_10) rfl ?_
    show Steps p.tables e below (s₁.setTop (mkF m 11 #[.val (.long q0), .second, .val (.long q0), .second] [(.long (q0 * ((2 : Int64) - (q0 * q0))))])) _
    refine XT.lstoreN X0.here hx rfl (hb hby d4_11) rfl (l' := #[.val (.long q0), .second, .val (.long (v4_1 q0)), .second]) rfl ?_
    show Steps p.tables e below (s₁.setTop (mkF m 12 #[.val (.long q0), .second, .val (.long (v4_1 q0)), .second] [])) _
    refine XT.lloadN X0.here hx rfl (hb hby d4_12) rfl ?_
    show Steps p.tables e below (s₁.setTop (mkF m 13 #[.val (.long q0), .second, .val (.long (v4_1 q0)), .second] [(.long (v4_1 q0))])) _
    refine X0.ldc2J hx hown (mvT hZ (hw _ (List.mem_of_getElem? (i := 24) rfl))) rfl (hb hby d4_13) ?_
    show Steps p.tables e below (s₁.setTop (mkF m 16 #[.val (.long q0), .second, .val (.long (v4_1 q0)), .second] [(.long (2 : Int64)), (.long (v4_1 q0))])) _
    refine XT.lloadN X0.here hx rfl (hb hby d4_16) rfl ?_
    show Steps p.tables e below (s₁.setTop (mkF m 17 #[.val (.long q0), .second, .val (.long (v4_1 q0)), .second] [(.long q0), (.long (2 : Int64)), (.long (v4_1 q0))])) _
    refine XT.lloadN X0.here hx rfl (hb hby d4_17) rfl ?_
    show Steps p.tables e below (s₁.setTop (mkF m 18 #[.val (.long q0), .second, .val (.long (v4_1 q0)), .second] [(.long (v4_1 q0)), (.long q0), (.long (2 : Int64)), (.long (v4_1 q0))])) _
    refine XT.lmul X0.here hx rfl (hb hby d4_18) rfl ?_
    show Steps p.tables e below (s₁.setTop (mkF m 19 #[.val (.long q0), .second, .val (.long (v4_1 q0)), .second] [(.long (q0 * (v4_1 q0))), (.long (2 : Int64)), (.long (v4_1 q0))])) _
    refine XT.lsub X0.here hx rfl (hb hby d4_19) rfl ?_
    show Steps p.tables e below (s₁.setTop (mkF m 20 #[.val (.long q0), .second, .val (.long (v4_1 q0)), .second] [(.long ((2 : Int64) - (q0 * (v4_1 q0)))), (.long (v4_1 q0))])) _
    refine XT.lmul X0.here hx rfl (hb hby d4_20) rfl ?_
    show Steps p.tables e below (s₁.setTop (mkF m 21 #[.val (.long q0), .second, .val (.long (v4_1 q0)), .second] [(.long ((v4_1 q0) * ((2 : Int64) - (q0 * (v4_1 q0)))))])) _
    refine XT.lstoreN X0.here hx rfl (hb hby d4_21) rfl (l' := #[.val (.long q0), .second, .val (.long (v4_2 q0)), .second]) rfl ?_
    show Steps p.tables e below (s₁.setTop (mkF m 22 #[.val (.long q0), .second, .val (.long (v4_2 q0)), .second] [])) _
    refine XT.lloadN X0.here hx rfl (hb hby d4_22) rfl ?_
    show Steps p.tables e below (s₁.setTop (mkF m 23 #[.val (.long q0), .second, .val (.long (v4_2 q0)), .second] [(.long (v4_2 q0))])) _
    refine X0.ldc2J hx hown (mvT hZ (hw _ (List.mem_of_getElem? (i := 24) rfl))) rfl (hb hby d4_23) ?_
    show Steps p.tables e below (s₁.setTop (mkF m 26 #[.val (.long q0), .second, .val (.long (v4_2 q0)), .second] [(.long (2 : Int64)), (.long (v4_2 q0))])) _
    refine XT.lloadN X0.here hx rfl (hb hby d4_26) rfl ?_
    show Steps p.tables e below (s₁.setTop (mkF m 27 #[.val (.long q0), .second, .val (.long (v4_2 q0)), .second] [(.long q0), (.long (2 : Int64)), (.long (v4_2 q0))])) _
    refine XT.lloadN X0.here hx rfl (hb hby d4_27) rfl ?_
    show Steps p.tables e below (s₁.setTop (mkF m 28 #[.val (.long q0), .second, .val (.long (v4_2 q0)), .second] [(.long (v4_2 q0)), (.long q0), (.long (2 : Int64)), (.long (v4_2 q0))])) _
    refine XT.lmul X0.here hx rfl (hb hby d4_28) rfl ?_
    show Steps p.tables e below (s₁.setTop (mkF m 29 #[.val (.long q0), .second, .val (.long (v4_2 q0)), .second] [(.long (q0 * (v4_2 q0))), (.long (2 : Int64)), (.long (v4_2 q0))])) _
    refine XT.lsub X0.here hx rfl (hb hby d4_29) rfl ?_
    show Steps p.tables e below (s₁.setTop (mkF m 30 #[.val (.long q0), .second, .val (.long (v4_2 q0)), .second] [(.long ((2 : Int64) - (q0 * (v4_2 q0)))), (.long (v4_2 q0))])) _
    refine XT.lmul X0.here hx rfl (hb hby d4_30) rfl ?_
    show Steps p.tables e below (s₁.setTop (mkF m 31 #[.val (.long q0), .second, .val (.long (v4_2 q0)), .second] [(.long ((v4_2 q0) * ((2 : Int64) - (q0 * (v4_2 q0)))))])) _
    refine XT.lstoreN X0.here hx rfl (hb hby d4_31) rfl (l' := #[.val (.long q0), .second, .val (.long (v4_3 q0)), .second]) rfl ?_
    show Steps p.tables e below (s₁.setTop (mkF m 32 #[.val (.long q0), .second, .val (.long (v4_3 q0)), .second] [])) _
    refine XT.lloadN X0.here hx rfl (hb hby d4_32) rfl ?_
    show Steps p.tables e below (s₁.setTop (mkF m 33 #[.val (.long q0), .second, .val (.long (v4_3 q0)), .second] [(.long (v4_3 q0))])) _
    refine X0.ldc2J hx hown (mvT hZ (hw _ (List.mem_of_getElem? (i := 24) rfl))) rfl (hb hby d4_33) ?_
    show Steps p.tables e below (s₁.setTop (mkF m 36 #[.val (.long q0), .second, .val (.long (v4_3 q0)), .second] [(.long (2 : Int64)), (.long (v4_3 q0))])) _
    refine XT.lloadN X0.here hx rfl (hb hby d4_36) rfl ?_
    show Steps p.tables e below (s₁.setTop (mkF m 37 #[.val (.long q0), .second, .val (.long (v4_3 q0)), .second] [(.long q0), (.long (2 : Int64)), (.long (v4_3 q0))])) _
    refine XT.lloadN X0.here hx rfl (hb hby d4_37) rfl ?_
    show Steps p.tables e below (s₁.setTop (mkF m 38 #[.val (.long q0), .second, .val (.long (v4_3 q0)), .second] [(.long (v4_3 q0)), (.long q0), (.long (2 : Int64)), (.long (v4_3 q0))])) _
    refine XT.lmul X0.here hx rfl (hb hby d4_38) rfl ?_
    show Steps p.tables e below (s₁.setTop (mkF m 39 #[.val (.long q0), .second, .val (.long (v4_3 q0)), .second] [(.long (q0 * (v4_3 q0))), (.long (2 : Int64)), (.long (v4_3 q0))])) _
    refine XT.lsub X0.here hx rfl (hb hby d4_39) rfl ?_
    show Steps p.tables e below (s₁.setTop (mkF m 40 #[.val (.long q0), .second, .val (.long (v4_3 q0)), .second] [(.long ((2 : Int64) - (q0 * (v4_3 q0)))), (.long (v4_3 q0))])) _
    refine XT.lmul X0.here hx rfl (hb hby d4_40) rfl ?_
    show Steps p.tables e below (s₁.setTop (mkF m 41 #[.val (.long q0), .second, .val (.long (v4_3 q0)), .second] [(.long ((v4_3 q0) * ((2 : Int64) - (q0 * (v4_3 q0)))))])) _
    refine XT.lstoreN X0.here hx rfl (hb hby d4_41) rfl (l' := #[.val (.long q0), .second, .val (.long (v4_4 q0)), .second]) rfl ?_
    show Steps p.tables e below (s₁.setTop (mkF m 42 #[.val (.long q0), .second, .val (.long (v4_4 q0)), .second] [])) _
    refine XT.lloadN X0.here hx rfl (hb hby d4_42) rfl ?_
    show Steps p.tables e below (s₁.setTop (mkF m 43 #[.val (.long q0), .second, .val (.long (v4_4 q0)), .second] [(.long (v4_4 q0))])) _
    refine X0.ldc2J hx hown (mvT hZ (hw _ (List.mem_of_getElem? (i := 24) rfl))) rfl (hb hby d4_43) ?_
    show Steps p.tables e below (s₁.setTop (mkF m 46 #[.val (.long q0), .second, .val (.long (v4_4 q0)), .second] [(.long (2 : Int64)), (.long (v4_4 q0))])) _
    refine XT.lloadN X0.here hx rfl (hb hby d4_46) rfl ?_
    show Steps p.tables e below (s₁.setTop (mkF m 47 #[.val (.long q0), .second, .val (.long (v4_4 q0)), .second] [(.long q0), (.long (2 : Int64)), (.long (v4_4 q0))])) _
    refine XT.lloadN X0.here hx rfl (hb hby d4_47) rfl ?_
    show Steps p.tables e below (s₁.setTop (mkF m 48 #[.val (.long q0), .second, .val (.long (v4_4 q0)), .second] [(.long (v4_4 q0)), (.long q0), (.long (2 : Int64)), (.long (v4_4 q0))])) _
    refine XT.lmul X0.here hx rfl (hb hby d4_48) rfl ?_
    show Steps p.tables e below (s₁.setTop (mkF m 49 #[.val (.long q0), .second, .val (.long (v4_4 q0)), .second] [(.long (q0 * (v4_4 q0))), (.long (2 : Int64)), (.long (v4_4 q0))])) _
    refine XT.lsub X0.here hx rfl (hb hby d4_49) rfl ?_
    show Steps p.tables e below (s₁.setTop (mkF m 50 #[.val (.long q0), .second, .val (.long (v4_4 q0)), .second] [(.long ((2 : Int64) - (q0 * (v4_4 q0)))), (.long (v4_4 q0))])) _
    refine XT.lmul X0.here hx rfl (hb hby d4_50) rfl ?_
    show Steps p.tables e below (s₁.setTop (mkF m 51 #[.val (.long q0), .second, .val (.long (v4_4 q0)), .second] [(.long ((v4_4 q0) * ((2 : Int64) - (q0 * (v4_4 q0)))))])) _
    refine XT.lstoreN X0.here hx rfl (hb hby d4_51) rfl (l' := #[.val (.long q0), .second, .val (.long (v4_5 q0)), .second]) rfl ?_
    show Steps p.tables e below (s₁.setTop (mkF m 52 #[.val (.long q0), .second, .val (.long (v4_5 q0)), .second] [])) _
    refine XT.lloadN X0.here hx rfl (hb hby d4_52) rfl ?_
    show Steps p.tables e below (s₁.setTop (mkF m 53 #[.val (.long q0), .second, .val (.long (v4_5 q0)), .second] [(.long (v4_5 q0))])) _
    exact X0.lreturnOut hx Bd.returns (hb hby d4_53) hr
  · skip
    show Q4 Z q0 h0 n0 _ s₁.heap _
    rw [e0]
    exact ⟨N0, rfl, rfl⟩
theorem pd__J_J : parseMethodDescriptor "(J)J" = some ⟨[.long], some .long⟩ := by decide +kernel
theorem d5_0 : decode method_3_code 0 = .ok (.lload_n 0, 1) := by decide +kernel
theorem d5_1 : decode method_3_code 1 = .ok (.lstore_n 2, 1) := by decide +kernel
theorem d5_2 : decode method_3_code 2 = .ok (.lload_n 2, 1) := by decide +kernel
theorem d5_3 : decode method_3_code 3 = .ok (.lload_n 2, 1) := by decide +kernel
theorem d5_4 : decode method_3_code 4 = .ok (.bipush 31, 2) := by decide +kernel
theorem d5_6 : decode method_3_code 6 = .ok (.lushr, 1) := by decide +kernel
theorem d5_7 : decode method_3_code 7 = .ok (.lxor, 1) := by decide +kernel
theorem d5_8 : decode method_3_code 8 = .ok (.lload_n 2, 1) := by decide +kernel
theorem d5_9 : decode method_3_code 9 = .ok (.bipush 62, 2) := by decide +kernel
theorem d5_11 : decode method_3_code 11 = .ok (.lushr, 1) := by decide +kernel
theorem d5_12 : decode method_3_code 12 = .ok (.lxor, 1) := by decide +kernel
theorem d5_13 : decode method_3_code 13 = .ok (.lstore_n 2, 1) := by decide +kernel
theorem d5_14 : decode method_3_code 14 = .ok (.lload_n 2, 1) := by decide +kernel
theorem d5_15 : decode method_3_code 15 = .ok (.ldc2_w 11, 3) := by decide +kernel
theorem d5_18 : decode method_3_code 18 = .ok (.invokestatic 13, 3) := by decide +kernel
theorem d5_21 : decode method_3_code 21 = .ok (.lmul, 1) := by decide +kernel
theorem d5_22 : decode method_3_code 22 = .ok (.lstore_n 2, 1) := by decide +kernel
theorem d5_23 : decode method_3_code 23 = .ok (.lload_n 2, 1) := by decide +kernel
theorem d5_24 : decode method_3_code 24 = .ok (.lload_n 2, 1) := by decide +kernel
theorem d5_25 : decode method_3_code 25 = .ok (.bipush 27, 2) := by decide +kernel
theorem d5_27 : decode method_3_code 27 = .ok (.lushr, 1) := by decide +kernel
theorem d5_28 : decode method_3_code 28 = .ok (.lxor, 1) := by decide +kernel
theorem d5_29 : decode method_3_code 29 = .ok (.lload_n 2, 1) := by decide +kernel
theorem d5_30 : decode method_3_code 30 = .ok (.bipush 54, 2) := by decide +kernel
theorem d5_32 : decode method_3_code 32 = .ok (.lushr, 1) := by decide +kernel
theorem d5_33 : decode method_3_code 33 = .ok (.lxor, 1) := by decide +kernel
theorem d5_34 : decode method_3_code 34 = .ok (.lstore_n 2, 1) := by decide +kernel
theorem d5_35 : decode method_3_code 35 = .ok (.lload_n 2, 1) := by decide +kernel
theorem d5_36 : decode method_3_code 36 = .ok (.ldc2_w 17, 3) := by decide +kernel
theorem d5_39 : decode method_3_code 39 = .ok (.invokestatic 13, 3) := by decide +kernel
theorem d5_42 : decode method_3_code 42 = .ok (.lmul, 1) := by decide +kernel
theorem d5_43 : decode method_3_code 43 = .ok (.lstore_n 2, 1) := by decide +kernel
theorem d5_44 : decode method_3_code 44 = .ok (.lload_n 2, 1) := by decide +kernel
theorem d5_45 : decode method_3_code 45 = .ok (.lload_n 2, 1) := by decide +kernel
theorem d5_46 : decode method_3_code 46 = .ok (.bipush 30, 2) := by decide +kernel
theorem d5_48 : decode method_3_code 48 = .ok (.lushr, 1) := by decide +kernel
theorem d5_49 : decode method_3_code 49 = .ok (.lxor, 1) := by decide +kernel
theorem d5_50 : decode method_3_code 50 = .ok (.lload_n 2, 1) := by decide +kernel
theorem d5_51 : decode method_3_code 51 = .ok (.bipush 60, 2) := by decide +kernel
theorem d5_53 : decode method_3_code 53 = .ok (.lushr, 1) := by decide +kernel
theorem d5_54 : decode method_3_code 54 = .ok (.lxor, 1) := by decide +kernel
theorem d5_55 : decode method_3_code 55 = .ok (.lstore_n 2, 1) := by decide +kernel
theorem d5_56 : decode method_3_code 56 = .ok (.lload_n 2, 1) := by decide +kernel
theorem d5_57 : decode method_3_code 57 = .ok (.lreturn, 1) := by decide +kernel
theorem ef_5 (m : MethodId) (q0 : Int64) : entryFrame m #[(.long q0)] 4 = mkF m 0 #[.val (.long q0), .second, .unset, .unset] [] := by first | (simp [entryFrame, mkF, argsToLocals, Value.category]; done) | rfl
def v5_1 (q0 : Int64) : Int64 := ((q0 ^^^ (XT.ushrL q0 (31 : Int32))) ^^^ (XT.ushrL q0 (62 : Int32)))
def v5_2 (q0 : Int64) : Int64 := ((v5_1 q0) * (f4 (-7723592293110705685 : Int64)))
def v5_3 (q0 : Int64) : Int64 := (((v5_2 q0) ^^^ (XT.ushrL (v5_2 q0) (27 : Int32))) ^^^ (XT.ushrL (v5_2 q0) (54 : Int32)))
def v5_4 (q0 : Int64) : Int64 := ((v5_3 q0) * (f4 (-4658895280553007687 : Int64)))
def v5_5 (q0 : Int64) : Int64 := (((v5_4 q0) ^^^ (XT.ushrL (v5_4 q0) (30 : Int32))) ^^^ (XT.ushrL (v5_4 q0) (60 : Int32)))
def f5 (q0 : Int64) : Int64 := (v5_5 q0)
def Q5 (Z : State) (q0 : Int64) (h0 : Heap) (n0 : Nat) (v : Option Value) (h : Heap) (L : List Loc) : Prop := Fr n0 L ∧ v = some (.long (f5 q0)) ∧ h = h0
set_option maxRecDepth 65536 in
set_option maxHeartbeats 40000000 in
theorem rm5 (l : Launch) (Z : State) (a0 : Array Value) (hw : ∀ d ∈ tables_1, d.before a0 Z = true) (ws : List Jvm.Cond) (q0 : Int64) (h0 : Heap) (n0 : Nat) (Z0 : n0 ≤ h0.size) :
    MetFree l (⟨"com/example/gryphon/gryphon/generate/SplitMixNextPinLaw", "unmix", "(J)J"⟩ : MethodName) (head1 (Jvm.Cond.code (⟨"com/example/gryphon/gryphon/generate/SplitMixNextPinLaw", "unmix", "(J)J"⟩ : MethodName) method_3_code 4 (some .long) :: ws) ({ frames := 1, cells := 0, slots := 0, locals := 17 } : Room)) (fun a U => a = #[(.long q0)] ∧ Z.Warmed39 U.vm ∧ U.heap = h0) (fun _ _ _ _ _ => True) (fun _ U o U' => ∃ v L, o = .returned v ∧ Q5 Z q0 h0 n0 v U'.heap L ∧ FrameEnd U o U' L ({ frames := 1, cells := 0, slots := 0, locals := 17 } : Room).cells ({ frames := 1, cells := 0, slots := 0, locals := 17 } : Room).slots) := by
  refine MetFree.of_bodySF (plainFor_of_name pn_com_example_gryphon_gryphon_generate_SplitMixNextPinLaw) hisR ?_
  intro p e s m args below meth c s₁ Bd hml0 hP hK
  obtain ⟨rfl, hZ, hh⟩ := hP
  have hx := Bd.exec
  have hby := Bd.bytes
  have hml : c.maxLocals = 4 := hml0
  have hown : s.vm.findClass "com/example/gryphon/gryphon/generate/SplitMixNextPinLaw" = some m.cls := findClass_of_methodNamed Bd.named
  have hnm := (name_of_methodNamed Bd.named Bd.method).1
  have X0 : Stand p l e ({ frames := 1, cells := 0, slots := 0, locals := 17 } : Room) s m #[(.long q0)] below meth c s₁ [] 0 0 := Stand.of_body Bd
  have e0 : s₁.heap = h0 := by rw [← hh, Bd.state]; rfl
  have N0 := Fr.nil n0
  have pre0 : ∀ t, Steps p.tables e below (s₁.setTop (mkF m 0 #[.val (.long q0), .second, .unset, .unset] [])) t → Steps p.tables e below (s₁.setTop (entryFrame m #[(.long q0)] 4)) t := fun t k => castTop (ef_5 m q0) k
  obtain ⟨_, _, ⟨T1, L1, k1, n1⟩, -, X1, ⟨Lc1, hQ1, l1, y1, z1⟩, st1⟩ := Jvm.LawKit.callS X0 hx (y := (⟨"com/example/gryphon/gryphon/generate/SplitMixNextPinLaw", "inverse", "(J)J"⟩ : MethodName)) hown (mvT hZ (hw _ (List.mem_of_getElem? (i := 20) rfl))) (mvT hZ (hw _ (List.mem_of_getElem? (i := 21) rfl))) (mvT hZ (hw _ (List.mem_of_getElem? (i := 22) rfl))) (mvT hZ (hw _ (List.mem_of_getElem? (i := 23) rfl))) (by decide) (backOf (W := 2) (rm4 l Z a0 hw [] (-7723592293110705685 : Int64) h0 n0 Z0) hZ (hw _ (List.mem_of_getElem? (i := 23) rfl)) (hw _ (List.mem_of_getElem? (i := 22) rfl)) (by decide) (by decide)) (g := (mkF m 18 #[.val (.long q0), .second, .val (.long (v5_1 q0)), .second] [(.long (-7723592293110705685 : Int64)), (.long (v5_1 q0))])) rfl (by rw [hml]; rfl) (argsL := [(.long (-7723592293110705685 : Int64))]) (rest := [(.long (v5_1 q0))]) (lenOf pd__J_J rfl) rfl (by show 2 * 0 + _ ≤ _; exact Nat.le_of_eq rfl) (hb hby d5_18) (fun _ _ => ⟨rfl, e0, (by decide : 0 + 0 ≤ _), (by decide : 0 + 0 ≤ _)⟩)
  dsimp only [Pt.U, Pt.locs, Pt.cells, Pt.slots] at X1 l1 y1 z1 st1 hQ1
  subst l1 y1 z1
  obtain ⟨N1q, rfl, e1⟩ := hQ1
  have N1 := Fr.app N0 N1q
  obtain ⟨_, _, ⟨T2, L2, k2, n2⟩, -, X2, ⟨Lc2, hQ2, l2, y2, z2⟩, st2⟩ := Jvm.LawKit.callS X1 hx (y := (⟨"com/example/gryphon/gryphon/generate/SplitMixNextPinLaw", "inverse", "(J)J"⟩ : MethodName)) hown (mvT hZ (hw _ (List.mem_of_getElem? (i := 20) rfl))) (mvT hZ (hw _ (List.mem_of_getElem? (i := 21) rfl))) (mvT hZ (hw _ (List.mem_of_getElem? (i := 22) rfl))) (mvT hZ (hw _ (List.mem_of_getElem? (i := 23) rfl))) (by decide) (backOf (W := 2) (rm4 l Z a0 hw [] (-4658895280553007687 : Int64) h0 n0 Z0) hZ (hw _ (List.mem_of_getElem? (i := 23) rfl)) (hw _ (List.mem_of_getElem? (i := 22) rfl)) (by decide) (by decide)) (g := (mkF m 39 #[.val (.long q0), .second, .val (.long (v5_3 q0)), .second] [(.long (-4658895280553007687 : Int64)), (.long (v5_3 q0))])) rfl (by rw [hml]; rfl) (argsL := [(.long (-4658895280553007687 : Int64))]) (rest := [(.long (v5_3 q0))]) (lenOf pd__J_J rfl) rfl (by show 2 * 0 + _ ≤ _; exact Nat.le_of_eq rfl) (hb hby d5_39) (fun _ _ => ⟨rfl, e1, (by decide : 0 + 0 ≤ _), (by decide : 0 + 0 ≤ _)⟩)
  dsimp only [Pt.U, Pt.locs, Pt.cells, Pt.slots] at X2 l2 y2 z2 st2 hQ2
  subst l2 y2 z2
  obtain ⟨N2q, rfl, e2⟩ := hQ2
  have N2 := Fr.app N1 N2q
  obtain ⟨fs, hr, hrun, hended, hW, hsame⟩ := X2.leave (v := some (.long (v5_5 q0))) (fun h => by rw [Bd.returns] at h; cases h)
  refine ⟨_, _, pre0 _ ?_, hrun, hended, _, _, rfl, ?_, ⟨_, rfl⟩, hW, hsame.mono (by decide) (by decide)⟩
  · skip
    show Steps p.tables e below (s₁.setTop (mkF m 0 #[.val (.long q0), .second, .unset, .unset] [])) _
    refine XT.lloadN X0.here hx rfl (hb hby d5_0) rfl ?_
    show Steps p.tables e below (s₁.setTop (mkF m 1 #[.val (.long q0), .second, .unset, .unset] [(.long q0)])) _
    refine XT.lstoreN X0.here hx rfl (hb hby d5_1) rfl (l' := #[.val (.long q0), .second, .val (.long q0), .second]) rfl ?_
    show Steps p.tables e below (s₁.setTop (mkF m 2 #[.val (.long q0), .second, .val (.long q0), .second] [])) _
    refine XT.lloadN X0.here hx rfl (hb hby d5_2) rfl ?_
    show Steps p.tables e below (s₁.setTop (mkF m 3 #[.val (.long q0), .second, .val (.long q0), .second] [(.long q0)])) _
    refine XT.lloadN X0.here hx rfl (hb hby d5_3) rfl ?_
    show Steps p.tables e below (s₁.setTop (mkF m 4 #[.val (.long q0), .second, .val (.long q0), .second] [(.long q0), (.long q0)])) _
    refine XT.bipushV X0.here hx rfl (31 : Int32) (hb hby d5_4) (by decide) ?_
    show Steps p.tables e below (s₁.setTop (mkF m 6 #[.val (.long q0), .second, .val (.long q0), .second] [(.int (31 : Int32)), (.long q0), (.long q0)])) _
    refine XT.lushr X0.here hx rfl (hb hby d5_6) rfl ?_
    show Steps p.tables e below (s₁.setTop (mkF m 7 #[.val (.long q0), .second, .val (.long q0), .second] [(.long (XT.ushrL q0 (31 : Int32))), (.long q0)])) _
    refine XT.lxor X0.here hx rfl (hb hby d5_7) rfl ?_
    show Steps p.tables e below (s₁.setTop (mkF m 8 #[.val (.long q0), .second, .val (.long q0), .second] [(.long (q0 ^^^ (XT.ushrL q0 (31 : Int32))))])) _
    refine XT.lloadN X0.here hx rfl (hb hby d5_8) rfl ?_
    show Steps p.tables e below (s₁.setTop (mkF m 9 #[.val (.long q0), .second, .val (.long q0), .second] [(.long q0), (.long (q0 ^^^ (XT.ushrL q0 (31 : Int32))))])) _
    refine XT.bipushV X0.here hx rfl (62 : Int32) (hb hby d5_9) (by decide) ?_
    show Steps p.tables e below (s₁.setTop (mkF m 11 #[.val (.long q0), .second, .val (.long q0), .second] [(.int (62 : Int32)), (.long q0), (.long (q0 ^^^ (XT.ushrL q0 (31 : Int32))))])) _
    refine XT.lushr X0.here hx rfl (hb hby d5_11) rfl ?_
    show Steps p.tables e below (s₁.setTop (mkF m 12 #[.val (.long q0), .second, .val (.long q0), .second] [(.long (XT.ushrL q0 (62 : Int32))), (.long (q0 ^^^ (XT.ushrL q0 (31 : Int32))))])) _
    refine XT.lxor X0.here hx rfl (hb hby d5_12) rfl ?_
    show Steps p.tables e below (s₁.setTop (mkF m 13 #[.val (.long q0), .second, .val (.long q0), .second] [(.long ((q0 ^^^ (XT.ushrL q0 (31 : Int32))) ^^^ (XT.ushrL q0 (62 : Int32))))])) _
    refine XT.lstoreN X0.here hx rfl (hb hby d5_13) rfl (l' := #[.val (.long q0), .second, .val (.long (v5_1 q0)), .second]) rfl ?_
    show Steps p.tables e below (s₁.setTop (mkF m 14 #[.val (.long q0), .second, .val (.long (v5_1 q0)), .second] [])) _
    refine XT.lloadN X0.here hx rfl (hb hby d5_14) rfl ?_
    show Steps p.tables e below (s₁.setTop (mkF m 15 #[.val (.long q0), .second, .val (.long (v5_1 q0)), .second] [(.long (v5_1 q0))])) _
    refine X0.ldc2J hx hown (mvT hZ (hw _ (List.mem_of_getElem? (i := 25) rfl))) rfl (hb hby d5_15) ?_
    show Steps p.tables e below (s₁.setTop (mkF m 18 #[.val (.long q0), .second, .val (.long (v5_1 q0)), .second] [(.long (-7723592293110705685 : Int64)), (.long (v5_1 q0))])) _
    refine st1 _ ?_
    show Steps p.tables e below (T1.setTop (mkF m 21 #[.val (.long q0), .second, .val (.long (v5_1 q0)), .second] [(.long (f4 (-7723592293110705685 : Int64))), (.long (v5_1 q0))])) _
    refine XT.lmul X1.here hx rfl (hb hby d5_21) rfl ?_
    show Steps p.tables e below (T1.setTop (mkF m 22 #[.val (.long q0), .second, .val (.long (v5_1 q0)), .second] [(.long ((v5_1 q0) * (f4 (-7723592293110705685 : Int64))))])) _
    refine XT.lstoreN X1.here hx rfl (hb hby d5_22) rfl (l' := #[.val (.long q0), .second, .val (.long (v5_2 q0)), .second]) rfl ?_
    show Steps p.tables e below (T1.setTop (mkF m 23 #[.val (.long q0), .second, .val (.long (v5_2 q0)), .second] [])) _
    refine XT.lloadN X1.here hx rfl (hb hby d5_23) rfl ?_
    show Steps p.tables e below (T1.setTop (mkF m 24 #[.val (.long q0), .second, .val (.long (v5_2 q0)), .second] [(.long (v5_2 q0))])) _
    refine XT.lloadN X1.here hx rfl (hb hby d5_24) rfl ?_
    show Steps p.tables e below (T1.setTop (mkF m 25 #[.val (.long q0), .second, .val (.long (v5_2 q0)), .second] [(.long (v5_2 q0)), (.long (v5_2 q0))])) _
    refine XT.bipushV X1.here hx rfl (27 : Int32) (hb hby d5_25) (by decide) ?_
    show Steps p.tables e below (T1.setTop (mkF m 27 #[.val (.long q0), .second, .val (.long (v5_2 q0)), .second] [(.int (27 : Int32)), (.long (v5_2 q0)), (.long (v5_2 q0))])) _
    refine XT.lushr X1.here hx rfl (hb hby d5_27) rfl ?_
    show Steps p.tables e below (T1.setTop (mkF m 28 #[.val (.long q0), .second, .val (.long (v5_2 q0)), .second] [(.long (XT.ushrL (v5_2 q0) (27 : Int32))), (.long (v5_2 q0))])) _
    refine XT.lxor X1.here hx rfl (hb hby d5_28) rfl ?_
    show Steps p.tables e below (T1.setTop (mkF m 29 #[.val (.long q0), .second, .val (.long (v5_2 q0)), .second] [(.long ((v5_2 q0) ^^^ (XT.ushrL (v5_2 q0) (27 : Int32))))])) _
    refine XT.lloadN X1.here hx rfl (hb hby d5_29) rfl ?_
    show Steps p.tables e below (T1.setTop (mkF m 30 #[.val (.long q0), .second, .val (.long (v5_2 q0)), .second] [(.long (v5_2 q0)), (.long ((v5_2 q0) ^^^ (XT.ushrL (v5_2 q0) (27 : Int32))))])) _
    refine XT.bipushV X1.here hx rfl (54 : Int32) (hb hby d5_30) (by decide) ?_
    show Steps p.tables e below (T1.setTop (mkF m 32 #[.val (.long q0), .second, .val (.long (v5_2 q0)), .second] [(.int (54 : Int32)), (.long (v5_2 q0)), (.long ((v5_2 q0) ^^^ (XT.ushrL (v5_2 q0) (27 : Int32))))])) _
    refine XT.lushr X1.here hx rfl (hb hby d5_32) rfl ?_
    show Steps p.tables e below (T1.setTop (mkF m 33 #[.val (.long q0), .second, .val (.long (v5_2 q0)), .second] [(.long (XT.ushrL (v5_2 q0) (54 : Int32))), (.long ((v5_2 q0) ^^^ (XT.ushrL (v5_2 q0) (27 : Int32))))])) _
    refine XT.lxor X1.here hx rfl (hb hby d5_33) rfl ?_
    show Steps p.tables e below (T1.setTop (mkF m 34 #[.val (.long q0), .second, .val (.long (v5_2 q0)), .second] [(.long (((v5_2 q0) ^^^ (XT.ushrL (v5_2 q0) (27 : Int32))) ^^^ (XT.ushrL (v5_2 q0) (54 : Int32))))])) _
    refine XT.lstoreN X1.here hx rfl (hb hby d5_34) rfl (l' := #[.val (.long q0), .second, .val (.long (v5_3 q0)), .second]) rfl ?_
    show Steps p.tables e below (T1.setTop (mkF m 35 #[.val (.long q0), .second, .val (.long (v5_3 q0)), .second] [])) _
    refine XT.lloadN X1.here hx rfl (hb hby d5_35) rfl ?_
    show Steps p.tables e below (T1.setTop (mkF m 36 #[.val (.long q0), .second, .val (.long (v5_3 q0)), .second] [(.long (v5_3 q0))])) _
    refine X1.ldc2J hx hown (mvT hZ (hw _ (List.mem_of_getElem? (i := 19) rfl))) rfl (hb hby d5_36) ?_
    show Steps p.tables e below (T1.setTop (mkF m 39 #[.val (.long q0), .second, .val (.long (v5_3 q0)), .second] [(.long (-4658895280553007687 : Int64)), (.long (v5_3 q0))])) _
    refine st2 _ ?_
    show Steps p.tables e below (T2.setTop (mkF m 42 #[.val (.long q0), .second, .val (.long (v5_3 q0)), .second] [(.long (f4 (-4658895280553007687 : Int64))), (.long (v5_3 q0))])) _
    refine XT.lmul X2.here hx rfl (hb hby d5_42) rfl ?_
    show Steps p.tables e below (T2.setTop (mkF m 43 #[.val (.long q0), .second, .val (.long (v5_3 q0)), .second] [(.long ((v5_3 q0) * (f4 (-4658895280553007687 : Int64))))])) _
    refine XT.lstoreN X2.here hx rfl (hb hby d5_43) rfl (l' := #[.val (.long q0), .second, .val (.long (v5_4 q0)), .second]) rfl ?_
    show Steps p.tables e below (T2.setTop (mkF m 44 #[.val (.long q0), .second, .val (.long (v5_4 q0)), .second] [])) _
    refine XT.lloadN X2.here hx rfl (hb hby d5_44) rfl ?_
    show Steps p.tables e below (T2.setTop (mkF m 45 #[.val (.long q0), .second, .val (.long (v5_4 q0)), .second] [(.long (v5_4 q0))])) _
    refine XT.lloadN X2.here hx rfl (hb hby d5_45) rfl ?_
    show Steps p.tables e below (T2.setTop (mkF m 46 #[.val (.long q0), .second, .val (.long (v5_4 q0)), .second] [(.long (v5_4 q0)), (.long (v5_4 q0))])) _
    refine XT.bipushV X2.here hx rfl (30 : Int32) (hb hby d5_46) (by decide) ?_
    show Steps p.tables e below (T2.setTop (mkF m 48 #[.val (.long q0), .second, .val (.long (v5_4 q0)), .second] [(.int (30 : Int32)), (.long (v5_4 q0)), (.long (v5_4 q0))])) _
    refine XT.lushr X2.here hx rfl (hb hby d5_48) rfl ?_
    show Steps p.tables e below (T2.setTop (mkF m 49 #[.val (.long q0), .second, .val (.long (v5_4 q0)), .second] [(.long (XT.ushrL (v5_4 q0) (30 : Int32))), (.long (v5_4 q0))])) _
    refine XT.lxor X2.here hx rfl (hb hby d5_49) rfl ?_
    show Steps p.tables e below (T2.setTop (mkF m 50 #[.val (.long q0), .second, .val (.long (v5_4 q0)), .second] [(.long ((v5_4 q0) ^^^ (XT.ushrL (v5_4 q0) (30 : Int32))))])) _
    refine XT.lloadN X2.here hx rfl (hb hby d5_50) rfl ?_
    show Steps p.tables e below (T2.setTop (mkF m 51 #[.val (.long q0), .second, .val (.long (v5_4 q0)), .second] [(.long (v5_4 q0)), (.long ((v5_4 q0) ^^^ (XT.ushrL (v5_4 q0) (30 : Int32))))])) _
    refine XT.bipushV X2.here hx rfl (60 : Int32) (hb hby d5_51) (by decide) ?_
    show Steps p.tables e below (T2.setTop (mkF m 53 #[.val (.long q0), .second, .val (.long (v5_4 q0)), .second] [(.int (60 : Int32)), (.long (v5_4 q0)), (.long ((v5_4 q0) ^^^ (XT.ushrL (v5_4 q0) (30 : Int32))))])) _
    refine XT.lushr X2.here hx rfl (hb hby d5_53) rfl ?_
    show Steps p.tables e below (T2.setTop (mkF m 54 #[.val (.long q0), .second, .val (.long (v5_4 q0)), .second] [(.long (XT.ushrL (v5_4 q0) (60 : Int32))), (.long ((v5_4 q0) ^^^ (XT.ushrL (v5_4 q0) (30 : Int32))))])) _
    refine XT.lxor X2.here hx rfl (hb hby d5_54) rfl ?_
    show Steps p.tables e below (T2.setTop (mkF m 55 #[.val (.long q0), .second, .val (.long (v5_4 q0)), .second] [(.long (((v5_4 q0) ^^^ (XT.ushrL (v5_4 q0) (30 : Int32))) ^^^ (XT.ushrL (v5_4 q0) (60 : Int32))))])) _
    refine XT.lstoreN X2.here hx rfl (hb hby d5_55) rfl (l' := #[.val (.long q0), .second, .val (.long (v5_5 q0)), .second]) rfl ?_
    show Steps p.tables e below (T2.setTop (mkF m 56 #[.val (.long q0), .second, .val (.long (v5_5 q0)), .second] [])) _
    refine XT.lloadN X2.here hx rfl (hb hby d5_56) rfl ?_
    show Steps p.tables e below (T2.setTop (mkF m 57 #[.val (.long q0), .second, .val (.long (v5_5 q0)), .second] [(.long (v5_5 q0))])) _
    exact X2.lreturnOut hx Bd.returns (hb hby d5_57) hr
  · skip
    show Q5 Z q0 h0 n0 _ T2.heap _
    rw [e2]
    exact ⟨N2, rfl, rfl⟩
theorem pd__J_V : parseMethodDescriptor "(J)V" = some ⟨[.long], none⟩ := by decide +kernel
theorem pd___J : parseMethodDescriptor "()J" = some ⟨[], some .long⟩ := by decide +kernel
theorem ef_0 (m : MethodId) (q0 : Int64) : entryFrame m #[(.long q0)] maxLocals = mkF m 0 #[.val (.long q0), .second, .unset, .unset, .unset, .unset, .unset, .unset] [] := by first | (simp [entryFrame, mkF, argsToLocals, Value.category, maxLocals]; done) | rfl
def v0_1 (q0 : Int64) : Int64 := (f3 q0)
def v0_2 (q0 : Int64) : Int64 := (f3 (q0 + (-7046029254386353131 : Int64)))
def v0_3 (q0 : Int64) : Int64 := ((-4658895280553007687 : Int64) * (f4 (-4658895280553007687 : Int64)))
def v0_4 (q0 : Int64) : Int64 := ((-7723592293110705685 : Int64) * (f4 (-7723592293110705685 : Int64)))
def v0_5 (q0 : Int64) : Int32 := (if (v0_3 q0) = (1 : Int64) then (if (v0_4 q0) = (1 : Int64) then (1 : Int32) else (0 : Int32)) else (0 : Int32))
def v0_6 (q0 : Int64) : Int64 := (q0 + (-7046029254386353131 : Int64))
def v0_7 (q0 : Int64) : Int64 := (f5 (v0_1 q0))
def v0_8 (q0 : Int64) : Int64 := (q0 + (4354685564936845354 : Int64))
def v0_9 (q0 : Int64) : Int64 := (f5 (v0_2 q0))
def v0_10 (q0 : Int64) : Int32 := (if (v0_5 q0) = (0 : Int32) then (0 : Int32) else (if (v0_7 q0) = (v0_6 q0) then (if (v0_9 q0) = (v0_8 q0) then (1 : Int32) else (0 : Int32)) else (0 : Int32)))
/-own-/
theorem own_unx (z : BitVec 64) (k : Nat) (hk : 64 ≤ 3 * k) : ((z ^^^ (z >>> k)) ^^^ ((z ^^^ (z >>> k)) >>> k)) ^^^ ((z ^^^ (z >>> k)) >>> (2 * k)) = z := by
  apply BitVec.eq_of_getLsbD_eq
  intro i hi
  have e1 : k + (k + i) = 2 * k + i := by omega
  have e2 : z.getLsbD (k + (2 * k + i)) = false := BitVec.getLsbD_of_ge _ _ (by omega)
  simp only [BitVec.getLsbD_xor, BitVec.getLsbD_ushiftRight, e1, e2]
  cases z.getLsbD i <;> cases z.getLsbD (k + i) <;> cases z.getLsbD (2 * k + i) <;> rfl
theorem own_31 (z : Int64) : ((z ^^^ (XT.ushrL z (31 : Int32))) ^^^ (XT.ushrL (z ^^^ (XT.ushrL z (31 : Int32))) (31 : Int32))) ^^^ (XT.ushrL (z ^^^ (XT.ushrL z (31 : Int32))) (62 : Int32)) = z :=
  Int64.toBitVec_inj.mp (own_unx z.toBitVec 31 (by decide))
theorem own_27 (z : Int64) : ((z ^^^ (XT.ushrL z (27 : Int32))) ^^^ (XT.ushrL (z ^^^ (XT.ushrL z (27 : Int32))) (27 : Int32))) ^^^ (XT.ushrL (z ^^^ (XT.ushrL z (27 : Int32))) (54 : Int32)) = z :=
  Int64.toBitVec_inj.mp (own_unx z.toBitVec 27 (by decide))
theorem own_30 (z : Int64) : ((z ^^^ (XT.ushrL z (30 : Int32))) ^^^ (XT.ushrL (z ^^^ (XT.ushrL z (30 : Int32))) (30 : Int32))) ^^^ (XT.ushrL (z ^^^ (XT.ushrL z (30 : Int32))) (60 : Int32)) = z :=
  Int64.toBitVec_inj.mp (own_unx z.toBitVec 30 (by decide))
theorem own_i1 : (-4658895280553007687 : Int64) * f4 (-4658895280553007687 : Int64) = 1 := by decide +kernel
theorem own_i2 : (-7723592293110705685 : Int64) * f4 (-7723592293110705685 : Int64) = 1 := by decide +kernel
theorem own_un (s : Int64) : f5 (f3 s) = v3_1 s := by
  have a1 : v5_1 (f3 s) = v3_3 s := own_31 (v3_3 s)
  have a2 : v5_2 (f3 s) = v3_2 s ^^^ XT.ushrL (v3_2 s) (27 : Int32) := by
    unfold v5_2
    rw [a1]
    unfold v3_3
    rw [Int64.mul_assoc, own_i2, Int64.mul_one]
  have a3 : v5_3 (f3 s) = v3_2 s := by
    unfold v5_3
    rw [a2]
    exact own_27 (v3_2 s)
  have a4 : v5_4 (f3 s) = v3_1 s ^^^ XT.ushrL (v3_1 s) (30 : Int32) := by
    unfold v5_4
    rw [a3]
    unfold v3_2
    rw [Int64.mul_assoc, own_i1, Int64.mul_one]
  show v5_5 (f3 s) = _
  unfold v5_5
  rw [a4]
  exact own_30 (v3_1 s)
theorem own_law (q0 : Int64) : v0_10 q0 = (1 : Int32) := by
  have e1 : v0_5 q0 = 1 := (if_pos own_i1).trans (if_pos own_i2)
  have e2 : v0_7 q0 = v0_6 q0 := own_un q0
  have e3 : v0_9 q0 = v0_8 q0 := by
    show f5 (f3 _) = _
    rw [own_un]
    show q0 + _ + _ = q0 + _
    rw [Int64.add_assoc]
    have : (-7046029254386353131 : Int64) + (-7046029254386353131 : Int64) = (4354685564936845354 : Int64) := by decide
    rw [this]
  refine (if_neg ?_).trans ((if_pos e2).trans (if_pos e3))
  rw [e1]; decide
def Q0 (Z : State) (q0 : Int64) (h0 : Heap) (n0 : Nat) (v : Option Value) (h : Heap) (L : List Loc) : Prop := v = some (.int (1 : Int32)) ∧ Fr n0 L
set_option maxRecDepth 65536 in
set_option maxHeartbeats 40000000 in
theorem rm0 (l : Launch) (Z : State) (a0 : Array Value) (hw : ∀ d ∈ tables_1, d.before a0 Z = true) (ws : List Jvm.Cond) (q0 : Int64) (h0 : Heap) (n0 : Nat) (Z0 : n0 ≤ h0.size) :
    MetFree l x (head1 (Jvm.Cond.code x code maxLocals ret :: ws) room_1) (fun a U => a = #[(.long q0)] ∧ Z.Warmed39 U.vm ∧ U.heap = h0) (fun _ _ _ _ _ => True) (fun _ U o U' => ∃ v L, o = .returned v ∧ Q0 Z q0 h0 n0 v U'.heap L ∧ FrameEnd U o U' L room_1.cells room_1.slots) := by
  refine MetFree.of_bodySF (plainFor_of_name pn_com_example_gryphon_gryphon_generate_SplitMixNextPinLaw) hisR ?_
  intro p e s m args below meth c s₁ Bd hml0 hP hK
  obtain ⟨rfl, hZ, hh⟩ := hP
  have hx := Bd.exec
  have hby := Bd.bytes
  have hml : c.maxLocals = 8 := hml0
  have hown : s.vm.findClass "com/example/gryphon/gryphon/generate/SplitMixNextPinLaw" = some m.cls := findClass_of_methodNamed Bd.named
  have hnm := (name_of_methodNamed Bd.named Bd.method).1
  have X0 : Stand p l e room_1 s m #[(.long q0)] below meth c s₁ [] 0 0 := Stand.of_body Bd
  have e0 : s₁.heap = h0 := by rw [← hh, Bd.state]; rfl
  have N0 := Fr.nil n0
  have pre0 : ∀ t, Steps p.tables e below (s₁.setTop (mkF m 0 #[.val (.long q0), .second, .unset, .unset, .unset, .unset, .unset, .unset] [])) t → Steps p.tables e below (s₁.setTop (entryFrame m #[(.long q0)] maxLocals)) t := fun t k => castTop (ef_0 m q0) k
  obtain ⟨T1, h1, X1, e1, E1, A1, D1, -, st1⟩ := newO X0 hx hZ hown (hw _ (List.mem_of_getElem? (i := 0) rfl)) (hw _ (List.mem_of_getElem? (i := 1) rfl)) (hw _ (List.mem_of_getElem? (i := 2) rfl)) e0 (g := (mkF m 0 #[.val (.long q0), .second, .unset, .unset, .unset, .unset, .unset, .unset] [])) rfl (hb hby at_0) (by decide) (by decide)
  obtain ⟨b1, gz1⟩ : ∃ z, z = h0.size := ⟨_, rfl⟩
  rw [← gz1] at A1 D1 st1
  have g2 : n0 ≤ b1 := Nat.le_trans Z0 (Nat.le_of_eq gz1.symm)
  have sz3 : h0.size ≤ b1 := Nat.le_trans (Nat.le_refl h0.size) (Nat.le_of_eq gz1.symm)
  have z4 : n0 ≤ h1.size := Nat.le_trans Z0 E1.1
  have hs5 : h0.size ≤ h1.size := Nat.le_trans (Nat.le_refl h0.size) E1.1
  have F1_state : Fld Z h1 b1 "com/example/gryphon/gryphon/generate/SplitMix" "state" "J" (.long (0 : Int64)) := D1 (Or.inl (hw _ (List.mem_of_getElem? (i := 10) rfl))) (ty := .long) (by decide)
  obtain ⟨_, _, ⟨T6, L6, k6, n6⟩, -, X6, ⟨Lc6, hQ6, l6, y6, z6⟩, st6⟩ := X1.specialBack hx (y := (⟨"com/example/gryphon/gryphon/generate/SplitMix", "<init>", "(J)V"⟩ : MethodName)) rfl hown (mvT hZ (hw _ (List.mem_of_getElem? (i := 3) rfl))) (mvT hZ (hw _ (List.mem_of_getElem? (i := 4) rfl))) (mvT hZ (hw _ (List.mem_of_getElem? (i := 5) rfl))) (by decide) (backOf (W := 1) (rm1 l Z a0 hw [] b1 q0 (.long (0 : Int64)) h1 n0 z4 A1 F1_state g2) hZ (hw _ (List.mem_of_getElem? (i := 5) rfl)) (hw _ (List.mem_of_getElem? (i := 2) rfl)) (by decide) (by decide)) (g := (mkF m 5 #[.val (.long q0), .second, .unset, .unset, .unset, .unset, .unset, .unset] [(.long q0), (.ref b1), (.ref b1)])) rfl (by rw [hml]; rfl) (Steps.refl _) (a := b1) (argsL := [(.long q0)]) (rest := [(.ref b1)]) (lenOf pd__J_V rfl) rfl (by show 2 * 0 + _ ≤ _; exact Nat.le_of_eq rfl) (hb hby at_5) (fun _ _ => ⟨rfl, e1, (by decide : 1 + 0 ≤ _), (by decide : 1 + 0 ≤ _)⟩)
  dsimp only [Pt.U, Pt.locs, Pt.cells, Pt.slots] at X6 l6 y6 z6 st6 hQ6
  subst l6 y6 z6
  obtain ⟨N6q, rfl, K6, po6_0, po6_1⟩ := hQ6
  have z7 : n0 ≤ T6.heap.size := Nat.le_trans z4 K6.1
  have hs8 : h0.size ≤ T6.heap.size := Nat.le_trans hs5 K6.1
  have N6 := Fr.app N0 N6q
  obtain ⟨cq9, kq9, q9a, q9b, q9c⟩ := isOf hZ rfl po6_0
  obtain ⟨_, _, ⟨T9, L9, k9, n9⟩, -, X9, ⟨Lc9, hQ9, l9, y9, z9⟩, st9⟩ := X6.virtualBack hx (y := (⟨"com/example/gryphon/gryphon/generate/SplitMix", "next", "()J"⟩ : MethodName)) (z := (⟨"com/example/gryphon/gryphon/generate/SplitMix", "next", "()J"⟩ : MethodName)) hown (mvT hZ (hw _ (List.mem_of_getElem? (i := 11) rfl))) (mvT hZ (hw _ (List.mem_of_getElem? (i := 12) rfl))) (notFace_of_selects (args := #[]) (mvT hZ (hw _ (List.mem_of_getElem? (i := 14) rfl)))) (mvT hZ (hw _ (List.mem_of_getElem? (i := 14) rfl))) (mvT hZ (hw _ (List.mem_of_getElem? (i := 13) rfl))) (by decide) (backOf (W := 0) (rm3 l Z a0 hw [] b1 q0 T6.heap n0 z7 po6_1 po6_0 g2) hZ (hw _ (List.mem_of_getElem? (i := 15) rfl)) (hw _ (List.mem_of_getElem? (i := 2) rfl)) (by decide) (by decide)) q9a q9c (g := (mkF m 10 #[.val (.long q0), .second, .val (.ref b1), .unset, .unset, .unset, .unset, .unset] [(.ref b1)])) rfl (by rw [hml]; rfl) (Steps.refl _) (argsL := []) (rest := []) (lenOf pd___J rfl) rfl (by show 2 * 0 + _ ≤ _; exact Nat.le_of_eq rfl) (hb hby at_10) (fun _ _ => ⟨rfl, rfl, (by decide : 1 + 0 ≤ _), (by decide : 1 + 0 ≤ _)⟩)
  dsimp only [Pt.U, Pt.locs, Pt.cells, Pt.slots] at X9 l9 y9 z9 st9 hQ9
  subst l9 y9 z9
  obtain ⟨N9q, rfl, K9, po9_0, po9_1⟩ := hQ9
  have z10 : n0 ≤ T9.heap.size := Nat.le_trans z7 K9.1
  have hs11 : h0.size ≤ T9.heap.size := Nat.le_trans hs8 K9.1
  have N9 := Fr.app N6 N9q
  obtain ⟨cq12, kq12, q12a, q12b, q12c⟩ := isOf hZ rfl po9_0
  obtain ⟨_, _, ⟨T12, L12, k12, n12⟩, -, X12, ⟨Lc12, hQ12, l12, y12, z12⟩, st12⟩ := X9.virtualBack hx (y := (⟨"com/example/gryphon/gryphon/generate/SplitMix", "next", "()J"⟩ : MethodName)) (z := (⟨"com/example/gryphon/gryphon/generate/SplitMix", "next", "()J"⟩ : MethodName)) hown (mvT hZ (hw _ (List.mem_of_getElem? (i := 11) rfl))) (mvT hZ (hw _ (List.mem_of_getElem? (i := 12) rfl))) (notFace_of_selects (args := #[]) (mvT hZ (hw _ (List.mem_of_getElem? (i := 14) rfl)))) (mvT hZ (hw _ (List.mem_of_getElem? (i := 14) rfl))) (mvT hZ (hw _ (List.mem_of_getElem? (i := 13) rfl))) (by decide) (backOf (W := 0) (rm3 l Z a0 hw [] b1 (q0 + (-7046029254386353131 : Int64)) T9.heap n0 z10 po9_1 po9_0 g2) hZ (hw _ (List.mem_of_getElem? (i := 15) rfl)) (hw _ (List.mem_of_getElem? (i := 2) rfl)) (by decide) (by decide)) q12a q12c (g := (mkF m 15 #[.val (.long q0), .second, .val (.ref b1), .val (.long (v0_1 q0)), .second, .unset, .unset, .unset] [(.ref b1)])) rfl (by rw [hml]; rfl) (Steps.refl _) (argsL := []) (rest := []) (lenOf pd___J rfl) rfl (by show 2 * 0 + _ ≤ _; exact Nat.le_of_eq rfl) (hb hby at_15) (fun _ _ => ⟨rfl, rfl, (by decide : 1 + 0 ≤ _), (by decide : 1 + 0 ≤ _)⟩)
  dsimp only [Pt.U, Pt.locs, Pt.cells, Pt.slots] at X12 l12 y12 z12 st12 hQ12
  subst l12 y12 z12
  obtain ⟨N12q, rfl, K12, po12_0, po12_1⟩ := hQ12
  have z13 : n0 ≤ T12.heap.size := Nat.le_trans z10 K12.1
  have hs14 : h0.size ≤ T12.heap.size := Nat.le_trans hs11 K12.1
  have N12 := Fr.app N9 N12q
  obtain ⟨_, _, ⟨T15, L15, k15, n15⟩, -, X15, ⟨Lc15, hQ15, l15, y15, z15⟩, st15⟩ := Jvm.LawKit.callS X12 hx (y := (⟨"com/example/gryphon/gryphon/generate/SplitMixNextPinLaw", "inverse", "(J)J"⟩ : MethodName)) hown (mvT hZ (hw _ (List.mem_of_getElem? (i := 20) rfl))) (mvT hZ (hw _ (List.mem_of_getElem? (i := 21) rfl))) (mvT hZ (hw _ (List.mem_of_getElem? (i := 22) rfl))) (mvT hZ (hw _ (List.mem_of_getElem? (i := 23) rfl))) (by decide) (backOf (W := 2) (rm4 l Z a0 hw [] (-4658895280553007687 : Int64) T12.heap n0 z13) hZ (hw _ (List.mem_of_getElem? (i := 23) rfl)) (hw _ (List.mem_of_getElem? (i := 22) rfl)) (by decide) (by decide)) (g := (mkF m 26 #[.val (.long q0), .second, .val (.ref b1), .val (.long (v0_1 q0)), .second, .val (.long (v0_2 q0)), .second, .unset] [(.long (-4658895280553007687 : Int64)), (.long (-4658895280553007687 : Int64))])) rfl (by rw [hml]; rfl) (argsL := [(.long (-4658895280553007687 : Int64))]) (rest := [(.long (-4658895280553007687 : Int64))]) (lenOf pd__J_J rfl) rfl (by show 2 * 0 + _ ≤ _; exact Nat.le_of_eq rfl) (hb hby at_26) (fun _ _ => ⟨rfl, rfl, (by decide : 1 + 0 ≤ _), (by decide : 1 + 0 ≤ _)⟩)
  dsimp only [Pt.U, Pt.locs, Pt.cells, Pt.slots] at X15 l15 y15 z15 st15 hQ15
  subst l15 y15 z15
  obtain ⟨N15q, rfl, e15⟩ := hQ15
  have N15 := Fr.app N12 N15q
  have pre16 : ∀ t, Steps p.tables e below (T15.setTop (mkF m 32 #[.val (.long q0), .second, .val (.ref b1), .val (.long (v0_1 q0)), .second, .val (.long (v0_2 q0)), .second, .unset] [(.int (XT.cmpL (v0_3 q0) (1 : Int64)))])) t → Steps p.tables e below (s₁.setTop (entryFrame m #[(.long q0)] maxLocals)) t := by
    intro t k
    refine pre0 t ?_
    show Steps p.tables e below (s₁.setTop (mkF m 0 #[.val (.long q0), .second, .unset, .unset, .unset, .unset, .unset, .unset] [])) _
    refine st1 _ ?_
    show Steps p.tables e below (T1.setTop (mkF m 3 #[.val (.long q0), .second, .unset, .unset, .unset, .unset, .unset, .unset] [(.ref b1)])) _
    refine XS.dup X1.here hx rfl (hb hby at_3) rfl rfl ?_
    show Steps p.tables e below (T1.setTop (mkF m 4 #[.val (.long q0), .second, .unset, .unset, .unset, .unset, .unset, .unset] [(.ref b1), (.ref b1)])) _
    refine XT.lloadN X1.here hx rfl (hb hby at_4) rfl ?_
    show Steps p.tables e below (T1.setTop (mkF m 5 #[.val (.long q0), .second, .unset, .unset, .unset, .unset, .unset, .unset] [(.long q0), (.ref b1), (.ref b1)])) _
    refine st6.trans ?_
    show Steps p.tables e below (T6.setTop (mkF m 8 #[.val (.long q0), .second, .unset, .unset, .unset, .unset, .unset, .unset] [(.ref b1)])) _
    refine XS.astoreN X6.here hx rfl (hb hby at_8) rfl rfl (l' := #[.val (.long q0), .second, .val (.ref b1), .unset, .unset, .unset, .unset, .unset]) rfl ?_
    show Steps p.tables e below (T6.setTop (mkF m 9 #[.val (.long q0), .second, .val (.ref b1), .unset, .unset, .unset, .unset, .unset] [])) _
    refine XS.aloadN X6.here hx rfl (hb hby at_9) rfl rfl ?_
    show Steps p.tables e below (T6.setTop (mkF m 10 #[.val (.long q0), .second, .val (.ref b1), .unset, .unset, .unset, .unset, .unset] [(.ref b1)])) _
    refine st9.trans ?_
    show Steps p.tables e below (T9.setTop (mkF m 13 #[.val (.long q0), .second, .val (.ref b1), .unset, .unset, .unset, .unset, .unset] [(.long (f3 q0))])) _
    refine XT.lstoreN X9.here hx rfl (hb hby at_13) rfl (l' := #[.val (.long q0), .second, .val (.ref b1), .val (.long (v0_1 q0)), .second, .unset, .unset, .unset]) rfl ?_
    show Steps p.tables e below (T9.setTop (mkF m 14 #[.val (.long q0), .second, .val (.ref b1), .val (.long (v0_1 q0)), .second, .unset, .unset, .unset] [])) _
    refine XS.aloadN X9.here hx rfl (hb hby at_14) rfl rfl ?_
    show Steps p.tables e below (T9.setTop (mkF m 15 #[.val (.long q0), .second, .val (.ref b1), .val (.long (v0_1 q0)), .second, .unset, .unset, .unset] [(.ref b1)])) _
    refine st12.trans ?_
    show Steps p.tables e below (T12.setTop (mkF m 18 #[.val (.long q0), .second, .val (.ref b1), .val (.long (v0_1 q0)), .second, .unset, .unset, .unset] [(.long (f3 (q0 + (-7046029254386353131 : Int64))))])) _
    refine XT.lstore X12.here hx rfl (hb hby at_18) rfl (l' := #[.val (.long q0), .second, .val (.ref b1), .val (.long (v0_1 q0)), .second, .val (.long (v0_2 q0)), .second, .unset]) rfl ?_
    show Steps p.tables e below (T12.setTop (mkF m 20 #[.val (.long q0), .second, .val (.ref b1), .val (.long (v0_1 q0)), .second, .val (.long (v0_2 q0)), .second, .unset] [])) _
    refine X12.ldc2J hx hown (mvT hZ (hw _ (List.mem_of_getElem? (i := 19) rfl))) rfl (hb hby at_20) ?_
    show Steps p.tables e below (T12.setTop (mkF m 23 #[.val (.long q0), .second, .val (.ref b1), .val (.long (v0_1 q0)), .second, .val (.long (v0_2 q0)), .second, .unset] [(.long (-4658895280553007687 : Int64))])) _
    refine X12.ldc2J hx hown (mvT hZ (hw _ (List.mem_of_getElem? (i := 19) rfl))) rfl (hb hby at_23) ?_
    show Steps p.tables e below (T12.setTop (mkF m 26 #[.val (.long q0), .second, .val (.ref b1), .val (.long (v0_1 q0)), .second, .val (.long (v0_2 q0)), .second, .unset] [(.long (-4658895280553007687 : Int64)), (.long (-4658895280553007687 : Int64))])) _
    refine st15 _ ?_
    show Steps p.tables e below (T15.setTop (mkF m 29 #[.val (.long q0), .second, .val (.ref b1), .val (.long (v0_1 q0)), .second, .val (.long (v0_2 q0)), .second, .unset] [(.long (f4 (-4658895280553007687 : Int64))), (.long (-4658895280553007687 : Int64))])) _
    refine XT.lmul X15.here hx rfl (hb hby at_29) rfl ?_
    show Steps p.tables e below (T15.setTop (mkF m 30 #[.val (.long q0), .second, .val (.ref b1), .val (.long (v0_1 q0)), .second, .val (.long (v0_2 q0)), .second, .unset] [(.long ((-4658895280553007687 : Int64) * (f4 (-4658895280553007687 : Int64))))])) _
    refine XT.lconstV X15.here hx rfl (1 : Int64) (hb hby at_30) (by decide) ?_
    show Steps p.tables e below (T15.setTop (mkF m 31 #[.val (.long q0), .second, .val (.ref b1), .val (.long (v0_1 q0)), .second, .val (.long (v0_2 q0)), .second, .unset] [(.long (1 : Int64)), (.long ((-4658895280553007687 : Int64) * (f4 (-4658895280553007687 : Int64))))])) _
    refine XT.lcmp X15.here hx rfl (hb hby at_31) rfl ?_
    exact k
  obtain ⟨T21, L21, X21, e21, N21, pre21⟩ : ∃ (T' : State) (L' : List Loc), Stand p l e room_1 s m #[(.long q0)] below meth c T' L' 1 1 ∧ T'.heap = T12.heap ∧ Fr n0 L' ∧ ∀ t, Steps p.tables e below (T'.setTop (mkF m 55 #[.val (.long q0), .second, .val (.ref b1), .val (.long (v0_1 q0)), .second, .val (.long (v0_2 q0)), .second, .unset] [(.int (v0_5 q0))])) t → Steps p.tables e below (s₁.setTop (entryFrame m #[(.long q0)] maxLocals)) t := by
    by_cases c17 : (v0_3 q0) = (1 : Int64)
    · skip
      obtain ⟨_, _, ⟨T18, L18, k18, n18⟩, -, X18, ⟨Lc18, hQ18, l18, y18, z18⟩, st18⟩ := Jvm.LawKit.callS X15 hx (y := (⟨"com/example/gryphon/gryphon/generate/SplitMixNextPinLaw", "inverse", "(J)J"⟩ : MethodName)) hown (mvT hZ (hw _ (List.mem_of_getElem? (i := 20) rfl))) (mvT hZ (hw _ (List.mem_of_getElem? (i := 21) rfl))) (mvT hZ (hw _ (List.mem_of_getElem? (i := 22) rfl))) (mvT hZ (hw _ (List.mem_of_getElem? (i := 23) rfl))) (by decide) (backOf (W := 2) (rm4 l Z a0 hw [] (-7723592293110705685 : Int64) T12.heap n0 z13) hZ (hw _ (List.mem_of_getElem? (i := 23) rfl)) (hw _ (List.mem_of_getElem? (i := 22) rfl)) (by decide) (by decide)) (g := (mkF m 41 #[.val (.long q0), .second, .val (.ref b1), .val (.long (v0_1 q0)), .second, .val (.long (v0_2 q0)), .second, .unset] [(.long (-7723592293110705685 : Int64)), (.long (-7723592293110705685 : Int64))])) rfl (by rw [hml]; rfl) (argsL := [(.long (-7723592293110705685 : Int64))]) (rest := [(.long (-7723592293110705685 : Int64))]) (lenOf pd__J_J rfl) rfl (by show 2 * 0 + _ ≤ _; exact Nat.le_of_eq rfl) (hb hby at_41) (fun _ _ => ⟨rfl, e15, (by decide : 1 + 0 ≤ _), (by decide : 1 + 0 ≤ _)⟩)
      dsimp only [Pt.U, Pt.locs, Pt.cells, Pt.slots] at X18 l18 y18 z18 st18 hQ18
      subst l18 y18 z18
      obtain ⟨N18q, rfl, e18⟩ := hQ18
      have N18 := Fr.app N15 N18q
      have pre19 : ∀ t, Steps p.tables e below (T18.setTop (mkF m 47 #[.val (.long q0), .second, .val (.ref b1), .val (.long (v0_1 q0)), .second, .val (.long (v0_2 q0)), .second, .unset] [(.int (XT.cmpL (v0_4 q0) (1 : Int64)))])) t → Steps p.tables e below (s₁.setTop (entryFrame m #[(.long q0)] maxLocals)) t := by
        intro t k
        refine pre16 t ?_
        show Steps p.tables e below (T15.setTop (mkF m 32 #[.val (.long q0), .second, .val (.ref b1), .val (.long (v0_1 q0)), .second, .val (.long (v0_2 q0)), .second, .unset] [(.int (XT.cmpL (v0_3 q0) (1 : Int64)))])) _
        refine XS.ifNo X15.here hx rfl (hb hby at_32) rfl (XT.ll_ne_f c17) ?_
        show Steps p.tables e below (T15.setTop (mkF m 35 #[.val (.long q0), .second, .val (.ref b1), .val (.long (v0_1 q0)), .second, .val (.long (v0_2 q0)), .second, .unset] [])) _
        refine X15.ldc2J hx hown (mvT hZ (hw _ (List.mem_of_getElem? (i := 25) rfl))) rfl (hb hby at_35) ?_
        show Steps p.tables e below (T15.setTop (mkF m 38 #[.val (.long q0), .second, .val (.ref b1), .val (.long (v0_1 q0)), .second, .val (.long (v0_2 q0)), .second, .unset] [(.long (-7723592293110705685 : Int64))])) _
        refine X15.ldc2J hx hown (mvT hZ (hw _ (List.mem_of_getElem? (i := 25) rfl))) rfl (hb hby at_38) ?_
        show Steps p.tables e below (T15.setTop (mkF m 41 #[.val (.long q0), .second, .val (.ref b1), .val (.long (v0_1 q0)), .second, .val (.long (v0_2 q0)), .second, .unset] [(.long (-7723592293110705685 : Int64)), (.long (-7723592293110705685 : Int64))])) _
        refine st18 _ ?_
        show Steps p.tables e below (T18.setTop (mkF m 44 #[.val (.long q0), .second, .val (.ref b1), .val (.long (v0_1 q0)), .second, .val (.long (v0_2 q0)), .second, .unset] [(.long (f4 (-7723592293110705685 : Int64))), (.long (-7723592293110705685 : Int64))])) _
        refine XT.lmul X18.here hx rfl (hb hby at_44) rfl ?_
        show Steps p.tables e below (T18.setTop (mkF m 45 #[.val (.long q0), .second, .val (.ref b1), .val (.long (v0_1 q0)), .second, .val (.long (v0_2 q0)), .second, .unset] [(.long ((-7723592293110705685 : Int64) * (f4 (-7723592293110705685 : Int64))))])) _
        refine XT.lconstV X18.here hx rfl (1 : Int64) (hb hby at_45) (by decide) ?_
        show Steps p.tables e below (T18.setTop (mkF m 46 #[.val (.long q0), .second, .val (.ref b1), .val (.long (v0_1 q0)), .second, .val (.long (v0_2 q0)), .second, .unset] [(.long (1 : Int64)), (.long ((-7723592293110705685 : Int64) * (f4 (-7723592293110705685 : Int64))))])) _
        refine XT.lcmp X18.here hx rfl (hb hby at_46) rfl ?_
        exact k
      by_cases c20 : (v0_4 q0) = (1 : Int64)
      · skip
        refine ⟨T18, _, X18, e18, N18, fun t k => ?_⟩
        rw [show (v0_5 q0) = (1 : Int32) from ((if_pos c17).trans (if_pos c20))] at k
        refine pre19 t ?_
        show Steps p.tables e below (T18.setTop (mkF m 47 #[.val (.long q0), .second, .val (.ref b1), .val (.long (v0_1 q0)), .second, .val (.long (v0_2 q0)), .second, .unset] [(.int (XT.cmpL (v0_4 q0) (1 : Int64)))])) _
        refine XS.ifNo X18.here hx rfl (hb hby at_47) rfl (XT.ll_ne_f c20) ?_
        show Steps p.tables e below (T18.setTop (mkF m 50 #[.val (.long q0), .second, .val (.ref b1), .val (.long (v0_1 q0)), .second, .val (.long (v0_2 q0)), .second, .unset] [])) _
        refine XT.iconstV X18.here hx rfl (1 : Int32) (hb hby at_50) (by decide) ?_
        show Steps p.tables e below (T18.setTop (mkF m 51 #[.val (.long q0), .second, .val (.ref b1), .val (.long (v0_1 q0)), .second, .val (.long (v0_2 q0)), .second, .unset] [(.int (1 : Int32))])) _
        refine XS.goto X18.here hx rfl (pc0 := 51) (pc' := 55) rfl (hb hby at_51) (by decide) (by decide) ?_
        exact k
      · skip
        refine ⟨T18, _, X18, e18, N18, fun t k => ?_⟩
        rw [show (v0_5 q0) = (0 : Int32) from ((if_pos c17).trans (if_neg c20))] at k
        refine pre19 t ?_
        show Steps p.tables e below (T18.setTop (mkF m 47 #[.val (.long q0), .second, .val (.ref b1), .val (.long (v0_1 q0)), .second, .val (.long (v0_2 q0)), .second, .unset] [(.int (XT.cmpL (v0_4 q0) (1 : Int64)))])) _
        refine XS.ifYes X18.here hx rfl (pc0 := 47) (pc' := 54) rfl (hb hby at_47) rfl (XT.ll_ne_t c20) (by decide) (by decide) ?_
        show Steps p.tables e below (T18.setTop (mkF m 54 #[.val (.long q0), .second, .val (.ref b1), .val (.long (v0_1 q0)), .second, .val (.long (v0_2 q0)), .second, .unset] [])) _
        refine XT.iconstV X18.here hx rfl (0 : Int32) (hb hby at_54) (by decide) ?_
        exact k
    · skip
      refine ⟨T15, _, X15, e15, N15, fun t k => ?_⟩
      rw [show (v0_5 q0) = (0 : Int32) from (if_neg c17)] at k
      refine pre16 t ?_
      show Steps p.tables e below (T15.setTop (mkF m 32 #[.val (.long q0), .second, .val (.ref b1), .val (.long (v0_1 q0)), .second, .val (.long (v0_2 q0)), .second, .unset] [(.int (XT.cmpL (v0_3 q0) (1 : Int64)))])) _
      refine XS.ifYes X15.here hx rfl (pc0 := 32) (pc' := 54) rfl (hb hby at_32) rfl (XT.ll_ne_t c17) (by decide) (by decide) ?_
      show Steps p.tables e below (T15.setTop (mkF m 54 #[.val (.long q0), .second, .val (.ref b1), .val (.long (v0_1 q0)), .second, .val (.long (v0_2 q0)), .second, .unset] [])) _
      refine XT.iconstV X15.here hx rfl (0 : Int32) (hb hby at_54) (by decide) ?_
      exact k
  have pre22 : ∀ t, Steps p.tables e below (T21.setTop (mkF m 59 #[.val (.long q0), .second, .val (.ref b1), .val (.long (v0_1 q0)), .second, .val (.long (v0_2 q0)), .second, .val (.int (v0_5 q0))] [(.int (v0_5 q0))])) t → Steps p.tables e below (s₁.setTop (entryFrame m #[(.long q0)] maxLocals)) t := by
    intro t k
    refine pre21 t ?_
    show Steps p.tables e below (T21.setTop (mkF m 55 #[.val (.long q0), .second, .val (.ref b1), .val (.long (v0_1 q0)), .second, .val (.long (v0_2 q0)), .second, .unset] [(.int (v0_5 q0))])) _
    refine XS.istore X21.here hx rfl (hb hby at_55) rfl (l' := #[.val (.long q0), .second, .val (.ref b1), .val (.long (v0_1 q0)), .second, .val (.long (v0_2 q0)), .second, .val (.int (v0_5 q0))]) rfl ?_
    show Steps p.tables e below (T21.setTop (mkF m 57 #[.val (.long q0), .second, .val (.ref b1), .val (.long (v0_1 q0)), .second, .val (.long (v0_2 q0)), .second, .val (.int (v0_5 q0))] [])) _
    refine XS.iload X21.here hx rfl (hb hby at_57) rfl ?_
    exact k
  obtain ⟨T30, L30, X30, e30, N30, pre30⟩ : ∃ (T' : State) (L' : List Loc), Stand p l e room_1 s m #[(.long q0)] below meth c T' L' 1 1 ∧ T'.heap = T12.heap ∧ Fr n0 L' ∧ ∀ t, Steps p.tables e below (T'.setTop (mkF m 94 #[.val (.long q0), .second, .val (.ref b1), .val (.long (v0_1 q0)), .second, .val (.long (v0_2 q0)), .second, .val (.int (v0_5 q0))] [(.int (v0_10 q0))])) t → Steps p.tables e below (s₁.setTop (entryFrame m #[(.long q0)] maxLocals)) t := by
    by_cases c23 : (v0_5 q0) = (0 : Int32)
    · skip
      refine ⟨T21, _, X21, e21, N21, fun t k => ?_⟩
      rw [show (v0_10 q0) = (0 : Int32) from (if_pos c23)] at k
      refine pre22 t ?_
      show Steps p.tables e below (T21.setTop (mkF m 59 #[.val (.long q0), .second, .val (.ref b1), .val (.long (v0_1 q0)), .second, .val (.long (v0_2 q0)), .second, .val (.int (v0_5 q0))] [(.int (v0_5 q0))])) _
      refine XS.ifYes X21.here hx rfl (pc0 := 59) (pc' := 93) rfl (hb hby at_59) rfl (XT.i0_eq_t c23) (by decide) (by decide) ?_
      show Steps p.tables e below (T21.setTop (mkF m 93 #[.val (.long q0), .second, .val (.ref b1), .val (.long (v0_1 q0)), .second, .val (.long (v0_2 q0)), .second, .val (.int (v0_5 q0))] [])) _
      refine XT.iconstV X21.here hx rfl (0 : Int32) (hb hby at_93) (by decide) ?_
      exact k
    · skip
      obtain ⟨_, _, ⟨T24, L24, k24, n24⟩, -, X24, ⟨Lc24, hQ24, l24, y24, z24⟩, st24⟩ := Jvm.LawKit.callS X21 hx (y := (⟨"com/example/gryphon/gryphon/generate/SplitMixNextPinLaw", "unmix", "(J)J"⟩ : MethodName)) hown (mvT hZ (hw _ (List.mem_of_getElem? (i := 26) rfl))) (mvT hZ (hw _ (List.mem_of_getElem? (i := 27) rfl))) (mvT hZ (hw _ (List.mem_of_getElem? (i := 22) rfl))) (mvT hZ (hw _ (List.mem_of_getElem? (i := 28) rfl))) (by decide) (backOf (W := 0) (rm5 l Z a0 hw [] (v0_1 q0) T12.heap n0 z13) hZ (hw _ (List.mem_of_getElem? (i := 28) rfl)) (hw _ (List.mem_of_getElem? (i := 22) rfl)) (by decide) (by decide)) (g := (mkF m 63 #[.val (.long q0), .second, .val (.ref b1), .val (.long (v0_1 q0)), .second, .val (.long (v0_2 q0)), .second, .val (.int (v0_5 q0))] [(.long (v0_1 q0))])) rfl (by rw [hml]; rfl) (argsL := [(.long (v0_1 q0))]) (rest := []) (lenOf pd__J_J rfl) rfl (by show 2 * 0 + _ ≤ _; exact Nat.le_of_eq rfl) (hb hby at_63) (fun _ _ => ⟨rfl, e21, (by decide : 1 + 0 ≤ _), (by decide : 1 + 0 ≤ _)⟩)
      dsimp only [Pt.U, Pt.locs, Pt.cells, Pt.slots] at X24 l24 y24 z24 st24 hQ24
      subst l24 y24 z24
      obtain ⟨N24q, rfl, e24⟩ := hQ24
      have N24 := Fr.app N21 N24q
      have pre25 : ∀ t, Steps p.tables e below (T24.setTop (mkF m 72 #[.val (.long q0), .second, .val (.ref b1), .val (.long (v0_1 q0)), .second, .val (.long (v0_2 q0)), .second, .val (.int (v0_5 q0))] [(.int (XT.cmpL (v0_7 q0) (v0_6 q0)))])) t → Steps p.tables e below (s₁.setTop (entryFrame m #[(.long q0)] maxLocals)) t := by
        intro t k
        refine pre22 t ?_
        show Steps p.tables e below (T21.setTop (mkF m 59 #[.val (.long q0), .second, .val (.ref b1), .val (.long (v0_1 q0)), .second, .val (.long (v0_2 q0)), .second, .val (.int (v0_5 q0))] [(.int (v0_5 q0))])) _
        refine XS.ifNo X21.here hx rfl (hb hby at_59) rfl (XT.i0_eq_f c23) ?_
        show Steps p.tables e below (T21.setTop (mkF m 62 #[.val (.long q0), .second, .val (.ref b1), .val (.long (v0_1 q0)), .second, .val (.long (v0_2 q0)), .second, .val (.int (v0_5 q0))] [])) _
        refine XT.lloadN X21.here hx rfl (hb hby at_62) rfl ?_
        show Steps p.tables e below (T21.setTop (mkF m 63 #[.val (.long q0), .second, .val (.ref b1), .val (.long (v0_1 q0)), .second, .val (.long (v0_2 q0)), .second, .val (.int (v0_5 q0))] [(.long (v0_1 q0))])) _
        refine st24 _ ?_
        show Steps p.tables e below (T24.setTop (mkF m 66 #[.val (.long q0), .second, .val (.ref b1), .val (.long (v0_1 q0)), .second, .val (.long (v0_2 q0)), .second, .val (.int (v0_5 q0))] [(.long (f5 (v0_1 q0)))])) _
        refine XT.lloadN X24.here hx rfl (hb hby at_66) rfl ?_
        show Steps p.tables e below (T24.setTop (mkF m 67 #[.val (.long q0), .second, .val (.ref b1), .val (.long (v0_1 q0)), .second, .val (.long (v0_2 q0)), .second, .val (.int (v0_5 q0))] [(.long q0), (.long (f5 (v0_1 q0)))])) _
        refine X24.ldc2J hx hown (mvT hZ (hw _ (List.mem_of_getElem? (i := 29) rfl))) rfl (hb hby at_67) ?_
        show Steps p.tables e below (T24.setTop (mkF m 70 #[.val (.long q0), .second, .val (.ref b1), .val (.long (v0_1 q0)), .second, .val (.long (v0_2 q0)), .second, .val (.int (v0_5 q0))] [(.long (-7046029254386353131 : Int64)), (.long q0), (.long (f5 (v0_1 q0)))])) _
        refine XT.ladd X24.here hx rfl (hb hby at_70) rfl ?_
        show Steps p.tables e below (T24.setTop (mkF m 71 #[.val (.long q0), .second, .val (.ref b1), .val (.long (v0_1 q0)), .second, .val (.long (v0_2 q0)), .second, .val (.int (v0_5 q0))] [(.long (q0 + (-7046029254386353131 : Int64))), (.long (f5 (v0_1 q0)))])) _
        refine XT.lcmp X24.here hx rfl (hb hby at_71) rfl ?_
        exact k
      by_cases c26 : (v0_7 q0) = (v0_6 q0)
      · skip
        obtain ⟨_, _, ⟨T27, L27, k27, n27⟩, -, X27, ⟨Lc27, hQ27, l27, y27, z27⟩, st27⟩ := Jvm.LawKit.callS X24 hx (y := (⟨"com/example/gryphon/gryphon/generate/SplitMixNextPinLaw", "unmix", "(J)J"⟩ : MethodName)) hown (mvT hZ (hw _ (List.mem_of_getElem? (i := 26) rfl))) (mvT hZ (hw _ (List.mem_of_getElem? (i := 27) rfl))) (mvT hZ (hw _ (List.mem_of_getElem? (i := 22) rfl))) (mvT hZ (hw _ (List.mem_of_getElem? (i := 28) rfl))) (by decide) (backOf (W := 0) (rm5 l Z a0 hw [] (v0_2 q0) T12.heap n0 z13) hZ (hw _ (List.mem_of_getElem? (i := 28) rfl)) (hw _ (List.mem_of_getElem? (i := 22) rfl)) (by decide) (by decide)) (g := (mkF m 77 #[.val (.long q0), .second, .val (.ref b1), .val (.long (v0_1 q0)), .second, .val (.long (v0_2 q0)), .second, .val (.int (v0_5 q0))] [(.long (v0_2 q0))])) rfl (by rw [hml]; rfl) (argsL := [(.long (v0_2 q0))]) (rest := []) (lenOf pd__J_J rfl) rfl (by show 2 * 0 + _ ≤ _; exact Nat.le_of_eq rfl) (hb hby at_77) (fun _ _ => ⟨rfl, e24, (by decide : 1 + 0 ≤ _), (by decide : 1 + 0 ≤ _)⟩)
        dsimp only [Pt.U, Pt.locs, Pt.cells, Pt.slots] at X27 l27 y27 z27 st27 hQ27
        subst l27 y27 z27
        obtain ⟨N27q, rfl, e27⟩ := hQ27
        have N27 := Fr.app N24 N27q
        have pre28 : ∀ t, Steps p.tables e below (T27.setTop (mkF m 86 #[.val (.long q0), .second, .val (.ref b1), .val (.long (v0_1 q0)), .second, .val (.long (v0_2 q0)), .second, .val (.int (v0_5 q0))] [(.int (XT.cmpL (v0_9 q0) (v0_8 q0)))])) t → Steps p.tables e below (s₁.setTop (entryFrame m #[(.long q0)] maxLocals)) t := by
          intro t k
          refine pre25 t ?_
          show Steps p.tables e below (T24.setTop (mkF m 72 #[.val (.long q0), .second, .val (.ref b1), .val (.long (v0_1 q0)), .second, .val (.long (v0_2 q0)), .second, .val (.int (v0_5 q0))] [(.int (XT.cmpL (v0_7 q0) (v0_6 q0)))])) _
          refine XS.ifNo X24.here hx rfl (hb hby at_72) rfl (XT.ll_ne_f c26) ?_
          show Steps p.tables e below (T24.setTop (mkF m 75 #[.val (.long q0), .second, .val (.ref b1), .val (.long (v0_1 q0)), .second, .val (.long (v0_2 q0)), .second, .val (.int (v0_5 q0))] [])) _
          refine XT.lload X24.here hx rfl (hb hby at_75) rfl ?_
          show Steps p.tables e below (T24.setTop (mkF m 77 #[.val (.long q0), .second, .val (.ref b1), .val (.long (v0_1 q0)), .second, .val (.long (v0_2 q0)), .second, .val (.int (v0_5 q0))] [(.long (v0_2 q0))])) _
          refine st27 _ ?_
          show Steps p.tables e below (T27.setTop (mkF m 80 #[.val (.long q0), .second, .val (.ref b1), .val (.long (v0_1 q0)), .second, .val (.long (v0_2 q0)), .second, .val (.int (v0_5 q0))] [(.long (f5 (v0_2 q0)))])) _
          refine XT.lloadN X27.here hx rfl (hb hby at_80) rfl ?_
          show Steps p.tables e below (T27.setTop (mkF m 81 #[.val (.long q0), .second, .val (.ref b1), .val (.long (v0_1 q0)), .second, .val (.long (v0_2 q0)), .second, .val (.int (v0_5 q0))] [(.long q0), (.long (f5 (v0_2 q0)))])) _
          refine X27.ldc2J hx hown (mvT hZ (hw _ (List.mem_of_getElem? (i := 30) rfl))) rfl (hb hby at_81) ?_
          show Steps p.tables e below (T27.setTop (mkF m 84 #[.val (.long q0), .second, .val (.ref b1), .val (.long (v0_1 q0)), .second, .val (.long (v0_2 q0)), .second, .val (.int (v0_5 q0))] [(.long (4354685564936845354 : Int64)), (.long q0), (.long (f5 (v0_2 q0)))])) _
          refine XT.ladd X27.here hx rfl (hb hby at_84) rfl ?_
          show Steps p.tables e below (T27.setTop (mkF m 85 #[.val (.long q0), .second, .val (.ref b1), .val (.long (v0_1 q0)), .second, .val (.long (v0_2 q0)), .second, .val (.int (v0_5 q0))] [(.long (q0 + (4354685564936845354 : Int64))), (.long (f5 (v0_2 q0)))])) _
          refine XT.lcmp X27.here hx rfl (hb hby at_85) rfl ?_
          exact k
        by_cases c29 : (v0_9 q0) = (v0_8 q0)
        · skip
          refine ⟨T27, _, X27, e27, N27, fun t k => ?_⟩
          rw [show (v0_10 q0) = (1 : Int32) from (((if_neg c23).trans (if_pos c26)).trans (if_pos c29))] at k
          refine pre28 t ?_
          show Steps p.tables e below (T27.setTop (mkF m 86 #[.val (.long q0), .second, .val (.ref b1), .val (.long (v0_1 q0)), .second, .val (.long (v0_2 q0)), .second, .val (.int (v0_5 q0))] [(.int (XT.cmpL (v0_9 q0) (v0_8 q0)))])) _
          refine XS.ifNo X27.here hx rfl (hb hby at_86) rfl (XT.ll_ne_f c29) ?_
          show Steps p.tables e below (T27.setTop (mkF m 89 #[.val (.long q0), .second, .val (.ref b1), .val (.long (v0_1 q0)), .second, .val (.long (v0_2 q0)), .second, .val (.int (v0_5 q0))] [])) _
          refine XT.iconstV X27.here hx rfl (1 : Int32) (hb hby at_89) (by decide) ?_
          show Steps p.tables e below (T27.setTop (mkF m 90 #[.val (.long q0), .second, .val (.ref b1), .val (.long (v0_1 q0)), .second, .val (.long (v0_2 q0)), .second, .val (.int (v0_5 q0))] [(.int (1 : Int32))])) _
          refine XS.goto X27.here hx rfl (pc0 := 90) (pc' := 94) rfl (hb hby at_90) (by decide) (by decide) ?_
          exact k
        · skip
          refine ⟨T27, _, X27, e27, N27, fun t k => ?_⟩
          rw [show (v0_10 q0) = (0 : Int32) from (((if_neg c23).trans (if_pos c26)).trans (if_neg c29))] at k
          refine pre28 t ?_
          show Steps p.tables e below (T27.setTop (mkF m 86 #[.val (.long q0), .second, .val (.ref b1), .val (.long (v0_1 q0)), .second, .val (.long (v0_2 q0)), .second, .val (.int (v0_5 q0))] [(.int (XT.cmpL (v0_9 q0) (v0_8 q0)))])) _
          refine XS.ifYes X27.here hx rfl (pc0 := 86) (pc' := 93) rfl (hb hby at_86) rfl (XT.ll_ne_t c29) (by decide) (by decide) ?_
          show Steps p.tables e below (T27.setTop (mkF m 93 #[.val (.long q0), .second, .val (.ref b1), .val (.long (v0_1 q0)), .second, .val (.long (v0_2 q0)), .second, .val (.int (v0_5 q0))] [])) _
          refine XT.iconstV X27.here hx rfl (0 : Int32) (hb hby at_93) (by decide) ?_
          exact k
      · skip
        refine ⟨T24, _, X24, e24, N24, fun t k => ?_⟩
        rw [show (v0_10 q0) = (0 : Int32) from ((if_neg c23).trans (if_neg c26))] at k
        refine pre25 t ?_
        show Steps p.tables e below (T24.setTop (mkF m 72 #[.val (.long q0), .second, .val (.ref b1), .val (.long (v0_1 q0)), .second, .val (.long (v0_2 q0)), .second, .val (.int (v0_5 q0))] [(.int (XT.cmpL (v0_7 q0) (v0_6 q0)))])) _
        refine XS.ifYes X24.here hx rfl (pc0 := 72) (pc' := 93) rfl (hb hby at_72) rfl (XT.ll_ne_t c26) (by decide) (by decide) ?_
        show Steps p.tables e below (T24.setTop (mkF m 93 #[.val (.long q0), .second, .val (.ref b1), .val (.long (v0_1 q0)), .second, .val (.long (v0_2 q0)), .second, .val (.int (v0_5 q0))] [])) _
        refine XT.iconstV X24.here hx rfl (0 : Int32) (hb hby at_93) (by decide) ?_
        exact k
  have hv31 : (v0_10 q0) = (1 : Int32) := own_law q0
  obtain ⟨fs, hr, hrun, hended, hW, hsame⟩ := X30.leave (v := some (.int (1 : Int32))) (fun h => by rw [Bd.returns] at h; cases h)
  refine ⟨_, _, pre30 _ ?_, hrun, hended, _, _, rfl, ?_, ⟨_, rfl⟩, hW, hsame.mono (by decide) (by decide)⟩
  · skip
    show Steps p.tables e below (T30.setTop (mkF m 94 #[.val (.long q0), .second, .val (.ref b1), .val (.long (v0_1 q0)), .second, .val (.long (v0_2 q0)), .second, .val (.int (v0_5 q0))] [(.int (v0_10 q0))])) _
    rw [hv31]
    exact retN X30 hx (t := .boolean) Bd.returns (by simp) (hb hby at_94) hr
  · skip
    show Q0 Z q0 h0 n0 _ T30.heap _
    rw [e30]
    exact ⟨rfl, N30⟩
set_option maxRecDepth 65536 in
set_option maxHeartbeats 40000000 in
theorem comes_1 {Post : Tables → Env → Array Value → State → Outcome → State → Prop} (hpost : ∀ tb e args s v u, (limb_1_1.after args s (.returned v) u = true ∧ limb_1_2.after args s (.returned v) u = true ∧ True) → FrameEnd s (.returned v) u (Jvm.fieldLocs frame_1_writes args s ++ Jvm.arrayLocs frame_1_arrays args s ++ Jvm.staticLocs frame_1_statics s) 16 128 → Post tb e args s (.returned v) u) :
    ArmFor flags0 classFile x code maxLocals ret World_1 tables_1 room_1 Calls_1 rest_1 Pre_1 Post := by
  intro l hfl _ _ p e ha hc hk s m args below hf hA hF happ hP
  obtain ⟨hcalls, hrest, hpre⟩ := hP
  obtain ⟨-, -, -, hnamed, -, -, -, hat⟩ := (Spec.applies_iff hf).mp happ
  obtain ⟨hg, hn⟩ := and_e (Cond.before_iff.mp (show (Jvm.Cond.and given_1 narrow_1).before args s = true from hpre))
  obtain ⟨hcount, r0⟩ := and_e hg
  obtain ⟨w0, rfl⟩ : ∃ w0 : Value, args = #[w0] := by
    have hs : args.size = 1 := by simpa [Cond.value, given_1] using hcount
    obtain ⟨L⟩ := args
    match L, hs with
    | [w0], _ => exact ⟨w0, rfl⟩
  have hw := fun d (hd : d ∈ tables_1) => atoms_spec (ws := Jvm.Cond.code x code maxLocals ret :: tables_1) hat d (List.mem_cons_of_mem _ hd)
  have hfit : Fit s := fun {y c} hc i hi => by
    obtain ⟨ha, rfl⟩ := Array.getElem?_eq_some_iff.mp hc
    have q := List.all_eq_true.mp ((Array.all_eq_true_iff_forall_mem.mp hF) _ (Array.getElem_mem ha)) i (List.mem_range.mpr hi)
    simpa [Array.getElem?_eq_getElem hi] using q
  obtain ⟨i0, ei0⟩ := isL_v r0
  obtain rfl : w0 = (.long i0) := Option.some.inj ei0
  obtain ⟨n, o, h1, h2, h3, _, L, rfl, ⟨rfl, N⟩, hq⟩ := rm0 l s _ hw tables_1 i0 s.heap s.heap.size (Nat.le_refl _) p e ha hc hk s m _ below hf ((Spec.applies_iff_loose hf).mp happ).1 ⟨rfl, State.Warmed39.refl s, rfl⟩ trivial
  refine ⟨n, _, h1, h2, h3, hpost _ _ _ _ _ _ ⟨Cond.after_iff.mpr rfl, Cond.after_iff.mpr (eq_i res_at (Term.int_eval (1)) rfl), trivial⟩ ⟨hq.1, hq.2.1, (hq.2.2.sift fun y hy => Or.inr (N y hy)).mono (by decide) (by decide)⟩⟩
theorem main_1_1 : Claimed_1_1 := comes_1 fun _ _ _ _ _ _ h hF => ⟨h.1, hF⟩
theorem main_1_2 : Claimed_1_2 := comes_1 fun _ _ _ _ _ _ h hF => ⟨h.2.1, hF⟩
end Jvm.Pilot.@@N@@
namespace Jvm.Pilot.@@N@@
open Jvm Jvm.ClassFile Sem Op Lib Jvm.Free Jvm.Stand Jvm.Pilot.@@N@@.Jvm.D
/-! MADE BY PROGRAM (witnessworld.py) out of the Statement's table words and the real class files: 7 classes; the members and pool entries that the words name. The judged class is class 1, her method 3. -/
namespace start1
open Jvm.ClassFile
def u (s : String) : CpInfo := .utf8 (stringToUtf16 s)
/-- a pool by its gaps: so many unusable entries, then the entry; so many at the end -/
def gap : Nat → List CpInfo → List CpInfo
  | 0, r => r
  | n + 1, r => .unusable :: gap n r
def poolList (es : List (Nat × CpInfo)) (last : Nat) : List CpInfo := es.foldr (fun e r => gap e.1 (e.2 :: r)) (gap last [])
def pool (es : List (Nat × CpInfo)) (last : Nat) : Array CpInfo := ⟨poolList es last⟩
def fileOf (pool : Array CpInfo) (this : Nat) (attrs : Array Attribute := #[]) (ms : Array MethodInfo := #[]) (fl : Nat := 33) (sup : Nat := 0) (ifs : Array Nat := #[]) (fds : Array FieldInfo := #[]) : ClassFile where
  minorVersion := 0
  majorVersion := 65
  constantPool := pool
  accessFlags := fl
  thisClass := this
  superClass := sup
  interfaces := ifs
  fields := fds
  methods := ms
  attributes := attrs
def plain (name : String) (sup : Option ClassId) : Class where
  name := name
  kind := .ordinary
  loader := none
  accessFlags := 33
  super := sup
  interfaces := #[]
  cf := none
  fields := #[]
  methods := #[]
  instanceTypes := #[]
  staticTypes := #[]
  resolved := #[]
  callSites := []
  init := .initialized
  statics := none
  mirror := none

def pool0 : Array CpInfo := pool [(5, u "<init>"), (0, u "()V"), (1, .class_ 10), (1, u "java/lang/Object")] 113

def k0c0 : Code := { maxStack := 0, maxLocals := 1, code := object_method_1_code, exceptionTable := #[], attributes := #[] }
def k0m0 : Method := { name := "<init>", desc := "()V", sig := { parameters := [], returnType := none }, accessFlags := 1, code := some k0c0 }
/-- java/lang/Object -/
def k0 : Class := { plain "java/lang/Object" none with
  accessFlags := 33
  interfaces := #[]
  cf := some (fileOf pool0 8 #[] #[{ accessFlags := 1, nameIndex := 5, descriptorIndex := 6, attributes := #[] }] 33 0 #[] #[])
  fields := #[]
  methods := #[k0m0]
  instanceTypes := #[]
  staticTypes := #[]
  resolved := Array.replicate 124 none
  statics := none }

def pool1 : Array CpInfo := pool [(2, .class_ 4), (1, u "java/lang/Object"), (0, u "<init>"), (0, u "()V"), (0, .long 2), (1, .class_ 10), (0, u "com/example/gryphon/gryphon/generate/SplitMixNextPinLaw"), (0, .long 10723151780598845931), (1, .methodref 9 14), (0, .nameAndType 15 16), (0, u "inverse"), (0, u "(J)J"), (0, .long 13787848793156543929), (1, .class_ 20), (0, u "com/example/gryphon/gryphon/generate/SplitMix"), (0, .methodref 19 22), (0, .nameAndType 5 23), (0, u "(J)V"), (0, .methodref 19 25), (0, .nameAndType 26 27), (0, u "next"), (0, u "()J"), (0, .methodref 9 29), (0, .nameAndType 30 16), (0, u "unmix"), (0, .long 11400714819323198485), (1, .long 4354685564936845354), (1, u "GAMMA"), (0, u "J"), (1, u "M1"), (0, u "M2"), (2, u "law"), (0, u "(J)Z")] 3

def k1m0 : Method := { name := "<init>", desc := "()V", sig := { parameters := [], returnType := none }, accessFlags := 2, code := none }
def k1c1 : Code := { maxStack := 8, maxLocals := 4, code := method_2_code, exceptionTable := #[], attributes := #[] }
def k1m1 : Method := { name := "inverse", desc := "(J)J", sig := { parameters := [.long], returnType := some .long }, accessFlags := 10, code := some k1c1 }
def k1c2 : Code := { maxStack := 5, maxLocals := 4, code := method_3_code, exceptionTable := #[], attributes := #[] }
def k1m2 : Method := { name := "unmix", desc := "(J)J", sig := { parameters := [.long], returnType := some .long }, accessFlags := 10, code := some k1c2 }
def k1c3 : Code := { maxStack := 6, maxLocals := 8, code := code, exceptionTable := #[], attributes := #[] }
def k1m3 : Method := { name := "law", desc := "(J)Z", sig := { parameters := [.long], returnType := some .boolean }, accessFlags := 9, code := some k1c3 }
/-- com/example/gryphon/gryphon/generate/SplitMixNextPinLaw -/
def k1 : Class := { plain "com/example/gryphon/gryphon/generate/SplitMixNextPinLaw" (some 0) with
  accessFlags := 49
  interfaces := #[]
  cf := some (fileOf pool1 9 #[] #[{ accessFlags := 2, nameIndex := 5, descriptorIndex := 6, attributes := #[] }, { accessFlags := 10, nameIndex := 15, descriptorIndex := 16, attributes := #[] }, { accessFlags := 10, nameIndex := 30, descriptorIndex := 16, attributes := #[] }, { accessFlags := 9, nameIndex := 42, descriptorIndex := 43, attributes := #[] }] 49 2 #[] #[{ accessFlags := 26, nameIndex := 35, descriptorIndex := 36, attributes := #[] }, { accessFlags := 26, nameIndex := 38, descriptorIndex := 36, attributes := #[] }, { accessFlags := 26, nameIndex := 39, descriptorIndex := 36, attributes := #[] }])
  fields := #[{ name := "GAMMA", type := .long, accessFlags := 26, slot := 0, constantValue := 0 }, { name := "M1", type := .long, accessFlags := 26, slot := 1, constantValue := 0 }, { name := "M2", type := .long, accessFlags := 26, slot := 2, constantValue := 0 }]
  methods := #[k1m0, k1m1, k1m2, k1m3]
  instanceTypes := #[]
  staticTypes := #[.long, .long, .long]
  resolved := Array.replicate 47 none
  statics := none }

def pool2 : Array CpInfo := pool [(1, .methodref 2 3), (0, .class_ 4), (0, .nameAndType 5 6), (0, u "java/lang/Object"), (0, u "<init>"), (0, u "()V"), (0, .fieldref 8 9), (0, .class_ 10), (0, .nameAndType 11 12), (0, u "com/example/gryphon/gryphon/generate/SplitMix"), (0, u "state"), (0, u "J"), (0, .long 11400714819323198485), (1, .long 13787848793156543929), (1, .long 10723151780598845931), (1, u "GAMMA"), (1, u "(J)V"), (2, u "next"), (0, u "()J")] 2

def k2c0 : Code := { maxStack := 3, maxLocals := 3, code := prog_33_method_1_code, exceptionTable := #[], attributes := #[] }
def k2m0 : Method := { name := "<init>", desc := "(J)V", sig := { parameters := [.long], returnType := none }, accessFlags := 0, code := some k2c0 }
def k2c1 : Code := { maxStack := 5, maxLocals := 3, code := prog_33_method_2_code, exceptionTable := #[], attributes := #[] }
def k2m1 : Method := { name := "next", desc := "()J", sig := { parameters := [], returnType := some .long }, accessFlags := 0, code := some k2c1 }
/-- com/example/gryphon/gryphon/generate/SplitMix -/
def k2 : Class := { plain "com/example/gryphon/gryphon/generate/SplitMix" (some 0) with
  accessFlags := 48
  interfaces := #[]
  cf := some (fileOf pool2 8 #[] #[{ accessFlags := 0, nameIndex := 5, descriptorIndex := 21, attributes := #[] }, { accessFlags := 0, nameIndex := 24, descriptorIndex := 25, attributes := #[] }] 48 2 #[] #[{ accessFlags := 26, nameIndex := 19, descriptorIndex := 12, attributes := #[] }, { accessFlags := 2, nameIndex := 11, descriptorIndex := 12, attributes := #[] }])
  fields := #[{ name := "GAMMA", type := .long, accessFlags := 26, slot := 0, constantValue := 0 }, { name := "state", type := .long, accessFlags := 2, slot := 0, constantValue := 0 }]
  methods := #[k2m0, k2m1]
  instanceTypes := #[.long]
  staticTypes := #[.long]
  resolved := Array.replicate 28 none
  statics := none }

def pool3 : Array CpInfo := pool [(1, u "java/lang/Cloneable"), (0, .class_ 1), (0, u "java/lang/Object"), (0, .class_ 3)] 3

/-- java/lang/Cloneable -/
def k3 : Class := { plain "java/lang/Cloneable" (some 0) with
  accessFlags := 1537
  interfaces := #[]
  cf := some (fileOf pool3 2 #[] #[] 1537 4 #[] #[])
  fields := #[]
  methods := #[]
  instanceTypes := #[]
  staticTypes := #[]
  resolved := Array.replicate 8 none
  statics := none }

def pool4 : Array CpInfo := pool [(1, u "java/io/Serializable"), (0, .class_ 1), (0, u "java/lang/Object"), (0, .class_ 3)] 3

/-- java/io/Serializable -/
def k4 : Class := { plain "java/io/Serializable" (some 0) with
  accessFlags := 1537
  interfaces := #[]
  cf := some (fileOf pool4 2 #[] #[] 1537 4 #[] #[])
  fields := #[]
  methods := #[]
  instanceTypes := #[]
  staticTypes := #[]
  resolved := Array.replicate 8 none
  statics := none }

/-- the primitive byte -/
def k5 : Class := { plain "byte" none with kind := .primitive 'B', accessFlags := 0x411 }
/-- [B -/
def k6 : Class := { plain "[B" (some 0) with kind := .array 5 .byte, interfaces := #[3, 4], accessFlags := 1041 }

def heap : Heap := #[]
def classes : Array Class := #[k0, k1, k2, k3, k4, k5, k6]
def interned : List (Array UInt16 × Addr) := []
def slotsUsed : Nat := 0
def theMethod : MethodId := ⟨1, 3⟩
def args0 : Array Value := #[.long 5]
def aboutOver (below : List Frame) : State where
  vm := { classes := classes, interned := interned.toArray }
  heap := heap
  slotsUsed := slotsUsed
  threads := #[{ frames := .invoking theMethod args0 :: below }]
def below0 : List Frame := [.native { method := ⟨0, 0⟩, args := #[] }]
def about1 : State := aboutOver below0
def p0 : Program := .bare "" "" ""
def e0 : Env := launch0.env 0 0 0
theorem w_frames : about1.frames = Frame.invoking theMethod args0 :: below0 := rfl
set_option maxRecDepth 65536 in
theorem w_args : argsFit about1.vm theMethod args0 = true := by decide +kernel
set_option maxRecDepth 65536 in
theorem w_heap : heapFits about1 = true := by decide +kernel
set_option maxRecDepth 65536 in
theorem w_runnable : about1.curStatus? = some .runnable := by decide +kernel
set_option maxRecDepth 65536 in
theorem w_alone : about1.alone = true := by decide +kernel
set_option maxRecDepth 65536 in
theorem w_named : about1.methodNamed? x = some theMethod := by decide +kernel
set_option maxRecDepth 65536 in
theorem w_hears : about1.hears theMethod below0 = true := by decide +kernel
set_option maxRecDepth 65536 in
theorem w_ripe : about1.ripe theMethod args0 below0 = true := by decide +kernel
theorem w_running : about1.status = .running := rfl
set_option maxRecDepth 65536 in
theorem w_room : about1.hasRoom e0.platform room_1 = true :=
  launch0.hasRoom_least _ room_1 (by decide +kernel) (by decide +kernel) (by decide +kernel) (by decide +kernel) (by decide +kernel) (by decide +kernel)
theorem allAtoms_all (ts : List Jvm.Cond) (a : Array Jvm.Value) (st : Jvm.State) : (allAtoms ts).before a st = ts.all (fun c => c.before a st) := by
  induction ts with
  | nil => rfl
  | cons c t ih =>
    show (Jvm.Cond.and c (allAtoms t)).before a st = _
    rw [Jvm.Cond.before_and, ih, List.all_cons]
def words1 : List Jvm.Cond := Jvm.Cond.code x code maxLocals ret :: tables_1
/-- a 'code' word, met by the world's own term for the bytes: nothing is compared byte by byte -/
theorem code_word {y : MethodName} {bytes : ByteArray} {mx : Nat} {rt : Option FieldType} {a : Array Value} {s : State} {m : MethodId} {meth : Method} {c : Code} (h1 : s.methodNamed? y = some m) (h2 : s.vm.method? m = some meth) (h3 : meth.code = some c) (h4 : c.code = bytes)
    (h5 : (c.maxLocals == mx && c.exceptionTable.isEmpty && decide (c.maxStack ≤ mostOperands) && decide (meth.sig.returnType = rt) && !meth.locks && decide (parseMethodDescriptor y.desc = some meth.sig)) = true) : (Jvm.Cond.code y bytes mx rt).before a s = true := by
  simp only [Bool.and_eq_true, beq_iff_eq, Bool.not_eq_true', decide_eq_true_eq] at h5
  obtain ⟨⟨⟨⟨⟨g1, g2⟩, g3⟩, g4⟩, g5⟩, g6⟩ := h5
  simp [Cond.before, Cond.holds, Cond.value, h1, h2, h3, h4, g1, g2, g3, g4, g5, g6]
def isCode : Jvm.Cond → Bool
  | .code _ _ _ _ => true
  | _ => false
theorem all_split {L : List Jvm.Cond} {P : Jvm.Cond → Bool} (h1 : L.all (fun c => isCode c || P c) = true) (h2 : ∀ c ∈ L.filter isCode, P c = true) : L.all P = true := by
  refine List.all_eq_true.mpr fun c hc => ?_
  have h := List.all_eq_true.mp h1 c hc
  rcases Bool.eq_false_or_eq_true (isCode c) with hi | hi
  · exact h2 c (List.mem_filter.mpr ⟨hc, hi⟩)
  · simpa [hi] using h
set_option maxRecDepth 65536 in
theorem w_c0 : (Jvm.Cond.code x code maxLocals ret).before args0 about1 = true := code_word (m := ⟨1, 3⟩) (meth := k1m3) (c := k1c3) (by decide +kernel) rfl rfl rfl (by decide +kernel)
set_option maxRecDepth 65536 in
theorem w_c1 : (Jvm.Cond.code ({ cls := "com/example/gryphon/gryphon/generate/SplitMix", name := "<init>", desc := "(J)V" } : Jvm.MethodName) prog_33_method_1_code (3 : Nat) (Option.none : Option Jvm.ClassFile.FieldType)).before args0 about1 = true := code_word (m := ⟨2, 0⟩) (meth := k2m0) (c := k2c0) (by decide +kernel) rfl rfl rfl (by decide +kernel)
set_option maxRecDepth 65536 in
theorem w_c2 : (Jvm.Cond.code ({ cls := "java/lang/Object", name := "<init>", desc := "()V" } : Jvm.MethodName) object_method_1_code (1 : Nat) (Option.none : Option Jvm.ClassFile.FieldType)).before args0 about1 = true := code_word (m := ⟨0, 0⟩) (meth := k0m0) (c := k0c0) (by decide +kernel) rfl rfl rfl (by decide +kernel)
set_option maxRecDepth 65536 in
theorem w_c3 : (Jvm.Cond.code ({ cls := "com/example/gryphon/gryphon/generate/SplitMix", name := "next", desc := "()J" } : Jvm.MethodName) prog_33_method_2_code (3 : Nat) (Option.some Jvm.ClassFile.FieldType.long)).before args0 about1 = true := code_word (m := ⟨2, 1⟩) (meth := k2m1) (c := k2c1) (by decide +kernel) rfl rfl rfl (by decide +kernel)
set_option maxRecDepth 65536 in
theorem w_c4 : (Jvm.Cond.code ({ cls := "com/example/gryphon/gryphon/generate/SplitMixNextPinLaw", name := "inverse", desc := "(J)J" } : Jvm.MethodName) method_2_code (4 : Nat) (Option.some Jvm.ClassFile.FieldType.long)).before args0 about1 = true := code_word (m := ⟨1, 1⟩) (meth := k1m1) (c := k1c1) (by decide +kernel) rfl rfl rfl (by decide +kernel)
set_option maxRecDepth 65536 in
theorem w_c5 : (Jvm.Cond.code ({ cls := "com/example/gryphon/gryphon/generate/SplitMixNextPinLaw", name := "unmix", desc := "(J)J" } : Jvm.MethodName) method_3_code (4 : Nat) (Option.some Jvm.ClassFile.FieldType.long)).before args0 about1 = true := code_word (m := ⟨1, 2⟩) (meth := k1m2) (c := k1c2) (by decide +kernel) rfl rfl rfl (by decide +kernel)
def codes1 : List Jvm.Cond := [Jvm.Cond.code x code maxLocals ret, Jvm.Cond.code ({ cls := "com/example/gryphon/gryphon/generate/SplitMix", name := "<init>", desc := "(J)V" } : Jvm.MethodName) prog_33_method_1_code (3 : Nat) (Option.none : Option Jvm.ClassFile.FieldType), Jvm.Cond.code ({ cls := "java/lang/Object", name := "<init>", desc := "()V" } : Jvm.MethodName) object_method_1_code (1 : Nat) (Option.none : Option Jvm.ClassFile.FieldType), Jvm.Cond.code ({ cls := "com/example/gryphon/gryphon/generate/SplitMix", name := "next", desc := "()J" } : Jvm.MethodName) prog_33_method_2_code (3 : Nat) (Option.some Jvm.ClassFile.FieldType.long), Jvm.Cond.code ({ cls := "com/example/gryphon/gryphon/generate/SplitMixNextPinLaw", name := "inverse", desc := "(J)J" } : Jvm.MethodName) method_2_code (4 : Nat) (Option.some Jvm.ClassFile.FieldType.long), Jvm.Cond.code ({ cls := "com/example/gryphon/gryphon/generate/SplitMixNextPinLaw", name := "unmix", desc := "(J)J" } : Jvm.MethodName) method_3_code (4 : Nat) (Option.some Jvm.ClassFile.FieldType.long)]
set_option maxRecDepth 65536 in
theorem codes_eq : words1.filter isCode = codes1 := rfl
theorem w_codes : ∀ c ∈ words1.filter isCode, c.before args0 about1 = true := by
  rw [codes_eq]
  intro c hc
  simp only [codes1, List.mem_cons, List.not_mem_nil, or_false] at hc
  rcases hc with rfl | rfl | rfl | rfl | rfl | rfl
  · exact w_c0
  · exact w_c1
  · exact w_c2
  · exact w_c3
  · exact w_c4
  · exact w_c5
set_option maxRecDepth 65536 in
theorem w_t1 : (words1.take 24).all (fun c => isCode c || c.before args0 about1) = true := by decide +kernel
set_option maxRecDepth 65536 in
theorem w_t2 : (words1.drop 24).all (fun c => isCode c || c.before args0 about1) = true := by decide +kernel
theorem w_tables : (allAtoms (Jvm.Cond.code x code maxLocals ret :: tables_1)).before args0 about1 = true := by
  rw [allAtoms_all]
  show words1.all (fun c => c.before args0 about1) = true
  refine all_split ?_ w_codes
  rw [← List.take_append_drop 24 words1, List.all_append, w_t1, w_t2]
  rfl
set_option maxRecDepth 65536 in
theorem w_case : (Jvm.Cond.and given_1 narrow_1).before args0 about1 = true := by decide +kernel
theorem w_applies : (headSpec (Jvm.Cond.code x code maxLocals ret :: tables_1) room_1).applies x e0.platform about1 = true :=
  (Spec.applies_iff w_frames).mpr ⟨w_running, w_runnable, w_alone, w_named, w_hears, w_ripe, w_room, w_tables⟩
theorem atStart : AtStart classFile x code maxLocals ret World_1 tables_1 room_1 Calls_1 rest_1 Pre_1 launch0 p0 e0 about1 theMethod args0 below0 :=
  ⟨lists_1, trivial, launch0.admits_env _ _ _, launch0.least_env, fairChoices_fair.cas, fairChoices_fair.clock, w_frames, w_args, w_heap, w_applies, trivial, trivial, w_case⟩
end start1
theorem witness_1 : WitnessClaimed_1 := ⟨start1.p0, start1.e0, start1.about1, start1.theMethod, start1.args0, start1.below0, start1.atStart⟩
end Jvm.Pilot.@@N@@
