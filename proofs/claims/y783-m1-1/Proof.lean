import JvmDerived
import JvmDerived.Pilot.@@N@@Statement
import JvmDerived.Pilot.@@N@@Code
set_option linter.unusedVariables false
set_option linter.unusedSimpArgs false
@@BLOCK:NumsL.lean.txt@@
namespace Jvm.RoadKit
open Sem ClassFile Op Lib Jvm.Stand Jvm.Free Jvm.LawKit
section New
variable {p : Program} {l : Launch} {e : Env} {R : Room} {s : State} {m : MethodId} {args : Array Value} {below : List Frame} {meth : Method} {c : Code} {T : State} {locs : List Loc} {cells slots : Nat}
theorem retI (X : Stand p l e R s m args below meth c T locs cells slots) (hx : p.tables.exec = Jvm.exec) {pc : Nat} {Ls : Array Slot} {z : Int32} {rest : List Value} (hret : meth.sig.returnType = some .int) (hd : decode c.code pc = .ok (.ireturn, 1)) {fs : List Frame}
    (hl : ∀ (f : JFrame) (acts : List Action), f.method = m → f.locked = none → f.entered = [] → (doReturn e (T.setTop f) acts (some (.int z))).1 = T.setFrames fs) : Steps p.tables e below (T.setTop (mkF m pc Ls (.int z :: rest))) (T.setFrames fs) := by
  have hm' : T.vm.method? m = some meth := X.method'
  have hn : narrow .int (.int z) = .int z := rfl
  show Steps p.tables e below (T.setTop { method := m, pc := pc, locals := Ls, stack := _ :: rest, locked := none }) _
  jvm_step X.here [X.here.top, hx, hd, hm', hret, hn]
  first | (intro acts; rw [hl _ acts rfl rfl rfl]) | rw [hl _ _ rfl rfl rfl]
  exact Steps.refl _
theorem own_retD (X : Stand p l e R s m args below meth c T locs cells slots) (hx : p.tables.exec = Jvm.exec) {pc : Nat} {Ls : Array Slot} {z : UInt64} {rest : List Value} (hret : meth.sig.returnType = some .double) (hd : decode c.code pc = .ok (.dreturn, 1)) {fs : List Frame}
    (hl : ∀ (f : JFrame) (acts : List Action), f.method = m → f.locked = none → f.entered = [] → (doReturn e (T.setTop f) acts (some (.double z))).1 = T.setFrames fs) : Steps p.tables e below (T.setTop (mkF m pc Ls (.double z :: rest))) (T.setFrames fs) := by
  have hm' : T.vm.method? m = some meth := X.method'
  have hn : narrow .double (.double z) = .double z := rfl
  show Steps p.tables e below (T.setTop { method := m, pc := pc, locals := Ls, stack := _ :: rest, locked := none }) _
  jvm_step X.here [X.here.top, hx, hd, hm', hret, hn]
  first | (intro acts; rw [hl _ acts rfl rfl rfl]) | rw [hl _ _ rfl rfl rfl]
  exact Steps.refl _
theorem own_stand {L1 L2 : List Loc} {c1 c2 n1 n2 : Nat} (X : Stand p l e R s m args below meth c T L1 c1 n1) (h1 : L1 = L2) (h2 : c1 = c2) (h3 : n1 = n2) : Stand p l e R s m args below meth c T L2 c2 n2 := by
  subst h1 h2 h3
  exact X
theorem own_ldc2D {g : JFrame} {target : State} (X : Stand p l e R s m args below meth c T locs cells slots) (hx : p.tables.exec = Jvm.exec) {own : String} {index : Nat} {b : UInt64} (hown : s.vm.findClass own = some m.cls) (hc : (Cond.constantDouble own index b).before args s = true) (hg : g.method = m) (hd : decode c.code g.pc = .ok (.ldc2_w index, 3))
    (hr : Steps p.tables e below (T.setTop { g with pc := g.pc + 3, stack := .double b :: g.stack }) target) : Steps p.tables e below (T.setTop g) target := X.ldc2DoubleC hx hown hc hg hd target hr
end New
end Jvm.RoadKit
/- laws to paste: Road.backV (cut by pick.py; bodies as the Statement names them) -/
namespace Jvm.Pilot.@@N@@
namespace StrChars
open Jvm Sem ClassFile Op Lib Jvm.Stand Jvm.Free.XT Jvm.Free.ALB Jvm.Free.JM Jvm.Free
open Jvm.Lib.Cold (StaticIs)
/-- a char array whose places are chars -/
def Ch (a : Addr) (A : Cell) (U : State) : Prop := Arr .char a A U ∧ Typed .char A
theorem Ch.mv {a : Addr} {A : Cell} {U U' : State} (h : Ch a A U) (hal : U.vm.Alike U'.vm) (hh : U'.heap = U.heap) : Ch a A U' := ⟨h.1.mv hal hh, h.2⟩
theorem Ch.keep {a : Addr} {A : Cell} {U U' : State} (h : Ch a A U) (hal : U.vm.Alike U'.vm) (hk : U'.heap[a]? = some A) : Ch a A U' := ⟨h.1.keep hal hk, h.2⟩
/-- what place i of a char[]'s cell holds -/
def cv (A : Cell) (i : Nat) : Int32 := match A.slots[i]? with | some (.int x) => x | _ => 0
theorem Ch.get {a : Addr} {A : Cell} {U : State} (h : Ch a A U) {i : Nat} (hi : i < A.slots.size) : A.slots[i]? = some (.int (cv A i)) := by
  have e := Array.getElem?_eq_getElem hi
  have f := h.2 i _ e
  unfold cv; rw [e]
  generalize A.slots[i] = v at f
  cases v <;> simp [fits] at f ⊢
/-- the byte that i2b leaves of a char -/
def lo8 (x : Int32) : Int32 := x.toInt8.toInt32
theorem fits_lo8 (y : Int32) : fits .byte (.int (lo8 y)) = true := by
  have h1 := y.toInt8.le_toInt
  have h2 := y.toInt8.toInt_lt
  simp only [lo8, fits, Bool.and_eq_true, decide_eq_true_eq, Int32.le_iff_toInt_le, Int8.toInt_toInt32, show (-128 : Int32).toInt = -128 from by decide, show (127 : Int32).toInt = 127 from by decide]
  omega
/-- A' is A but that each place j of lo .. hi - 1 holds f j -/
def Laid (A A' : Cell) (lo hi : Nat) (f : Nat → Value) : Prop := A'.cls = A.cls ∧ A'.vm = A.vm ∧ A'.slots.size = A.slots.size ∧ ∀ i, A'.slots[i]? = if lo ≤ i ∧ i < hi then some (f i) else A.slots[i]?
theorem Laid.zero (A : Cell) (lo : Nat) (f : Nat → Value) : Laid A A lo (lo + 0) f := ⟨rfl, rfl, rfl, fun i => by rw [if_neg (by omega)]⟩
theorem Laid.step {A Ak : Cell} {lo k : Nat} {f : Nat → Value} {v : Value} (h : Laid A Ak lo k f) (hlo : lo ≤ k) (hk : k < Ak.slots.size) (hv : v = f k) : Laid A (Ak.setSlot k v) lo (k + 1) f := by
  refine ⟨h.1, h.2.1, by simpa [Cell.setSlot] using h.2.2.1, fun i => ?_⟩
  by_cases e : k = i
  · subst e; rw [Cell.slots_setSlot_self v hk, if_pos (by omega), hv]
  · rw [Cell.slots_setSlot_ne v e, h.2.2.2 i]
    by_cases q : lo ≤ i ∧ i < k
    · rw [if_pos q, if_pos (by omega)]
    · rw [if_neg q, if_neg (by omega)]
def U16 : String := "java/lang/StringUTF16"
namespace Cmp5
def yN : MethodName := ⟨"java/lang/StringUTF16", "compress", "([CI[BII)I"⟩
abbrev yB : ByteArray := jdk_52_method_21_code
theorem d0 : decode yB 0 = .ok (.iconst 0, 1) := by decide +kernel
theorem d1 : decode yB 1 = .ok (.istore 5, 2) := by decide +kernel
theorem d3 : decode yB 3 = .ok (.iload 5, 2) := by decide +kernel
theorem d5 : decode yB 5 = .ok (.iload 4, 2) := by decide +kernel
theorem d7 : decode yB 7 = .ok (.if_icmp (.ge) 37, 3) := by decide +kernel
theorem d10 : decode yB 10 = .ok (.aload_n 0, 1) := by decide +kernel
theorem d11 : decode yB 11 = .ok (.iload_n 1, 1) := by decide +kernel
theorem d12 : decode yB 12 = .ok (.caload, 1) := by decide +kernel
theorem d13 : decode yB 13 = .ok (.istore 6, 2) := by decide +kernel
theorem d15 : decode yB 15 = .ok (.iload 6, 2) := by decide +kernel
theorem d17 : decode yB 17 = .ok (.sipush 255, 3) := by decide +kernel
theorem d20 : decode yB 20 = .ok (.if_icmp (.le) 6, 3) := by decide +kernel
theorem d26 : decode yB 26 = .ok (.aload_n 2, 1) := by decide +kernel
theorem d27 : decode yB 27 = .ok (.iload_n 3, 1) := by decide +kernel
theorem d28 : decode yB 28 = .ok (.iload 6, 2) := by decide +kernel
theorem d30 : decode yB 30 = .ok (.i2b, 1) := by decide +kernel
theorem d31 : decode yB 31 = .ok (.bastore, 1) := by decide +kernel
theorem d32 : decode yB 32 = .ok (.iinc 1 1, 3) := by decide +kernel
theorem d35 : decode yB 35 = .ok (.iinc 3 1, 3) := by decide +kernel
theorem d38 : decode yB 38 = .ok (.iinc 5 1, 3) := by decide +kernel
theorem d41 : decode yB 41 = .ok (.goto (-38), 3) := by decide +kernel
theorem d44 : decode yB 44 = .ok (.iload 4, 2) := by decide +kernel
theorem d46 : decode yB 46 = .ok (.ireturn, 1) := by decide +kernel
def site : List Cond := []
def tab : Cond := tabOf yN yB 7 (some .int) site
def P (b : Addr) (A : Cell) (d : Addr) (B : Cell) (o q len : Nat) (args : Array Value) (s : State) : Prop := args = #[.ref b, .int (Int32.ofNat o), .ref d, .int (Int32.ofNat q), .int (Int32.ofNat len)] ∧ Ch b A s ∧ Arr .byte d B s ∧ b ≠ d ∧ o + len ≤ A.slots.size ∧ q + len ≤ B.slots.size ∧ ∀ i, i < len → ¬ 255 < cv A (o + i)
def E (b : Addr) (A : Cell) (d : Addr) (B : Cell) (o q len : Nat) (r : Option Value) (s u : State) : Prop := r = some (.int (Int32.ofNat len)) ∧ ∃ B', Put d B' s u ∧ Laid B B' q (q + len) (fun j => Value.int (lo8 (cv A (o + (j - q)))))
/-- no char of the range above 255: len; the places written hold each char's low byte -/
theorem law (l : Launch) (b : Addr) (A : Cell) (d : Addr) (B : Cell) (o q len : Nat) : Law l yN 5 5 0 0 yB 7 (some .int) site (P b A d B o q len) (E b A d B o q len) (copyLocs d q len) 0 0 := by
  refine Law.of_walk (plainFor_of_name (by decide +kernel)) (by decide +kernel) (by decide +kernel) (by decide) (fun _ _ h => by rw [h.1]; rfl) (fun _ U U' hal hh h => ⟨h.1, h.2.1.mv hal hh, h.2.2.1.mv hal hh, h.2.2.2⟩) (fun r U U' V V' h1 hal h2 h => ⟨h.1, h.2.elim fun B' q => ⟨B', q.1.mv h1 h2, q.2⟩⟩) ?_
  intro p e s m args below meth c s₁ X0 hexec hbytes hml hret hlk hnm hown hh0 W hP
  obtain ⟨rfl, hA, hB, hne, l1, l2, hp⟩ := hP
  have c1 : Steps p.tables e below (s₁.setTop (entryFrame m #[.ref b, .int (Int32.ofNat o), .ref d, .int (Int32.ofNat q), .int (Int32.ofNat len)] 7)) (s₁.setTop (mkF m 0 #[.val (.ref b), .val (.int (Int32.ofNat o)), .val (.ref d), .val (.int (Int32.ofNat q)), .val (.int (Int32.ofNat len)), .unset, .unset] [])) := entry rfl
  have hA0 := hA.1.mv X0.warmed.alike hh0
  have hB0 := hB.mv X0.warmed.alike hh0
  have a31 := hA.1.2.2.2
  have c2 : Steps p.tables e below (s₁.setTop (entryFrame m #[.ref b, .int (Int32.ofNat o), .ref d, .int (Int32.ofNat q), .int (Int32.ofNat len)] 7)) (s₁.setTop (mkF m 3 #[.val (.ref b), .val (.int (Int32.ofNat o)), .val (.ref d), .val (.int (Int32.ofNat q)), .val (.int (Int32.ofNat len)), .val (.int 0), .unset] [])) := c1.trans (by
    refine iconstV X0.here hexec rfl 0 (hb hbytes d0) (by decide) ?_
    refine XS.istore X0.here hexec rfl (hb hbytes d1) rfl rfl ?_
    exact Steps.refl _)
  have loop : ∀ (r i : Nat), i + r = len → ∀ (z : Slot), (z = .unset ∨ ∃ w, z = .val w ∧ w.category = 1) → ∀ (Tl : State) (Bk : Cell), Stand p l e { frames := 0, locals := 0, cells := 0, slots := 0 } s m #[.ref b, .int (Int32.ofNat o), .ref d, .int (Int32.ofNat q), .int (Int32.ofNat len)] below meth c Tl ([] ++ copyLocs d q i) 0 0 → Put d Bk s₁ Tl → Laid B Bk q (q + i) (fun j => Value.int (lo8 (cv A (o + (j - q))))) →
      Steps p.tables e below (s₁.setTop (entryFrame m #[.ref b, .int (Int32.ofNat o), .ref d, .int (Int32.ofNat q), .int (Int32.ofNat len)] 7)) (Tl.setTop (mkF m 3 #[.val (.ref b), .val (.int (Int32.ofNat (o + i))), .val (.ref d), .val (.int (Int32.ofNat (q + i))), .val (.int (Int32.ofNat len)), .val (.int (Int32.ofNat i)), z] [])) → ∃ (T' : State) (B' : Cell) (z' : Slot), Stand p l e { frames := 0, locals := 0, cells := 0, slots := 0 } s m #[.ref b, .int (Int32.ofNat o), .ref d, .int (Int32.ofNat q), .int (Int32.ofNat len)] below meth c T' ([] ++ copyLocs d q len) 0 0 ∧ Put d B' s₁ T' ∧ Laid B B' q (q + len) (fun j => Value.int (lo8 (cv A (o + (j - q))))) ∧
      Steps p.tables e below (s₁.setTop (entryFrame m #[.ref b, .int (Int32.ofNat o), .ref d, .int (Int32.ofNat q), .int (Int32.ofNat len)] 7)) (T'.setTop (mkF m 3 #[.val (.ref b), .val (.int (Int32.ofNat (o + len))), .val (.ref d), .val (.int (Int32.ofNat (q + len))), .val (.int (Int32.ofNat len)), .val (.int (Int32.ofNat len)), z'] [])) := by
    intro r
    induction r with
    | zero =>
      intro i hi z hz Tl Bk Xl pl fl cl
      have hil : i = len := by omega
      rw [hil] at Xl fl cl
      exact ⟨Tl, Bk, z, Xl, pl, fl, cl⟩
    | succ r ih =>
      intro i hi z hz Tl Bk Xl pl fl cl
      have all := X0.warmed.alike.symm.trans Xl.warmed.alike
      have hAl := hA0.keep all (pl.other hne hA0.1)
      have hBk := hB0.like all pl.1 fl.1 fl.2.1 fl.2.2.1
      have hlt : q + i < Bk.slots.size := by rw [fl.2.2.1]; omega
      have c3 : Steps p.tables e below (s₁.setTop (entryFrame m #[.ref b, .int (Int32.ofNat o), .ref d, .int (Int32.ofNat q), .int (Int32.ofNat len)] 7)) (Tl.setTop (mkF m 12 #[.val (.ref b), .val (.int (Int32.ofNat (o + i))), .val (.ref d), .val (.int (Int32.ofNat (q + i))), .val (.int (Int32.ofNat len)), .val (.int (Int32.ofNat i)), z] [.int (Int32.ofNat (o + i)), .ref b])) := cl.trans (by
        refine XS.iload Xl.here hexec rfl (hb hbytes d3) rfl ?_
        refine XS.iload Xl.here hexec rfl (hb hbytes d5) rfl ?_
        refine XS.icmpNo Xl.here hexec rfl (hb hbytes d7) rfl (ii_ge_f (lt32 (by omega) (by omega))) ?_
        refine XS.aloadN Xl.here hexec rfl (hb hbytes d10) rfl rfl ?_
        refine XS.iloadN Xl.here hexec rfl (hb hbytes d11) rfl ?_
        exact Steps.refl _)
      have c4 : Steps p.tables e below (s₁.setTop (entryFrame m #[.ref b, .int (Int32.ofNat o), .ref d, .int (Int32.ofNat q), .int (Int32.ofNat len)] 7)) (Tl.setTop (mkF m 13 #[.val (.ref b), .val (.int (Int32.ofNat (o + i))), .val (.ref d), .val (.int (Int32.ofNat (q + i))), .val (.int (Int32.ofNat len)), .val (.int (Int32.ofNat i)), z] [.int (cv A (o + i))])) := c3.trans (by
        refine Xl.aget hexec hAl rfl (hA.get (i := o + i) (by omega)) rfl rfl (hb hbytes d12) ?_
        exact Steps.refl _)
      have c5 : Steps p.tables e below (s₁.setTop (entryFrame m #[.ref b, .int (Int32.ofNat o), .ref d, .int (Int32.ofNat q), .int (Int32.ofNat len)] 7)) (Tl.setTop (mkF m 15 #[.val (.ref b), .val (.int (Int32.ofNat (o + i))), .val (.ref d), .val (.int (Int32.ofNat (q + i))), .val (.int (Int32.ofNat len)), .val (.int (Int32.ofNat i)), .val (.int (cv A (o + i)))] [])) := c4.trans (by
        refine XS.istoreS Xl.here hexec rfl (hb hbytes d13) rfl rfl hz ?_
        exact Steps.refl _)
      have c6 : Steps p.tables e below (s₁.setTop (entryFrame m #[.ref b, .int (Int32.ofNat o), .ref d, .int (Int32.ofNat q), .int (Int32.ofNat len)] 7)) (Tl.setTop (mkF m 31 #[.val (.ref b), .val (.int (Int32.ofNat (o + i))), .val (.ref d), .val (.int (Int32.ofNat (q + i))), .val (.int (Int32.ofNat len)), .val (.int (Int32.ofNat i)), .val (.int (cv A (o + i)))] [.int (lo8 (cv A (o + i))), .int (Int32.ofNat (q + i)), .ref d])) := c5.trans (by
        refine XS.iload Xl.here hexec rfl (hb hbytes d15) rfl ?_
        refine sipushV Xl.here hexec rfl 255 (hb hbytes d17) (by decide) ?_
        refine XS.icmpYes Xl.here hexec rfl (pc0 := 20) rfl (hb hbytes d20) rfl (ii_le_t (hp i (by omega))) (by decide) rfl ?_
        refine XS.aloadN Xl.here hexec rfl (hb hbytes d26) rfl rfl ?_
        refine XS.iloadN Xl.here hexec rfl (hb hbytes d27) rfl ?_
        refine XS.iload Xl.here hexec rfl (hb hbytes d28) rfl ?_
        refine i2b Xl.here hexec rfl (hb hbytes d30) rfl ?_
        exact Steps.refl _)
      obtain ⟨T7, X7, p7, st7⟩ := Xl.aput hexec hBk rfl hlt rfl (fits_lo8 (cv A (o + i))) (g := (mkF m 31 #[.val (.ref b), .val (.int (Int32.ofNat (o + i))), .val (.ref d), .val (.int (Int32.ofNat (q + i))), .val (.int (Int32.ofNat len)), .val (.int (Int32.ofNat i)), .val (.int (cv A (o + i)))] [.int (lo8 (cv A (o + i))), .int (Int32.ofNat (q + i)), .ref d])) rfl (rest := []) rfl (hb hbytes d31)
      have c8 : Steps p.tables e below (s₁.setTop (entryFrame m #[.ref b, .int (Int32.ofNat o), .ref d, .int (Int32.ofNat q), .int (Int32.ofNat len)] 7)) (T7.setTop (mkF m 32 #[.val (.ref b), .val (.int (Int32.ofNat (o + i))), .val (.ref d), .val (.int (Int32.ofNat (q + i))), .val (.int (Int32.ofNat len)), .val (.int (Int32.ofNat i)), .val (.int (cv A (o + i)))] [])) := c6.trans (st7 _ (Steps.refl _))
      have c9 : Steps p.tables e below (s₁.setTop (entryFrame m #[.ref b, .int (Int32.ofNat o), .ref d, .int (Int32.ofNat q), .int (Int32.ofNat len)] 7)) (T7.setTop (mkF m 3 #[.val (.ref b), .val (.int (Int32.ofNat (o + i) + 1)), .val (.ref d), .val (.int (Int32.ofNat (q + i) + 1)), .val (.int (Int32.ofNat len)), .val (.int (Int32.ofNat i + 1)), .val (.int (cv A (o + i)))] [])) := c8.trans (by
        refine iincV X7.here hexec rfl 1 (hb hbytes d32) (by decide) rfl rfl ?_
        refine iincV X7.here hexec rfl 1 (hb hbytes d35) (by decide) rfl rfl ?_
        refine iincV X7.here hexec rfl 1 (hb hbytes d38) (by decide) rfl rfl ?_
        refine XS.goto X7.here hexec rfl (pc0 := 41) rfl (hb hbytes d41) (by decide) rfl ?_
        exact Steps.refl _)
      have c10 : Steps p.tables e below (s₁.setTop (entryFrame m #[.ref b, .int (Int32.ofNat o), .ref d, .int (Int32.ofNat q), .int (Int32.ofNat len)] 7)) (T7.setTop (mkF m 3 #[.val (.ref b), .val (.int (Int32.ofNat (o + (i + 1)))), .val (.ref d), .val (.int (Int32.ofNat (q + (i + 1)))), .val (.int (Int32.ofNat len)), .val (.int (Int32.ofNat (i + 1))), .val (.int (cv A (o + i)))] [])) := by
        have := c9
        rw [succ32, succ32, succ32] at this
        exact this
      exact ih (i + 1) (by omega) _ (Or.inr ⟨_, rfl, rfl⟩) T7 _ (by rw [copyLocs_step, ← List.append_assoc]; exact X7) (pl.trans p7) (fl.step (by omega) hlt (by simp)) c10
  obtain ⟨T9, B9, z9, X9, p9, f9, g9⟩ := loop len 0 (by omega) .unset (Or.inl rfl) s₁ B (by simpa [copyLocs] using X0) ⟨hB0.1, fun _ _ => rfl, rfl⟩ (Laid.zero _ _ _) c2
  have c11 : Steps p.tables e below (s₁.setTop (entryFrame m #[.ref b, .int (Int32.ofNat o), .ref d, .int (Int32.ofNat q), .int (Int32.ofNat len)] 7)) (T9.setTop (mkF m 46 #[.val (.ref b), .val (.int (Int32.ofNat (o + len))), .val (.ref d), .val (.int (Int32.ofNat (q + len))), .val (.int (Int32.ofNat len)), .val (.int (Int32.ofNat len)), z9] [.int (Int32.ofNat len)])) := g9.trans (by
    refine XS.iload X9.here hexec rfl (hb hbytes d3) rfl ?_
    refine XS.iload X9.here hexec rfl (hb hbytes d5) rfl ?_
    refine XS.icmpYes X9.here hexec rfl (pc0 := 7) rfl (hb hbytes d7) rfl (ii_ge_t (nlt32 (by omega) (Nat.le_refl _))) (by decide) rfl ?_
    refine XS.iload X9.here hexec rfl (hb hbytes d44) rfl ?_
    exact Steps.refl _)
  exact ⟨T9, some (.int (Int32.ofNat len)), _, _, _, X9, by simp, rfl, rfl, (fun h => by cases h), ⟨rfl, B9, p9.from hh0, f9⟩, fun fs hl => c11.trans (X9.ireturnOut hexec hret rfl (Or.inl rfl) (hb hbytes d46) hl)⟩
end Cmp5
namespace Cmp3
def yN : MethodName := ⟨"java/lang/StringUTF16", "compress", "([CII)[B"⟩
abbrev yB : ByteArray := jdk_52_method_16_code
theorem d0 : decode yB 0 = .ok (.iload_n 2, 1) := by decide +kernel
theorem d1 : decode yB 1 = .ok (.newarray .byte, 2) := by decide +kernel
theorem d3 : decode yB 3 = .ok (.astore_n 3, 1) := by decide +kernel
theorem d4 : decode yB 4 = .ok (.aload_n 0, 1) := by decide +kernel
theorem d5 : decode yB 5 = .ok (.iload_n 1, 1) := by decide +kernel
theorem d6 : decode yB 6 = .ok (.aload_n 3, 1) := by decide +kernel
theorem d7 : decode yB 7 = .ok (.iconst 0, 1) := by decide +kernel
theorem d8 : decode yB 8 = .ok (.iload_n 2, 1) := by decide +kernel
theorem d9 : decode yB 9 = .ok (.invokestatic 115, 3) := by decide +kernel
theorem d12 : decode yB 12 = .ok (.istore 4, 2) := by decide +kernel
theorem d14 : decode yB 14 = .ok (.iload 4, 2) := by decide +kernel
theorem d16 : decode yB 16 = .ok (.iload_n 2, 1) := by decide +kernel
theorem d17 : decode yB 17 = .ok (.if_icmp (.eq) 40, 3) := by decide +kernel
theorem d57 : decode yB 57 = .ok (.aload_n 3, 1) := by decide +kernel
theorem d58 : decode yB 58 = .ok (.areturn, 1) := by decide +kernel
def site : List Cond := [.arrayClass .byte, Cmp5.tab] ++ staticW U16 115 Cmp5.yN
def tab : Cond := tabOf yN yB 6 (some (.array .byte)) site
def P (b : Addr) (A : Cell) (o len : Nat) (args : Array Value) (s : State) : Prop := args = #[.ref b, .int (Int32.ofNat o), .int (Int32.ofNat len)] ∧ Ch b A s ∧ o + len ≤ A.slots.size ∧ len ≤ 536870912 ∧ ∀ i, i < len → ¬ 255 < cv A (o + i)
def E (b : Addr) (A : Cell) (o len : Nat) (r : Option Value) (s u : State) : Prop := NewArr .byte "[B" len (fun j => .int (lo8 (cv A (o + j)))) r s u ∧ u.heap.size = s.heap.size + 1
/-- no char of the range above 255: a new byte[] of their low bytes -/
theorem law (l : Launch) (b : Addr) (A : Cell) (o len : Nat) : Law l yN 3 3 1 18 yB 6 (some (.array .byte)) site (P b A o len) (E b A o len) [] 1 len := by
  refine Law.of_walk (plainFor_of_name (by decide +kernel)) (by decide +kernel) (by decide +kernel) (by decide) (fun _ _ h => by rw [h.1]; rfl) (fun _ U U' hal hh h => ⟨h.1, h.2.1.mv hal hh, h.2.2⟩) (fun r U U' V V' h1 hal h2 h => ⟨NewArr.mv r U U' V V' h1 hal h2 h.1, by rw [h1, h2]; exact h.2⟩) ?_
  intro p e s m args below meth c s₁ X0 hexec hbytes hml hret hlk hnm hown hh0 W hP
  obtain ⟨rfl, hA, l1, l2, hp⟩ := hP
  have a31 := hA.1.2.2.2
  have c1 : Steps p.tables e below (s₁.setTop (entryFrame m #[.ref b, .int (Int32.ofNat o), .int (Int32.ofNat len)] 6)) (s₁.setTop (mkF m 0 #[.val (.ref b), .val (.int (Int32.ofNat o)), .val (.int (Int32.ofNat len)), .unset, .unset, .unset] [])) := entry rfl
  have c2 : Steps p.tables e below (s₁.setTop (entryFrame m #[.ref b, .int (Int32.ofNat o), .int (Int32.ofNat len)] 6)) (s₁.setTop (mkF m 1 #[.val (.ref b), .val (.int (Int32.ofNat o)), .val (.int (Int32.ofNat len)), .unset, .unset, .unset] [.int (Int32.ofNat len)])) := c1.trans (by
    refine XS.iloadN X0.here hexec rfl (hb hbytes d0) rfl ?_
    exact Steps.refl _)
  obtain ⟨T3, B3, X3, ba3, bs3, bv3, bh3, bf3, st3⟩ := X0.anew hexec (atype := .byte) (wk W (.arrayClass .byte)) rfl (by show len * 1 ≤ _; omega) (by omega) (g := (mkF m 1 #[.val (.ref b), .val (.int (Int32.ofNat o)), .val (.int (Int32.ofNat len)), .unset, .unset, .unset] [.int (Int32.ofNat len)])) rfl (hb hbytes d1) (rest := []) rfl (Nat.le_refl _) (by show 0 + len ≤ len; omega)
  rw [hh0] at ba3 st3
  have kp3 : XT.Kept s T3 := (XT.Kept.of_eq hh0).push bh3
  have hA3 := hA.keep X3.warmed.alike (kp3 _ _ hA.1.1)
  have hne : b ≠ s.heap.size := hA.1.ne
  have c4 : Steps p.tables e below (s₁.setTop (entryFrame m #[.ref b, .int (Int32.ofNat o), .int (Int32.ofNat len)] 6)) (T3.setTop (mkF m 3 #[.val (.ref b), .val (.int (Int32.ofNat o)), .val (.int (Int32.ofNat len)), .unset, .unset, .unset] [.ref s.heap.size])) := c2.trans (st3 _ (Steps.refl _))
  have c5 : Steps p.tables e below (s₁.setTop (entryFrame m #[.ref b, .int (Int32.ofNat o), .int (Int32.ofNat len)] 6)) (T3.setTop (mkF m 9 #[.val (.ref b), .val (.int (Int32.ofNat o)), .val (.int (Int32.ofNat len)), .val (.ref s.heap.size), .unset, .unset] [.int (Int32.ofNat len), .int 0, .ref s.heap.size, .int (Int32.ofNat o), .ref b])) := c4.trans (by
    refine XS.astoreN X3.here hexec rfl (hb hbytes d3) rfl rfl rfl ?_
    refine XS.aloadN X3.here hexec rfl (hb hbytes d4) rfl rfl ?_
    refine XS.iloadN X3.here hexec rfl (hb hbytes d5) rfl ?_
    refine XS.aloadN X3.here hexec rfl (hb hbytes d6) rfl rfl ?_
    refine iconstV X3.here hexec rfl 0 (hb hbytes d7) (by decide) ?_
    refine XS.iloadN X3.here hexec rfl (hb hbytes d8) rfl ?_
    exact Steps.refl _)
  obtain ⟨v6, T6, X6, E6, g6⟩ := X3.callS hexec (Cmp5.law l b A s.heap.size B3 o 0 len) hown (wks W (staticW U16 115 Cmp5.yN)) (wk W Cmp5.tab) (W := 0) (Nat.le_of_ble_eq_true rfl) (Nat.le_of_ble_eq_true rfl) (Nat.le_refl _) (by show 0 + len + 0 ≤ len; omega) (g := (mkF m 9 #[.val (.ref b), .val (.int (Int32.ofNat o)), .val (.int (Int32.ofNat len)), .val (.ref s.heap.size), .unset, .unset] [.int (Int32.ofNat len), .int (Int32.ofNat 0), .ref s.heap.size, .int (Int32.ofNat o), .ref b])) rfl (by rw [hml]; rfl) c5 (argsL := [.ref b, .int (Int32.ofNat o), .ref s.heap.size, .int (Int32.ofNat 0), .int (Int32.ofNat len)]) (rest := []) rfl rfl (by show 2 * 0 + 0 ≤ _; decide) (hb hbytes d9) (⟨rfl, hA3, ba3, hne, l1, by rw [bs3]; simp, hp⟩)
  obtain ⟨rfl, B6, p6, f6⟩ := E6
  have c7 : Steps p.tables e below (s₁.setTop (entryFrame m #[.ref b, .int (Int32.ofNat o), .int (Int32.ofNat len)] 6)) (T6.setTop (mkF m 12 #[.val (.ref b), .val (.int (Int32.ofNat o)), .val (.int (Int32.ofNat len)), .val (.ref s.heap.size), .unset, .unset] [.int (Int32.ofNat len)])) := g6
  have c8 : Steps p.tables e below (s₁.setTop (entryFrame m #[.ref b, .int (Int32.ofNat o), .int (Int32.ofNat len)] 6)) (T6.setTop (mkF m 58 #[.val (.ref b), .val (.int (Int32.ofNat o)), .val (.int (Int32.ofNat len)), .val (.ref s.heap.size), .val (.int (Int32.ofNat len)), .unset] [.ref s.heap.size])) := c7.trans (by
    refine XS.istore X6.here hexec rfl (hb hbytes d12) rfl rfl ?_
    refine XS.iload X6.here hexec rfl (hb hbytes d14) rfl ?_
    refine XS.iloadN X6.here hexec rfl (hb hbytes d16) rfl ?_
    refine XS.icmpYes X6.here hexec rfl (pc0 := 17) rfl (hb hbytes d17) rfl (ii_eq_t rfl) (by decide) rfl ?_
    refine XS.aloadN X6.here hexec rfl (hb hbytes d57) rfl rfl ?_
    exact Steps.refl _)
  have X8 := X6.wide (L' := []) (cells' := 1) (slots' := len) (fun x hx hlt => by
    simp only [List.nil_append, copyLocs, List.mem_map, List.mem_range] at hx
    obtain ⟨i, -, rfl⟩ := hx
    exact absurd hlt (Nat.lt_irrefl _)) (Nat.le_refl _) (by omega)
  exact ⟨T6, some (.ref s.heap.size), _, _, _, X8, rfl, rfl, rfl, (fun h => by cases h), ⟨⟨rfl, B6, ba3.like (X3.warmed.alike.symm.trans X6.warmed.alike) p6.1 f6.1 f6.2.1 f6.2.2.1, f6.2.1.trans bv3, by rw [X6.warmed.alike.findClass, f6.1]; exact bf3, by rw [f6.2.2.1, bs3]; simp, fun j hj => by rw [f6.2.2.2 j, if_pos (by omega)]; rfl, kp3.put p6 (Nat.le_refl _)⟩, by rw [p6.2.2, bh3, hh0]; simp⟩, fun fs hl => c8.trans (X8.areturnOut hexec rfl hret rfl (hb hbytes d58) hl)⟩
end Cmp3
namespace CodL
def yN : MethodName := ⟨"java/lang/StringUTF16", "coderFromArrayLen", "([BI)B"⟩
abbrev yB : ByteArray := jdk_52_method_15_code
theorem d0 : decode yB 0 = .ok (.iload_n 1, 1) := by decide +kernel
theorem d1 : decode yB 1 = .ok (.aload_n 0, 1) := by decide +kernel
theorem d2 : decode yB 2 = .ok (.arraylength, 1) := by decide +kernel
theorem d3 : decode yB 3 = .ok (.isub, 1) := by decide +kernel
theorem d4 : decode yB 4 = .ok (.bipush 31, 2) := by decide +kernel
theorem d6 : decode yB 6 = .ok (.iushr, 1) := by decide +kernel
theorem d7 : decode yB 7 = .ok (.i2b, 1) := by decide +kernel
theorem d8 : decode yB 8 = .ok (.ireturn, 1) := by decide +kernel
def site : List Cond := []
def tab : Cond := tabOf yN yB 2 (some .byte) site
def P (d : Addr) (B : Cell) (args : Array Value) (s : State) : Prop := args = #[.ref d, .int (Int32.ofNat B.slots.size)] ∧ Arr .byte d B s
def E (r : Option Value) (s u : State) : Prop := XT.PureE (some (.int 0)) r s u
/-- an array as long as the number of chars: LATIN1 -/
theorem law (l : Launch) (d : Addr) (B : Cell) : Law l yN 2 2 0 0 yB 2 (some .byte) site (P d B) E [] 0 0 := by
  refine Law.of_walk (plainFor_of_name (by decide +kernel)) (by decide +kernel) (by decide +kernel) (by decide) (fun _ _ h => by rw [h.1]; rfl) (fun _ U U' hal hh h => ⟨h.1, h.2.mv hal hh⟩) (fun r U U' V V' h1 hal h2 h => XT.PureE.mv r U U' V V' h1 hal h2 h) ?_
  intro p e s m args below meth c s₁ X0 hexec hbytes hml hret hlk hnm hown hh0 W hP
  obtain ⟨rfl, hB⟩ := hP
  have hB0 := hB.mv X0.warmed.alike hh0
  have c1 : Steps p.tables e below (s₁.setTop (entryFrame m #[.ref d, .int (Int32.ofNat B.slots.size)] 2)) (s₁.setTop (mkF m 0 #[.val (.ref d), .val (.int (Int32.ofNat B.slots.size))] [])) := entry rfl
  have c2 : Steps p.tables e below (s₁.setTop (entryFrame m #[.ref d, .int (Int32.ofNat B.slots.size)] 2)) (s₁.setTop (mkF m 2 #[.val (.ref d), .val (.int (Int32.ofNat B.slots.size))] [.ref d, .int (Int32.ofNat B.slots.size)])) := c1.trans (by
    refine XS.iloadN X0.here hexec rfl (hb hbytes d0) rfl ?_
    refine XS.aloadN X0.here hexec rfl (hb hbytes d1) rfl rfl ?_
    exact Steps.refl _)
  have c3 : Steps p.tables e below (s₁.setTop (entryFrame m #[.ref d, .int (Int32.ofNat B.slots.size)] 2)) (s₁.setTop (mkF m 8 #[.val (.ref d), .val (.int (Int32.ofNat B.slots.size))] [.int (lo8 (ushr (Int32.ofNat B.slots.size - Int32.ofNat B.slots.size) 31))])) := c2.trans (by
    refine X0.alen hexec hB0 rfl rfl (hb hbytes d2) ?_
    refine XS.isub X0.here hexec rfl (hb hbytes d3) rfl ?_
    refine bipushV X0.here hexec rfl 31 (hb hbytes d4) (by decide) ?_
    refine iushr X0.here hexec rfl (hb hbytes d6) rfl ?_
    refine i2b X0.here hexec rfl (hb hbytes d7) rfl ?_
    exact Steps.refl _)
  have e0 : lo8 (ushr (Int32.ofNat B.slots.size - Int32.ofNat B.slots.size) 31) = 0 := by rw [Int32.sub_self]; decide
  rw [e0] at c3
  exact ⟨s₁, some (.int 0), _, _, _, X0, rfl, rfl, rfl, (fun h => by cases h), ⟨rfl, hh0⟩, fun fs hl => c3.trans (X0.ireturnOut hexec hret rfl (Or.inr (Or.inr (Or.inl rfl))) (hb hbytes d8) hl)⟩
end CodL
/-- the String at a is Latin-1 over a new byte[] (the heap's one new cell): the low bytes of the len chars of A from o on; every cell but a is kept -/
def Got (a : Addr) (D : Cell) (fV fC : Field) (A : Cell) (o len : Nat) (r : Option Value) (s u : State) : Prop := r = none ∧ ∃ D' V : Cell, Blank "java/lang/String" a D' u ∧ Same D D' [fV.slot, fC.slot] ∧ D'.slots[fV.slot]? = some (.ref s.heap.size) ∧ D'.slots[fC.slot]? = some (.int 0) ∧ Arr .byte s.heap.size V u ∧ V.vm = .none ∧ u.vm.findClass "[B" = some V.cls ∧ V.slots.size = len ∧ (∀ j, j < len → V.slots[j]? = some (.int (lo8 (cv A (o + j))))) ∧ (∀ (y : Addr) (c : Cell), y ≠ a → s.heap[y]? = some c → u.heap[y]? = some c) ∧ u.heap.size = s.heap.size + 1
theorem Got.mv {a : Addr} {D A : Cell} {fV fC : Field} {o len : Nat} : ∀ r (U U' V V' : State), U'.heap = U.heap → V.vm.Alike V'.vm → V'.heap = V.heap → Got a D fV fC A o len r U V → Got a D fV fC A o len r U' V' :=
  fun r U U' V V' h1 hal h2 ⟨e0, D', X, a1, a2, a3, a4, a5, a6, a7, a8, a9, a10, a11⟩ => ⟨e0, D', X, a1.mv hal h2, a2, by rw [h1]; exact a3, a4, by rw [h1]; exact a5.mv hal h2, a6, by rw [hal.findClass]; exact a7, a8, a9, by rw [h1, h2]; exact a10, by rw [h1, h2]; exact a11⟩
namespace New4
def yN : MethodName := ⟨"java/lang/String", "<init>", "([CIILjava/lang/Void;)V"⟩
abbrev yB : ByteArray := jdk_42_method_149_code
theorem d0 : decode yB 0 = .ok (.aload_n 0, 1) := by decide +kernel
theorem d1 : decode yB 1 = .ok (.invokespecial 1, 3) := by decide +kernel
theorem d4 : decode yB 4 = .ok (.iload_n 3, 1) := by decide +kernel
theorem d5 : decode yB 5 = .ok (.ifCond (.ne) 22, 3) := by decide +kernel
theorem d27 : decode yB 27 = .ok (.getstatic 38, 3) := by decide +kernel
theorem d30 : decode yB 30 = .ok (.ifCond (.eq) 28, 3) := by decide +kernel
theorem d33 : decode yB 33 = .ok (.aload_n 1, 1) := by decide +kernel
theorem d34 : decode yB 34 = .ok (.iload_n 2, 1) := by decide +kernel
theorem d35 : decode yB 35 = .ok (.iload_n 3, 1) := by decide +kernel
theorem d36 : decode yB 36 = .ok (.invokestatic 177, 3) := by decide +kernel
theorem d39 : decode yB 39 = .ok (.astore 5, 2) := by decide +kernel
theorem d41 : decode yB 41 = .ok (.aload_n 0, 1) := by decide +kernel
theorem d42 : decode yB 42 = .ok (.aload 5, 2) := by decide +kernel
theorem d44 : decode yB 44 = .ok (.iload_n 3, 1) := by decide +kernel
theorem d45 : decode yB 45 = .ok (.invokestatic 47, 3) := by decide +kernel
theorem d48 : decode yB 48 = .ok (.putfield 15, 3) := by decide +kernel
theorem d51 : decode yB 51 = .ok (.aload_n 0, 1) := by decide +kernel
theorem d52 : decode yB 52 = .ok (.aload 5, 2) := by decide +kernel
theorem d54 : decode yB 54 = .ok (.putfield 9, 3) := by decide +kernel
theorem d57 : decode yB 57 = .ok (.return_, 1) := by decide +kernel
def site : List Cond := [.fieldLink "java/lang/String" 38 "java/lang/String" "COMPACT_STRINGS" "Z", Cmp3.tab, CodL.tab, .laysFinal "java/lang/String" "java/lang/String" "value" "[B", .fieldLink "java/lang/String" 9 "java/lang/String" "value" "[B", .laysFinal "java/lang/String" "java/lang/String" "coder" "B", .fieldLink "java/lang/String" 15 "java/lang/String" "coder" "B"] ++ objW "java/lang/String" 1 ++ staticW "java/lang/String" 177 Cmp3.yN ++ staticW "java/lang/String" 47 CodL.yN
def tab : Cond := tabOf yN yB 6 none site
def P (a : Addr) (D : Cell) (fV fC : Field) (b : Addr) (A : Cell) (z : Int32) (o len : Nat) (args : Array Value) (s : State) : Prop := args = #[.ref a, .ref b, .int (Int32.ofNat o), .int (Int32.ofNat len), .null] ∧ Blank "java/lang/String" a D s ∧ Found "java/lang/String" "value" "[B" fV s ∧ Found "java/lang/String" "coder" "B" fC s ∧ Ch b A s ∧ StaticIs s "java/lang/String" "COMPACT_STRINGS" "Z" (.int z) ∧ ¬ z = 0 ∧ 0 < len ∧ o + len ≤ A.slots.size ∧ len ≤ 536870912 ∧ ∀ i, i < len → ¬ 255 < cv A (o + i)
def E (a : Addr) (D : Cell) (fV fC : Field) (A : Cell) (o len : Nat) (r : Option Value) (s u : State) : Prop := Got a D fV fC A o len r s u
/-- len > 0, no char of the range above 255: a Latin-1 String of their low bytes -/
theorem law (l : Launch) (a : Addr) (D : Cell) (fV fC : Field) (b : Addr) (A : Cell) (z : Int32) (o len : Nat) : Law l yN 5 4 2 35 yB 6 none site (P a D fV fC b A z o len) (E a D fV fC A o len) [⟨a, fC.slot⟩, ⟨a, fV.slot⟩] 1 len := by
  refine Law.of_walk (plainFor_of_name (by decide +kernel)) (by decide +kernel) (by decide +kernel) (by decide) (fun _ _ h => by rw [h.1]; rfl) (fun _ U U' hal hh h => ⟨h.1, h.2.1.mv hal hh, h.2.2.1.al hal, h.2.2.2.1.al hal, h.2.2.2.2.1.mv hal hh, h.2.2.2.2.2.1.there hal hh, h.2.2.2.2.2.2⟩) (fun r U U' V V' h1 hal h2 h => Got.mv r U U' V V' h1 hal h2 h) ?_
  intro p e s m args below meth c s₁ X0 hexec hbytes hml hret hlk hnm hown hh0 W hP
  obtain ⟨rfl, hB, f1, f2, hA, s1, hz, l0, l1, l2, hp⟩ := hP
  have a31 := hA.1.2.2.2
  have c1 : Steps p.tables e below (s₁.setTop (entryFrame m #[.ref a, .ref b, .int (Int32.ofNat o), .int (Int32.ofNat len), .null] 6)) (s₁.setTop (mkF m 0 #[.val (.ref a), .val (.ref b), .val (.int (Int32.ofNat o)), .val (.int (Int32.ofNat len)), .val .null, .unset] [])) := entry rfl
  have c2 : Steps p.tables e below (s₁.setTop (entryFrame m #[.ref a, .ref b, .int (Int32.ofNat o), .int (Int32.ofNat len), .null] 6)) (s₁.setTop (mkF m 1 #[.val (.ref a), .val (.ref b), .val (.int (Int32.ofNat o)), .val (.int (Int32.ofNat len)), .val .null, .unset] [.ref a])) := c1.trans (by
    refine XS.aloadN X0.here hexec rfl (hb hbytes d0) rfl rfl ?_
    exact Steps.refl _)
  obtain ⟨T3, X3, q3, st3⟩ := X0.oinit hexec hown (wks W (objW "java/lang/String" 1)) (g := (mkF m 1 #[.val (.ref a), .val (.ref b), .val (.int (Int32.ofNat o)), .val (.int (Int32.ofNat len)), .val .null, .unset] [.ref a])) rfl (by rw [hml]; rfl) (rest := []) rfl (hb hbytes d1) (W := 0) (by show 2 * 0 + 0 ≤ _; decide) (Nat.le_of_ble_eq_true rfl) (Nat.le_of_ble_eq_true rfl)
  have hh3 := q3.trans hh0
  have c4 : Steps p.tables e below (s₁.setTop (entryFrame m #[.ref a, .ref b, .int (Int32.ofNat o), .int (Int32.ofNat len), .null] 6)) (T3.setTop (mkF m 27 #[.val (.ref a), .val (.ref b), .val (.int (Int32.ofNat o)), .val (.int (Int32.ofNat len)), .val .null, .unset] [])) := (c2.trans (st3 _ (Steps.refl _))).trans (by
    refine XS.iloadN X3.here hexec rfl (hb hbytes d4) rfl ?_
    refine XS.ifYes X3.here hexec rfl (pc0 := 5) rfl (hb hbytes d5) rfl (i0_ne_t (nz32 (by omega) l0)) (by decide) rfl ?_
    exact Steps.refl _)
  obtain ⟨T5, X5, q5, st5⟩ := X3.sget hexec hown (wk W (.fieldLink "java/lang/String" 38 "java/lang/String" "COMPACT_STRINGS" "Z")) s1 (fun _ _ h => by rw [hh3]; exact h) (g := (mkF m 27 #[.val (.ref a), .val (.ref b), .val (.int (Int32.ofNat o)), .val (.int (Int32.ofNat len)), .val .null, .unset] [])) rfl (hb hbytes d27)
  have hh5 := q5.trans hh3
  have c6 : Steps p.tables e below (s₁.setTop (entryFrame m #[.ref a, .ref b, .int (Int32.ofNat o), .int (Int32.ofNat len), .null] 6)) (T5.setTop (mkF m 30 #[.val (.ref a), .val (.ref b), .val (.int (Int32.ofNat o)), .val (.int (Int32.ofNat len)), .val .null, .unset] [.int z])) := c4.trans (st5 _ (Steps.refl _))
  have c7 : Steps p.tables e below (s₁.setTop (entryFrame m #[.ref a, .ref b, .int (Int32.ofNat o), .int (Int32.ofNat len), .null] 6)) (T5.setTop (mkF m 36 #[.val (.ref a), .val (.ref b), .val (.int (Int32.ofNat o)), .val (.int (Int32.ofNat len)), .val .null, .unset] [.int (Int32.ofNat len), .int (Int32.ofNat o), .ref b])) := c6.trans (by
    refine XS.ifNo X5.here hexec rfl (hb hbytes d30) rfl (i0_eq_f hz) ?_
    refine XS.aloadN X5.here hexec rfl (hb hbytes d33) rfl rfl ?_
    refine XS.iloadN X5.here hexec rfl (hb hbytes d34) rfl ?_
    refine XS.iloadN X5.here hexec rfl (hb hbytes d35) rfl ?_
    exact Steps.refl _)
  obtain ⟨v8, T8, X8, E8, g8⟩ := X5.callS hexec (Cmp3.law l b A o len) hown (wks W (staticW "java/lang/String" 177 Cmp3.yN)) (wk W Cmp3.tab) (W := 0) (Nat.le_of_ble_eq_true rfl) (Nat.le_of_ble_eq_true rfl) (Nat.le_refl _) (by show 0 + len ≤ len; omega) (g := (mkF m 36 #[.val (.ref a), .val (.ref b), .val (.int (Int32.ofNat o)), .val (.int (Int32.ofNat len)), .val .null, .unset] [.int (Int32.ofNat len), .int (Int32.ofNat o), .ref b])) rfl (by rw [hml]; rfl) c7 (argsL := [.ref b, .int (Int32.ofNat o), .int (Int32.ofNat len)]) (rest := []) rfl rfl (by show 2 * 0 + 0 ≤ _; decide) (hb hbytes d36) (⟨rfl, hA.mv X5.warmed.alike hh5, l1, l2, hp⟩)
  obtain ⟨e8, z8⟩ := E8
  obtain ⟨rfl, N, n1, n2, n3, n4, n5, n6⟩ := NewArr.mv _ T5 s _ _ hh5.symm (Vm.Alike.refl _) rfl e8
  rw [hh5] at z8
  have hB1 := hB.keep X8.warmed.alike (n6 _ _ hB.1)
  have hne : s.heap.size ≠ a := (Nat.ne_of_lt (Array.getElem?_eq_some_iff.mp hB.1).1).symm
  have c9 : Steps p.tables e below (s₁.setTop (entryFrame m #[.ref a, .ref b, .int (Int32.ofNat o), .int (Int32.ofNat len), .null] 6)) (T8.setTop (mkF m 39 #[.val (.ref a), .val (.ref b), .val (.int (Int32.ofNat o)), .val (.int (Int32.ofNat len)), .val .null, .unset] [.ref s.heap.size])) := g8
  have c10 : Steps p.tables e below (s₁.setTop (entryFrame m #[.ref a, .ref b, .int (Int32.ofNat o), .int (Int32.ofNat len), .null] 6)) (T8.setTop (mkF m 45 #[.val (.ref a), .val (.ref b), .val (.int (Int32.ofNat o)), .val (.int (Int32.ofNat len)), .val .null, .val (.ref s.heap.size)] [.int (Int32.ofNat N.slots.size), .ref s.heap.size, .ref a])) := by
    have hc : Steps p.tables e below (s₁.setTop (entryFrame m #[.ref a, .ref b, .int (Int32.ofNat o), .int (Int32.ofNat len), .null] 6)) (T8.setTop (mkF m 45 #[.val (.ref a), .val (.ref b), .val (.int (Int32.ofNat o)), .val (.int (Int32.ofNat len)), .val .null, .val (.ref s.heap.size)] [.int (Int32.ofNat len), .ref s.heap.size, .ref a])) := c9.trans (by
      refine XS.astore X8.here hexec rfl (hb hbytes d39) rfl rfl rfl ?_
      refine XS.aloadN X8.here hexec rfl (hb hbytes d41) rfl rfl ?_
      refine XS.aload X8.here hexec rfl (hb hbytes d42) rfl rfl ?_
      refine XS.iloadN X8.here hexec rfl (hb hbytes d44) rfl ?_
      exact Steps.refl _)
    rw [n4]; exact hc
  obtain ⟨v11, T11, X11, E11, g11⟩ := X8.callS hexec (CodL.law l s.heap.size N) hown (wks W (staticW "java/lang/String" 47 CodL.yN)) (wk W CodL.tab) (W := 1) (Nat.le_of_ble_eq_true rfl) (Nat.le_of_ble_eq_true rfl) (Nat.le_refl _) (by show 0 + len + 0 ≤ len; omega) (g := (mkF m 45 #[.val (.ref a), .val (.ref b), .val (.int (Int32.ofNat o)), .val (.int (Int32.ofNat len)), .val .null, .val (.ref s.heap.size)] [.int (Int32.ofNat N.slots.size), .ref s.heap.size, .ref a])) rfl (by rw [hml]; rfl) c10 (argsL := [.ref s.heap.size, .int (Int32.ofNat N.slots.size)]) (rest := [.ref a]) rfl rfl (by show 2 * 0 + (1 + 0) ≤ _; decide) (hb hbytes d45) (⟨rfl, n1⟩)
  obtain ⟨rfl, q11⟩ := E11
  have hB11 := hB1.mv (X8.warmed.alike.symm.trans X11.warmed.alike) q11
  have c12 : Steps p.tables e below (s₁.setTop (entryFrame m #[.ref a, .ref b, .int (Int32.ofNat o), .int (Int32.ofNat len), .null] 6)) (T11.setTop (mkF m 48 #[.val (.ref a), .val (.ref b), .val (.int (Int32.ofNat o)), .val (.int (Int32.ofNat len)), .val .null, .val (.ref s.heap.size)] [.int 0, .ref a])) := g11
  obtain ⟨T13, X13, p13, bl13, sl13, st13⟩ := X11.finit hexec hown (wk W (.fieldLink "java/lang/String" 15 "java/lang/String" "coder" "B")) (Or.inr ⟨_, (wk W (.laysFinal "java/lang/String" "java/lang/String" "coder" "B"))⟩) (Or.inl ⟨rfl, hnm⟩) f2 (Or.inl rfl) hB11 (t := .byte) (by decide +kernel) rfl (g := (mkF m 48 #[.val (.ref a), .val (.ref b), .val (.int (Int32.ofNat o)), .val (.int (Int32.ofNat len)), .val .null, .val (.ref s.heap.size)] [.int 0, .ref a])) rfl (rest := []) rfl (hb hbytes d48)
  have c14 : Steps p.tables e below (s₁.setTop (entryFrame m #[.ref a, .ref b, .int (Int32.ofNat o), .int (Int32.ofNat len), .null] 6)) (T13.setTop (mkF m 54 #[.val (.ref a), .val (.ref b), .val (.int (Int32.ofNat o)), .val (.int (Int32.ofNat len)), .val .null, .val (.ref s.heap.size)] [.ref s.heap.size, .ref a])) := (c12.trans (st13 _ (Steps.refl _))).trans (by
    refine XS.aloadN X13.here hexec rfl (hb hbytes d51) rfl rfl ?_
    refine XS.aload X13.here hexec rfl (hb hbytes d52) rfl rfl ?_
    exact Steps.refl _)
  obtain ⟨T15, X15, p15, bl15, sl15, st15⟩ := X13.finit hexec hown (wk W (.fieldLink "java/lang/String" 9 "java/lang/String" "value" "[B")) (Or.inr ⟨_, (wk W (.laysFinal "java/lang/String" "java/lang/String" "value" "[B"))⟩) (Or.inl ⟨rfl, hnm⟩) f1 (Or.inl rfl) bl13 (t := (.array .byte)) (by decide +kernel) rfl (g := (mkF m 54 #[.val (.ref a), .val (.ref b), .val (.int (Int32.ofNat o)), .val (.int (Int32.ofNat len)), .val .null, .val (.ref s.heap.size)] [.ref s.heap.size, .ref a])) rfl (rest := []) rfl (hb hbytes d54)
  have c16 : Steps p.tables e below (s₁.setTop (entryFrame m #[.ref a, .ref b, .int (Int32.ofNat o), .int (Int32.ofNat len), .null] 6)) (T15.setTop (mkF m 57 #[.val (.ref a), .val (.ref b), .val (.int (Int32.ofNat o)), .val (.int (Int32.ofNat len)), .val .null, .val (.ref s.heap.size)] [])) := c14.trans (st15 _ (Steps.refl _))
  have ap := apart (Or.inr ⟨_, (wk W (.laysFinal "java/lang/String" "java/lang/String" "value" "[B"))⟩) (Or.inr ⟨_, (wk W (.laysFinal "java/lang/String" "java/lang/String" "coder" "B"))⟩) f1 f2 (t₁ := .array .byte) (t₂ := .byte) (by decide +kernel) (by decide +kernel) (by decide)
  have al := X8.warmed.alike.symm.trans X15.warmed.alike
  have n7 : T11.heap[s.heap.size]? = some N := by rw [q11]; exact n1.1
  exact ⟨T15, none, _, _, _, X15, by simp, rfl, by omega, (fun _ => rfl), ⟨rfl, _, N, bl15, ((Same.refl D _).set _ (by simp)).set _ (by simp), sl15, (Cell.slots_setSlot_ne _ ap).trans sl13, n1.keep al (p15.other hne (p13.other hne n7)), n2, by rw [al.findClass]; exact n3, n4, n5, fun y c h1 h2 => p15.other h1 (p13.other h1 (by rw [q11]; exact n6 y c h2)), by rw [p15.2.2, p13.2.2, q11]; exact z8⟩, fun fs hl => c16.trans (X15.returnOut hexec hret (hb hbytes d57) hl)⟩
end New4
namespace New1
def yN : MethodName := ⟨"java/lang/String", "<init>", "([C)V"⟩
abbrev yB : ByteArray := jdk_42_method_3_code
theorem d0 : decode yB 0 = .ok (.aload_n 0, 1) := by decide +kernel
theorem d1 : decode yB 1 = .ok (.aload_n 1, 1) := by decide +kernel
theorem d2 : decode yB 2 = .ok (.iconst 0, 1) := by decide +kernel
theorem d3 : decode yB 3 = .ok (.aload_n 1, 1) := by decide +kernel
theorem d4 : decode yB 4 = .ok (.arraylength, 1) := by decide +kernel
theorem d5 : decode yB 5 = .ok (.aconst_null, 1) := by decide +kernel
theorem d6 : decode yB 6 = .ok (.invokespecial 27, 3) := by decide +kernel
theorem d9 : decode yB 9 = .ok (.return_, 1) := by decide +kernel
def site : List Cond := [New4.tab] ++ initW "java/lang/String" 27 New4.yN
def tab : Cond := tabOf yN yB 2 none site
def P (a : Addr) (D : Cell) (fV fC : Field) (b : Addr) (A : Cell) (z : Int32) (args : Array Value) (s : State) : Prop := args = #[.ref a, .ref b] ∧ Blank "java/lang/String" a D s ∧ Found "java/lang/String" "value" "[B" fV s ∧ Found "java/lang/String" "coder" "B" fC s ∧ Ch b A s ∧ StaticIs s "java/lang/String" "COMPACT_STRINGS" "Z" (.int z) ∧ ¬ z = 0 ∧ 0 < A.slots.size ∧ A.slots.size ≤ 536870912 ∧ ∀ i, i < A.slots.size → ¬ 255 < cv A i
def E (a : Addr) (D : Cell) (fV fC : Field) (A : Cell) (r : Option Value) (s u : State) : Prop := Got a D fV fC A 0 A.slots.size r s u
/-- new String(chars), not empty, no char above 255: a Latin-1 String of their low bytes -/
theorem law (l : Launch) (a : Addr) (D : Cell) (fV fC : Field) (b : Addr) (A : Cell) (z : Int32) : Law l yN 2 1 3 52 yB 2 none site (P a D fV fC b A z) (E a D fV fC A) [⟨a, fC.slot⟩, ⟨a, fV.slot⟩] 1 A.slots.size := by
  refine Law.of_walk (plainFor_of_name (by decide +kernel)) (by decide +kernel) (by decide +kernel) (by decide) (fun _ _ h => by rw [h.1]; rfl) (fun _ U U' hal hh h => ⟨h.1, h.2.1.mv hal hh, h.2.2.1.al hal, h.2.2.2.1.al hal, h.2.2.2.2.1.mv hal hh, h.2.2.2.2.2.1.there hal hh, h.2.2.2.2.2.2⟩) (fun r U U' V V' h1 hal h2 h => Got.mv r U U' V V' h1 hal h2 h) ?_
  intro p e s m args below meth c s₁ X0 hexec hbytes hml hret hlk hnm hown hh0 W hP
  obtain ⟨rfl, hB, f1, f2, hA, s1, hz, l0, l2, hp⟩ := hP
  have c1 : Steps p.tables e below (s₁.setTop (entryFrame m #[.ref a, .ref b] 2)) (s₁.setTop (mkF m 0 #[.val (.ref a), .val (.ref b)] [])) := entry rfl
  have c2 : Steps p.tables e below (s₁.setTop (entryFrame m #[.ref a, .ref b] 2)) (s₁.setTop (mkF m 6 #[.val (.ref a), .val (.ref b)] [.null, .int (Int32.ofNat A.slots.size), .int 0, .ref b, .ref a])) := c1.trans (by
    refine XS.aloadN X0.here hexec rfl (hb hbytes d0) rfl rfl ?_
    refine XS.aloadN X0.here hexec rfl (hb hbytes d1) rfl rfl ?_
    refine iconstV X0.here hexec rfl 0 (hb hbytes d2) (by decide) ?_
    refine XS.aloadN X0.here hexec rfl (hb hbytes d3) rfl rfl ?_
    refine X0.alen hexec (hA.1.mv X0.warmed.alike hh0) rfl rfl (hb hbytes d4) ?_
    refine XS.aconstNull X0.here hexec rfl (hb hbytes d5) ?_
    exact Steps.refl _)
  obtain ⟨v3, T3, X3, E3, g3⟩ := X0.callN hexec (New4.law l a D fV fC b A z 0 A.slots.size) rfl hown (wks W (initW "java/lang/String" 27 New4.yN)) (W New4.tab (by simp only [site, List.mem_cons, List.mem_append, true_or, or_true])) (W := 0) (Nat.le_of_ble_eq_true rfl) (Nat.le_of_ble_eq_true rfl) (Nat.le_refl _) (by show 0 + A.slots.size ≤ A.slots.size; omega) (g := (mkF m 6 #[.val (.ref a), .val (.ref b)] [.null, .int (Int32.ofNat A.slots.size), .int (Int32.ofNat 0), .ref b, .ref a])) rfl (by rw [hml]; rfl) c2 (argsL := [.ref b, .int (Int32.ofNat 0), .int (Int32.ofNat A.slots.size), .null]) (rest := []) rfl rfl (by show 2 * 0 + 0 ≤ _; decide) (hb hbytes d6) (⟨rfl, hB.mv X0.warmed.alike hh0, f1.al X0.warmed.alike, f2.al X0.warmed.alike, hA.mv X0.warmed.alike hh0, s1.there X0.warmed.alike hh0, hz, l0, by omega, l2, fun i hi => by rw [Nat.zero_add]; exact hp i hi⟩)
  have e0 := Got.mv _ s₁ s _ _ hh0.symm (Vm.Alike.refl _) rfl E3
  obtain rfl := e0.1
  have c4 : Steps p.tables e below (s₁.setTop (entryFrame m #[.ref a, .ref b] 2)) (T3.setTop (mkF m 9 #[.val (.ref a), .val (.ref b)] [])) := g3
  exact ⟨T3, none, _, _, _, X3, by simp, rfl, by omega, (fun _ => rfl), e0, fun fs hl => c4.trans (X3.returnOut hexec hret (hb hbytes d9) hl)⟩
theorem pays {l : Launch} {R : Room} {p : Program} {e : Env} {below : List Frame} {s : State} {sargs : Array Value} {len W : Nat} (a : Addr) (D : Cell) (fV fC : Field) (b : Addr) (A : Cell) (z : Int32) (htab : tab.before sargs s = true) (hfr : 4 ≤ R.frames) (hlo : W + 65 ≤ R.locals) :
    Back l R p e below s sargs yN len W (fun A₁ a₁ => A₁.cells + 1 ≤ R.cells ∧ A₁.slots + A.slots.size ≤ R.slots ∧ P a D fV fC b A z a₁ A₁.U) (fun A₁ _ v₁ B₁ => E a D fV fC A v₁ A₁.U B₁.U ∧ B₁.locs = A₁.locs ++ [⟨a, fC.slot⟩, ⟨a, fV.slot⟩] ∧ B₁.cells = A₁.cells + 1 ∧ B₁.slots = A₁.slots + A.slots.size) :=
  (law l a D fV fC b A z).pays htab hfr (by omega)
end New1
end StrChars
namespace StrChars.Road
open Jvm Sem ClassFile Op Lib Jvm.Stand Jvm.Free Jvm.Free.XT
open Jvm.Lib.Cold (StaticIs)
abbrev ST : String := "java/lang/String"
/-- every table word that New1's law asks, flat -/
abbrev words : List Jvm.Cond := [.code New1.yN New1.yB 2 none, .initialized ST, .methodLink ST 27 New4.yN, .instanceMethod New4.yN,
  .code New4.yN New4.yB 6 none, .fieldLink ST 38 ST "COMPACT_STRINGS" "Z", .laysFinal ST ST "value" "[B", .fieldLink ST 9 ST "value" "[B", .laysFinal ST ST "coder" "B", .fieldLink ST 15 ST "coder" "B",
  .methodLink ST 1 Lib.objectInit, .instanceMethod Lib.objectInit, .code Lib.objectInit ⟨#[0xb1]⟩ 1 none, .methodLink ST 177 Cmp3.yN, .static Cmp3.yN, .methodLink ST 47 CodL.yN, .static CodL.yN,
  .code Cmp3.yN Cmp3.yB 6 (some (.array .byte)), .initialized U16, .arrayClass .byte, .methodLink U16 115 Cmp5.yN, .static Cmp5.yN, .code Cmp5.yN Cmp5.yB 7 (some .int), .code CodL.yN CodL.yB 2 (some .byte)]
theorem tab_of {a : Array Value} {s : State} (h : ∀ w ∈ words, w.before a s = true) : New1.tab.before a s = true := by
  have h5 : Cmp5.tab.before a s = true := unparts (wk h (.code Cmp5.yN Cmp5.yB 7 (some .int))) (wks h (.initialized Cmp5.yN.cls :: Cmp5.site))
  have hc : CodL.tab.before a s = true := unparts (wk h (.code CodL.yN CodL.yB 2 (some .byte))) (wks h (.initialized CodL.yN.cls :: CodL.site))
  have q5 : ∀ w ∈ Cmp5.tab :: words, w.before a s = true := fun w hw => (List.mem_cons.mp hw).elim (fun e => e ▸ h5) (h w)
  have h3 : Cmp3.tab.before a s = true := unparts (wk q5 (.code Cmp3.yN Cmp3.yB 6 (some (.array .byte)))) (wks q5 (.initialized Cmp3.yN.cls :: Cmp3.site))
  have q3 : ∀ w ∈ Cmp3.tab :: CodL.tab :: words, w.before a s = true := fun w hw => (List.mem_cons.mp hw).elim (fun e => e ▸ h3) fun hw => (List.mem_cons.mp hw).elim (fun e => e ▸ hc) (h w)
  have h4 : New4.tab.before a s = true := unparts (wk q3 (.code New4.yN New4.yB 6 none)) (wks q3 (.initialized New4.yN.cls :: New4.site))
  have q4 : ∀ w ∈ New4.tab :: words, w.before a s = true := fun w hw => (List.mem_cons.mp hw).elim (fun e => e ▸ h4) (h w)
  exact unparts (wk q4 (.code New1.yN New1.yB 2 none)) (wks q4 (.initialized New1.yN.cls :: New1.site))
/-- the words ride from the start Z to the walk's own state -/
theorem moved {Z s : State} {a0 args : Array Value} (hZ : Z.Warmed39 s.vm) (hw : ∀ d ∈ words, d.before a0 Z = true) : ∀ d ∈ words, d.before args s = true := fun d hd => by
  have q := hw d hd
  have t : ∀ d ∈ words, d = .arrayClass .byte ∨ (d.onTables && d.keepsFace) = true := by decide +kernel
  rcases t d hd with rfl | t
  · exact RoadKit.mvA hZ q
  · exact RoadKit.mv hZ q t
/-- WHAT COMES BACK, over the tables of the start Z: h the heap at the call, h' behind it -/
def Q (Z : State) (x : Addr) (A : Cell) (h : Heap) (v : Option Value) (h' : Heap) (L : List Loc) : Prop := v = none ∧ (∀ y ∈ L, y.base = x) ∧ RoadKit.Keep h h' [x] ∧ h'.size = h.size + 1 ∧ RoadKit.Exa Z h' x ST ∧ RoadKit.Fld Z h' x ST "value" "[B" (.ref h.size) ∧ RoadKit.Fld Z h' x ST "coder" "B" (.int 0) ∧
  (∃ V : Cell, RoadKit.Arr Z h' h.size V .byte ∧ V.vm = .none ∧ Z.vm.findClass "[B" = some V.cls ∧ V.slots.size = A.slots.size ∧ ∀ j, j < A.slots.size → V.slots[j]? = some (.int (lo8 (cv A j)))) ∧
  ∀ (O n d : String) (w : Value), RoadKit.Fld Z h x O n d w → RoadKit.slotOf Z O n d ≠ RoadKit.slotOf Z ST "value" "[B" → RoadKit.slotOf Z O n d ≠ RoadKit.slotOf Z ST "coder" "B" → RoadKit.Fld Z h' x O n d w
/-- **new String(chars) AT A CALL, IN THE ROAD'S FORM**: for specialBack behind newO: x the fresh String, b the char[] with the cell A -/
theorem back {p : Program} {l : Launch} {e : Env} {R : Room} {s : State} {args : Array Value} {below : List Frame} {len W : Nat} {Z : State} {a0 : Array Value} {h : Heap} (hZ : Z.Warmed39 s.vm) (hw : ∀ d ∈ words, d.before a0 Z = true) {kI : Nat} (wi : (Jvm.Cond.instantiable ST kI).before a0 Z = true)
    {x b : Addr} {A : Cell} {z : Int32} {v0 c0 : Value} (E : RoadKit.Exa Z h x ST) (V : RoadKit.Fld Z h x ST "value" "[B" v0) (C : RoadKit.Fld Z h x ST "coder" "B" c0) (K : RoadKit.Arr Z h b A .char) (hty : Typed .char A) (S : RoadKit.Sta Z h ST "COMPACT_STRINGS" "Z" (.int z)) (hz : ¬ z = 0)
    (l0 : 0 < A.slots.size) (l2 : A.slots.size ≤ 536870912) (hp : ∀ i, i < A.slots.size → ¬ 255 < cv A i) (hfr : 4 ≤ R.frames) (hlo : W + 65 ≤ R.locals) :
    Back l R p e below s args New1.yN len W (fun P a => a = #[.ref x, .ref b] ∧ P.U.heap = h ∧ P.cells + 1 ≤ R.cells ∧ P.slots + A.slots.size ≤ R.slots)
      (fun P _ v B => ∃ L, Q Z x A h v B.U.heap L ∧ B.locs = P.locs ++ L ∧ B.cells = P.cells + 1 ∧ B.slots = P.slots + A.slots.size) := by
  intro m meth c P g ig mk a X hg hsize hdg hW hn hp'
  obtain ⟨rfl, rfl, r1, r2⟩ := hp'
  have al : Z.vm.Alike P.U.vm := hZ.alike.trans X.warmed.alike
  obtain ⟨D, cfV, kV, iV, fV, hD, gV, stV, knV, obV, asV, slV⟩ := id V
  obtain ⟨D', cfC, kC, iC, fC, hD', gC, stC, -, -, asC, slC⟩ := id C
  cases hD.symm.trans hD'
  obtain ⟨D2, kD, e1, e2, e3, e4, e5⟩ := id E
  cases hD.symm.trans e1
  obtain ⟨c2, k2, i1, i2, i3, -⟩ := Cond.instantiable_spec wi
  cases e2.symm.trans i1
  cases e3.symm.trans i2
  obtain ⟨kU, u1, u2⟩ := al.2.2 _ _ e3
  have hB : Blank ST x D P.U := ⟨hD, ⟨knV, fun q hq => by rw [hq] at obV; cases obV⟩, by rw [al.findClass]; exact e2, kU, u1, by rw [u2]; exact i3, by rw [u2]; exact e5 i3⟩
  have F1 : Found ST "value" "[B" fV P.U := ⟨SBG.found_only al ⟨cfV, kV, iV, gV⟩, stV⟩
  have F2 : Found ST "coder" "B" fC P.U := ⟨SBG.found_only al ⟨cfC, kC, iC, gC⟩, stC⟩
  have hA : Ch b A P.U := ⟨⟨K.1, State.isArrayOf_alike al K.2.1, K.2.2, by omega⟩, hty⟩
  have hS : StaticIs P.U ST "COMPACT_STRINGS" "Z" (.int z) := by
    obtain ⟨cfS, iS, kS, fS, st, cS, t1, t2, t3, t4, t5, t6, t7⟩ := S
    exact StaticIs.there (s := { Z with heap := P.U.heap }) ⟨cfS, iS, kS, fS, st, cS, t1, t2, t3, t4, t5, (fun q => by rw [q] at t6; cases t6), t7⟩ al rfl
  obtain ⟨v, B, X', ⟨⟨hv, E', V', q1, q2, q3, q4, q5, q6, q7, q8, q9, q10, q11⟩, hl, hc, hs⟩, st⟩ := New1.pays x D fV fC b A z (tab_of (moved hZ hw)) hfr hlo m meth c P g ig mk _ X hg hsize hdg hW hn ⟨r1, r2, rfl, hB, F1, F2, hA, hS, hz, l0, l2, hp⟩
  have al' : Z.vm.Alike B.U.vm := hZ.alike.trans X'.warmed.alike
  have hsz : E'.slots.size = D.slots.size := by
    obtain ⟨-, -, -, kB, w1, w2, w3⟩ := q1
    obtain ⟨kB', y1, y2⟩ := al'.2.2 _ _ e3
    rw [q2.2.1] at w1
    cases w1.symm.trans y1
    rw [w3, e5 i3, y2]
  refine ⟨v, B, X', ⟨_, ⟨hv, ?_, ⟨by omega, fun y cy hy hn' => q10 y cy (by simpa using hn') hy, fun y cy hy => ?_⟩, q11, ⟨E', _, q1.1, by rw [q2.2.1]; exact e2, by rw [q2.2.1]; exact e3, by rw [q2.1]; exact obV, fun _ => by rw [hsz]; exact e5 i3⟩,
    ⟨E', cfV, kV, iV, fV, q1.1, gV, stV, by rw [q2.1]; exact knV, by rw [q2.1]; exact obV, by rw [q2.2.1]; exact asV, q3⟩, ⟨E', cfC, kC, iC, fC, q1.1, gC, stC, by rw [q2.1]; exact knV, by rw [q2.1]; exact obV, by rw [q2.2.1]; exact asC, q4⟩,
    ⟨V', ⟨q5.1, State.isArrayOf_alike al'.symm q5.2.1, q5.2.2.1⟩, q6, by rw [← al'.findClass]; exact q7, q8, fun j hj => by have := q9 j hj; rwa [Nat.zero_add] at this⟩, fun O n d w F n1 n2 => ?_⟩, hl, hc, hs⟩, st⟩
  · intro y hy
    simp only [List.mem_cons, List.not_mem_nil, or_false] at hy
    rcases hy with rfl | rfl <;> rfl
  · by_cases q : y = x
    · subst q
      cases hD.symm.trans hy
      exact ⟨E', q1.1, q2.2.1, q2.1, hsz⟩
    · exact ⟨cy, q10 y cy q hy, rfl, rfl, rfl⟩
  · obtain ⟨D3, cf, k, i, f, g1, g2, g3, g4, g5, g6, g7⟩ := F
    cases hD.symm.trans g1
    simp only [RoadKit.slotOf, g2, gV, gC, Option.map_some, Option.getD_some] at n1 n2
    exact ⟨E', cf, k, i, f, q1.1, g2, g3, by rw [q2.1]; exact g4, by rw [q2.1]; exact g5, by rw [q2.2.1]; exact g6, by rw [q2.2.2 f.slot (by simp [n1, n2])]; exact g7⟩
end StrChars.Road
namespace StrChars.Road
open Jvm Sem ClassFile Op Lib Jvm.Stand Jvm.Free Jvm.Free.XT
/-- WHAT COMES BACK, the byte[] as a list of values -/
def QA (Z : State) (x : Addr) (zn : Int32) (cs : List Int32) (h : Heap) (v : Option Value) (h' : Heap) (L : List Loc) : Prop := v = none ∧ (∀ y ∈ L, y.base = x) ∧ RoadKit.Keep h h' [x] ∧ h'.size = h.size + 1 ∧ RoadKit.Exa Z h' x ST ∧ RoadKit.Fld Z h' x ST "value" "[B" (.ref h.size) ∧ RoadKit.Fld Z h' x ST "coder" "B" (.int 0) ∧
  (∃ kb, Z.vm.findClass "[B" = some kb ∧ RoadKit.Arv Z h' h.size kb .byte zn (cs.map fun c => .int (lo8 c)) (.int 0)) ∧
  ∀ (O n d : String) (w : Value), RoadKit.Fld Z h x O n d w → RoadKit.slotOf Z O n d ≠ RoadKit.slotOf Z ST "value" "[B" → RoadKit.slotOf Z O n d ≠ RoadKit.slotOf Z ST "coder" "B" → RoadKit.Fld Z h' x O n d w
/-- **new String(chars) AT A CALL, THE ARRAYS AS LISTS**: the char[] at b holds cs, not empty, no char above 255 -/
theorem backArv {p : Program} {l : Launch} {e : Env} {R : Room} {s : State} {args : Array Value} {below : List Frame} {len W : Nat} {Z : State} {a0 : Array Value} {h : Heap} (hZ : Z.Warmed39 s.vm) (hw : ∀ d ∈ words, d.before a0 Z = true) {kI : Nat} (wi : (Jvm.Cond.instantiable ST kI).before a0 Z = true)
    {x b : Addr} {k : ClassId} {zn z : Int32} {cs : List Int32} {dv v0 c0 : Value} (E : RoadKit.Exa Z h x ST) (V : RoadKit.Fld Z h x ST "value" "[B" v0) (C : RoadKit.Fld Z h x ST "coder" "B" c0) (K : RoadKit.Arv Z h b k .char zn (cs.map Value.int) dv) (S : RoadKit.Sta Z h ST "COMPACT_STRINGS" "Z" (.int z)) (hz : ¬ z = 0)
    (hlen : zn.toNatClampNeg = cs.length) (h0 : 0 < cs.length) (hbig : cs.length ≤ 536870912) (hall : ∀ c ∈ cs, ¬ 255 < c) (hfr : 4 ≤ R.frames) (hlo : W + 65 ≤ R.locals) :
    Back l R p e below s args New1.yN len W (fun P a => a = #[.ref x, .ref b] ∧ P.U.heap = h ∧ P.cells + 1 ≤ R.cells ∧ P.slots + cs.length ≤ R.slots)
      (fun P _ v B => ∃ L, QA Z x zn cs h v B.U.heap L ∧ B.locs = P.locs ++ L ∧ B.cells = P.cells + 1 ∧ B.slots = P.slots + cs.length) := by
  obtain ⟨A, K1, K2, K3, K4, K5, K6⟩ := K
  have e : A.slots.size = cs.length := K3.trans hlen
  have hat : ∀ (i : Nat) (hi : i < cs.length), A.slots[i]? = some (.int cs[i]) := fun i hi => by rw [K5 i (by omega)]; simp [List.getD_eq_getElem?_getD, hi]
  have hcv : ∀ (i : Nat) (hi : i < cs.length), cv A i = cs[i] := fun i hi => by unfold cv; rw [hat i hi]
  have hty : Typed .char A := fun i v hv => by
    have hi : i < A.slots.size := (Array.getElem?_eq_some_iff.mp hv).1
    have q := K5 i hi
    rw [hv] at q
    rw [Option.some.inj q]
    exact K6 i hi
  refine Back.mono (back hZ hw wi E V C K1 hty S hz (by omega) (by omega) (fun i hi => by rw [hcv i (by omega)]; exact hall _ (List.getElem_mem _)) hfr hlo) (fun P a hp => ⟨hp.1, hp.2.1, hp.2.2.1, by rw [e]; exact hp.2.2.2⟩) (fun P a v B hp hq => ?_)
  obtain ⟨L, ⟨q1, q2, q3, q4, q5, q6, q7, ⟨V', v1, v2, v3, v4, v5⟩, q9⟩, hl, hc, hs⟩ := hq
  refine ⟨L, ⟨q1, q2, q3, q4, q5, q6, q7, ⟨V'.cls, v3, V', v1, rfl, by rw [v4, e, hlen], K4, fun i hi => ?_, fun i hi => ?_⟩, q9⟩, hl, hc, by rw [hs, e]⟩
  · have hi' : i < cs.length := by omega
    rw [v5 i (by omega), hcv i hi']; simp [List.getD_eq_getElem?_getD, hi']
  · have hi' : i < cs.length := by omega
    simp only [List.getD_eq_getElem?_getD, List.getElem?_map, List.getElem?_eq_getElem hi', Option.map_some, Option.getD_some]
    exact fits_lo8 _
end StrChars.Road
namespace StrChars.Road
open Jvm Sem ClassFile Op Lib Jvm.Stand Jvm.Free Jvm.Free.XT
/-- WHAT COMES BACK, in the writer's own shape -/
def QV (Z : State) (x : Addr) (N : Int32) (bs : List Int32) (h : Heap) (n0 : Nat) (v : Option Value) (h' : Heap) (L : List Loc) : Prop := v = none ∧ RoadKit.Fr n0 L ∧ RoadKit.Keep h h' [x] ∧ RoadKit.Exa Z h' x ST ∧ RoadKit.Fld Z h' x ST "coder" "B" (.int 0) ∧
  ∃ (t : Addr) (kb : ClassId), n0 ≤ t ∧ h.size ≤ t ∧ ¬ t = x ∧ RoadKit.Fld Z h' x ST "value" "[B" (.ref t) ∧ RoadKit.Arv Z h' t kb .byte N (bs.map Value.int) (.int 0)
/-- **new String(chars) AT A CALL, FOR THE WRITER**: a char[] of n known ints, each 0 to 255 -/
theorem backV {p : Program} {l : Launch} {e : Env} {R : Room} {s : State} {args : Array Value} {below : List Frame} {len W : Nat} {Z : State} {a0 : Array Value} {h : Heap} (hZ : Z.Warmed39 s.vm) (hw : ∀ d ∈ words, d.before a0 Z = true) {kI : Nat} (wi : (Jvm.Cond.instantiable ST kI).before a0 Z = true)
    {x b : Addr} {kC : ClassId} {cs bs : List Int32} {d v0 c0 : Value} {z N : Int32} {n n0 : Nat} (hx0 : n0 ≤ x) (hh0 : n0 ≤ h.size) (E : RoadKit.Exa Z h x ST) (V : RoadKit.Fld Z h x ST "value" "[B" v0) (C : RoadKit.Fld Z h x ST "coder" "B" c0) (K : RoadKit.Arv Z h b kC .char N (cs.map Value.int) d) (S : RoadKit.Sta Z h ST "COMPACT_STRINGS" "Z" (.int z)) (hz : ¬ z = 0)
    (hn : cs.length = n) (hN : N = Int32.ofNat n) (l0 : 0 < n) (l2 : n ≤ 4000) (hp : ∀ c ∈ cs, ¬ c < 0 ∧ ¬ (255 : Int32) < c) (hb : bs = cs.map (fun c => c.toInt8.toInt32)) (hfr : 4 ≤ R.frames) (hlo : W + 65 ≤ R.locals) :
    Back l R p e below s args (⟨"java/lang/String", "<init>", "([C)V"⟩ : MethodName) len W (fun P a => a = #[.ref x, .ref b] ∧ P.U.heap = h ∧ P.cells + 1 ≤ R.cells ∧ P.slots + n ≤ R.slots)
      (fun P _ v B => ∃ L, QV Z x N bs h n0 v B.U.heap L ∧ B.locs = P.locs ++ L ∧ B.cells = P.cells + 1 ∧ B.slots = P.slots + n) := by
  subst hn hN hb
  refine Back.mono (backArv hZ hw wi E V C K S hz (n32 (by omega)) l0 (by omega) (fun c hc => (hp c hc).2) hfr hlo) (fun P a hp => hp) (fun P a v B hp hq => ?_)
  obtain ⟨L, ⟨q1, q2, q3, q4, q5, q6, q7, ⟨kb, v1, v2⟩, q9⟩, hl, hc, hs⟩ := hq
  exact ⟨L, ⟨q1, fun y hy => by rw [q2 y hy]; exact hx0, q3, q5, q7, h.size, kb, hh0, Nat.le_refl _, Nat.ne_of_gt E.lt, q6, by rw [List.map_map]; exact v2⟩, hl, hc, hs⟩
end StrChars.Road
end Jvm.Pilot.@@N@@
namespace Jvm.Pilot.@@N@@
open Jvm Jvm.ClassFile Sem Op Lib Jvm.Free Jvm.Stand Jvm.LawKit Jvm.RoadKit Bundle Jvm.Pilot.@@N@@.Jvm.D
theorem wd {a0 : Array Value} {Z : State} (hw : ∀ d ∈ tables_1, d.before a0 Z = true) (i : Nat) {d : Jvm.Cond} (h : tables_1[i]? = some d) : d.before a0 Z = true := hw _ (List.mem_of_getElem? h)
theorem own_rem32 (x y : Int32) : (x - (x / y) * y).toInt = x.toInt.tmod y.toInt := by
  rw [Int32.toInt_sub, Int32.toInt_mul, Int32.toInt_div]
  simp only [Int.bmod_mul_bmod, Int.sub_bmod_bmod]
  rw [Int.tmod_def, Int.mul_comm y.toInt]
  have h := Int32.toInt_mod x y
  have h1 := (x % y).toInt_lt
  have h2 := (x % y).le_toInt
  rw [h, Int.tmod_def, Int.mul_comm y.toInt] at h1 h2
  exact Int.bmod_eq_of_le (by omega) (by omega)
theorem own_nosub {Z : State} {a0 : Array Value} {C O K : String} {n : Nat} (wO : (Cond.noSuperclass O).before a0 Z = true) (wC : (Cond.superclass C O).before a0 Z = true) (wi : (Cond.instantiable K n).before a0 Z = true) (h1 : O ≠ K) (h2 : C ≠ K) : ∃ c t, Z.vm.findClass C = some c ∧ Z.vm.findClass K = some t ∧ Z.vm.assignable c t = false := by
  obtain ⟨t, kt, g1, g2, g3, g4, -, -⟩ := Cond.instantiable_spec wi
  obtain ⟨o, ko, o1, o2, o3, -, -⟩ := Cond.noSuperclass_spec wO
  have ne := ids_ne o1 g1 h1
  have n1 : NS Z O K := ⟨o, t, o1, g1, fun fuel => by
    cases fuel with
    | zero => rfl
    | succ f => simp [Vm.isSubclassAux, ne, o2, o3]⟩
  obtain ⟨c, t', q0, q1, n3⟩ := NS.step wC n1 h2
  cases g1.symm.trans q1
  obtain ⟨p, k, kp, a1, a2, a3, a4, a5, -, a7⟩ := Cond.superclass_spec q0 wC
  have ne2 := ids_ne q0 g1 h2
  have gi : kt.isInterface = false := by
    cases hq : kt.isInterface with
    | false => rfl
    | true => rw [hq] at g4; simp at g4
  refine ⟨c, t, q0, g1, ?_⟩
  show Z.vm.assignableAux (255 + 1) c t = false
  simp [Vm.assignableAux, ne2, a2, g2, a5, g3, gi, Vm.isSubclass, n3]
theorem own_ne_int {t : Term} {k v : Int32} {args : Array Value} {s : State} (h : (Cond.not (Cond.eq t (.int k))).before args s = true) (ht : t.eval args s none [] s = some (.int v)) : ¬ (v = k) := fun q => by
  have a := not_v (Cond.before_iff.mp h)
  have b : (Cond.eq t (.int k)).value args s none s [] = some true := eq_i ht (Term.int_eval k) (by rw [q])
  rw [b] at a
  cases a
theorem own_cat {u : Value} (h : u.isRef = true) : u.category = 1 := by cases u <;> first | rfl | cases h
theorem own_ct1 (a : Addr) : (Value.ref a).category = 1 := rfl
theorem own_ct0 : Value.null.category = 1 := rfl
theorem own_nrw {s : String} {u : Value} (h : u.isRef = true) : narrow (.object s) u = u := by cases u <;> first | rfl | cases h
theorem own_fts {s : String} {u : Value} (h : u.isRef = true) : fits (.object s) u = true := by cases u <;> first | rfl | cases h
theorem own_rf {u : Value} (h : u.isRef = true) (h0 : ¬ (u = Value.null)) : ∃ a, u = .ref a := by
  cases u <;> first | exact ⟨_, rfl⟩ | exact absurd rfl h0 | cases h
theorem own_st {ls : Array Slot} {k : Nat} {u : Value} {f : Value → Array Slot} (h : u.isRef = true) (h1 : storeLocals ls k .null = some (f .null)) (h2 : ∀ a, storeLocals ls k (.ref a) = some (f (.ref a))) : storeLocals ls k u = some (f u) := by
  cases u <;> first | exact h1 | exact h2 _ | cases h
/-own-/
def own_Low (v : Int32) : Prop := ∃ n : Fin 256, v = Int32.ofNat n.val
theorem own_low (x : Int32) : own_Low (x &&& (255 : Int32)) := by
  refine ⟨⟨x.toBitVec.toNat % 256, Nat.mod_lt _ (by decide)⟩, ?_⟩
  refine Int32.toBitVec_inj.mp (BitVec.eq_of_toNat_eq ?_)
  have e1 : (x &&& (255 : Int32)).toBitVec = x.toBitVec &&& 255#32 := rfl
  have e2 : (Int32.ofNat (x.toBitVec.toNat % 256)).toBitVec = BitVec.ofNat 32 (x.toBitVec.toNat % 256) := rfl
  have e3 : x.toBitVec.toNat &&& 255 = x.toBitVec.toNat % 256 := Nat.and_two_pow_sub_one_eq_mod x.toBitVec.toNat 8
  have e4 : (x.toBitVec &&& 255#32).toNat = x.toBitVec.toNat % 256 := by
    rw [BitVec.toNat_and]
    exact e3
  show (x &&& (255 : Int32)).toBitVec.toNat = (Int32.ofNat (x.toBitVec.toNat % 256)).toBitVec.toNat
  rw [e1, e2, e4, BitVec.toNat_ofNat]
  exact (Nat.mod_eq_of_lt (by omega)).symm
theorem own_f256 : ∀ n : Fin 256, nar .char (Int32.ofNat n.val) = Int32.ofNat n.val ∧ (Int32.ofNat n.val).toUInt32.toUInt16.toUInt32.toInt32 = Int32.ofNat n.val ∧ (¬ (Int32.ofNat n.val < (0 : Int32)) ∧ ¬ ((255 : Int32) < Int32.ofNat n.val)) := by decide +kernel
theorem own_chr (x : Int32) : ¬ (nar .char ((x &&& (255 : Int32)).toUInt32.toUInt16.toUInt32.toInt32) < (0 : Int32)) ∧ ¬ ((255 : Int32) < nar .char ((x &&& (255 : Int32)).toUInt32.toUInt16.toUInt32.toInt32)) := by
  obtain ⟨n, hn⟩ := own_low x
  rw [hn, (own_f256 n).2.1, (own_f256 n).1]
  exact (own_f256 n).2.2
theorem own_hws {a0 : Array Value} {Z : State} (hw : ∀ d ∈ tables_1, d.before a0 Z = true) : ∀ d ∈ StrChars.Road.words, d.before a0 Z = true := fun d hd => hw d ((by decide +kernel : ∀ d ∈ StrChars.Road.words, d ∈ tables_1) d hd)
theorem own_aln : ∀ c ∈ ([] : List Int32), ¬ c < 0 ∧ ¬ (255 : Int32) < c := fun _ h => nomatch h
theorem own_alc {c : Int32} {l : List Int32} (h : ¬ c < 0 ∧ ¬ (255 : Int32) < c) (t : ∀ c ∈ l, ¬ c < 0 ∧ ¬ (255 : Int32) < c) : ∀ c' ∈ c :: l, ¬ c' < 0 ∧ ¬ (255 : Int32) < c' := fun c' q => by
  rcases List.mem_cons.mp q with rfl | q
  · exact h
  · exact t _ q
theorem own_newS {p : Program} {l : Launch} {e : Env} {R : Room} {s : State} {args : Array Value} {below : List Frame} {len W : Nat} {Z : State} {a0 : Array Value} {h : Heap} (hZ : Z.Warmed39 s.vm) (hw : ∀ d ∈ tables_1, d.before a0 Z = true)
    {x b : Addr} {kC : ClassId} {cs : List Int32} {vs : List Value} {d v0 c0 : Value} {z N : Int32} {n n0 : Nat} (hx0 : n0 ≤ x) (hh0 : n0 ≤ h.size) (E : Exa Z h x "java/lang/String") (V : Fld Z h x "java/lang/String" "value" "[B" v0) (C : Fld Z h x "java/lang/String" "coder" "B" c0) (K : Arv Z h b kC .char N (cs.map Value.int) d) (S : Sta Z h "java/lang/String" "COMPACT_STRINGS" "Z" (.int z)) (hz : ¬ z = 0)
    (hn : cs.length = n) (hN : N = Int32.ofNat n) (l0 : 0 < n) (l2 : n ≤ 4000) (hp : ∀ c ∈ cs, ¬ c < 0 ∧ ¬ (255 : Int32) < c) (hvs : (cs.map (fun c => c.toInt8.toInt32)).map Value.int = vs) (hfr : 4 ≤ R.frames) (hlo : W + 65 ≤ R.locals) :
    Back l R p e below s args (⟨"java/lang/String", "<init>", "([C)V"⟩ : MethodName) len W (fun P a => a = #[.ref x, .ref b] ∧ P.U.heap = h ∧ P.cells + 1 ≤ R.cells ∧ P.slots + n ≤ R.slots)
      (fun P _ v B => ∃ L, (Fr n0 L ∧ ∃ (t : Addr) (kb : ClassId), v = none ∧ h.size ≤ t ∧ Keep h B.U.heap [x] ∧ Exa Z B.U.heap x "java/lang/String" ∧ Fld Z B.U.heap x "java/lang/String" "coder" "B" (.int 0) ∧ Fld Z B.U.heap x "java/lang/String" "value" "[B" (.ref t) ∧ Arv Z B.U.heap t kb .byte N vs (.int 0)) ∧ B.locs = P.locs ++ L ∧ B.cells = P.cells + 1 ∧ B.slots = P.slots + n) :=
  Back.mono (StrChars.Road.backV hZ (own_hws hw) (kI := 4) (wd hw 60 rfl) hx0 hh0 E V C K S hz hn hN l0 l2 hp rfl hfr hlo) (fun P a hp => hp) (fun P a v B hp hq => by
    obtain ⟨L, ⟨q1, q2, q3, q4, q5, t, kb, _, q6, _, q7, q8⟩, r⟩ := hq
    subst hvs
    exact ⟨L, ⟨q2, t, kb, q1, q6, q3, q4, q5, q7, q8⟩, r⟩)
def own_b (c : Int32) : Int32 := c.toInt8.toInt32
theorem d15_0 : decode jdk_43_method_3_code 0 = .ok (.iload_n 0, 1) := by decide +kernel
theorem d15_1 : decode jdk_43_method_3_code 1 = .ok (.sipush 255, 3) := by decide +kernel
theorem d15_4 : decode jdk_43_method_3_code 4 = .ok (.if_icmp .gt 7, 3) := by decide +kernel
theorem d15_7 : decode jdk_43_method_3_code 7 = .ok (.iconst 1, 1) := by decide +kernel
theorem d15_8 : decode jdk_43_method_3_code 8 = .ok (.goto 4, 3) := by decide +kernel
theorem d15_11 : decode jdk_43_method_3_code 11 = .ok (.iconst 0, 1) := by decide +kernel
theorem d15_12 : decode jdk_43_method_3_code 12 = .ok (.ireturn, 1) := by decide +kernel
theorem pn_java_lang_StringLatin1 : plainName "java/lang/StringLatin1" = true := by first | (simp [plainName, overriddenIn]; done) | decide +kernel
theorem ef_15 (m : MethodId) (p0 : Int32) : entryFrame m #[(.int p0)] 1 = mkF m 0 #[.val (.int p0)] [] := by first | (simp [entryFrame, mkF, argsToLocals, Value.category]; done) | rfl
def v15_1 (p0 : Int32) : Int32 := (if (255 : Int32) < p0 then (0 : Int32) else (1 : Int32))
def f15 (p0 : Int32) : Int32 := (nar .boolean (v15_1 p0))
def Q15 (Z : State) (p0 : Int32) (h0 : Heap) (n0 : Nat) (v : Option Value) (h : Heap) (L : List Loc) : Prop := Fr n0 L ∧ v = some (.int (f15 p0)) ∧ h = h0
set_option maxRecDepth 65536 in
set_option maxHeartbeats 40000000 in
theorem rm15 (l : Launch) (Z : State) (a0 : Array Value) (hw : ∀ d ∈ tables_1, d.before a0 Z = true) (ws : List Jvm.Cond) (p0 : Int32) (h0 : Heap) (n0 : Nat) (Z0 : n0 ≤ h0.size) :
    MetFree l (⟨"java/lang/StringLatin1", "canEncode", "(C)Z"⟩ : MethodName) (head1 (Jvm.Cond.code (⟨"java/lang/StringLatin1", "canEncode", "(C)Z"⟩ : MethodName) jdk_43_method_3_code 1 (some .boolean) :: ws) ({ frames := 0, cells := 0, slots := 0, locals := 0 } : Room)) (fun a U => a = #[(.int p0)] ∧ Z.Warmed39 U.vm ∧ U.heap = h0) (fun _ _ _ _ _ => True) (fun _ U o U' => ∃ v L, o = .returned v ∧ Q15 Z p0 h0 n0 v U'.heap L ∧ FrameEnd U o U' L ({ frames := 0, cells := 0, slots := 0, locals := 0 } : Room).cells ({ frames := 0, cells := 0, slots := 0, locals := 0 } : Room).slots) := by
  refine MetFree.of_bodySF (plainFor_of_name pn_java_lang_StringLatin1) hisR ?_
  intro p e s m args below meth c s₁ Bd hml0 hP hK
  obtain ⟨rfl, hZ, hh⟩ := hP
  have hx := Bd.exec
  have hby := Bd.bytes
  have hml : c.maxLocals = 1 := hml0
  have hown : s.vm.findClass "java/lang/StringLatin1" = some m.cls := findClass_of_methodNamed Bd.named
  have hnm := (name_of_methodNamed Bd.named Bd.method).1
  have hlk := BodyLoose.notSynchronized Bd
  have X0 : Stand p l e ({ frames := 0, cells := 0, slots := 0, locals := 0 } : Room) s m #[(.int p0)] below meth c s₁ [] 0 0 := Stand.of_body Bd
  have e0 : s₁.heap = h0 := by rw [← hh, Bd.state]; rfl
  have N0 := Fr.nil n0
  have pre0 : ∀ t, Steps p.tables e below (s₁.setTop (mkF m 0 #[.val (.int p0)] [])) t → Steps p.tables e below (s₁.setTop (entryFrame m #[(.int p0)] 1)) t := fun t k => castTop (ef_15 m p0) k
  have pre1 : ∀ t, Steps p.tables e below (s₁.setTop (mkF m 4 #[.val (.int p0)] [(.int (255 : Int32)), (.int p0)])) t → Steps p.tables e below (s₁.setTop (entryFrame m #[(.int p0)] 1)) t := by
    intro t k
    refine pre0 t ?_
    show Steps p.tables e below (s₁.setTop (mkF m 0 #[.val (.int p0)] [])) _
    refine XS.iloadN X0.here hx rfl (hb hby d15_0) rfl ?_
    refine XT.sipushV X0.here hx rfl (255 : Int32) (hb hby d15_1) (by decide) ?_
    exact k
  clear pre0
  have pre3 : ∀ t, Steps p.tables e below (s₁.setTop (mkF m 12 #[.val (.int p0)] [(.int (v15_1 p0))])) t → Steps p.tables e below (s₁.setTop (entryFrame m #[(.int p0)] 1)) t := by
    intro t k
    by_cases c2 : (255 : Int32) < p0
    · skip
      rw [show (v15_1 p0) = (0 : Int32) from (if_pos c2)] at k
      refine pre1 t ?_
      show Steps p.tables e below (s₁.setTop (mkF m 4 #[.val (.int p0)] [(.int (255 : Int32)), (.int p0)])) _
      refine XS.icmpYes X0.here hx rfl (pc0 := 4) (pc' := 11) rfl (hb hby d15_4) rfl (XT.ii_gt_t c2) (by decide) (by decide) ?_
      refine XT.iconstV X0.here hx rfl (0 : Int32) (hb hby d15_11) (by decide) ?_
      exact k
    · skip
      rw [show (v15_1 p0) = (1 : Int32) from (if_neg c2)] at k
      refine pre1 t ?_
      show Steps p.tables e below (s₁.setTop (mkF m 4 #[.val (.int p0)] [(.int (255 : Int32)), (.int p0)])) _
      refine XS.icmpNo X0.here hx rfl (hb hby d15_4) rfl (XT.ii_gt_f c2) ?_
      refine XT.iconstV X0.here hx rfl (1 : Int32) (hb hby d15_7) (by decide) ?_
      show Steps p.tables e below (s₁.setTop (mkF m 8 #[.val (.int p0)] [(.int (1 : Int32))])) _
      refine XS.goto X0.here hx rfl (pc0 := 8) (pc' := 12) rfl (hb hby d15_8) (by decide) (by decide) ?_
      exact k
  obtain ⟨fs, hr, hrun, hended, hW, hsame⟩ := X0.leave (v := some (.int (nar .boolean (v15_1 p0)))) (fun h => by rw [Bd.returns] at h; cases h) hlk
  refine ⟨_, _, pre3 _ ?_, hrun, hended, _, _, rfl, ?_, ⟨_, rfl⟩, hW, hsame.mono (by decide) (by decide)⟩
  · skip
    show Steps p.tables e below (s₁.setTop (mkF m 12 #[.val (.int p0)] [(.int (v15_1 p0))])) _
    exact retN X0 hx (t := .boolean) Bd.returns (by simp) (hb hby d15_12) hr
  · skip
    show Q15 Z p0 h0 n0 _ s₁.heap _
    rw [e0]
    exact ⟨N0, rfl, rfl⟩
theorem d16_0 : decode jdk_43_method_46_code 0 = .ok (.iconst 1, 1) := by decide +kernel
theorem d16_1 : decode jdk_43_method_46_code 1 = .ok (.newarray .byte, 2) := by decide +kernel
theorem d16_3 : decode jdk_43_method_46_code 3 = .ok (.dup, 1) := by decide +kernel
theorem d16_4 : decode jdk_43_method_46_code 4 = .ok (.iconst 0, 1) := by decide +kernel
theorem d16_5 : decode jdk_43_method_46_code 5 = .ok (.iload_n 0, 1) := by decide +kernel
theorem d16_6 : decode jdk_43_method_46_code 6 = .ok (.i2b, 1) := by decide +kernel
theorem d16_7 : decode jdk_43_method_46_code 7 = .ok (.bastore, 1) := by decide +kernel
theorem d16_8 : decode jdk_43_method_46_code 8 = .ok (.areturn, 1) := by decide +kernel
theorem ef_16 (m : MethodId) (p0 : Int32) : entryFrame m #[(.int p0)] 1 = mkF m 0 #[.val (.int p0)] [] := by first | (simp [entryFrame, mkF, argsToLocals, Value.category]; done) | rfl
def v16_1 (p0 : Int32) : Int32 := (p0.toInt8.toInt32)
def Q16 (Z : State) (p0 : Int32) (h0 : Heap) (n0 : Nat) (v : Option Value) (h : Heap) (L : List Loc) : Prop := Fr n0 L ∧ ∃ (x16_0 : Addr) (k16_1 : ClassId), v = some (.ref x16_0) ∧ h0.size ≤ x16_0 ∧ Keep h0 h [] ∧ Exa Z h x16_0 "[B" ∧ Arv Z h x16_0 k16_1 .byte (1 : Int32) [(.int (nar .byte (v16_1 p0)))] (.int (0 : Int32))
set_option maxRecDepth 65536 in
set_option maxHeartbeats 40000000 in
theorem rm16 (l : Launch) (Z : State) (a0 : Array Value) (hw : ∀ d ∈ tables_1, d.before a0 Z = true) (ws : List Jvm.Cond) (p0 : Int32) (h0 : Heap) (n0 : Nat) (Z0 : n0 ≤ h0.size) :
    MetFree l (⟨"java/lang/StringLatin1", "toBytes", "(C)[B"⟩ : MethodName) (head1 (Jvm.Cond.code (⟨"java/lang/StringLatin1", "toBytes", "(C)[B"⟩ : MethodName) jdk_43_method_46_code 1 (some (.array .byte)) :: ws) ({ frames := 0, cells := 1, slots := 1, locals := 0 } : Room)) (fun a U => a = #[(.int p0)] ∧ Z.Warmed39 U.vm ∧ U.heap = h0) (fun _ _ _ _ _ => True) (fun _ U o U' => ∃ v L, o = .returned v ∧ Q16 Z p0 h0 n0 v U'.heap L ∧ FrameEnd U o U' L ({ frames := 0, cells := 1, slots := 1, locals := 0 } : Room).cells ({ frames := 0, cells := 1, slots := 1, locals := 0 } : Room).slots) := by
  refine MetFree.of_bodySF (plainFor_of_name pn_java_lang_StringLatin1) hisR ?_
  intro p e s m args below meth c s₁ Bd hml0 hP hK
  obtain ⟨rfl, hZ, hh⟩ := hP
  have hx := Bd.exec
  have hby := Bd.bytes
  have hml : c.maxLocals = 1 := hml0
  have hown : s.vm.findClass "java/lang/StringLatin1" = some m.cls := findClass_of_methodNamed Bd.named
  have hnm := (name_of_methodNamed Bd.named Bd.method).1
  have hlk := BodyLoose.notSynchronized Bd
  have X0 : Stand p l e ({ frames := 0, cells := 1, slots := 1, locals := 0 } : Room) s m #[(.int p0)] below meth c s₁ [] 0 0 := Stand.of_body Bd
  have e0 : s₁.heap = h0 := by rw [← hh, Bd.state]; rfl
  have N0 := Fr.nil n0
  have pre0 : ∀ t, Steps p.tables e below (s₁.setTop (mkF m 0 #[.val (.int p0)] [])) t → Steps p.tables e below (s₁.setTop (entryFrame m #[(.int p0)] 1)) t := fun t k => castTop (ef_16 m p0) k
  obtain ⟨T1, h1, k1, X1, e1, E1, A1, EA1, st1⟩ := newPE X0 hx hZ (wd hw 61 rfl) e0 (g := (mkF m 1 #[.val (.int p0)] [(.int (1 : Int32))])) rfl (hb hby d16_1) rfl (by decide) (cap := 1) (by decide) (by decide) (by decide) (by decide) (ad := "[B") rfl
  obtain ⟨b1, gz1⟩ : ∃ z, z = h0.size := ⟨_, rfl⟩
  rw [← gz1] at A1 EA1 st1
  have g2 : n0 ≤ b1 := Nat.le_trans Z0 (Nat.le_of_eq gz1.symm)
  have sz3 : h0.size ≤ b1 := Nat.le_trans (Nat.le_refl h0.size) (Nat.le_of_eq gz1.symm)
  have z4 : n0 ≤ h1.size := Nat.le_trans Z0 E1.1
  have hs5 : h0.size ≤ h1.size := Nat.le_trans (Nat.le_refl h0.size) E1.1
  have V1 : Arv Z h1 b1 k1 .byte (1 : Int32) [(.int (0 : Int32))] (.int (0 : Int32)) := (Arv.new A1 (by decide)).pad (pad_rep [] (.int (0 : Int32)) 1)
  obtain ⟨cl6, Ar6, qc6, S6, M6, Ha6, G6⟩ := id V1
  have hin7 : ¬ ((0 : Int32) < 0 ∨ cl6.slots.size ≤ ((0 : Int32)).toNatClampNeg) := inb_of S6 ⟨by decide, by decide⟩
  obtain ⟨T8, h8, X8, e8, W8, st8⟩ := stB X1 hx hZ e1 Ar6 (j := (0 : Int32)) hin7 (g := (mkF m 7 #[.val (.int p0)] [(.int (p0.toInt8.toInt32)), (.int (0 : Int32)), (.ref b1), (.ref b1)])) rfl rfl (hb hby d16_7)
  have V8 : Arv Z h8 b1 k1 .byte (1 : Int32) [(.int (nar .byte (v16_1 p0)))] (.int (0 : Int32)) := Arv.set Ar6 qc6 S6 M6 Ha6 G6 (fits_nar_byte (v16_1 p0)) W8 0 rfl (Nat.le_of_ble_eq_true rfl)
  have N8 := Fr.snoc X8 N0 g2
  have z9 : n0 ≤ h8.size := Nat.le_trans z4 (Keep.of_wr W8).1
  have hs10 : h0.size ≤ h8.size := Nat.le_trans hs5 (Keep.of_wr W8).1
  obtain ⟨fs, hr, hrun, hended, hW, hsame⟩ := X8.leave (v := some (.ref b1)) (fun h => by rw [Bd.returns] at h; cases h) hlk
  refine ⟨_, _, pre0 _ ?_, hrun, hended, _, _, rfl, ?_, ⟨_, rfl⟩, hW, hsame.mono (by decide) (by decide)⟩
  · skip
    show Steps p.tables e below (s₁.setTop (mkF m 0 #[.val (.int p0)] [])) _
    refine XT.iconstV X0.here hx rfl (1 : Int32) (hb hby d16_0) (by decide) ?_
    show Steps p.tables e below (s₁.setTop (mkF m 1 #[.val (.int p0)] [(.int (1 : Int32))])) _
    refine st1 _ ?_
    refine XS.dup X1.here hx rfl (hb hby d16_3) rfl rfl ?_
    refine XT.iconstV X1.here hx rfl (0 : Int32) (hb hby d16_4) (by decide) ?_
    refine XS.iloadN X1.here hx rfl (hb hby d16_5) rfl ?_
    show Steps p.tables e below (T1.setTop (mkF m 6 #[.val (.int p0)] [(.int p0), (.int (0 : Int32)), (.ref b1), (.ref b1)])) _
    refine XT.i2b X1.here hx rfl (hb hby d16_6) rfl ?_
    show Steps p.tables e below (T1.setTop (mkF m 7 #[.val (.int p0)] [(.int (p0.toInt8.toInt32)), (.int (0 : Int32)), (.ref b1), (.ref b1)])) _
    refine st8 _ ?_
    show Steps p.tables e below (T8.setTop (mkF m 8 #[.val (.int p0)] [(.ref b1)])) _
    exact X8.areturnOut hx rfl Bd.returns rfl (hb hby d16_8) hr
  · skip
    show Q16 Z p0 h0 n0 _ T8.heap _
    rw [e8]
    have k11 := (EA1.wr W8)
    exact ⟨N8, b1, k1, rfl, sz3, (((Keep.refl h0 []).ext E1).wr W8 (Or.inr sz3)), k11, V8⟩
theorem d17_0 : decode jdk_42_method_151_code 0 = .ok (.aload_n 0, 1) := by decide +kernel
theorem d17_1 : decode jdk_42_method_151_code 1 = .ok (.invokespecial 1, 3) := by decide +kernel
theorem d17_4 : decode jdk_42_method_151_code 4 = .ok (.aload_n 0, 1) := by decide +kernel
theorem d17_5 : decode jdk_42_method_151_code 5 = .ok (.aload_n 1, 1) := by decide +kernel
theorem d17_6 : decode jdk_42_method_151_code 6 = .ok (.putfield 9, 3) := by decide +kernel
theorem d17_9 : decode jdk_42_method_151_code 9 = .ok (.aload_n 0, 1) := by decide +kernel
theorem d17_10 : decode jdk_42_method_151_code 10 = .ok (.iload_n 2, 1) := by decide +kernel
theorem d17_11 : decode jdk_42_method_151_code 11 = .ok (.putfield 15, 3) := by decide +kernel
theorem d17_14 : decode jdk_42_method_151_code 14 = .ok (.return_, 1) := by decide +kernel
theorem pn_java_lang_String : plainName "java/lang/String" = true := by first | (simp [plainName, overriddenIn]; done) | decide +kernel
theorem ef_17 (m : MethodId) (o0 : Addr) (o1 : Addr) (p2 : Int32) : entryFrame m #[(.ref o0), (.ref o1), (.int p2)] 3 = mkF m 0 #[.val (.ref o0), .val (.ref o1), .val (.int p2)] [] := by first | (simp [entryFrame, mkF, argsToLocals, Value.category]; done) | rfl
def Q17 (Z : State) (o0 : Addr) (o1 : Addr) (p2 : Int32) (u0_value : Value) (u1_coder : Value) (h0 : Heap) (n0 : Nat) (v : Option Value) (h : Heap) (L : List Loc) : Prop := Fr n0 L ∧ v = none ∧ Keep h0 h [o0] ∧ Exa Z h o0 "java/lang/String" ∧ Fld Z h o0 "java/lang/String" "value" "[B" (.ref o1) ∧ Fld Z h o0 "java/lang/String" "coder" "B" (.int (nar .byte p2))
set_option maxRecDepth 65536 in
set_option maxHeartbeats 40000000 in
theorem rm17 (l : Launch) (Z : State) (a0 : Array Value) (hw : ∀ d ∈ tables_1, d.before a0 Z = true) (ws : List Jvm.Cond) (o0 : Addr) (o1 : Addr) (p2 : Int32) (u0_value : Value) (u1_coder : Value) (h0 : Heap) (n0 : Nat) (Z0 : n0 ≤ h0.size) (E_o0 : Exa Z h0 o0 "java/lang/String") (F_value_o0 : Fld Z h0 o0 "java/lang/String" "value" "[B" u0_value) (g_o0 : n0 ≤ o0) (F_coder_o0 : Fld Z h0 o0 "java/lang/String" "coder" "B" u1_coder) :
    MetFree l (⟨"java/lang/String", "<init>", "([BB)V"⟩ : MethodName) (head1 (Jvm.Cond.code (⟨"java/lang/String", "<init>", "([BB)V"⟩ : MethodName) jdk_42_method_151_code 3 none :: ws) ({ frames := 1, cells := 0, slots := 0, locals := 12 } : Room)) (fun a U => a = #[(.ref o0), (.ref o1), (.int p2)] ∧ Z.Warmed39 U.vm ∧ U.heap = h0) (fun _ _ _ _ _ => True) (fun _ U o U' => ∃ v L, o = .returned v ∧ Q17 Z o0 o1 p2 u0_value u1_coder h0 n0 v U'.heap L ∧ FrameEnd U o U' L ({ frames := 1, cells := 0, slots := 0, locals := 12 } : Room).cells ({ frames := 1, cells := 0, slots := 0, locals := 12 } : Room).slots) := by
  refine MetFree.of_bodySF (plainFor_of_name pn_java_lang_String) hisR ?_
  intro p e s m args below meth c s₁ Bd hml0 hP hK
  obtain ⟨rfl, hZ, hh⟩ := hP
  have hx := Bd.exec
  have hby := Bd.bytes
  have hml : c.maxLocals = 3 := hml0
  have hown : s.vm.findClass "java/lang/String" = some m.cls := findClass_of_methodNamed Bd.named
  have hnm := (name_of_methodNamed Bd.named Bd.method).1
  have hlk := BodyLoose.notSynchronized Bd
  have X0 : Stand p l e ({ frames := 1, cells := 0, slots := 0, locals := 12 } : Room) s m #[(.ref o0), (.ref o1), (.int p2)] below meth c s₁ [] 0 0 := Stand.of_body Bd
  have e0 : s₁.heap = h0 := by rw [← hh, Bd.state]; rfl
  have N0 := Fr.nil n0
  have pre0 : ∀ t, Steps p.tables e below (s₁.setTop (mkF m 0 #[.val (.ref o0), .val (.ref o1), .val (.int p2)] [])) t → Steps p.tables e below (s₁.setTop (entryFrame m #[(.ref o0), (.ref o1), (.int p2)] 3)) t := fun t k => castTop (ef_17 m o0 o1 p2) k
  obtain ⟨T1, X1, e1, st1⟩ := initO X0 hx hZ hown (wd hw 76 rfl) (wd hw 16 rfl) (wd hw 17 rfl) e0 (g := (mkF m 1 #[.val (.ref o0), .val (.ref o1), .val (.int p2)] [(.ref o0)])) rfl (by rw [hml]; rfl) rfl (hb hby d17_1) (by decide) (W := 0) (by show 2 * 0 + _ ≤ _; exact Nat.le_of_eq rfl) (by decide)
  obtain ⟨T2, h2, X2, e2, W2, st2⟩ := putF X1 hx hZ hown (host := "") (Or.inl (wd hw 89 rfl)) Via.refl e1 F_value_o0 E_o0 (Or.inr ⟨(wd hw 62 rfl), rfl, hnm⟩) (wd hw 60 rfl) (ty := (.array .byte)) (by decide) rfl rfl (g := (mkF m 6 #[.val (.ref o0), .val (.ref o1), .val (.int p2)] [(.ref o1), (.ref o0)])) rfl rfl (hb hby d17_6)
  have Fw2 := F_value_o0.same W2
  have N2 := Fr.snoc X2 N0 g_o0
  have z3 : n0 ≤ h2.size := Nat.le_trans Z0 (Keep.of_wr W2).1
  have hs4 : h0.size ≤ h2.size := Nat.le_trans (Nat.le_refl h0.size) (Keep.of_wr W2).1
  have k5 := (F_coder_o0.other W2 (Or.inr (slot_ne (Or.inr (wd hw 63 rfl)) (Or.inr (wd hw 62 rfl)) (by decide) (t := .byte) (t' := (.array .byte)) (by decide) (by decide))))
  have k6 := (E_o0.wr W2)
  obtain ⟨T7, h7, X7, e7, W7, st7⟩ := putFN X2 hx hZ hown (wd hw 88 rfl) Via.refl e2 k5 k6 (Or.inr ⟨(wd hw 63 rfl), rfl, hnm⟩) (wd hw 60 rfl) (ty := .byte) (v' := (.int (nar .byte p2))) (by decide) rfl (fits_nar_byte p2) (g := (mkF m 11 #[.val (.ref o0), .val (.ref o1), .val (.int p2)] [(.int p2), (.ref o0)])) rfl rfl (hb hby d17_11)
  have Fw7 := k5.same W7
  have N7 := Fr.snoc X7 N2 g_o0
  have z8 : n0 ≤ h7.size := Nat.le_trans z3 (Keep.of_wr W7).1
  have hs9 : h0.size ≤ h7.size := Nat.le_trans hs4 (Keep.of_wr W7).1
  obtain ⟨fs, hr, hrun, hended, hW, hsame⟩ := X7.leave (v := none) (fun _ => rfl) hlk
  refine ⟨_, _, pre0 _ ?_, hrun, hended, _, _, rfl, ?_, ⟨_, rfl⟩, hW, hsame.mono (by decide) (by decide)⟩
  · skip
    show Steps p.tables e below (s₁.setTop (mkF m 0 #[.val (.ref o0), .val (.ref o1), .val (.int p2)] [])) _
    refine XS.aloadN X0.here hx rfl (hb hby d17_0) rfl rfl ?_
    show Steps p.tables e below (s₁.setTop (mkF m 1 #[.val (.ref o0), .val (.ref o1), .val (.int p2)] [(.ref o0)])) _
    refine st1 _ ?_
    refine XS.aloadN X1.here hx rfl (hb hby d17_4) rfl rfl ?_
    refine XS.aloadN X1.here hx rfl (hb hby d17_5) rfl rfl ?_
    show Steps p.tables e below (T1.setTop (mkF m 6 #[.val (.ref o0), .val (.ref o1), .val (.int p2)] [(.ref o1), (.ref o0)])) _
    refine st2 _ ?_
    refine XS.aloadN X2.here hx rfl (hb hby d17_9) rfl rfl ?_
    refine XS.iloadN X2.here hx rfl (hb hby d17_10) rfl ?_
    show Steps p.tables e below (T2.setTop (mkF m 11 #[.val (.ref o0), .val (.ref o1), .val (.int p2)] [(.int p2), (.ref o0)])) _
    refine st7 _ ?_
    show Steps p.tables e below (T7.setTop (mkF m 14 #[.val (.ref o0), .val (.ref o1), .val (.int p2)] [])) _
    exact X7.returnOut hx Bd.returns (hb hby d17_14) hr
  · skip
    show Q17 Z o0 o1 p2 u0_value u1_coder h0 n0 _ T7.heap _
    rw [e7]
    have k10 := (k6.wr W7)
    have k11 := (Fw2.other W7 (Or.inr (slot_ne (Or.inr (wd hw 62 rfl)) (Or.inr (wd hw 63 rfl)) (by decide) (t := (.array .byte)) (t' := .byte) (by decide) (by decide))))
    exact ⟨N7, rfl, (((Keep.refl h0 [o0]).wr W2 (Or.inl (List.mem_of_getElem? (i := 0) rfl))).wr W7 (Or.inl (List.mem_of_getElem? (i := 0) rfl))), k10, k11, Fw7⟩
theorem pd__C_Z : parseMethodDescriptor "(C)Z" = some ⟨[.char], some .boolean⟩ := by decide +kernel
theorem pd__C__B : parseMethodDescriptor "(C)[B" = some ⟨[.char], some (.array .byte)⟩ := by decide +kernel
theorem pd___BB_V : parseMethodDescriptor "([BB)V" = some ⟨[(.array .byte), .byte], none⟩ := by decide +kernel
theorem d14_0 : decode jdk_42_method_139_code 0 = .ok (.getstatic 38, 3) := by decide +kernel
theorem d14_3 : decode jdk_42_method_139_code 3 = .ok (.ifCond .eq 23, 3) := by decide +kernel
theorem d14_6 : decode jdk_42_method_139_code 6 = .ok (.iload_n 0, 1) := by decide +kernel
theorem d14_7 : decode jdk_42_method_139_code 7 = .ok (.invokestatic 1015, 3) := by decide +kernel
theorem d14_10 : decode jdk_42_method_139_code 10 = .ok (.ifCond .eq 16, 3) := by decide +kernel
theorem d14_13 : decode jdk_42_method_139_code 13 = .ok (.new 10, 3) := by decide +kernel
theorem d14_16 : decode jdk_42_method_139_code 16 = .ok (.dup, 1) := by decide +kernel
theorem d14_17 : decode jdk_42_method_139_code 17 = .ok (.iload_n 0, 1) := by decide +kernel
theorem d14_18 : decode jdk_42_method_139_code 18 = .ok (.invokestatic 1018, 3) := by decide +kernel
theorem d14_21 : decode jdk_42_method_139_code 21 = .ok (.iconst 0, 1) := by decide +kernel
theorem d14_22 : decode jdk_42_method_139_code 22 = .ok (.invokespecial 209, 3) := by decide +kernel
theorem d14_25 : decode jdk_42_method_139_code 25 = .ok (.areturn, 1) := by decide +kernel
theorem ef_14 (m : MethodId) (p0 : Int32) : entryFrame m #[(.int p0)] 1 = mkF m 0 #[.val (.int p0)] [] := by first | (simp [entryFrame, mkF, argsToLocals, Value.category]; done) | rfl
def v14_1 (p0 : Int32) (w0_COMPACT_STRINGS : Int32) : Int32 := (f15 p0)
def Q14 (Z : State) (p0 : Int32) (w0_COMPACT_STRINGS : Int32) (h0 : Heap) (n0 : Nat) (v : Option Value) (h : Heap) (L : List Loc) : Prop := Fr n0 L ∧ ∃ (x14_0 : Addr) (x14_1 : Addr) (k14_2 : ClassId), v = some (.ref x14_0) ∧ h0.size ≤ x14_0 ∧ h0.size ≤ x14_1 ∧ x14_0 ≠ x14_1 ∧ Keep h0 h [] ∧ Exa Z h x14_0 "java/lang/String" ∧ Fld Z h x14_0 "java/lang/String" "value" "[B" (.ref x14_1) ∧ Fld Z h x14_0 "java/lang/String" "coder" "B" (.int (nar .byte (0 : Int32))) ∧ Exa Z h x14_1 "[B" ∧ Arv Z h x14_1 k14_2 .byte (1 : Int32) [(.int (nar .byte (v16_1 p0)))] (.int (0 : Int32))
set_option maxRecDepth 65536 in
set_option maxHeartbeats 40000000 in
theorem rm14 (l : Launch) (Z : State) (a0 : Array Value) (hw : ∀ d ∈ tables_1, d.before a0 Z = true) (ws : List Jvm.Cond) (p0 : Int32) (w0_COMPACT_STRINGS : Int32) (h0 : Heap) (n0 : Nat) (Z0 : n0 ≤ h0.size) (S_String_COMPACT_STRINGS : Sta Z h0 "java/lang/String" "COMPACT_STRINGS" "Z" (.int w0_COMPACT_STRINGS)) (hy0 : ¬ (w0_COMPACT_STRINGS = (0 : Int32))) (hy1 : ¬ ((v14_1 p0 w0_COMPACT_STRINGS) = (0 : Int32))) :
    MetFree l (⟨"java/lang/String", "valueOf", "(C)Ljava/lang/String;"⟩ : MethodName) (head1 (Jvm.Cond.code (⟨"java/lang/String", "valueOf", "(C)Ljava/lang/String;"⟩ : MethodName) jdk_42_method_139_code 1 (some (.object "java/lang/String")) :: ws) ({ frames := 2, cells := 2, slots := 5, locals := 27 } : Room)) (fun a U => a = #[(.int p0)] ∧ Z.Warmed39 U.vm ∧ U.heap = h0) (fun _ _ _ _ _ => True) (fun _ U o U' => ∃ v L, o = .returned v ∧ Q14 Z p0 w0_COMPACT_STRINGS h0 n0 v U'.heap L ∧ FrameEnd U o U' L ({ frames := 2, cells := 2, slots := 5, locals := 27 } : Room).cells ({ frames := 2, cells := 2, slots := 5, locals := 27 } : Room).slots) := by
  refine MetFree.of_bodySF (plainFor_of_name pn_java_lang_String) hisR ?_
  intro p e s m args below meth c s₁ Bd hml0 hP hK
  obtain ⟨rfl, hZ, hh⟩ := hP
  have hx := Bd.exec
  have hby := Bd.bytes
  have hml : c.maxLocals = 1 := hml0
  have hown : s.vm.findClass "java/lang/String" = some m.cls := findClass_of_methodNamed Bd.named
  have hnm := (name_of_methodNamed Bd.named Bd.method).1
  have hlk := BodyLoose.notSynchronized Bd
  have X0 : Stand p l e ({ frames := 2, cells := 2, slots := 5, locals := 27 } : Room) s m #[(.int p0)] below meth c s₁ [] 0 0 := Stand.of_body Bd
  have e0 : s₁.heap = h0 := by rw [← hh, Bd.state]; rfl
  have N0 := Fr.nil n0
  have pre0 : ∀ t, Steps p.tables e below (s₁.setTop (mkF m 0 #[.val (.int p0)] [])) t → Steps p.tables e below (s₁.setTop (entryFrame m #[(.int p0)] 1)) t := fun t k => castTop (ef_14 m p0) k
  obtain ⟨T1, X1, e1, st1⟩ := getS2 X0 hx hZ hown (host := "") (Or.inl (wd hw 77 rfl)) Via.refl e0 S_String_COMPACT_STRINGS (g := (mkF m 0 #[.val (.int p0)] [])) rfl (hb hby d14_0)
  obtain ⟨vr2, _, ⟨T2, L2, k2, n2⟩, -, X2, ⟨Lc2, hQ2, l2, y2, z2⟩, st2⟩ := Jvm.LawKit.callS X1 hx (y := (⟨"java/lang/StringLatin1", "canEncode", "(C)Z"⟩ : MethodName)) hown (mvT hZ (wd hw 93 rfl)) (mvT hZ (wd hw 94 rfl)) (mvT hZ (wd hw 95 rfl)) (mvT hZ (wd hw 96 rfl)) (by decide) (backOf (W := 0) (rm15 l Z a0 hw [] p0 h0 n0 Z0) hZ (wd hw 96 rfl) (wd hw 95 rfl) (by decide) (by decide)) (g := (mkF m 7 #[.val (.int p0)] [(.int p0)])) rfl (by rw [hml]; rfl) (argsL := [(.int p0)]) (rest := []) (lenOf pd__C_Z rfl) rfl (by show 2 * 0 + _ ≤ _; exact Nat.le_of_eq rfl) (hb hby d14_7) (fun _ _ => ⟨rfl, e1, (by decide : 0 + 0 ≤ _), (by decide : 0 + 0 ≤ _)⟩)
  dsimp only [Pt.U, Pt.locs, Pt.cells, Pt.slots] at X2 l2 y2 z2 st2 hQ2
  replace X2 := own_stand X2 l2 y2 z2
  clear l2 y2 z2
  have N2q := (show _ ∧ _ ∧ _ from hQ2).1
  have hv2 := (show _ ∧ _ ∧ _ from hQ2).2.1
  have e2 := (show _ ∧ _ ∧ _ from hQ2).2.2
  clear hQ2
  subst hv2
  have N2 := Fr.app N0 N2q
  obtain ⟨T3, h3, X3, e3, E3, A3, D3, -, st3⟩ := newO X2 hx hZ hown (wd hw 97 rfl) (wd hw 60 rfl) (wd hw 59 rfl) e2 (g := (mkF m 13 #[.val (.int p0)] [])) rfl (hb hby d14_13) (by decide) (by decide)
  obtain ⟨b3, gz3⟩ : ∃ z, z = h0.size := ⟨_, rfl⟩
  rw [← gz3] at A3 D3 st3
  have g4 : n0 ≤ b3 := Nat.le_trans Z0 (Nat.le_of_eq gz3.symm)
  have sz5 : h0.size ≤ b3 := Nat.le_trans (Nat.le_refl h0.size) (Nat.le_of_eq gz3.symm)
  have z6 : n0 ≤ h3.size := Nat.le_trans Z0 E3.1
  have hs7 : h0.size ≤ h3.size := Nat.le_trans (Nat.le_refl h0.size) E3.1
  have F3_value : Fld Z h3 b3 "java/lang/String" "value" "[B" .null := D3 (Or.inr (wd hw 62 rfl)) (ty := (.array .byte)) (by decide)
  have F3_coder : Fld Z h3 b3 "java/lang/String" "coder" "B" (.int (0 : Int32)) := D3 (Or.inr (wd hw 63 rfl)) (ty := .byte) (by decide)
  obtain ⟨vr8, _, ⟨T8, L8, k8, n8⟩, -, X8, ⟨Lc8, hQ8, l8, y8, z8⟩, st8⟩ := Jvm.LawKit.callS X3 hx (y := (⟨"java/lang/StringLatin1", "toBytes", "(C)[B"⟩ : MethodName)) hown (mvT hZ (wd hw 98 rfl)) (mvT hZ (wd hw 99 rfl)) (mvT hZ (wd hw 95 rfl)) (mvT hZ (wd hw 100 rfl)) (by decide) (backOf (W := 2) (rm16 l Z a0 hw [] p0 h3 n0 z6) hZ (wd hw 100 rfl) (wd hw 95 rfl) (by decide) (by decide)) (g := (mkF m 18 #[.val (.int p0)] [(.int p0), (.ref b3), (.ref b3)])) rfl (by rw [hml]; rfl) (argsL := [(.int p0)]) (rest := [(.ref b3), (.ref b3)]) (lenOf pd__C__B rfl) rfl (by show 2 * 0 + _ ≤ _; exact Nat.le_of_eq rfl) (hb hby d14_18) (fun _ _ => ⟨rfl, e3, (by decide : 1 + 1 ≤ _), (by decide : 4 + 1 ≤ _)⟩)
  dsimp only [Pt.U, Pt.locs, Pt.cells, Pt.slots] at X8 l8 y8 z8 st8 hQ8
  replace X8 := own_stand X8 l8 y8 z8
  clear l8 y8 z8
  have N8q := (show _ ∧ _ from hQ8).1
  have hq8 := (show _ ∧ _ from hQ8).2
  clear hQ8
  obtain ⟨x16_0_8, k16_1_8, hq8x⟩ := hq8
  have hv8 := hq8x.1
  have szx16_0_8 := hq8x.2.1
  have K8 := hq8x.2.2.1
  have po8_0 := hq8x.2.2.2.1
  have po8_1 := hq8x.2.2.2.2
  clear hq8x
  subst hv8
  have ne9 : b3 ≠ x16_0_8 := Nat.ne_of_lt (Nat.lt_of_lt_of_le A3.lt szx16_0_8)
  have g10 : n0 ≤ x16_0_8 := Nat.le_trans z6 szx16_0_8
  have sz11 : h0.size ≤ x16_0_8 := Nat.le_trans hs7 szx16_0_8
  have z12 : n0 ≤ T8.heap.size := Nat.le_trans z6 K8.1
  have hs13 : h0.size ≤ T8.heap.size := Nat.le_trans hs7 K8.1
  have N8 := Fr.app N2 N8q
  have k15 := (A3.keep K8)
  have k16 := (F3_value.keep K8 nin0)
  have k17 := (F3_coder.keep K8 nin0)
  obtain ⟨vr14, _, ⟨T14, L14, k14, n14⟩, -, X14, ⟨Lc14, hQ14, l14, y14, z14⟩, st14⟩ := Jvm.Stand.specialBack X8 hx (y := (⟨"java/lang/String", "<init>", "([BB)V"⟩ : MethodName)) rfl hown (mvT hZ (wd hw 101 rfl)) (mvT hZ (wd hw 102 rfl)) (mvT hZ (wd hw 103 rfl)) (by decide) (backOf (W := 1) (rm17 l Z a0 hw [] b3 x16_0_8 (0 : Int32) .null (.int (0 : Int32)) T8.heap n0 z12 k15 k16 g4 k17) hZ (wd hw 103 rfl) (wd hw 59 rfl) (by decide) (by decide)) (g := (mkF m 22 #[.val (.int p0)] [(.int (0 : Int32)), (.ref x16_0_8), (.ref b3), (.ref b3)])) rfl (by rw [hml]; rfl) (Steps.refl _) (a := b3) (argsL := [(.ref x16_0_8), (.int (0 : Int32))]) (rest := [(.ref b3)]) (lenOf pd___BB_V rfl) rfl (by show 2 * 0 + _ ≤ _; exact Nat.le_of_eq rfl) (hb hby d14_22) (fun _ _ => ⟨rfl, rfl, (by decide : 2 + 0 ≤ _), (by decide : 5 + 0 ≤ _)⟩)
  dsimp only [Pt.U, Pt.locs, Pt.cells, Pt.slots] at X14 l14 y14 z14 st14 hQ14
  replace X14 := own_stand X14 l14 y14 z14
  clear l14 y14 z14
  have N14q := (show _ ∧ _ from hQ14).1
  have hq14 := (show _ ∧ _ from hQ14).2
  clear hQ14
  have hv14 := hq14.1
  have K14 := hq14.2.1
  have po14_0 := hq14.2.2.1
  have po14_1 := hq14.2.2.2.1
  have po14_2 := hq14.2.2.2.2
  clear hq14
  subst hv14
  have z18 : n0 ≤ T14.heap.size := Nat.le_trans z12 K14.1
  have hs19 : h0.size ≤ T14.heap.size := Nat.le_trans hs13 K14.1
  have N14 := Fr.app N8 N14q
  obtain ⟨fs, hr, hrun, hended, hW, hsame⟩ := X14.leave (v := some (.ref b3)) (fun h => by rw [Bd.returns] at h; cases h) hlk
  refine ⟨_, _, pre0 _ ?_, hrun, hended, _, _, rfl, ?_, ⟨_, rfl⟩, hW, hsame.mono (by decide) (by decide)⟩
  · skip
    show Steps p.tables e below (s₁.setTop (mkF m 0 #[.val (.int p0)] [])) _
    refine st1 _ ?_
    show Steps p.tables e below (T1.setTop (mkF m 3 #[.val (.int p0)] [(.int w0_COMPACT_STRINGS)])) _
    refine XS.ifNo X1.here hx rfl (hb hby d14_3) rfl (XT.i0_eq_f hy0) ?_
    refine XS.iloadN X1.here hx rfl (hb hby d14_6) rfl ?_
    show Steps p.tables e below (T1.setTop (mkF m 7 #[.val (.int p0)] [(.int p0)])) _
    refine st2 _ ?_
    show Steps p.tables e below (T2.setTop (mkF m 10 #[.val (.int p0)] [(.int (f15 p0))])) _
    refine XS.ifNo X2.here hx rfl (hb hby d14_10) rfl (XT.i0_eq_f hy1) ?_
    show Steps p.tables e below (T2.setTop (mkF m 13 #[.val (.int p0)] [])) _
    refine st3 _ ?_
    refine XS.dup X3.here hx rfl (hb hby d14_16) rfl rfl ?_
    refine XS.iloadN X3.here hx rfl (hb hby d14_17) rfl ?_
    show Steps p.tables e below (T3.setTop (mkF m 18 #[.val (.int p0)] [(.int p0), (.ref b3), (.ref b3)])) _
    refine st8 _ ?_
    refine XT.iconstV X8.here hx rfl (0 : Int32) (hb hby d14_21) (by decide) ?_
    show Steps p.tables e below (T8.setTop (mkF m 22 #[.val (.int p0)] [(.int (0 : Int32)), (.ref x16_0_8), (.ref b3), (.ref b3)])) _
    refine st14.trans ?_
    show Steps p.tables e below (T14.setTop (mkF m 25 #[.val (.int p0)] [(.ref b3)])) _
    exact X14.areturnOut hx rfl Bd.returns rfl (hb hby d14_25) hr
  · skip
    show Q14 Z p0 w0_COMPACT_STRINGS h0 n0 _ T14.heap _
    have k20 := (po8_0.keep K14)
    have k21 := (po8_1.keep K14 (ninS (Ne.symm ne9) nin0))
    exact ⟨N14, b3, x16_0_8, k16_1_8, rfl, sz5, sz11, ne9, ((((Keep.refl h0 []).ext E3).trans K8 all0).trans K14 (allS (Or.inr sz5) all0)), po14_0, po14_1, po14_2, k20, k21⟩
/-own-/
theorem own_enc (x w : Int32) : ¬ (v14_1 ((x &&& (255 : Int32)).toUInt32.toUInt16.toUInt32.toInt32) w = (0 : Int32)) := by
  obtain ⟨n, hn⟩ := own_low x
  rw [hn, (own_f256 n).2.1]
  have e : v14_1 (Int32.ofNat n.val) w = 1 := by
    unfold v14_1 f15 v15_1
    rw [if_neg (own_f256 n).2.2.2]; decide
  rw [e]; decide
theorem d1_0 : decode method_2_code 0 = .ok (.iload_n 0, 1) := by decide +kernel
theorem d1_1 : decode method_2_code 1 = .ok (.iconst 3, 1) := by decide +kernel
theorem d1_2 : decode method_2_code 2 = .ok (.iand, 1) := by decide +kernel
theorem d1_3 : decode method_2_code 3 = .ok (.istore_n 2, 1) := by decide +kernel
theorem d1_4 : decode method_2_code 4 = .ok (.iload_n 2, 1) := by decide +kernel
theorem d1_5 : decode method_2_code 5 = .ok (.ifCond .ne 5, 3) := by decide +kernel
theorem d1_8 : decode method_2_code 8 = .ok (.aconst_null, 1) := by decide +kernel
theorem d1_9 : decode method_2_code 9 = .ok (.areturn, 1) := by decide +kernel
theorem pn_com_example_tollgate_tollgate_signing_SignedCallIsKeyedPinLaw : plainName "com/example/tollgate/tollgate/signing/SignedCallIsKeyedPinLaw" = true := by first | (simp [plainName, overriddenIn]; done) | decide +kernel
theorem ef_pk0 (m : MethodId) (p0 : Int32) (p1 : Int32) : entryFrame m #[(.int p0), (.int p1)] 4 = mkF m 0 #[.val (.int p0), .val (.int p1), .unset, .unset] [] := by first | (simp [entryFrame, mkF, argsToLocals, Value.category]; done) | rfl
def vpk0_1 (p0 : Int32) (p1 : Int32) (w0 : Int32) : Int32 := (p0 &&& (3 : Int32))
def Qpk0 (Z : State) (p0 : Int32) (p1 : Int32) (w0 : Int32) (h0 : Heap) (n0 : Nat) (v : Option Value) (h : Heap) (L : List Loc) : Prop := Fr n0 L ∧ v = some .null ∧ h = h0
set_option maxRecDepth 65536 in
set_option maxHeartbeats 40000000 in
theorem rmpk0 (l : Launch) (Z : State) (a0 : Array Value) (hw : ∀ d ∈ tables_1, d.before a0 Z = true) (ws : List Jvm.Cond) (p0 : Int32) (p1 : Int32) (w0 : Int32) (h0 : Heap) (n0 : Nat) (Z0 : n0 ≤ h0.size) (S_String_COMPACT_STRINGS : Sta Z h0 "java/lang/String" "COMPACT_STRINGS" "Z" (.int w0)) (hcs : ¬ (w0 = (0 : Int32))) (hy1 : (vpk0_1 p0 p1 w0) = (0 : Int32)) :
    MetFree l (⟨"com/example/tollgate/tollgate/signing/SignedCallIsKeyedPinLaw", "pick", "(II)Ljava/lang/String;"⟩ : MethodName) (head1 (Jvm.Cond.code (⟨"com/example/tollgate/tollgate/signing/SignedCallIsKeyedPinLaw", "pick", "(II)Ljava/lang/String;"⟩ : MethodName) method_2_code 4 (some (.object "java/lang/String")) :: ws) ({ frames := 4, cells := 3, slots := 8, locals := 66 } : Room)) (fun a U => a = #[(.int p0), (.int p1)] ∧ Z.Warmed39 U.vm ∧ U.heap = h0) (fun _ _ _ _ _ => True) (fun _ U o U' => ∃ v L, o = .returned v ∧ Qpk0 Z p0 p1 w0 h0 n0 v U'.heap L ∧ FrameEnd U o U' L ({ frames := 4, cells := 3, slots := 8, locals := 66 } : Room).cells ({ frames := 4, cells := 3, slots := 8, locals := 66 } : Room).slots) := by
  refine MetFree.of_bodySF (plainFor_of_name pn_com_example_tollgate_tollgate_signing_SignedCallIsKeyedPinLaw) hisR ?_
  intro p e s m args below meth c s₁ Bd hml0 hP hK
  obtain ⟨rfl, hZ, hh⟩ := hP
  have hx := Bd.exec
  have hby := Bd.bytes
  have hml : c.maxLocals = 4 := hml0
  have hown : s.vm.findClass "com/example/tollgate/tollgate/signing/SignedCallIsKeyedPinLaw" = some m.cls := findClass_of_methodNamed Bd.named
  have hnm := (name_of_methodNamed Bd.named Bd.method).1
  have hlk := BodyLoose.notSynchronized Bd
  have X0 : Stand p l e ({ frames := 4, cells := 3, slots := 8, locals := 66 } : Room) s m #[(.int p0), (.int p1)] below meth c s₁ [] 0 0 := Stand.of_body Bd
  have e0 : s₁.heap = h0 := by rw [← hh, Bd.state]; rfl
  have N0 := Fr.nil n0
  have pre0 : ∀ t, Steps p.tables e below (s₁.setTop (mkF m 0 #[.val (.int p0), .val (.int p1), .unset, .unset] [])) t → Steps p.tables e below (s₁.setTop (entryFrame m #[(.int p0), (.int p1)] 4)) t := fun t k => castTop (ef_pk0 m p0 p1) k
  obtain ⟨fs, hr, hrun, hended, hW, hsame⟩ := X0.leave (v := some .null) (fun h => by rw [Bd.returns] at h; cases h) hlk
  refine ⟨_, _, pre0 _ ?_, hrun, hended, _, _, rfl, ?_, ⟨_, rfl⟩, hW, hsame.mono (by decide) (by decide)⟩
  · skip
    show Steps p.tables e below (s₁.setTop (mkF m 0 #[.val (.int p0), .val (.int p1), .unset, .unset] [])) _
    refine XS.iloadN X0.here hx rfl (hb hby d1_0) rfl ?_
    refine XT.iconstV X0.here hx rfl (3 : Int32) (hb hby d1_1) (by decide) ?_
    refine XS.iand X0.here hx rfl (hb hby d1_2) rfl ?_
    refine XS.istoreN X0.here hx rfl (hb hby d1_3) rfl (l' := #[.val (.int p0), .val (.int p1), .val (.int (vpk0_1 p0 p1 w0)), .unset]) rfl ?_
    show Steps p.tables e below (s₁.setTop (mkF m 4 #[.val (.int p0), .val (.int p1), .val (.int (vpk0_1 p0 p1 w0)), .unset] [])) _
    refine XS.iloadN X0.here hx rfl (hb hby d1_4) rfl ?_
    show Steps p.tables e below (s₁.setTop (mkF m 5 #[.val (.int p0), .val (.int p1), .val (.int (vpk0_1 p0 p1 w0)), .unset] [(.int (vpk0_1 p0 p1 w0))])) _
    refine XS.ifNo X0.here hx rfl (hb hby d1_5) rfl (XT.i0_ne_f hy1) ?_
    show Steps p.tables e below (s₁.setTop (mkF m 8 #[.val (.int p0), .val (.int p1), .val (.int (vpk0_1 p0 p1 w0)), .unset] [])) _
    refine XS.aconstNull X0.here hx rfl (hb hby d1_8) ?_
    show Steps p.tables e below (s₁.setTop (mkF m 9 #[.val (.int p0), .val (.int p1), .val (.int (vpk0_1 p0 p1 w0)), .unset] [.null])) _
    exact X0.areturnOut hx rfl Bd.returns rfl (hb hby d1_9) hr
  · skip
    show Qpk0 Z p0 p1 w0 h0 n0 _ s₁.heap _
    rw [e0]
    exact ⟨N0, rfl, rfl⟩
theorem own_ws {a0 : Array Value} {Z : State} (hw : ∀ d ∈ tables_1, d.before a0 Z = true) : ∀ a ∈ Bundle.stringAtoms, a.before a0 Z = true := by
  intro d hd
  simp only [Bundle.stringAtoms, List.mem_cons, List.not_mem_nil, or_false] at hd
  rcases hd with rfl | rfl | rfl | rfl | rfl | rfl | rfl
  · exact (wd hw 59 rfl)
  · exact (wd hw 60 rfl)
  · exact (wd hw 61 rfl)
  · exact (wd hw 62 rfl)
  · exact (wd hw 63 rfl)
  · exact (wd hw 64 rfl)
  · exact (wd hw 65 rfl)
theorem d1_10 : decode method_2_code 10 = .ok (.iload_n 2, 1) := by decide +kernel
theorem d1_11 : decode method_2_code 11 = .ok (.iconst 1, 1) := by decide +kernel
theorem d1_12 : decode method_2_code 12 = .ok (.if_icmp .ne 6, 3) := by decide +kernel
theorem d1_15 : decode method_2_code 15 = .ok (.ldc 7, 2) := by decide +kernel
theorem d1_17 : decode method_2_code 17 = .ok (.areturn, 1) := by decide +kernel
theorem ef_pk1 (m : MethodId) (p0 : Int32) (p1 : Int32) : entryFrame m #[(.int p0), (.int p1)] 4 = mkF m 0 #[.val (.int p0), .val (.int p1), .unset, .unset] [] := by first | (simp [entryFrame, mkF, argsToLocals, Value.category]; done) | rfl
def vpk1_1 (p0 : Int32) (p1 : Int32) (w0 : Int32) : Int32 := (p0 &&& (3 : Int32))
def Qpk1 (Z : State) (p0 : Int32) (p1 : Int32) (w0 : Int32) (h0 : Heap) (n0 : Nat) (v : Option Value) (h : Heap) (L : List Loc) : Prop := Fr n0 L ∧ ∃ (xpk1_0 : Addr), v = some (.ref xpk1_0) ∧ Keep h0 h []
set_option maxRecDepth 65536 in
set_option maxHeartbeats 40000000 in
theorem rmpk1 (l : Launch) (Z : State) (a0 : Array Value) (hw : ∀ d ∈ tables_1, d.before a0 Z = true) (ws : List Jvm.Cond) (p0 : Int32) (p1 : Int32) (w0 : Int32) (h0 : Heap) (n0 : Nat) (Z0 : n0 ≤ h0.size) (S_String_COMPACT_STRINGS : Sta Z h0 "java/lang/String" "COMPACT_STRINGS" "Z" (.int w0)) (hcs : ¬ (w0 = (0 : Int32))) (hy1 : ¬ ((vpk1_1 p0 p1 w0) = (0 : Int32))) (hy2 : (vpk1_1 p0 p1 w0) = (1 : Int32)) :
    MetFree l (⟨"com/example/tollgate/tollgate/signing/SignedCallIsKeyedPinLaw", "pick", "(II)Ljava/lang/String;"⟩ : MethodName) (head1 (Jvm.Cond.code (⟨"com/example/tollgate/tollgate/signing/SignedCallIsKeyedPinLaw", "pick", "(II)Ljava/lang/String;"⟩ : MethodName) method_2_code 4 (some (.object "java/lang/String")) :: ws) ({ frames := 4, cells := 3, slots := 8, locals := 66 } : Room)) (fun a U => a = #[(.int p0), (.int p1)] ∧ Z.Warmed39 U.vm ∧ U.heap = h0) (fun _ _ _ _ _ => True) (fun _ U o U' => ∃ v L, o = .returned v ∧ Qpk1 Z p0 p1 w0 h0 n0 v U'.heap L ∧ ReturnedEndW U o U' L ({ frames := 4, cells := 3, slots := 8, locals := 66 } : Room).cells ({ frames := 4, cells := 3, slots := 8, locals := 66 } : Room).slots) := by
  refine MetFree.of_bodySF (plainFor_of_name pn_com_example_tollgate_tollgate_signing_SignedCallIsKeyedPinLaw) hisR ?_
  intro p e s m args below meth c s₁ Bd hml0 hP hK
  obtain ⟨rfl, hZ, hh⟩ := hP
  have hx := Bd.exec
  have hby := Bd.bytes
  have hml : c.maxLocals = 4 := hml0
  have hown : s.vm.findClass "com/example/tollgate/tollgate/signing/SignedCallIsKeyedPinLaw" = some m.cls := findClass_of_methodNamed Bd.named
  have hnm := (name_of_methodNamed Bd.named Bd.method).1
  have hlk := BodyLoose.notSynchronized Bd
  have X0 : Stand p l e ({ frames := 4, cells := 3, slots := 8, locals := 66 } : Room) s m #[(.int p0), (.int p1)] below meth c s₁ [] 0 0 := Stand.of_body Bd
  have e0 : s₁.heap = h0 := by rw [← hh, Bd.state]; rfl
  have N0 := Fr.nil n0
  have hS0 : s.Since s.vm h0.size := (State.WarmedH.refl s).since _
  have pre0 : ∀ t, Steps p.tables e below (s₁.setTop (mkF m 0 #[.val (.int p0), .val (.int p1), .unset, .unset] [])) t → Steps p.tables e below (s₁.setTop (entryFrame m #[(.int p0), (.int p1)] 4)) t := fun t k => castTop (ef_pk1 m p0 p1) k
  obtain ⟨la1, T1, h1, kk1, X1, e1, E1, hS1, hk1, hZ, hown, Cr1, Lt1, st1⟩ := ldcOH (s := s) (vm0 := s.vm) (EL := ([] : List (String × Nat))) X0 hx hZ hown (wd hw 66 rfl) (own_ws hw) e0 hS0 (Nat.le_refl _) EW.nil (fun _ hp => nomatch hp) (g := (mkF m 15 #[.val (.int p0), .val (.int p1), .val (.int (vpk1_1 p0 p1 w0)), .unset] [])) rfl (hb hby d1_15) (n := 0) (by decide) (by decide) (by decide) (by decide)
  have z2 : n0 ≤ h1.size := Nat.le_trans Z0 E1.1
  have hs3 : h0.size ≤ h1.size := Nat.le_trans (Nat.le_refl h0.size) E1.1
  obtain ⟨fs, hr, hrun, hended, hRW⟩ := Jvm.Stand.leaveW (s := s) (vm₁ := T1.vm) X1 hS1 (by rw [e1]; exact hk1) (v := some (.ref la1)) (fun h => by rw [Bd.returns] at h; cases h) hlk
  refine ⟨_, _, pre0 _ ?_, hrun, hended, _, _, rfl, ?_, hRW.1, hRW.2.1, hRW.2.2.1, hRW.2.2.2.mono (by decide) (by decide)⟩
  · skip
    show Steps p.tables e below (s₁.setTop (mkF m 0 #[.val (.int p0), .val (.int p1), .unset, .unset] [])) _
    refine XS.iloadN X0.here hx rfl (hb hby d1_0) rfl ?_
    refine XT.iconstV X0.here hx rfl (3 : Int32) (hb hby d1_1) (by decide) ?_
    refine XS.iand X0.here hx rfl (hb hby d1_2) rfl ?_
    refine XS.istoreN X0.here hx rfl (hb hby d1_3) rfl (l' := #[.val (.int p0), .val (.int p1), .val (.int (vpk1_1 p0 p1 w0)), .unset]) rfl ?_
    show Steps p.tables e below (s₁.setTop (mkF m 4 #[.val (.int p0), .val (.int p1), .val (.int (vpk1_1 p0 p1 w0)), .unset] [])) _
    refine XS.iloadN X0.here hx rfl (hb hby d1_4) rfl ?_
    show Steps p.tables e below (s₁.setTop (mkF m 5 #[.val (.int p0), .val (.int p1), .val (.int (vpk1_1 p0 p1 w0)), .unset] [(.int (vpk1_1 p0 p1 w0))])) _
    refine XS.ifYes X0.here hx rfl (pc0 := 5) (pc' := 10) rfl (hb hby d1_5) rfl (XT.i0_ne_t hy1) (by decide) (by decide) ?_
    refine XS.iloadN X0.here hx rfl (hb hby d1_10) rfl ?_
    refine XT.iconstV X0.here hx rfl (1 : Int32) (hb hby d1_11) (by decide) ?_
    show Steps p.tables e below (s₁.setTop (mkF m 12 #[.val (.int p0), .val (.int p1), .val (.int (vpk1_1 p0 p1 w0)), .unset] [(.int (1 : Int32)), (.int (vpk1_1 p0 p1 w0))])) _
    refine XS.icmpNo X0.here hx rfl (hb hby d1_12) rfl (XT.ii_ne_f hy2) ?_
    show Steps p.tables e below (s₁.setTop (mkF m 15 #[.val (.int p0), .val (.int p1), .val (.int (vpk1_1 p0 p1 w0)), .unset] [])) _
    refine st1 _ ?_
    show Steps p.tables e below (T1.setTop (mkF m 17 #[.val (.int p0), .val (.int p1), .val (.int (vpk1_1 p0 p1 w0)), .unset] [(.ref la1)])) _
    exact X1.areturnOut hx rfl Bd.returns rfl (hb hby d1_17) hr
  · skip
    show Qpk1 Z p0 p1 w0 h0 n0 _ T1.heap _
    rw [e1]
    exact ⟨N0, la1, rfl, ((Keep.refl h0 []).ext E1)⟩
theorem pd__C_Ljava_lang_String_ : parseMethodDescriptor "(C)Ljava/lang/String;" = some ⟨[.char], some (.object "java/lang/String")⟩ := by decide +kernel
theorem d1_18 : decode method_2_code 18 = .ok (.iload_n 2, 1) := by decide +kernel
theorem d1_19 : decode method_2_code 19 = .ok (.iconst 2, 1) := by decide +kernel
theorem d1_20 : decode method_2_code 20 = .ok (.if_icmp .ne 13, 3) := by decide +kernel
theorem d1_23 : decode method_2_code 23 = .ok (.iload_n 1, 1) := by decide +kernel
theorem d1_24 : decode method_2_code 24 = .ok (.sipush 255, 3) := by decide +kernel
theorem d1_27 : decode method_2_code 27 = .ok (.iand, 1) := by decide +kernel
theorem d1_28 : decode method_2_code 28 = .ok (.i2c, 1) := by decide +kernel
theorem d1_29 : decode method_2_code 29 = .ok (.invokestatic 9, 3) := by decide +kernel
theorem d1_32 : decode method_2_code 32 = .ok (.areturn, 1) := by decide +kernel
theorem ef_pk2 (m : MethodId) (p0 : Int32) (p1 : Int32) : entryFrame m #[(.int p0), (.int p1)] 4 = mkF m 0 #[.val (.int p0), .val (.int p1), .unset, .unset] [] := by first | (simp [entryFrame, mkF, argsToLocals, Value.category]; done) | rfl
def vpk2_1 (p0 : Int32) (p1 : Int32) (w0 : Int32) : Int32 := (p0 &&& (3 : Int32))
def vpk2_2 (p0 : Int32) (p1 : Int32) (w0 : Int32) : Int32 := ((p1 &&& (255 : Int32)).toUInt32.toUInt16.toUInt32.toInt32)
def Qpk2 (Z : State) (p0 : Int32) (p1 : Int32) (w0 : Int32) (h0 : Heap) (n0 : Nat) (v : Option Value) (h : Heap) (L : List Loc) : Prop := Fr n0 L ∧ ∃ (xpk2_0 : Addr) (xpk2_1 : Addr), v = some (.ref xpk2_0) ∧ h0.size ≤ xpk2_0 ∧ h0.size ≤ xpk2_1 ∧ xpk2_0 ≠ xpk2_1 ∧ Keep h0 h []
set_option maxRecDepth 65536 in
set_option maxHeartbeats 40000000 in
theorem rmpk2 (l : Launch) (Z : State) (a0 : Array Value) (hw : ∀ d ∈ tables_1, d.before a0 Z = true) (ws : List Jvm.Cond) (p0 : Int32) (p1 : Int32) (w0 : Int32) (h0 : Heap) (n0 : Nat) (Z0 : n0 ≤ h0.size) (S_String_COMPACT_STRINGS : Sta Z h0 "java/lang/String" "COMPACT_STRINGS" "Z" (.int w0)) (hcs : ¬ (w0 = (0 : Int32))) (hy1 : ¬ ((vpk2_1 p0 p1 w0) = (0 : Int32))) (hy2 : ¬ ((vpk2_1 p0 p1 w0) = (1 : Int32))) (hy3 : (vpk2_1 p0 p1 w0) = (2 : Int32)) :
    MetFree l (⟨"com/example/tollgate/tollgate/signing/SignedCallIsKeyedPinLaw", "pick", "(II)Ljava/lang/String;"⟩ : MethodName) (head1 (Jvm.Cond.code (⟨"com/example/tollgate/tollgate/signing/SignedCallIsKeyedPinLaw", "pick", "(II)Ljava/lang/String;"⟩ : MethodName) method_2_code 4 (some (.object "java/lang/String")) :: ws) ({ frames := 4, cells := 3, slots := 8, locals := 66 } : Room)) (fun a U => a = #[(.int p0), (.int p1)] ∧ Z.Warmed39 U.vm ∧ U.heap = h0) (fun _ _ _ _ _ => True) (fun _ U o U' => ∃ v L, o = .returned v ∧ Qpk2 Z p0 p1 w0 h0 n0 v U'.heap L ∧ FrameEnd U o U' L ({ frames := 4, cells := 3, slots := 8, locals := 66 } : Room).cells ({ frames := 4, cells := 3, slots := 8, locals := 66 } : Room).slots) := by
  refine MetFree.of_bodySF (plainFor_of_name pn_com_example_tollgate_tollgate_signing_SignedCallIsKeyedPinLaw) hisR ?_
  intro p e s m args below meth c s₁ Bd hml0 hP hK
  obtain ⟨rfl, hZ, hh⟩ := hP
  have hx := Bd.exec
  have hby := Bd.bytes
  have hml : c.maxLocals = 4 := hml0
  have hown : s.vm.findClass "com/example/tollgate/tollgate/signing/SignedCallIsKeyedPinLaw" = some m.cls := findClass_of_methodNamed Bd.named
  have hnm := (name_of_methodNamed Bd.named Bd.method).1
  have hlk := BodyLoose.notSynchronized Bd
  have X0 : Stand p l e ({ frames := 4, cells := 3, slots := 8, locals := 66 } : Room) s m #[(.int p0), (.int p1)] below meth c s₁ [] 0 0 := Stand.of_body Bd
  have e0 : s₁.heap = h0 := by rw [← hh, Bd.state]; rfl
  have N0 := Fr.nil n0
  have pre0 : ∀ t, Steps p.tables e below (s₁.setTop (mkF m 0 #[.val (.int p0), .val (.int p1), .unset, .unset] [])) t → Steps p.tables e below (s₁.setTop (entryFrame m #[(.int p0), (.int p1)] 4)) t := fun t k => castTop (ef_pk2 m p0 p1) k
  obtain ⟨vr1, _, ⟨T1, L1, k1, n1⟩, -, X1, ⟨Lc1, hQ1, l1, y1, z1⟩, st1⟩ := Jvm.LawKit.callS X0 hx (y := (⟨"java/lang/String", "valueOf", "(C)Ljava/lang/String;"⟩ : MethodName)) hown (mvT hZ (wd hw 90 rfl)) (mvT hZ (wd hw 91 rfl)) (mvT hZ (wd hw 59 rfl)) (mvT hZ (wd hw 92 rfl)) (by decide) (backOf (W := 0) (rm14 l Z a0 hw [] (vpk2_2 p0 p1 w0) w0 h0 n0 Z0 S_String_COMPACT_STRINGS hcs (own_enc _ _)) hZ (wd hw 92 rfl) (wd hw 59 rfl) (by decide) (by decide)) (g := (mkF m 29 #[.val (.int p0), .val (.int p1), .val (.int (vpk2_1 p0 p1 w0)), .unset] [(.int (vpk2_2 p0 p1 w0))])) rfl (by rw [hml]; rfl) (argsL := [(.int (vpk2_2 p0 p1 w0))]) (rest := []) (lenOf pd__C_Ljava_lang_String_ rfl) rfl (by show 2 * 0 + _ ≤ _; exact Nat.le_of_eq rfl) (hb hby d1_29) (fun _ _ => ⟨rfl, e0, (by decide : 0 + 2 ≤ _), (by decide : 0 + 5 ≤ _)⟩)
  dsimp only [Pt.U, Pt.locs, Pt.cells, Pt.slots] at X1 l1 y1 z1 st1 hQ1
  replace X1 := own_stand X1 l1 y1 z1
  clear l1 y1 z1
  have N1q := (show _ ∧ _ from hQ1).1
  have hq1 := (show _ ∧ _ from hQ1).2
  clear hQ1
  obtain ⟨x14_0_1, x14_1_1, k14_2_1, hq1x⟩ := hq1
  have hv1 := hq1x.1
  have szx14_0_1 := hq1x.2.1
  have szx14_1_1 := hq1x.2.2.1
  have nex14_0_x14_1_1 := hq1x.2.2.2.1
  have K1 := hq1x.2.2.2.2.1
  have po1_0 := hq1x.2.2.2.2.2.1
  have po1_1 := hq1x.2.2.2.2.2.2.1
  have po1_2 := hq1x.2.2.2.2.2.2.2.1
  have po1_3 := hq1x.2.2.2.2.2.2.2.2.1
  have po1_4 := hq1x.2.2.2.2.2.2.2.2.2
  clear hq1x
  subst hv1
  have g2 : n0 ≤ x14_0_1 := Nat.le_trans Z0 szx14_0_1
  have sz3 : h0.size ≤ x14_0_1 := Nat.le_trans (Nat.le_refl h0.size) szx14_0_1
  have g4 : n0 ≤ x14_1_1 := Nat.le_trans Z0 szx14_1_1
  have sz5 : h0.size ≤ x14_1_1 := Nat.le_trans (Nat.le_refl h0.size) szx14_1_1
  have z6 : n0 ≤ T1.heap.size := Nat.le_trans Z0 K1.1
  have hs7 : h0.size ≤ T1.heap.size := Nat.le_trans (Nat.le_refl h0.size) K1.1
  have N1 := Fr.app N0 N1q
  obtain ⟨fs, hr, hrun, hended, hW, hsame⟩ := X1.leave (v := some (.ref x14_0_1)) (fun h => by rw [Bd.returns] at h; cases h) hlk
  refine ⟨_, _, pre0 _ ?_, hrun, hended, _, _, rfl, ?_, ⟨_, rfl⟩, hW, hsame.mono (by decide) (by decide)⟩
  · skip
    show Steps p.tables e below (s₁.setTop (mkF m 0 #[.val (.int p0), .val (.int p1), .unset, .unset] [])) _
    refine XS.iloadN X0.here hx rfl (hb hby d1_0) rfl ?_
    refine XT.iconstV X0.here hx rfl (3 : Int32) (hb hby d1_1) (by decide) ?_
    refine XS.iand X0.here hx rfl (hb hby d1_2) rfl ?_
    refine XS.istoreN X0.here hx rfl (hb hby d1_3) rfl (l' := #[.val (.int p0), .val (.int p1), .val (.int (vpk2_1 p0 p1 w0)), .unset]) rfl ?_
    show Steps p.tables e below (s₁.setTop (mkF m 4 #[.val (.int p0), .val (.int p1), .val (.int (vpk2_1 p0 p1 w0)), .unset] [])) _
    refine XS.iloadN X0.here hx rfl (hb hby d1_4) rfl ?_
    show Steps p.tables e below (s₁.setTop (mkF m 5 #[.val (.int p0), .val (.int p1), .val (.int (vpk2_1 p0 p1 w0)), .unset] [(.int (vpk2_1 p0 p1 w0))])) _
    refine XS.ifYes X0.here hx rfl (pc0 := 5) (pc' := 10) rfl (hb hby d1_5) rfl (XT.i0_ne_t hy1) (by decide) (by decide) ?_
    refine XS.iloadN X0.here hx rfl (hb hby d1_10) rfl ?_
    refine XT.iconstV X0.here hx rfl (1 : Int32) (hb hby d1_11) (by decide) ?_
    show Steps p.tables e below (s₁.setTop (mkF m 12 #[.val (.int p0), .val (.int p1), .val (.int (vpk2_1 p0 p1 w0)), .unset] [(.int (1 : Int32)), (.int (vpk2_1 p0 p1 w0))])) _
    refine XS.icmpYes X0.here hx rfl (pc0 := 12) (pc' := 18) rfl (hb hby d1_12) rfl (XT.ii_ne_t hy2) (by decide) (by decide) ?_
    refine XS.iloadN X0.here hx rfl (hb hby d1_18) rfl ?_
    refine XT.iconstV X0.here hx rfl (2 : Int32) (hb hby d1_19) (by decide) ?_
    show Steps p.tables e below (s₁.setTop (mkF m 20 #[.val (.int p0), .val (.int p1), .val (.int (vpk2_1 p0 p1 w0)), .unset] [(.int (2 : Int32)), (.int (vpk2_1 p0 p1 w0))])) _
    refine XS.icmpNo X0.here hx rfl (hb hby d1_20) rfl (XT.ii_ne_f hy3) ?_
    refine XS.iloadN X0.here hx rfl (hb hby d1_23) rfl ?_
    refine XT.sipushV X0.here hx rfl (255 : Int32) (hb hby d1_24) (by decide) ?_
    refine XS.iand X0.here hx rfl (hb hby d1_27) rfl ?_
    show Steps p.tables e below (s₁.setTop (mkF m 28 #[.val (.int p0), .val (.int p1), .val (.int (vpk2_1 p0 p1 w0)), .unset] [(.int (p1 &&& (255 : Int32)))])) _
    refine XT.i2c X0.here hx rfl (hb hby d1_28) rfl ?_
    show Steps p.tables e below (s₁.setTop (mkF m 29 #[.val (.int p0), .val (.int p1), .val (.int (vpk2_1 p0 p1 w0)), .unset] [(.int ((p1 &&& (255 : Int32)).toUInt32.toUInt16.toUInt32.toInt32))])) _
    refine st1 _ ?_
    show Steps p.tables e below (T1.setTop (mkF m 32 #[.val (.int p0), .val (.int p1), .val (.int (vpk2_1 p0 p1 w0)), .unset] [(.ref x14_0_1)])) _
    exact X1.areturnOut hx rfl Bd.returns rfl (hb hby d1_32) hr
  · skip
    show Qpk2 Z p0 p1 w0 h0 n0 _ T1.heap _
    exact ⟨N1, x14_0_1, x14_1_1, rfl, sz3, sz5, nex14_0_x14_1_1, ((Keep.refl h0 []).trans K1 all0)⟩
theorem pd___C_V : parseMethodDescriptor "([C)V" = some ⟨[(.array .char)], none⟩ := by decide +kernel
theorem d1_33 : decode method_2_code 33 = .ok (.iconst 2, 1) := by decide +kernel
theorem d1_34 : decode method_2_code 34 = .ok (.newarray .char, 2) := by decide +kernel
theorem d1_36 : decode method_2_code 36 = .ok (.astore_n 3, 1) := by decide +kernel
theorem d1_37 : decode method_2_code 37 = .ok (.aload_n 3, 1) := by decide +kernel
theorem d1_38 : decode method_2_code 38 = .ok (.iconst 0, 1) := by decide +kernel
theorem d1_39 : decode method_2_code 39 = .ok (.iload_n 1, 1) := by decide +kernel
theorem d1_40 : decode method_2_code 40 = .ok (.sipush 255, 3) := by decide +kernel
theorem d1_43 : decode method_2_code 43 = .ok (.iand, 1) := by decide +kernel
theorem d1_44 : decode method_2_code 44 = .ok (.i2c, 1) := by decide +kernel
theorem d1_45 : decode method_2_code 45 = .ok (.castore, 1) := by decide +kernel
theorem d1_46 : decode method_2_code 46 = .ok (.aload_n 3, 1) := by decide +kernel
theorem d1_47 : decode method_2_code 47 = .ok (.iconst 1, 1) := by decide +kernel
theorem d1_48 : decode method_2_code 48 = .ok (.iload_n 1, 1) := by decide +kernel
theorem d1_49 : decode method_2_code 49 = .ok (.bipush 8, 2) := by decide +kernel
theorem d1_51 : decode method_2_code 51 = .ok (.iushr, 1) := by decide +kernel
theorem d1_52 : decode method_2_code 52 = .ok (.sipush 255, 3) := by decide +kernel
theorem d1_55 : decode method_2_code 55 = .ok (.iand, 1) := by decide +kernel
theorem d1_56 : decode method_2_code 56 = .ok (.i2c, 1) := by decide +kernel
theorem d1_57 : decode method_2_code 57 = .ok (.castore, 1) := by decide +kernel
theorem d1_58 : decode method_2_code 58 = .ok (.new 10, 3) := by decide +kernel
theorem d1_61 : decode method_2_code 61 = .ok (.dup, 1) := by decide +kernel
theorem d1_62 : decode method_2_code 62 = .ok (.aload_n 3, 1) := by decide +kernel
theorem d1_63 : decode method_2_code 63 = .ok (.invokespecial 15, 3) := by decide +kernel
theorem d1_66 : decode method_2_code 66 = .ok (.areturn, 1) := by decide +kernel
theorem ef_pk3 (m : MethodId) (p0 : Int32) (p1 : Int32) : entryFrame m #[(.int p0), (.int p1)] 4 = mkF m 0 #[.val (.int p0), .val (.int p1), .unset, .unset] [] := by first | (simp [entryFrame, mkF, argsToLocals, Value.category]; done) | rfl
def vpk3_1 (p0 : Int32) (p1 : Int32) (w0 : Int32) : Int32 := (p0 &&& (3 : Int32))
def vpk3_2 (p0 : Int32) (p1 : Int32) (w0 : Int32) : Int32 := ((p1 &&& (255 : Int32)).toUInt32.toUInt16.toUInt32.toInt32)
def vpk3_3 (p0 : Int32) (p1 : Int32) (w0 : Int32) : Int32 := (((XT.ushr p1 (8 : Int32)) &&& (255 : Int32)).toUInt32.toUInt16.toUInt32.toInt32)
def Qpk3 (Z : State) (p0 : Int32) (p1 : Int32) (w0 : Int32) (h0 : Heap) (n0 : Nat) (v : Option Value) (h : Heap) (L : List Loc) : Prop := Fr n0 L ∧ ∃ (xpk3_0 : Addr) (xpk3_1 : Addr), v = some (.ref xpk3_0) ∧ h0.size ≤ xpk3_0 ∧ h0.size ≤ xpk3_1 ∧ xpk3_0 ≠ xpk3_1 ∧ Keep h0 h []
set_option maxRecDepth 65536 in
set_option maxHeartbeats 40000000 in
theorem rmpk3 (l : Launch) (Z : State) (a0 : Array Value) (hw : ∀ d ∈ tables_1, d.before a0 Z = true) (ws : List Jvm.Cond) (p0 : Int32) (p1 : Int32) (w0 : Int32) (h0 : Heap) (n0 : Nat) (Z0 : n0 ≤ h0.size) (S_String_COMPACT_STRINGS : Sta Z h0 "java/lang/String" "COMPACT_STRINGS" "Z" (.int w0)) (hcs : ¬ (w0 = (0 : Int32))) (hy1 : ¬ ((vpk3_1 p0 p1 w0) = (0 : Int32))) (hy2 : ¬ ((vpk3_1 p0 p1 w0) = (1 : Int32))) (hy3 : ¬ ((vpk3_1 p0 p1 w0) = (2 : Int32))) :
    MetFree l (⟨"com/example/tollgate/tollgate/signing/SignedCallIsKeyedPinLaw", "pick", "(II)Ljava/lang/String;"⟩ : MethodName) (head1 (Jvm.Cond.code (⟨"com/example/tollgate/tollgate/signing/SignedCallIsKeyedPinLaw", "pick", "(II)Ljava/lang/String;"⟩ : MethodName) method_2_code 4 (some (.object "java/lang/String")) :: ws) ({ frames := 4, cells := 3, slots := 8, locals := 66 } : Room)) (fun a U => a = #[(.int p0), (.int p1)] ∧ Z.Warmed39 U.vm ∧ U.heap = h0) (fun _ _ _ _ _ => True) (fun _ U o U' => ∃ v L, o = .returned v ∧ Qpk3 Z p0 p1 w0 h0 n0 v U'.heap L ∧ FrameEnd U o U' L ({ frames := 4, cells := 3, slots := 8, locals := 66 } : Room).cells ({ frames := 4, cells := 3, slots := 8, locals := 66 } : Room).slots) := by
  refine MetFree.of_bodySF (plainFor_of_name pn_com_example_tollgate_tollgate_signing_SignedCallIsKeyedPinLaw) hisR ?_
  intro p e s m args below meth c s₁ Bd hml0 hP hK
  obtain ⟨rfl, hZ, hh⟩ := hP
  have hx := Bd.exec
  have hby := Bd.bytes
  have hml : c.maxLocals = 4 := hml0
  have hown : s.vm.findClass "com/example/tollgate/tollgate/signing/SignedCallIsKeyedPinLaw" = some m.cls := findClass_of_methodNamed Bd.named
  have hnm := (name_of_methodNamed Bd.named Bd.method).1
  have hlk := BodyLoose.notSynchronized Bd
  have X0 : Stand p l e ({ frames := 4, cells := 3, slots := 8, locals := 66 } : Room) s m #[(.int p0), (.int p1)] below meth c s₁ [] 0 0 := Stand.of_body Bd
  have e0 : s₁.heap = h0 := by rw [← hh, Bd.state]; rfl
  have N0 := Fr.nil n0
  have pre0 : ∀ t, Steps p.tables e below (s₁.setTop (mkF m 0 #[.val (.int p0), .val (.int p1), .unset, .unset] [])) t → Steps p.tables e below (s₁.setTop (entryFrame m #[(.int p0), (.int p1)] 4)) t := fun t k => castTop (ef_pk3 m p0 p1) k
  obtain ⟨T1, h1, k1, X1, e1, E1, A1, EA1, st1⟩ := newPE X0 hx hZ (wd hw 67 rfl) e0 (g := (mkF m 34 #[.val (.int p0), .val (.int p1), .val (.int (vpk3_1 p0 p1 w0)), .unset] [(.int (2 : Int32))])) rfl (hb hby d1_34) rfl (by decide) (cap := 2) (by decide) (by decide) (by decide) (by decide) (ad := "[C") rfl
  obtain ⟨b1, gz1⟩ : ∃ z, z = h0.size := ⟨_, rfl⟩
  rw [← gz1] at A1 EA1 st1
  have g2 : n0 ≤ b1 := Nat.le_trans Z0 (Nat.le_of_eq gz1.symm)
  have sz3 : h0.size ≤ b1 := Nat.le_trans (Nat.le_refl h0.size) (Nat.le_of_eq gz1.symm)
  have z4 : n0 ≤ h1.size := Nat.le_trans Z0 E1.1
  have hs5 : h0.size ≤ h1.size := Nat.le_trans (Nat.le_refl h0.size) E1.1
  have V1 : Arv Z h1 b1 k1 .char (2 : Int32) [(.int (0 : Int32)), (.int (0 : Int32))] (.int (0 : Int32)) := (Arv.new A1 (by decide)).pad (pad_rep [] (.int (0 : Int32)) 2)
  obtain ⟨cl6, Ar6, qc6, S6, M6, Ha6, G6⟩ := id V1
  have hin7 : ¬ ((0 : Int32) < 0 ∨ cl6.slots.size ≤ ((0 : Int32)).toNatClampNeg) := inb_of S6 ⟨by decide, by decide⟩
  obtain ⟨T8, h8, X8, e8, W8, st8⟩ := stC X1 hx hZ e1 Ar6 (j := (0 : Int32)) hin7 (g := (mkF m 45 #[.val (.int p0), .val (.int p1), .val (.int (vpk3_1 p0 p1 w0)), .val (.ref b1)] [(.int ((p1 &&& (255 : Int32)).toUInt32.toUInt16.toUInt32.toInt32)), (.int (0 : Int32)), (.ref b1)])) rfl rfl (hb hby d1_45)
  have V8 : Arv Z h8 b1 k1 .char (2 : Int32) [(.int (nar .char (vpk3_2 p0 p1 w0))), (.int (0 : Int32))] (.int (0 : Int32)) := Arv.set Ar6 qc6 S6 M6 Ha6 G6 (fits_nar_char (vpk3_2 p0 p1 w0)) W8 0 rfl (Nat.le_of_ble_eq_true rfl)
  have N8 := Fr.snoc X8 N0 g2
  have z9 : n0 ≤ h8.size := Nat.le_trans z4 (Keep.of_wr W8).1
  have hs10 : h0.size ≤ h8.size := Nat.le_trans hs5 (Keep.of_wr W8).1
  obtain ⟨cl11, Ar11, qc11, S11, M11, Ha11, G11⟩ := id V8
  have hin12 : ¬ ((1 : Int32) < 0 ∨ cl11.slots.size ≤ ((1 : Int32)).toNatClampNeg) := inb_of S11 ⟨by decide, by decide⟩
  obtain ⟨T13, h13, X13, e13, W13, st13⟩ := stC X8 hx hZ e8 Ar11 (j := (1 : Int32)) hin12 (g := (mkF m 57 #[.val (.int p0), .val (.int p1), .val (.int (vpk3_1 p0 p1 w0)), .val (.ref b1)] [(.int (((XT.ushr p1 (8 : Int32)) &&& (255 : Int32)).toUInt32.toUInt16.toUInt32.toInt32)), (.int (1 : Int32)), (.ref b1)])) rfl rfl (hb hby d1_57)
  have V13 : Arv Z h13 b1 k1 .char (2 : Int32) [(.int (nar .char (vpk3_2 p0 p1 w0))), (.int (nar .char (vpk3_3 p0 p1 w0)))] (.int (0 : Int32)) := Arv.set Ar11 qc11 S11 M11 Ha11 G11 (fits_nar_char (vpk3_3 p0 p1 w0)) W13 1 rfl (Nat.le_of_ble_eq_true rfl)
  have N13 := Fr.snoc X13 N8 g2
  have z14 : n0 ≤ h13.size := Nat.le_trans z9 (Keep.of_wr W13).1
  have hs15 : h0.size ≤ h13.size := Nat.le_trans hs10 (Keep.of_wr W13).1
  obtain ⟨T16, h16, X16, e16, E16, A16, D16, -, st16⟩ := newO X13 hx hZ hown (wd hw 68 rfl) (wd hw 60 rfl) (wd hw 59 rfl) e13 (g := (mkF m 58 #[.val (.int p0), .val (.int p1), .val (.int (vpk3_1 p0 p1 w0)), .val (.ref b1)] [])) rfl (hb hby d1_58) (by decide) (by decide)
  obtain ⟨b16, gz16⟩ : ∃ z, z = h13.size := ⟨_, rfl⟩
  rw [← gz16] at A16 D16 st16
  have k17 := ((EA1.wr W8).wr W13)
  have ne18 : b1 ≠ b16 := Nat.ne_of_lt (Nat.lt_of_lt_of_le k17.lt (Nat.le_of_eq gz16.symm))
  have g19 : n0 ≤ b16 := Nat.le_trans z14 (Nat.le_of_eq gz16.symm)
  have sz20 : h0.size ≤ b16 := Nat.le_trans hs15 (Nat.le_of_eq gz16.symm)
  have z21 : n0 ≤ h16.size := Nat.le_trans z14 E16.1
  have hs22 : h0.size ≤ h16.size := Nat.le_trans hs15 E16.1
  have F16_value : Fld Z h16 b16 "java/lang/String" "value" "[B" .null := D16 (Or.inr (wd hw 62 rfl)) (ty := (.array .byte)) (by decide)
  have F16_coder : Fld Z h16 b16 "java/lang/String" "coder" "B" (.int (0 : Int32)) := D16 (Or.inr (wd hw 63 rfl)) (ty := .byte) (by decide)
  have k24 := (V13.ext E16)
  have k25 := (Sta.ext E16 (Sta.wr W13 (Sta.wr W8 (Sta.ext E1 S_String_COMPACT_STRINGS))))
  obtain ⟨vr23, _, ⟨T23, L23, k23, n23⟩, -, X23, ⟨Lc23, hQ23, l23, y23, z23⟩, st23⟩ := Jvm.Stand.specialBack X16 hx (y := (⟨"java/lang/String", "<init>", "([C)V"⟩ : MethodName)) rfl hown (mvT hZ (wd hw 69 rfl)) (mvT hZ (wd hw 70 rfl)) (mvT hZ (wd hw 71 rfl)) (by decide) (own_newS (W := 1) (cs := [(nar .char (vpk3_2 p0 p1 w0)), (nar .char (vpk3_3 p0 p1 w0))]) (vs := [(.int (own_b (nar .char (vpk3_2 p0 p1 w0)))), (.int (own_b (nar .char (vpk3_3 p0 p1 w0))))]) (n := 2) hZ hw g19 z21 A16 F16_value F16_coder k24 k25 hcs rfl rfl (by decide) (by decide) (own_alc (own_chr _) (own_alc (own_chr _) own_aln)) rfl (by decide) (by decide)) (g := (mkF m 63 #[.val (.int p0), .val (.int p1), .val (.int (vpk3_1 p0 p1 w0)), .val (.ref b1)] [(.ref b1), (.ref b16), (.ref b16)])) rfl (by rw [hml]; rfl) (Steps.refl _) (a := b16) (argsL := [(.ref b1)]) (rest := [(.ref b16)]) (lenOf pd___C_V rfl) rfl (by show 2 * 0 + _ ≤ _; exact Nat.le_of_eq rfl) (hb hby d1_63) (fun _ _ => ⟨rfl, e16, (by decide : 2 + 1 ≤ _), (by decide : 6 + 2 ≤ _)⟩)
  dsimp only [Pt.U, Pt.locs, Pt.cells, Pt.slots] at X23 l23 y23 z23 st23 hQ23
  replace X23 := own_stand X23 l23 y23 z23
  clear l23 y23 z23
  have N23q := (show _ ∧ _ from hQ23).1
  have hq23 := (show _ ∧ _ from hQ23).2
  clear hQ23
  obtain ⟨xsn_0_23, ksn_1_23, hq23x⟩ := hq23
  have hv23 := hq23x.1
  have szxsn_0_23 := hq23x.2.1
  have K23 := hq23x.2.2.1
  have po23_0 := hq23x.2.2.2.1
  have po23_1 := hq23x.2.2.2.2.1
  have po23_2 := hq23x.2.2.2.2.2.1
  have po23_3 := hq23x.2.2.2.2.2.2
  clear hq23x
  subst hv23
  have k26 := (k17.ext E16)
  have ne27 : b1 ≠ xsn_0_23 := Nat.ne_of_lt (Nat.lt_of_lt_of_le k26.lt szxsn_0_23)
  have ne28 : b16 ≠ xsn_0_23 := Nat.ne_of_lt (Nat.lt_of_lt_of_le A16.lt szxsn_0_23)
  have g29 : n0 ≤ xsn_0_23 := Nat.le_trans z21 szxsn_0_23
  have sz30 : h0.size ≤ xsn_0_23 := Nat.le_trans hs22 szxsn_0_23
  have z31 : n0 ≤ T23.heap.size := Nat.le_trans z21 K23.1
  have hs32 : h0.size ≤ T23.heap.size := Nat.le_trans hs22 K23.1
  have N23 := Fr.app N13 N23q
  obtain ⟨fs, hr, hrun, hended, hW, hsame⟩ := X23.leave (v := some (.ref b16)) (fun h => by rw [Bd.returns] at h; cases h) hlk
  refine ⟨_, _, pre0 _ ?_, hrun, hended, _, _, rfl, ?_, ⟨_, rfl⟩, hW, hsame.mono (by decide) (by decide)⟩
  · skip
    show Steps p.tables e below (s₁.setTop (mkF m 0 #[.val (.int p0), .val (.int p1), .unset, .unset] [])) _
    refine XS.iloadN X0.here hx rfl (hb hby d1_0) rfl ?_
    refine XT.iconstV X0.here hx rfl (3 : Int32) (hb hby d1_1) (by decide) ?_
    refine XS.iand X0.here hx rfl (hb hby d1_2) rfl ?_
    refine XS.istoreN X0.here hx rfl (hb hby d1_3) rfl (l' := #[.val (.int p0), .val (.int p1), .val (.int (vpk3_1 p0 p1 w0)), .unset]) rfl ?_
    show Steps p.tables e below (s₁.setTop (mkF m 4 #[.val (.int p0), .val (.int p1), .val (.int (vpk3_1 p0 p1 w0)), .unset] [])) _
    refine XS.iloadN X0.here hx rfl (hb hby d1_4) rfl ?_
    show Steps p.tables e below (s₁.setTop (mkF m 5 #[.val (.int p0), .val (.int p1), .val (.int (vpk3_1 p0 p1 w0)), .unset] [(.int (vpk3_1 p0 p1 w0))])) _
    refine XS.ifYes X0.here hx rfl (pc0 := 5) (pc' := 10) rfl (hb hby d1_5) rfl (XT.i0_ne_t hy1) (by decide) (by decide) ?_
    refine XS.iloadN X0.here hx rfl (hb hby d1_10) rfl ?_
    refine XT.iconstV X0.here hx rfl (1 : Int32) (hb hby d1_11) (by decide) ?_
    show Steps p.tables e below (s₁.setTop (mkF m 12 #[.val (.int p0), .val (.int p1), .val (.int (vpk3_1 p0 p1 w0)), .unset] [(.int (1 : Int32)), (.int (vpk3_1 p0 p1 w0))])) _
    refine XS.icmpYes X0.here hx rfl (pc0 := 12) (pc' := 18) rfl (hb hby d1_12) rfl (XT.ii_ne_t hy2) (by decide) (by decide) ?_
    refine XS.iloadN X0.here hx rfl (hb hby d1_18) rfl ?_
    refine XT.iconstV X0.here hx rfl (2 : Int32) (hb hby d1_19) (by decide) ?_
    show Steps p.tables e below (s₁.setTop (mkF m 20 #[.val (.int p0), .val (.int p1), .val (.int (vpk3_1 p0 p1 w0)), .unset] [(.int (2 : Int32)), (.int (vpk3_1 p0 p1 w0))])) _
    refine XS.icmpYes X0.here hx rfl (pc0 := 20) (pc' := 33) rfl (hb hby d1_20) rfl (XT.ii_ne_t hy3) (by decide) (by decide) ?_
    refine XT.iconstV X0.here hx rfl (2 : Int32) (hb hby d1_33) (by decide) ?_
    show Steps p.tables e below (s₁.setTop (mkF m 34 #[.val (.int p0), .val (.int p1), .val (.int (vpk3_1 p0 p1 w0)), .unset] [(.int (2 : Int32))])) _
    refine st1 _ ?_
    refine XS.astoreN X1.here hx rfl (hb hby d1_36) rfl rfl (l' := #[.val (.int p0), .val (.int p1), .val (.int (vpk3_1 p0 p1 w0)), .val (.ref b1)]) rfl ?_
    refine XS.aloadN X1.here hx rfl (hb hby d1_37) rfl rfl ?_
    refine XT.iconstV X1.here hx rfl (0 : Int32) (hb hby d1_38) (by decide) ?_
    show Steps p.tables e below (T1.setTop (mkF m 39 #[.val (.int p0), .val (.int p1), .val (.int (vpk3_1 p0 p1 w0)), .val (.ref b1)] [(.int (0 : Int32)), (.ref b1)])) _
    refine XS.iloadN X1.here hx rfl (hb hby d1_39) rfl ?_
    refine XT.sipushV X1.here hx rfl (255 : Int32) (hb hby d1_40) (by decide) ?_
    refine XS.iand X1.here hx rfl (hb hby d1_43) rfl ?_
    refine XT.i2c X1.here hx rfl (hb hby d1_44) rfl ?_
    show Steps p.tables e below (T1.setTop (mkF m 45 #[.val (.int p0), .val (.int p1), .val (.int (vpk3_1 p0 p1 w0)), .val (.ref b1)] [(.int ((p1 &&& (255 : Int32)).toUInt32.toUInt16.toUInt32.toInt32)), (.int (0 : Int32)), (.ref b1)])) _
    refine st8 _ ?_
    refine XS.aloadN X8.here hx rfl (hb hby d1_46) rfl rfl ?_
    refine XT.iconstV X8.here hx rfl (1 : Int32) (hb hby d1_47) (by decide) ?_
    refine XS.iloadN X8.here hx rfl (hb hby d1_48) rfl ?_
    show Steps p.tables e below (T8.setTop (mkF m 49 #[.val (.int p0), .val (.int p1), .val (.int (vpk3_1 p0 p1 w0)), .val (.ref b1)] [(.int p1), (.int (1 : Int32)), (.ref b1)])) _
    refine XT.bipushV X8.here hx rfl (8 : Int32) (hb hby d1_49) (by decide) ?_
    show Steps p.tables e below (T8.setTop (mkF m 51 #[.val (.int p0), .val (.int p1), .val (.int (vpk3_1 p0 p1 w0)), .val (.ref b1)] [(.int (8 : Int32)), (.int p1), (.int (1 : Int32)), (.ref b1)])) _
    refine XT.iushr X8.here hx rfl (hb hby d1_51) rfl ?_
    refine XT.sipushV X8.here hx rfl (255 : Int32) (hb hby d1_52) (by decide) ?_
    refine XS.iand X8.here hx rfl (hb hby d1_55) rfl ?_
    refine XT.i2c X8.here hx rfl (hb hby d1_56) rfl ?_
    show Steps p.tables e below (T8.setTop (mkF m 57 #[.val (.int p0), .val (.int p1), .val (.int (vpk3_1 p0 p1 w0)), .val (.ref b1)] [(.int (((XT.ushr p1 (8 : Int32)) &&& (255 : Int32)).toUInt32.toUInt16.toUInt32.toInt32)), (.int (1 : Int32)), (.ref b1)])) _
    refine st13 _ ?_
    show Steps p.tables e below (T13.setTop (mkF m 58 #[.val (.int p0), .val (.int p1), .val (.int (vpk3_1 p0 p1 w0)), .val (.ref b1)] [])) _
    refine st16 _ ?_
    refine XS.dup X16.here hx rfl (hb hby d1_61) rfl rfl ?_
    refine XS.aloadN X16.here hx rfl (hb hby d1_62) rfl rfl ?_
    show Steps p.tables e below (T16.setTop (mkF m 63 #[.val (.int p0), .val (.int p1), .val (.int (vpk3_1 p0 p1 w0)), .val (.ref b1)] [(.ref b1), (.ref b16), (.ref b16)])) _
    refine st23.trans ?_
    show Steps p.tables e below (T23.setTop (mkF m 66 #[.val (.int p0), .val (.int p1), .val (.int (vpk3_1 p0 p1 w0)), .val (.ref b1)] [(.ref b16)])) _
    exact X23.areturnOut hx rfl Bd.returns rfl (hb hby d1_66) hr
  · skip
    show Qpk3 Z p0 p1 w0 h0 n0 _ T23.heap _
    exact ⟨N23, b16, xsn_0_23, rfl, sz20, sz30, ne28, ((((((Keep.refl h0 []).ext E1).wr W8 (Or.inr sz3)).wr W13 (Or.inr sz3)).ext E16).trans K23 (allS (Or.inr sz20) all0))⟩
def Qpk (Z : State) (p0 p1 w0 : Int32) (h0 : Heap) (n0 : Nat) (v : Option Value) (h : Heap) (L : List Loc) : Prop := Fr n0 L ∧ ∃ (u : Value), v = some u ∧ Keep h0 h [] ∧ u.isRef = true ∧ (u = Value.null ↔ p0 &&& 3 = 0)
theorem own_pk (l : Launch) (Z : State) (a0 : Array Value) (hw : ∀ d ∈ tables_1, d.before a0 Z = true) (ws : List Jvm.Cond) (p0 : Int32) (p1 : Int32) (w0 : Int32) (h0 : Heap) (n0 : Nat) (Z0 : n0 ≤ h0.size) (S : Sta Z h0 "java/lang/String" "COMPACT_STRINGS" "Z" (.int w0)) (hcs : ¬ (w0 = (0 : Int32))) :
    MetFree l (⟨"com/example/tollgate/tollgate/signing/SignedCallIsKeyedPinLaw", "pick", "(II)Ljava/lang/String;"⟩ : MethodName) (head1 (Jvm.Cond.code (⟨"com/example/tollgate/tollgate/signing/SignedCallIsKeyedPinLaw", "pick", "(II)Ljava/lang/String;"⟩ : MethodName) method_2_code 4 (some (.object "java/lang/String")) :: ws) ({ frames := 4, cells := 3, slots := 8, locals := 66 } : Room)) (fun a U => a = #[(.int p0), (.int p1)] ∧ Z.Warmed39 U.vm ∧ U.heap = h0) (fun _ _ _ _ _ => True) (fun _ U o U' => ∃ v L, o = .returned v ∧ Qpk Z p0 p1 w0 h0 n0 v U'.heap L ∧ ReturnedEndW U o U' L ({ frames := 4, cells := 3, slots := 8, locals := 66 } : Room).cells ({ frames := 4, cells := 3, slots := 8, locals := 66 } : Room).slots) := by
  by_cases c0 : p0 &&& 3 = 0
  · skip
    intro p e ha hc hk s m args below hf happ hP hK
    obtain ⟨n, o, h1, h2, h3, v, L, e1, q, f⟩ := rmpk0 l Z a0 hw ws p0 p1 w0 h0 n0 Z0 S hcs c0 p e ha hc hk s m args below hf happ hP hK
    exact ⟨n, o, h1, h2, h3, v, L, e1, ⟨q.1, .null, q.2.1, by rw [q.2.2]; exact Keep.refl h0 [], rfl, ⟨fun _ => c0, fun _ => rfl⟩⟩, ReturnedEndW.of_narrow f.1 f.2.1 f.2.2⟩
  by_cases c1 : p0 &&& 3 = 1
  · skip
    intro p e ha hc hk s m args below hf happ hP hK
    obtain ⟨n, o, h1, h2, h3, v, L, e1, q, f⟩ := rmpk1 l Z a0 hw ws p0 p1 w0 h0 n0 Z0 S hcs c0 c1 p e ha hc hk s m args below hf happ hP hK
    exact ⟨n, o, h1, h2, h3, v, L, e1, (by obtain ⟨q1, x, q2, q3⟩ := q; exact ⟨q1, .ref x, q2, q3, rfl, ⟨(fun z => nomatch z), (fun z => absurd z c0)⟩⟩), f⟩
  by_cases c2 : p0 &&& 3 = 2
  · skip
    intro p e ha hc hk s m args below hf happ hP hK
    obtain ⟨n, o, h1, h2, h3, v, L, e1, q, f⟩ := rmpk2 l Z a0 hw ws p0 p1 w0 h0 n0 Z0 S hcs c0 c1 c2 p e ha hc hk s m args below hf happ hP hK
    exact ⟨n, o, h1, h2, h3, v, L, e1, (by obtain ⟨q1, x, _, q2, _, _, _, q3⟩ := q; exact ⟨q1, .ref x, q2, q3, rfl, ⟨(fun z => nomatch z), (fun z => absurd z c0)⟩⟩), ReturnedEndW.of_narrow f.1 f.2.1 f.2.2⟩
  · skip
    intro p e ha hc hk s m args below hf happ hP hK
    obtain ⟨n, o, h1, h2, h3, v, L, e1, q, f⟩ := rmpk3 l Z a0 hw ws p0 p1 w0 h0 n0 Z0 S hcs c0 c1 c2 p e ha hc hk s m args below hf happ hP hK
    exact ⟨n, o, h1, h2, h3, v, L, e1, (by obtain ⟨q1, x, _, q2, _, _, _, q3⟩ := q; exact ⟨q1, .ref x, q2, q3, rfl, ⟨(fun z => nomatch z), (fun z => absurd z c0)⟩⟩), ReturnedEndW.of_narrow f.1 f.2.1 f.2.2⟩
theorem d3_0 : decode jdk_30_method_1_code 0 = .ok (.aload_n 0, 1) := by decide +kernel
theorem d3_1 : decode jdk_30_method_1_code 1 = .ok (.invokespecial 1, 3) := by decide +kernel
theorem d3_4 : decode jdk_30_method_1_code 4 = .ok (.return_, 1) := by decide +kernel
theorem pn_java_lang_Record : plainName "java/lang/Record" = true := by first | (simp [plainName, overriddenIn]; done) | decide +kernel
theorem ef_3 (m : MethodId) (o0 : Addr) : entryFrame m #[(.ref o0)] 1 = mkF m 0 #[.val (.ref o0)] [] := by first | (simp [entryFrame, mkF, argsToLocals, Value.category]; done) | rfl
def Q3 (Z : State) (o0 : Addr) (h0 : Heap) (n0 : Nat) (v : Option Value) (h : Heap) (L : List Loc) : Prop := Fr n0 L ∧ v = none ∧ h = h0
set_option maxRecDepth 65536 in
set_option maxHeartbeats 40000000 in
theorem rm3 (l : Launch) (Z : State) (a0 : Array Value) (hw : ∀ d ∈ tables_1, d.before a0 Z = true) (ws : List Jvm.Cond) (o0 : Addr) (h0 : Heap) (n0 : Nat) (Z0 : n0 ≤ h0.size) :
    MetFree l (⟨"java/lang/Record", "<init>", "()V"⟩ : MethodName) (head1 (Jvm.Cond.code (⟨"java/lang/Record", "<init>", "()V"⟩ : MethodName) jdk_30_method_1_code 1 none :: ws) ({ frames := 1, cells := 0, slots := 0, locals := 12 } : Room)) (fun a U => a = #[(.ref o0)] ∧ Z.Warmed39 U.vm ∧ U.heap = h0) (fun _ _ _ _ _ => True) (fun _ U o U' => ∃ v L, o = .returned v ∧ Q3 Z o0 h0 n0 v U'.heap L ∧ FrameEnd U o U' L ({ frames := 1, cells := 0, slots := 0, locals := 12 } : Room).cells ({ frames := 1, cells := 0, slots := 0, locals := 12 } : Room).slots) := by
  refine MetFree.of_bodySF (plainFor_of_name pn_java_lang_Record) hisR ?_
  intro p e s m args below meth c s₁ Bd hml0 hP hK
  obtain ⟨rfl, hZ, hh⟩ := hP
  have hx := Bd.exec
  have hby := Bd.bytes
  have hml : c.maxLocals = 1 := hml0
  have hown : s.vm.findClass "java/lang/Record" = some m.cls := findClass_of_methodNamed Bd.named
  have hnm := (name_of_methodNamed Bd.named Bd.method).1
  have hlk := BodyLoose.notSynchronized Bd
  have X0 : Stand p l e ({ frames := 1, cells := 0, slots := 0, locals := 12 } : Room) s m #[(.ref o0)] below meth c s₁ [] 0 0 := Stand.of_body Bd
  have e0 : s₁.heap = h0 := by rw [← hh, Bd.state]; rfl
  have N0 := Fr.nil n0
  have pre0 : ∀ t, Steps p.tables e below (s₁.setTop (mkF m 0 #[.val (.ref o0)] [])) t → Steps p.tables e below (s₁.setTop (entryFrame m #[(.ref o0)] 1)) t := fun t k => castTop (ef_3 m o0) k
  obtain ⟨T1, X1, e1, st1⟩ := initO X0 hx hZ hown (wd hw 15 rfl) (wd hw 16 rfl) (wd hw 17 rfl) e0 (g := (mkF m 1 #[.val (.ref o0)] [(.ref o0)])) rfl (by rw [hml]; rfl) rfl (hb hby d3_1) (by decide) (W := 0) (by show 2 * 0 + _ ≤ _; exact Nat.le_of_eq rfl) (by decide)
  obtain ⟨fs, hr, hrun, hended, hW, hsame⟩ := X1.leave (v := none) (fun _ => rfl) hlk
  refine ⟨_, _, pre0 _ ?_, hrun, hended, _, _, rfl, ?_, ⟨_, rfl⟩, hW, hsame.mono (by decide) (by decide)⟩
  · skip
    show Steps p.tables e below (s₁.setTop (mkF m 0 #[.val (.ref o0)] [])) _
    refine XS.aloadN X0.here hx rfl (hb hby d3_0) rfl rfl ?_
    show Steps p.tables e below (s₁.setTop (mkF m 1 #[.val (.ref o0)] [(.ref o0)])) _
    refine st1 _ ?_
    show Steps p.tables e below (T1.setTop (mkF m 4 #[.val (.ref o0)] [])) _
    exact X1.returnOut hx Bd.returns (hb hby d3_4) hr
  · skip
    show Q3 Z o0 h0 n0 _ T1.heap _
    rw [e1]
    exact ⟨N0, rfl, rfl⟩
theorem pd___V : parseMethodDescriptor "()V" = some ⟨[], none⟩ := by decide +kernel
theorem d2_0 : decode prog_16_method_2_code 0 = .ok (.aload_n 0, 1) := by decide +kernel
theorem d2_1 : decode prog_16_method_2_code 1 = .ok (.invokespecial 1, 3) := by decide +kernel
theorem d2_4 : decode prog_16_method_2_code 4 = .ok (.aload_n 0, 1) := by decide +kernel
theorem d2_5 : decode prog_16_method_2_code 5 = .ok (.aload_n 1, 1) := by decide +kernel
theorem d2_6 : decode prog_16_method_2_code 6 = .ok (.putfield 7, 3) := by decide +kernel
theorem d2_9 : decode prog_16_method_2_code 9 = .ok (.aload_n 0, 1) := by decide +kernel
theorem d2_10 : decode prog_16_method_2_code 10 = .ok (.aload_n 2, 1) := by decide +kernel
theorem d2_11 : decode prog_16_method_2_code 11 = .ok (.putfield 13, 3) := by decide +kernel
theorem d2_14 : decode prog_16_method_2_code 14 = .ok (.aload_n 0, 1) := by decide +kernel
theorem d2_15 : decode prog_16_method_2_code 15 = .ok (.aload_n 3, 1) := by decide +kernel
theorem d2_16 : decode prog_16_method_2_code 16 = .ok (.putfield 16, 3) := by decide +kernel
theorem d2_19 : decode prog_16_method_2_code 19 = .ok (.aload_n 0, 1) := by decide +kernel
theorem d2_20 : decode prog_16_method_2_code 20 = .ok (.aload 4, 2) := by decide +kernel
theorem d2_22 : decode prog_16_method_2_code 22 = .ok (.putfield 19, 3) := by decide +kernel
theorem d2_25 : decode prog_16_method_2_code 25 = .ok (.aload_n 0, 1) := by decide +kernel
theorem d2_26 : decode prog_16_method_2_code 26 = .ok (.aload 5, 2) := by decide +kernel
theorem d2_28 : decode prog_16_method_2_code 28 = .ok (.putfield 22, 3) := by decide +kernel
theorem d2_31 : decode prog_16_method_2_code 31 = .ok (.aload_n 0, 1) := by decide +kernel
theorem d2_32 : decode prog_16_method_2_code 32 = .ok (.aload 6, 2) := by decide +kernel
theorem d2_34 : decode prog_16_method_2_code 34 = .ok (.putfield 25, 3) := by decide +kernel
theorem d2_37 : decode prog_16_method_2_code 37 = .ok (.aload_n 0, 1) := by decide +kernel
theorem d2_38 : decode prog_16_method_2_code 38 = .ok (.aload 7, 2) := by decide +kernel
theorem d2_40 : decode prog_16_method_2_code 40 = .ok (.putfield 28, 3) := by decide +kernel
theorem d2_43 : decode prog_16_method_2_code 43 = .ok (.aload_n 0, 1) := by decide +kernel
theorem d2_44 : decode prog_16_method_2_code 44 = .ok (.aload 8, 2) := by decide +kernel
theorem d2_46 : decode prog_16_method_2_code 46 = .ok (.putfield 31, 3) := by decide +kernel
theorem d2_49 : decode prog_16_method_2_code 49 = .ok (.aload_n 0, 1) := by decide +kernel
theorem d2_50 : decode prog_16_method_2_code 50 = .ok (.aload 9, 2) := by decide +kernel
theorem d2_52 : decode prog_16_method_2_code 52 = .ok (.putfield 34, 3) := by decide +kernel
theorem d2_55 : decode prog_16_method_2_code 55 = .ok (.aload_n 0, 1) := by decide +kernel
theorem d2_56 : decode prog_16_method_2_code 56 = .ok (.aload 10, 2) := by decide +kernel
theorem d2_58 : decode prog_16_method_2_code 58 = .ok (.putfield 37, 3) := by decide +kernel
theorem d2_61 : decode prog_16_method_2_code 61 = .ok (.return_, 1) := by decide +kernel
theorem pn_com_example_tollgate_tollgate_signing_SignedCall : plainName "com/example/tollgate/tollgate/signing/SignedCall" = true := by first | (simp [plainName, overriddenIn]; done) | decide +kernel
theorem ef_2 (m : MethodId) (o0 : Addr) (m1 : Value) (m2 : Value) (m3 : Value) (m4 : Value) (m5 : Value) (m6 : Value) (m7 : Value) (m8 : Value) (m9 : Value) (m10 : Value) (hm1 : m1.isRef = true) (hm2 : m2.isRef = true) (hm3 : m3.isRef = true) (hm4 : m4.isRef = true) (hm5 : m5.isRef = true) (hm6 : m6.isRef = true) (hm7 : m7.isRef = true) (hm8 : m8.isRef = true) (hm9 : m9.isRef = true) (hm10 : m10.isRef = true) : entryFrame m #[(.ref o0), m1, m2, m3, m4, m5, m6, m7, m8, m9, m10] 11 = mkF m 0 #[.val (.ref o0), .val m1, .val m2, .val m3, .val m4, .val m5, .val m6, .val m7, .val m8, .val m9, .val m10] [] := by
  simp [entryFrame, mkF, argsToLocals, own_ct1, own_ct0, own_cat hm1, own_cat hm2, own_cat hm3, own_cat hm4, own_cat hm5, own_cat hm6, own_cat hm7, own_cat hm8, own_cat hm9, own_cat hm10]
def Q2 (Z : State) (o0 : Addr) (m1 : Value) (m2 : Value) (m3 : Value) (m4 : Value) (m5 : Value) (m6 : Value) (m7 : Value) (m8 : Value) (m9 : Value) (m10 : Value) (u0_domain : Value) (u1_user : Value) (u2_project : Value) (u3_expires : Value) (u4_nonce : Value) (u5_accessKey : Value) (u6_algorithm : Value) (u7_method : Value) (u8_target : Value) (u9_bodySha256 : Value) (h0 : Heap) (n0 : Nat) (v : Option Value) (h : Heap) (L : List Loc) : Prop := Fr n0 L ∧ v = none ∧ Keep h0 h [o0] ∧ Exa Z h o0 "com/example/tollgate/tollgate/signing/SignedCall" ∧ Fld Z h o0 "com/example/tollgate/tollgate/signing/SignedCall" "domain" "Ljava/lang/String;" m1 ∧ Fld Z h o0 "com/example/tollgate/tollgate/signing/SignedCall" "user" "Ljava/lang/String;" m2 ∧ Fld Z h o0 "com/example/tollgate/tollgate/signing/SignedCall" "project" "Ljava/lang/String;" m3 ∧ Fld Z h o0 "com/example/tollgate/tollgate/signing/SignedCall" "expires" "Ljava/lang/String;" m4 ∧ Fld Z h o0 "com/example/tollgate/tollgate/signing/SignedCall" "nonce" "Ljava/lang/String;" m5 ∧ Fld Z h o0 "com/example/tollgate/tollgate/signing/SignedCall" "accessKey" "Ljava/lang/String;" m6 ∧ Fld Z h o0 "com/example/tollgate/tollgate/signing/SignedCall" "algorithm" "Ljava/lang/String;" m7 ∧ Fld Z h o0 "com/example/tollgate/tollgate/signing/SignedCall" "method" "Ljava/lang/String;" m8 ∧ Fld Z h o0 "com/example/tollgate/tollgate/signing/SignedCall" "target" "Ljava/lang/String;" m9 ∧ Fld Z h o0 "com/example/tollgate/tollgate/signing/SignedCall" "bodySha256" "Ljava/lang/String;" m10
set_option maxRecDepth 65536 in
set_option maxHeartbeats 40000000 in
theorem rm2 (l : Launch) (Z : State) (a0 : Array Value) (hw : ∀ d ∈ tables_1, d.before a0 Z = true) (ws : List Jvm.Cond) (o0 : Addr) (m1 : Value) (m2 : Value) (m3 : Value) (m4 : Value) (m5 : Value) (m6 : Value) (m7 : Value) (m8 : Value) (m9 : Value) (m10 : Value) (u0_domain : Value) (u1_user : Value) (u2_project : Value) (u3_expires : Value) (u4_nonce : Value) (u5_accessKey : Value) (u6_algorithm : Value) (u7_method : Value) (u8_target : Value) (u9_bodySha256 : Value) (h0 : Heap) (n0 : Nat) (Z0 : n0 ≤ h0.size) (E_o0 : Exa Z h0 o0 "com/example/tollgate/tollgate/signing/SignedCall") (hm1 : m1.isRef = true) (hm2 : m2.isRef = true) (hm3 : m3.isRef = true) (hm4 : m4.isRef = true) (hm5 : m5.isRef = true) (hm6 : m6.isRef = true) (hm7 : m7.isRef = true) (hm8 : m8.isRef = true) (hm9 : m9.isRef = true) (hm10 : m10.isRef = true) (F_domain_o0 : Fld Z h0 o0 "com/example/tollgate/tollgate/signing/SignedCall" "domain" "Ljava/lang/String;" u0_domain) (g_o0 : n0 ≤ o0) (F_user_o0 : Fld Z h0 o0 "com/example/tollgate/tollgate/signing/SignedCall" "user" "Ljava/lang/String;" u1_user) (F_project_o0 : Fld Z h0 o0 "com/example/tollgate/tollgate/signing/SignedCall" "project" "Ljava/lang/String;" u2_project) (F_expires_o0 : Fld Z h0 o0 "com/example/tollgate/tollgate/signing/SignedCall" "expires" "Ljava/lang/String;" u3_expires) (F_nonce_o0 : Fld Z h0 o0 "com/example/tollgate/tollgate/signing/SignedCall" "nonce" "Ljava/lang/String;" u4_nonce) (F_accessKey_o0 : Fld Z h0 o0 "com/example/tollgate/tollgate/signing/SignedCall" "accessKey" "Ljava/lang/String;" u5_accessKey) (F_algorithm_o0 : Fld Z h0 o0 "com/example/tollgate/tollgate/signing/SignedCall" "algorithm" "Ljava/lang/String;" u6_algorithm) (F_method_o0 : Fld Z h0 o0 "com/example/tollgate/tollgate/signing/SignedCall" "method" "Ljava/lang/String;" u7_method) (F_target_o0 : Fld Z h0 o0 "com/example/tollgate/tollgate/signing/SignedCall" "target" "Ljava/lang/String;" u8_target) (F_bodySha256_o0 : Fld Z h0 o0 "com/example/tollgate/tollgate/signing/SignedCall" "bodySha256" "Ljava/lang/String;" u9_bodySha256) :
    MetFree l (⟨"com/example/tollgate/tollgate/signing/SignedCall", "<init>", "(Ljava/lang/String;Ljava/lang/String;Ljava/lang/String;Ljava/lang/String;Ljava/lang/String;Ljava/lang/String;Ljava/lang/String;Ljava/lang/String;Ljava/lang/String;Ljava/lang/String;)V"⟩ : MethodName) (head1 (Jvm.Cond.code (⟨"com/example/tollgate/tollgate/signing/SignedCall", "<init>", "(Ljava/lang/String;Ljava/lang/String;Ljava/lang/String;Ljava/lang/String;Ljava/lang/String;Ljava/lang/String;Ljava/lang/String;Ljava/lang/String;Ljava/lang/String;Ljava/lang/String;)V"⟩ : MethodName) prog_16_method_2_code 11 none :: ws) ({ frames := 2, cells := 0, slots := 0, locals := 24 } : Room)) (fun a U => a = #[(.ref o0), m1, m2, m3, m4, m5, m6, m7, m8, m9, m10] ∧ Z.Warmed39 U.vm ∧ U.heap = h0) (fun _ _ _ _ _ => True) (fun _ U o U' => ∃ v L, o = .returned v ∧ Q2 Z o0 m1 m2 m3 m4 m5 m6 m7 m8 m9 m10 u0_domain u1_user u2_project u3_expires u4_nonce u5_accessKey u6_algorithm u7_method u8_target u9_bodySha256 h0 n0 v U'.heap L ∧ FrameEnd U o U' L ({ frames := 2, cells := 0, slots := 0, locals := 24 } : Room).cells ({ frames := 2, cells := 0, slots := 0, locals := 24 } : Room).slots) := by
  refine MetFree.of_bodySF (plainFor_of_name pn_com_example_tollgate_tollgate_signing_SignedCall) hisR ?_
  intro p e s m args below meth c s₁ Bd hml0 hP hK
  obtain ⟨rfl, hZ, hh⟩ := hP
  have hx := Bd.exec
  have hby := Bd.bytes
  have hml : c.maxLocals = 11 := hml0
  have hown : s.vm.findClass "com/example/tollgate/tollgate/signing/SignedCall" = some m.cls := findClass_of_methodNamed Bd.named
  have hnm := (name_of_methodNamed Bd.named Bd.method).1
  have hlk := BodyLoose.notSynchronized Bd
  have X0 : Stand p l e ({ frames := 2, cells := 0, slots := 0, locals := 24 } : Room) s m #[(.ref o0), m1, m2, m3, m4, m5, m6, m7, m8, m9, m10] below meth c s₁ [] 0 0 := Stand.of_body Bd
  have e0 : s₁.heap = h0 := by rw [← hh, Bd.state]; rfl
  have N0 := Fr.nil n0
  have pre0 : ∀ t, Steps p.tables e below (s₁.setTop (mkF m 0 #[.val (.ref o0), .val m1, .val m2, .val m3, .val m4, .val m5, .val m6, .val m7, .val m8, .val m9, .val m10] [])) t → Steps p.tables e below (s₁.setTop (entryFrame m #[(.ref o0), m1, m2, m3, m4, m5, m6, m7, m8, m9, m10] 11)) t := fun t k => castTop (ef_2 m o0 m1 m2 m3 m4 m5 m6 m7 m8 m9 m10 hm1 hm2 hm3 hm4 hm5 hm6 hm7 hm8 hm9 hm10) k
  obtain ⟨vr1, _, ⟨T1, L1, k1, n1⟩, -, X1, ⟨Lc1, hQ1, l1, y1, z1⟩, st1⟩ := Jvm.Stand.specialBack X0 hx (y := (⟨"java/lang/Record", "<init>", "()V"⟩ : MethodName)) rfl hown (mvT hZ (wd hw 10 rfl)) (mvT hZ (wd hw 11 rfl)) (mvT hZ (wd hw 14 rfl)) (by decide) (backOf (W := 0) (rm3 l Z a0 hw [] o0 h0 n0 Z0) hZ (wd hw 14 rfl) (wd hw 13 rfl) (by decide) (by decide)) (g := (mkF m 1 #[.val (.ref o0), .val m1, .val m2, .val m3, .val m4, .val m5, .val m6, .val m7, .val m8, .val m9, .val m10] [(.ref o0)])) rfl (by rw [hml]; rfl) (Steps.refl _) (a := o0) (argsL := []) (rest := []) (lenOf pd___V rfl) rfl (by show 2 * 0 + _ ≤ _; exact Nat.le_of_eq rfl) (hb hby d2_1) (fun _ _ => ⟨rfl, e0, (by decide : 0 + 0 ≤ _), (by decide : 0 + 0 ≤ _)⟩)
  dsimp only [Pt.U, Pt.locs, Pt.cells, Pt.slots] at X1 l1 y1 z1 st1 hQ1
  replace X1 := own_stand X1 l1 y1 z1
  clear l1 y1 z1
  have N1q := (show _ ∧ _ ∧ _ from hQ1).1
  have hv1 := (show _ ∧ _ ∧ _ from hQ1).2.1
  have e1 := (show _ ∧ _ ∧ _ from hQ1).2.2
  clear hQ1
  subst hv1
  have N1 := Fr.app N0 N1q
  obtain ⟨T2, h2, X2, e2, W2, st2⟩ := putF X1 hx hZ hown (host := "") (Or.inl (wd hw 18 rfl)) Via.refl e1 F_domain_o0 E_o0 (Or.inr ⟨(wd hw 19 rfl), rfl, hnm⟩) (wd hw 5 rfl) (ty := (.object "java/lang/String")) (by decide) (own_nrw hm1) (own_fts hm1) (g := (mkF m 6 #[.val (.ref o0), .val m1, .val m2, .val m3, .val m4, .val m5, .val m6, .val m7, .val m8, .val m9, .val m10] [m1, (.ref o0)])) rfl rfl (hb hby d2_6)
  have Fw2 := F_domain_o0.same W2
  have N2 := Fr.snoc X2 N1 g_o0
  have z3 : n0 ≤ h2.size := Nat.le_trans Z0 (Keep.of_wr W2).1
  have hs4 : h0.size ≤ h2.size := Nat.le_trans (Nat.le_refl h0.size) (Keep.of_wr W2).1
  have k5 := (F_user_o0.other W2 (Or.inr (slot_ne (Or.inr (wd hw 21 rfl)) (Or.inr (wd hw 19 rfl)) (by decide) (t := (.object "java/lang/String")) (t' := (.object "java/lang/String")) (by decide) (by decide))))
  have k6 := (E_o0.wr W2)
  obtain ⟨T7, h7, X7, e7, W7, st7⟩ := putF X2 hx hZ hown (host := "") (Or.inl (wd hw 20 rfl)) Via.refl e2 k5 k6 (Or.inr ⟨(wd hw 21 rfl), rfl, hnm⟩) (wd hw 5 rfl) (ty := (.object "java/lang/String")) (by decide) (own_nrw hm2) (own_fts hm2) (g := (mkF m 11 #[.val (.ref o0), .val m1, .val m2, .val m3, .val m4, .val m5, .val m6, .val m7, .val m8, .val m9, .val m10] [m2, (.ref o0)])) rfl rfl (hb hby d2_11)
  have Fw7 := k5.same W7
  have N7 := Fr.snoc X7 N2 g_o0
  have z8 : n0 ≤ h7.size := Nat.le_trans z3 (Keep.of_wr W7).1
  have hs9 : h0.size ≤ h7.size := Nat.le_trans hs4 (Keep.of_wr W7).1
  have k10 := ((F_project_o0.other W2 (Or.inr (slot_ne (Or.inr (wd hw 23 rfl)) (Or.inr (wd hw 19 rfl)) (by decide) (t := (.object "java/lang/String")) (t' := (.object "java/lang/String")) (by decide) (by decide)))).other W7 (Or.inr (slot_ne (Or.inr (wd hw 23 rfl)) (Or.inr (wd hw 21 rfl)) (by decide) (t := (.object "java/lang/String")) (t' := (.object "java/lang/String")) (by decide) (by decide))))
  have k11 := (k6.wr W7)
  obtain ⟨T12, h12, X12, e12, W12, st12⟩ := putF X7 hx hZ hown (host := "") (Or.inl (wd hw 22 rfl)) Via.refl e7 k10 k11 (Or.inr ⟨(wd hw 23 rfl), rfl, hnm⟩) (wd hw 5 rfl) (ty := (.object "java/lang/String")) (by decide) (own_nrw hm3) (own_fts hm3) (g := (mkF m 16 #[.val (.ref o0), .val m1, .val m2, .val m3, .val m4, .val m5, .val m6, .val m7, .val m8, .val m9, .val m10] [m3, (.ref o0)])) rfl rfl (hb hby d2_16)
  have Fw12 := k10.same W12
  have N12 := Fr.snoc X12 N7 g_o0
  have z13 : n0 ≤ h12.size := Nat.le_trans z8 (Keep.of_wr W12).1
  have hs14 : h0.size ≤ h12.size := Nat.le_trans hs9 (Keep.of_wr W12).1
  have k15 := (((F_expires_o0.other W2 (Or.inr (slot_ne (Or.inr (wd hw 25 rfl)) (Or.inr (wd hw 19 rfl)) (by decide) (t := (.object "java/lang/String")) (t' := (.object "java/lang/String")) (by decide) (by decide)))).other W7 (Or.inr (slot_ne (Or.inr (wd hw 25 rfl)) (Or.inr (wd hw 21 rfl)) (by decide) (t := (.object "java/lang/String")) (t' := (.object "java/lang/String")) (by decide) (by decide)))).other W12 (Or.inr (slot_ne (Or.inr (wd hw 25 rfl)) (Or.inr (wd hw 23 rfl)) (by decide) (t := (.object "java/lang/String")) (t' := (.object "java/lang/String")) (by decide) (by decide))))
  have k16 := (k11.wr W12)
  obtain ⟨T17, h17, X17, e17, W17, st17⟩ := putF X12 hx hZ hown (host := "") (Or.inl (wd hw 24 rfl)) Via.refl e12 k15 k16 (Or.inr ⟨(wd hw 25 rfl), rfl, hnm⟩) (wd hw 5 rfl) (ty := (.object "java/lang/String")) (by decide) (own_nrw hm4) (own_fts hm4) (g := (mkF m 22 #[.val (.ref o0), .val m1, .val m2, .val m3, .val m4, .val m5, .val m6, .val m7, .val m8, .val m9, .val m10] [m4, (.ref o0)])) rfl rfl (hb hby d2_22)
  have Fw17 := k15.same W17
  have N17 := Fr.snoc X17 N12 g_o0
  have z18 : n0 ≤ h17.size := Nat.le_trans z13 (Keep.of_wr W17).1
  have hs19 : h0.size ≤ h17.size := Nat.le_trans hs14 (Keep.of_wr W17).1
  have k20 := ((((F_nonce_o0.other W2 (Or.inr (slot_ne (Or.inr (wd hw 27 rfl)) (Or.inr (wd hw 19 rfl)) (by decide) (t := (.object "java/lang/String")) (t' := (.object "java/lang/String")) (by decide) (by decide)))).other W7 (Or.inr (slot_ne (Or.inr (wd hw 27 rfl)) (Or.inr (wd hw 21 rfl)) (by decide) (t := (.object "java/lang/String")) (t' := (.object "java/lang/String")) (by decide) (by decide)))).other W12 (Or.inr (slot_ne (Or.inr (wd hw 27 rfl)) (Or.inr (wd hw 23 rfl)) (by decide) (t := (.object "java/lang/String")) (t' := (.object "java/lang/String")) (by decide) (by decide)))).other W17 (Or.inr (slot_ne (Or.inr (wd hw 27 rfl)) (Or.inr (wd hw 25 rfl)) (by decide) (t := (.object "java/lang/String")) (t' := (.object "java/lang/String")) (by decide) (by decide))))
  have k21 := (k16.wr W17)
  obtain ⟨T22, h22, X22, e22, W22, st22⟩ := putF X17 hx hZ hown (host := "") (Or.inl (wd hw 26 rfl)) Via.refl e17 k20 k21 (Or.inr ⟨(wd hw 27 rfl), rfl, hnm⟩) (wd hw 5 rfl) (ty := (.object "java/lang/String")) (by decide) (own_nrw hm5) (own_fts hm5) (g := (mkF m 28 #[.val (.ref o0), .val m1, .val m2, .val m3, .val m4, .val m5, .val m6, .val m7, .val m8, .val m9, .val m10] [m5, (.ref o0)])) rfl rfl (hb hby d2_28)
  have Fw22 := k20.same W22
  have N22 := Fr.snoc X22 N17 g_o0
  have z23 : n0 ≤ h22.size := Nat.le_trans z18 (Keep.of_wr W22).1
  have hs24 : h0.size ≤ h22.size := Nat.le_trans hs19 (Keep.of_wr W22).1
  have k25 := (((((F_accessKey_o0.other W2 (Or.inr (slot_ne (Or.inr (wd hw 29 rfl)) (Or.inr (wd hw 19 rfl)) (by decide) (t := (.object "java/lang/String")) (t' := (.object "java/lang/String")) (by decide) (by decide)))).other W7 (Or.inr (slot_ne (Or.inr (wd hw 29 rfl)) (Or.inr (wd hw 21 rfl)) (by decide) (t := (.object "java/lang/String")) (t' := (.object "java/lang/String")) (by decide) (by decide)))).other W12 (Or.inr (slot_ne (Or.inr (wd hw 29 rfl)) (Or.inr (wd hw 23 rfl)) (by decide) (t := (.object "java/lang/String")) (t' := (.object "java/lang/String")) (by decide) (by decide)))).other W17 (Or.inr (slot_ne (Or.inr (wd hw 29 rfl)) (Or.inr (wd hw 25 rfl)) (by decide) (t := (.object "java/lang/String")) (t' := (.object "java/lang/String")) (by decide) (by decide)))).other W22 (Or.inr (slot_ne (Or.inr (wd hw 29 rfl)) (Or.inr (wd hw 27 rfl)) (by decide) (t := (.object "java/lang/String")) (t' := (.object "java/lang/String")) (by decide) (by decide))))
  have k26 := (k21.wr W22)
  obtain ⟨T27, h27, X27, e27, W27, st27⟩ := putF X22 hx hZ hown (host := "") (Or.inl (wd hw 28 rfl)) Via.refl e22 k25 k26 (Or.inr ⟨(wd hw 29 rfl), rfl, hnm⟩) (wd hw 5 rfl) (ty := (.object "java/lang/String")) (by decide) (own_nrw hm6) (own_fts hm6) (g := (mkF m 34 #[.val (.ref o0), .val m1, .val m2, .val m3, .val m4, .val m5, .val m6, .val m7, .val m8, .val m9, .val m10] [m6, (.ref o0)])) rfl rfl (hb hby d2_34)
  have Fw27 := k25.same W27
  have N27 := Fr.snoc X27 N22 g_o0
  have z28 : n0 ≤ h27.size := Nat.le_trans z23 (Keep.of_wr W27).1
  have hs29 : h0.size ≤ h27.size := Nat.le_trans hs24 (Keep.of_wr W27).1
  have k30 := ((((((F_algorithm_o0.other W2 (Or.inr (slot_ne (Or.inr (wd hw 31 rfl)) (Or.inr (wd hw 19 rfl)) (by decide) (t := (.object "java/lang/String")) (t' := (.object "java/lang/String")) (by decide) (by decide)))).other W7 (Or.inr (slot_ne (Or.inr (wd hw 31 rfl)) (Or.inr (wd hw 21 rfl)) (by decide) (t := (.object "java/lang/String")) (t' := (.object "java/lang/String")) (by decide) (by decide)))).other W12 (Or.inr (slot_ne (Or.inr (wd hw 31 rfl)) (Or.inr (wd hw 23 rfl)) (by decide) (t := (.object "java/lang/String")) (t' := (.object "java/lang/String")) (by decide) (by decide)))).other W17 (Or.inr (slot_ne (Or.inr (wd hw 31 rfl)) (Or.inr (wd hw 25 rfl)) (by decide) (t := (.object "java/lang/String")) (t' := (.object "java/lang/String")) (by decide) (by decide)))).other W22 (Or.inr (slot_ne (Or.inr (wd hw 31 rfl)) (Or.inr (wd hw 27 rfl)) (by decide) (t := (.object "java/lang/String")) (t' := (.object "java/lang/String")) (by decide) (by decide)))).other W27 (Or.inr (slot_ne (Or.inr (wd hw 31 rfl)) (Or.inr (wd hw 29 rfl)) (by decide) (t := (.object "java/lang/String")) (t' := (.object "java/lang/String")) (by decide) (by decide))))
  have k31 := (k26.wr W27)
  obtain ⟨T32, h32, X32, e32, W32, st32⟩ := putF X27 hx hZ hown (host := "") (Or.inl (wd hw 30 rfl)) Via.refl e27 k30 k31 (Or.inr ⟨(wd hw 31 rfl), rfl, hnm⟩) (wd hw 5 rfl) (ty := (.object "java/lang/String")) (by decide) (own_nrw hm7) (own_fts hm7) (g := (mkF m 40 #[.val (.ref o0), .val m1, .val m2, .val m3, .val m4, .val m5, .val m6, .val m7, .val m8, .val m9, .val m10] [m7, (.ref o0)])) rfl rfl (hb hby d2_40)
  have Fw32 := k30.same W32
  have N32 := Fr.snoc X32 N27 g_o0
  have z33 : n0 ≤ h32.size := Nat.le_trans z28 (Keep.of_wr W32).1
  have hs34 : h0.size ≤ h32.size := Nat.le_trans hs29 (Keep.of_wr W32).1
  have k35 := (((((((F_method_o0.other W2 (Or.inr (slot_ne (Or.inr (wd hw 33 rfl)) (Or.inr (wd hw 19 rfl)) (by decide) (t := (.object "java/lang/String")) (t' := (.object "java/lang/String")) (by decide) (by decide)))).other W7 (Or.inr (slot_ne (Or.inr (wd hw 33 rfl)) (Or.inr (wd hw 21 rfl)) (by decide) (t := (.object "java/lang/String")) (t' := (.object "java/lang/String")) (by decide) (by decide)))).other W12 (Or.inr (slot_ne (Or.inr (wd hw 33 rfl)) (Or.inr (wd hw 23 rfl)) (by decide) (t := (.object "java/lang/String")) (t' := (.object "java/lang/String")) (by decide) (by decide)))).other W17 (Or.inr (slot_ne (Or.inr (wd hw 33 rfl)) (Or.inr (wd hw 25 rfl)) (by decide) (t := (.object "java/lang/String")) (t' := (.object "java/lang/String")) (by decide) (by decide)))).other W22 (Or.inr (slot_ne (Or.inr (wd hw 33 rfl)) (Or.inr (wd hw 27 rfl)) (by decide) (t := (.object "java/lang/String")) (t' := (.object "java/lang/String")) (by decide) (by decide)))).other W27 (Or.inr (slot_ne (Or.inr (wd hw 33 rfl)) (Or.inr (wd hw 29 rfl)) (by decide) (t := (.object "java/lang/String")) (t' := (.object "java/lang/String")) (by decide) (by decide)))).other W32 (Or.inr (slot_ne (Or.inr (wd hw 33 rfl)) (Or.inr (wd hw 31 rfl)) (by decide) (t := (.object "java/lang/String")) (t' := (.object "java/lang/String")) (by decide) (by decide))))
  have k36 := (k31.wr W32)
  obtain ⟨T37, h37, X37, e37, W37, st37⟩ := putF X32 hx hZ hown (host := "") (Or.inl (wd hw 32 rfl)) Via.refl e32 k35 k36 (Or.inr ⟨(wd hw 33 rfl), rfl, hnm⟩) (wd hw 5 rfl) (ty := (.object "java/lang/String")) (by decide) (own_nrw hm8) (own_fts hm8) (g := (mkF m 46 #[.val (.ref o0), .val m1, .val m2, .val m3, .val m4, .val m5, .val m6, .val m7, .val m8, .val m9, .val m10] [m8, (.ref o0)])) rfl rfl (hb hby d2_46)
  have Fw37 := k35.same W37
  have N37 := Fr.snoc X37 N32 g_o0
  have z38 : n0 ≤ h37.size := Nat.le_trans z33 (Keep.of_wr W37).1
  have hs39 : h0.size ≤ h37.size := Nat.le_trans hs34 (Keep.of_wr W37).1
  have k40 := ((((((((F_target_o0.other W2 (Or.inr (slot_ne (Or.inr (wd hw 35 rfl)) (Or.inr (wd hw 19 rfl)) (by decide) (t := (.object "java/lang/String")) (t' := (.object "java/lang/String")) (by decide) (by decide)))).other W7 (Or.inr (slot_ne (Or.inr (wd hw 35 rfl)) (Or.inr (wd hw 21 rfl)) (by decide) (t := (.object "java/lang/String")) (t' := (.object "java/lang/String")) (by decide) (by decide)))).other W12 (Or.inr (slot_ne (Or.inr (wd hw 35 rfl)) (Or.inr (wd hw 23 rfl)) (by decide) (t := (.object "java/lang/String")) (t' := (.object "java/lang/String")) (by decide) (by decide)))).other W17 (Or.inr (slot_ne (Or.inr (wd hw 35 rfl)) (Or.inr (wd hw 25 rfl)) (by decide) (t := (.object "java/lang/String")) (t' := (.object "java/lang/String")) (by decide) (by decide)))).other W22 (Or.inr (slot_ne (Or.inr (wd hw 35 rfl)) (Or.inr (wd hw 27 rfl)) (by decide) (t := (.object "java/lang/String")) (t' := (.object "java/lang/String")) (by decide) (by decide)))).other W27 (Or.inr (slot_ne (Or.inr (wd hw 35 rfl)) (Or.inr (wd hw 29 rfl)) (by decide) (t := (.object "java/lang/String")) (t' := (.object "java/lang/String")) (by decide) (by decide)))).other W32 (Or.inr (slot_ne (Or.inr (wd hw 35 rfl)) (Or.inr (wd hw 31 rfl)) (by decide) (t := (.object "java/lang/String")) (t' := (.object "java/lang/String")) (by decide) (by decide)))).other W37 (Or.inr (slot_ne (Or.inr (wd hw 35 rfl)) (Or.inr (wd hw 33 rfl)) (by decide) (t := (.object "java/lang/String")) (t' := (.object "java/lang/String")) (by decide) (by decide))))
  have k41 := (k36.wr W37)
  obtain ⟨T42, h42, X42, e42, W42, st42⟩ := putF X37 hx hZ hown (host := "") (Or.inl (wd hw 34 rfl)) Via.refl e37 k40 k41 (Or.inr ⟨(wd hw 35 rfl), rfl, hnm⟩) (wd hw 5 rfl) (ty := (.object "java/lang/String")) (by decide) (own_nrw hm9) (own_fts hm9) (g := (mkF m 52 #[.val (.ref o0), .val m1, .val m2, .val m3, .val m4, .val m5, .val m6, .val m7, .val m8, .val m9, .val m10] [m9, (.ref o0)])) rfl rfl (hb hby d2_52)
  have Fw42 := k40.same W42
  have N42 := Fr.snoc X42 N37 g_o0
  have z43 : n0 ≤ h42.size := Nat.le_trans z38 (Keep.of_wr W42).1
  have hs44 : h0.size ≤ h42.size := Nat.le_trans hs39 (Keep.of_wr W42).1
  have k45 := (((((((((F_bodySha256_o0.other W2 (Or.inr (slot_ne (Or.inr (wd hw 37 rfl)) (Or.inr (wd hw 19 rfl)) (by decide) (t := (.object "java/lang/String")) (t' := (.object "java/lang/String")) (by decide) (by decide)))).other W7 (Or.inr (slot_ne (Or.inr (wd hw 37 rfl)) (Or.inr (wd hw 21 rfl)) (by decide) (t := (.object "java/lang/String")) (t' := (.object "java/lang/String")) (by decide) (by decide)))).other W12 (Or.inr (slot_ne (Or.inr (wd hw 37 rfl)) (Or.inr (wd hw 23 rfl)) (by decide) (t := (.object "java/lang/String")) (t' := (.object "java/lang/String")) (by decide) (by decide)))).other W17 (Or.inr (slot_ne (Or.inr (wd hw 37 rfl)) (Or.inr (wd hw 25 rfl)) (by decide) (t := (.object "java/lang/String")) (t' := (.object "java/lang/String")) (by decide) (by decide)))).other W22 (Or.inr (slot_ne (Or.inr (wd hw 37 rfl)) (Or.inr (wd hw 27 rfl)) (by decide) (t := (.object "java/lang/String")) (t' := (.object "java/lang/String")) (by decide) (by decide)))).other W27 (Or.inr (slot_ne (Or.inr (wd hw 37 rfl)) (Or.inr (wd hw 29 rfl)) (by decide) (t := (.object "java/lang/String")) (t' := (.object "java/lang/String")) (by decide) (by decide)))).other W32 (Or.inr (slot_ne (Or.inr (wd hw 37 rfl)) (Or.inr (wd hw 31 rfl)) (by decide) (t := (.object "java/lang/String")) (t' := (.object "java/lang/String")) (by decide) (by decide)))).other W37 (Or.inr (slot_ne (Or.inr (wd hw 37 rfl)) (Or.inr (wd hw 33 rfl)) (by decide) (t := (.object "java/lang/String")) (t' := (.object "java/lang/String")) (by decide) (by decide)))).other W42 (Or.inr (slot_ne (Or.inr (wd hw 37 rfl)) (Or.inr (wd hw 35 rfl)) (by decide) (t := (.object "java/lang/String")) (t' := (.object "java/lang/String")) (by decide) (by decide))))
  have k46 := (k41.wr W42)
  obtain ⟨T47, h47, X47, e47, W47, st47⟩ := putF X42 hx hZ hown (host := "") (Or.inl (wd hw 36 rfl)) Via.refl e42 k45 k46 (Or.inr ⟨(wd hw 37 rfl), rfl, hnm⟩) (wd hw 5 rfl) (ty := (.object "java/lang/String")) (by decide) (own_nrw hm10) (own_fts hm10) (g := (mkF m 58 #[.val (.ref o0), .val m1, .val m2, .val m3, .val m4, .val m5, .val m6, .val m7, .val m8, .val m9, .val m10] [m10, (.ref o0)])) rfl rfl (hb hby d2_58)
  have Fw47 := k45.same W47
  have N47 := Fr.snoc X47 N42 g_o0
  have z48 : n0 ≤ h47.size := Nat.le_trans z43 (Keep.of_wr W47).1
  have hs49 : h0.size ≤ h47.size := Nat.le_trans hs44 (Keep.of_wr W47).1
  obtain ⟨fs, hr, hrun, hended, hW, hsame⟩ := X47.leave (v := none) (fun _ => rfl) hlk
  refine ⟨_, _, pre0 _ ?_, hrun, hended, _, _, rfl, ?_, ⟨_, rfl⟩, hW, hsame.mono (by decide) (by decide)⟩
  · skip
    show Steps p.tables e below (s₁.setTop (mkF m 0 #[.val (.ref o0), .val m1, .val m2, .val m3, .val m4, .val m5, .val m6, .val m7, .val m8, .val m9, .val m10] [])) _
    refine XS.aloadN X0.here hx rfl (hb hby d2_0) rfl rfl ?_
    show Steps p.tables e below (s₁.setTop (mkF m 1 #[.val (.ref o0), .val m1, .val m2, .val m3, .val m4, .val m5, .val m6, .val m7, .val m8, .val m9, .val m10] [(.ref o0)])) _
    refine st1.trans ?_
    refine XS.aloadN X1.here hx rfl (hb hby d2_4) rfl rfl ?_
    refine XS.aloadN X1.here hx rfl (hb hby d2_5) rfl hm1 ?_
    show Steps p.tables e below (T1.setTop (mkF m 6 #[.val (.ref o0), .val m1, .val m2, .val m3, .val m4, .val m5, .val m6, .val m7, .val m8, .val m9, .val m10] [m1, (.ref o0)])) _
    refine st2 _ ?_
    refine XS.aloadN X2.here hx rfl (hb hby d2_9) rfl rfl ?_
    refine XS.aloadN X2.here hx rfl (hb hby d2_10) rfl hm2 ?_
    show Steps p.tables e below (T2.setTop (mkF m 11 #[.val (.ref o0), .val m1, .val m2, .val m3, .val m4, .val m5, .val m6, .val m7, .val m8, .val m9, .val m10] [m2, (.ref o0)])) _
    refine st7 _ ?_
    refine XS.aloadN X7.here hx rfl (hb hby d2_14) rfl rfl ?_
    refine XS.aloadN X7.here hx rfl (hb hby d2_15) rfl hm3 ?_
    show Steps p.tables e below (T7.setTop (mkF m 16 #[.val (.ref o0), .val m1, .val m2, .val m3, .val m4, .val m5, .val m6, .val m7, .val m8, .val m9, .val m10] [m3, (.ref o0)])) _
    refine st12 _ ?_
    refine XS.aloadN X12.here hx rfl (hb hby d2_19) rfl rfl ?_
    refine XS.aload X12.here hx rfl (hb hby d2_20) rfl hm4 ?_
    show Steps p.tables e below (T12.setTop (mkF m 22 #[.val (.ref o0), .val m1, .val m2, .val m3, .val m4, .val m5, .val m6, .val m7, .val m8, .val m9, .val m10] [m4, (.ref o0)])) _
    refine st17 _ ?_
    refine XS.aloadN X17.here hx rfl (hb hby d2_25) rfl rfl ?_
    refine XS.aload X17.here hx rfl (hb hby d2_26) rfl hm5 ?_
    show Steps p.tables e below (T17.setTop (mkF m 28 #[.val (.ref o0), .val m1, .val m2, .val m3, .val m4, .val m5, .val m6, .val m7, .val m8, .val m9, .val m10] [m5, (.ref o0)])) _
    refine st22 _ ?_
    refine XS.aloadN X22.here hx rfl (hb hby d2_31) rfl rfl ?_
    refine XS.aload X22.here hx rfl (hb hby d2_32) rfl hm6 ?_
    show Steps p.tables e below (T22.setTop (mkF m 34 #[.val (.ref o0), .val m1, .val m2, .val m3, .val m4, .val m5, .val m6, .val m7, .val m8, .val m9, .val m10] [m6, (.ref o0)])) _
    refine st27 _ ?_
    refine XS.aloadN X27.here hx rfl (hb hby d2_37) rfl rfl ?_
    refine XS.aload X27.here hx rfl (hb hby d2_38) rfl hm7 ?_
    show Steps p.tables e below (T27.setTop (mkF m 40 #[.val (.ref o0), .val m1, .val m2, .val m3, .val m4, .val m5, .val m6, .val m7, .val m8, .val m9, .val m10] [m7, (.ref o0)])) _
    refine st32 _ ?_
    refine XS.aloadN X32.here hx rfl (hb hby d2_43) rfl rfl ?_
    refine XS.aload X32.here hx rfl (hb hby d2_44) rfl hm8 ?_
    show Steps p.tables e below (T32.setTop (mkF m 46 #[.val (.ref o0), .val m1, .val m2, .val m3, .val m4, .val m5, .val m6, .val m7, .val m8, .val m9, .val m10] [m8, (.ref o0)])) _
    refine st37 _ ?_
    refine XS.aloadN X37.here hx rfl (hb hby d2_49) rfl rfl ?_
    refine XS.aload X37.here hx rfl (hb hby d2_50) rfl hm9 ?_
    show Steps p.tables e below (T37.setTop (mkF m 52 #[.val (.ref o0), .val m1, .val m2, .val m3, .val m4, .val m5, .val m6, .val m7, .val m8, .val m9, .val m10] [m9, (.ref o0)])) _
    refine st42 _ ?_
    refine XS.aloadN X42.here hx rfl (hb hby d2_55) rfl rfl ?_
    refine XS.aload X42.here hx rfl (hb hby d2_56) rfl hm10 ?_
    show Steps p.tables e below (T42.setTop (mkF m 58 #[.val (.ref o0), .val m1, .val m2, .val m3, .val m4, .val m5, .val m6, .val m7, .val m8, .val m9, .val m10] [m10, (.ref o0)])) _
    refine st47 _ ?_
    show Steps p.tables e below (T47.setTop (mkF m 61 #[.val (.ref o0), .val m1, .val m2, .val m3, .val m4, .val m5, .val m6, .val m7, .val m8, .val m9, .val m10] [])) _
    exact X47.returnOut hx Bd.returns (hb hby d2_61) hr
  · skip
    show Q2 Z o0 m1 m2 m3 m4 m5 m6 m7 m8 m9 m10 u0_domain u1_user u2_project u3_expires u4_nonce u5_accessKey u6_algorithm u7_method u8_target u9_bodySha256 h0 n0 _ T47.heap _
    rw [e47]
    have k50 := (k46.wr W47)
    have k51 := (((((((((Fw2.other W7 (Or.inr (slot_ne (Or.inr (wd hw 19 rfl)) (Or.inr (wd hw 21 rfl)) (by decide) (t := (.object "java/lang/String")) (t' := (.object "java/lang/String")) (by decide) (by decide)))).other W12 (Or.inr (slot_ne (Or.inr (wd hw 19 rfl)) (Or.inr (wd hw 23 rfl)) (by decide) (t := (.object "java/lang/String")) (t' := (.object "java/lang/String")) (by decide) (by decide)))).other W17 (Or.inr (slot_ne (Or.inr (wd hw 19 rfl)) (Or.inr (wd hw 25 rfl)) (by decide) (t := (.object "java/lang/String")) (t' := (.object "java/lang/String")) (by decide) (by decide)))).other W22 (Or.inr (slot_ne (Or.inr (wd hw 19 rfl)) (Or.inr (wd hw 27 rfl)) (by decide) (t := (.object "java/lang/String")) (t' := (.object "java/lang/String")) (by decide) (by decide)))).other W27 (Or.inr (slot_ne (Or.inr (wd hw 19 rfl)) (Or.inr (wd hw 29 rfl)) (by decide) (t := (.object "java/lang/String")) (t' := (.object "java/lang/String")) (by decide) (by decide)))).other W32 (Or.inr (slot_ne (Or.inr (wd hw 19 rfl)) (Or.inr (wd hw 31 rfl)) (by decide) (t := (.object "java/lang/String")) (t' := (.object "java/lang/String")) (by decide) (by decide)))).other W37 (Or.inr (slot_ne (Or.inr (wd hw 19 rfl)) (Or.inr (wd hw 33 rfl)) (by decide) (t := (.object "java/lang/String")) (t' := (.object "java/lang/String")) (by decide) (by decide)))).other W42 (Or.inr (slot_ne (Or.inr (wd hw 19 rfl)) (Or.inr (wd hw 35 rfl)) (by decide) (t := (.object "java/lang/String")) (t' := (.object "java/lang/String")) (by decide) (by decide)))).other W47 (Or.inr (slot_ne (Or.inr (wd hw 19 rfl)) (Or.inr (wd hw 37 rfl)) (by decide) (t := (.object "java/lang/String")) (t' := (.object "java/lang/String")) (by decide) (by decide))))
    have k52 := ((((((((Fw7.other W12 (Or.inr (slot_ne (Or.inr (wd hw 21 rfl)) (Or.inr (wd hw 23 rfl)) (by decide) (t := (.object "java/lang/String")) (t' := (.object "java/lang/String")) (by decide) (by decide)))).other W17 (Or.inr (slot_ne (Or.inr (wd hw 21 rfl)) (Or.inr (wd hw 25 rfl)) (by decide) (t := (.object "java/lang/String")) (t' := (.object "java/lang/String")) (by decide) (by decide)))).other W22 (Or.inr (slot_ne (Or.inr (wd hw 21 rfl)) (Or.inr (wd hw 27 rfl)) (by decide) (t := (.object "java/lang/String")) (t' := (.object "java/lang/String")) (by decide) (by decide)))).other W27 (Or.inr (slot_ne (Or.inr (wd hw 21 rfl)) (Or.inr (wd hw 29 rfl)) (by decide) (t := (.object "java/lang/String")) (t' := (.object "java/lang/String")) (by decide) (by decide)))).other W32 (Or.inr (slot_ne (Or.inr (wd hw 21 rfl)) (Or.inr (wd hw 31 rfl)) (by decide) (t := (.object "java/lang/String")) (t' := (.object "java/lang/String")) (by decide) (by decide)))).other W37 (Or.inr (slot_ne (Or.inr (wd hw 21 rfl)) (Or.inr (wd hw 33 rfl)) (by decide) (t := (.object "java/lang/String")) (t' := (.object "java/lang/String")) (by decide) (by decide)))).other W42 (Or.inr (slot_ne (Or.inr (wd hw 21 rfl)) (Or.inr (wd hw 35 rfl)) (by decide) (t := (.object "java/lang/String")) (t' := (.object "java/lang/String")) (by decide) (by decide)))).other W47 (Or.inr (slot_ne (Or.inr (wd hw 21 rfl)) (Or.inr (wd hw 37 rfl)) (by decide) (t := (.object "java/lang/String")) (t' := (.object "java/lang/String")) (by decide) (by decide))))
    have k53 := (((((((Fw12.other W17 (Or.inr (slot_ne (Or.inr (wd hw 23 rfl)) (Or.inr (wd hw 25 rfl)) (by decide) (t := (.object "java/lang/String")) (t' := (.object "java/lang/String")) (by decide) (by decide)))).other W22 (Or.inr (slot_ne (Or.inr (wd hw 23 rfl)) (Or.inr (wd hw 27 rfl)) (by decide) (t := (.object "java/lang/String")) (t' := (.object "java/lang/String")) (by decide) (by decide)))).other W27 (Or.inr (slot_ne (Or.inr (wd hw 23 rfl)) (Or.inr (wd hw 29 rfl)) (by decide) (t := (.object "java/lang/String")) (t' := (.object "java/lang/String")) (by decide) (by decide)))).other W32 (Or.inr (slot_ne (Or.inr (wd hw 23 rfl)) (Or.inr (wd hw 31 rfl)) (by decide) (t := (.object "java/lang/String")) (t' := (.object "java/lang/String")) (by decide) (by decide)))).other W37 (Or.inr (slot_ne (Or.inr (wd hw 23 rfl)) (Or.inr (wd hw 33 rfl)) (by decide) (t := (.object "java/lang/String")) (t' := (.object "java/lang/String")) (by decide) (by decide)))).other W42 (Or.inr (slot_ne (Or.inr (wd hw 23 rfl)) (Or.inr (wd hw 35 rfl)) (by decide) (t := (.object "java/lang/String")) (t' := (.object "java/lang/String")) (by decide) (by decide)))).other W47 (Or.inr (slot_ne (Or.inr (wd hw 23 rfl)) (Or.inr (wd hw 37 rfl)) (by decide) (t := (.object "java/lang/String")) (t' := (.object "java/lang/String")) (by decide) (by decide))))
    have k54 := ((((((Fw17.other W22 (Or.inr (slot_ne (Or.inr (wd hw 25 rfl)) (Or.inr (wd hw 27 rfl)) (by decide) (t := (.object "java/lang/String")) (t' := (.object "java/lang/String")) (by decide) (by decide)))).other W27 (Or.inr (slot_ne (Or.inr (wd hw 25 rfl)) (Or.inr (wd hw 29 rfl)) (by decide) (t := (.object "java/lang/String")) (t' := (.object "java/lang/String")) (by decide) (by decide)))).other W32 (Or.inr (slot_ne (Or.inr (wd hw 25 rfl)) (Or.inr (wd hw 31 rfl)) (by decide) (t := (.object "java/lang/String")) (t' := (.object "java/lang/String")) (by decide) (by decide)))).other W37 (Or.inr (slot_ne (Or.inr (wd hw 25 rfl)) (Or.inr (wd hw 33 rfl)) (by decide) (t := (.object "java/lang/String")) (t' := (.object "java/lang/String")) (by decide) (by decide)))).other W42 (Or.inr (slot_ne (Or.inr (wd hw 25 rfl)) (Or.inr (wd hw 35 rfl)) (by decide) (t := (.object "java/lang/String")) (t' := (.object "java/lang/String")) (by decide) (by decide)))).other W47 (Or.inr (slot_ne (Or.inr (wd hw 25 rfl)) (Or.inr (wd hw 37 rfl)) (by decide) (t := (.object "java/lang/String")) (t' := (.object "java/lang/String")) (by decide) (by decide))))
    have k55 := (((((Fw22.other W27 (Or.inr (slot_ne (Or.inr (wd hw 27 rfl)) (Or.inr (wd hw 29 rfl)) (by decide) (t := (.object "java/lang/String")) (t' := (.object "java/lang/String")) (by decide) (by decide)))).other W32 (Or.inr (slot_ne (Or.inr (wd hw 27 rfl)) (Or.inr (wd hw 31 rfl)) (by decide) (t := (.object "java/lang/String")) (t' := (.object "java/lang/String")) (by decide) (by decide)))).other W37 (Or.inr (slot_ne (Or.inr (wd hw 27 rfl)) (Or.inr (wd hw 33 rfl)) (by decide) (t := (.object "java/lang/String")) (t' := (.object "java/lang/String")) (by decide) (by decide)))).other W42 (Or.inr (slot_ne (Or.inr (wd hw 27 rfl)) (Or.inr (wd hw 35 rfl)) (by decide) (t := (.object "java/lang/String")) (t' := (.object "java/lang/String")) (by decide) (by decide)))).other W47 (Or.inr (slot_ne (Or.inr (wd hw 27 rfl)) (Or.inr (wd hw 37 rfl)) (by decide) (t := (.object "java/lang/String")) (t' := (.object "java/lang/String")) (by decide) (by decide))))
    have k56 := ((((Fw27.other W32 (Or.inr (slot_ne (Or.inr (wd hw 29 rfl)) (Or.inr (wd hw 31 rfl)) (by decide) (t := (.object "java/lang/String")) (t' := (.object "java/lang/String")) (by decide) (by decide)))).other W37 (Or.inr (slot_ne (Or.inr (wd hw 29 rfl)) (Or.inr (wd hw 33 rfl)) (by decide) (t := (.object "java/lang/String")) (t' := (.object "java/lang/String")) (by decide) (by decide)))).other W42 (Or.inr (slot_ne (Or.inr (wd hw 29 rfl)) (Or.inr (wd hw 35 rfl)) (by decide) (t := (.object "java/lang/String")) (t' := (.object "java/lang/String")) (by decide) (by decide)))).other W47 (Or.inr (slot_ne (Or.inr (wd hw 29 rfl)) (Or.inr (wd hw 37 rfl)) (by decide) (t := (.object "java/lang/String")) (t' := (.object "java/lang/String")) (by decide) (by decide))))
    have k57 := (((Fw32.other W37 (Or.inr (slot_ne (Or.inr (wd hw 31 rfl)) (Or.inr (wd hw 33 rfl)) (by decide) (t := (.object "java/lang/String")) (t' := (.object "java/lang/String")) (by decide) (by decide)))).other W42 (Or.inr (slot_ne (Or.inr (wd hw 31 rfl)) (Or.inr (wd hw 35 rfl)) (by decide) (t := (.object "java/lang/String")) (t' := (.object "java/lang/String")) (by decide) (by decide)))).other W47 (Or.inr (slot_ne (Or.inr (wd hw 31 rfl)) (Or.inr (wd hw 37 rfl)) (by decide) (t := (.object "java/lang/String")) (t' := (.object "java/lang/String")) (by decide) (by decide))))
    have k58 := ((Fw37.other W42 (Or.inr (slot_ne (Or.inr (wd hw 33 rfl)) (Or.inr (wd hw 35 rfl)) (by decide) (t := (.object "java/lang/String")) (t' := (.object "java/lang/String")) (by decide) (by decide)))).other W47 (Or.inr (slot_ne (Or.inr (wd hw 33 rfl)) (Or.inr (wd hw 37 rfl)) (by decide) (t := (.object "java/lang/String")) (t' := (.object "java/lang/String")) (by decide) (by decide))))
    have k59 := (Fw42.other W47 (Or.inr (slot_ne (Or.inr (wd hw 35 rfl)) (Or.inr (wd hw 37 rfl)) (by decide) (t := (.object "java/lang/String")) (t' := (.object "java/lang/String")) (by decide) (by decide))))
    exact ⟨N47, rfl, (((((((((((Keep.refl h0 [o0]).wr W2 (Or.inl (List.mem_of_getElem? (i := 0) rfl))).wr W7 (Or.inl (List.mem_of_getElem? (i := 0) rfl))).wr W12 (Or.inl (List.mem_of_getElem? (i := 0) rfl))).wr W17 (Or.inl (List.mem_of_getElem? (i := 0) rfl))).wr W22 (Or.inl (List.mem_of_getElem? (i := 0) rfl))).wr W27 (Or.inl (List.mem_of_getElem? (i := 0) rfl))).wr W32 (Or.inl (List.mem_of_getElem? (i := 0) rfl))).wr W37 (Or.inl (List.mem_of_getElem? (i := 0) rfl))).wr W42 (Or.inl (List.mem_of_getElem? (i := 0) rfl))).wr W47 (Or.inl (List.mem_of_getElem? (i := 0) rfl))), k50, k51, k52, k53, k54, k55, k56, k57, k58, k59, Fw47⟩
theorem pd_h550216 : parseMethodDescriptor "(Ljava/lang/String;Ljava/lang/String;Ljava/lang/String;Ljava/lang/String;Ljava/lang/String;Ljava/lang/String;Ljava/lang/String;Ljava/lang/String;Ljava/lang/String;Ljava/lang/String;)V" = some ⟨[(.object "java/lang/String"), (.object "java/lang/String"), (.object "java/lang/String"), (.object "java/lang/String"), (.object "java/lang/String"), (.object "java/lang/String"), (.object "java/lang/String"), (.object "java/lang/String"), (.object "java/lang/String"), (.object "java/lang/String")], none⟩ := by decide +kernel
theorem d6_0 : decode prog_16_method_1_code 0 = .ok (.aload_n 0, 1) := by decide +kernel
theorem d6_1 : decode prog_16_method_1_code 1 = .ok (.aload_n 1, 1) := by decide +kernel
theorem d6_2 : decode prog_16_method_1_code 2 = .ok (.aload_n 2, 1) := by decide +kernel
theorem d6_3 : decode prog_16_method_1_code 3 = .ok (.aload_n 3, 1) := by decide +kernel
theorem d6_4 : decode prog_16_method_1_code 4 = .ok (.aload 4, 2) := by decide +kernel
theorem d6_6 : decode prog_16_method_1_code 6 = .ok (.aload 5, 2) := by decide +kernel
theorem d6_8 : decode prog_16_method_1_code 8 = .ok (.aconst_null, 1) := by decide +kernel
theorem d6_9 : decode prog_16_method_1_code 9 = .ok (.aconst_null, 1) := by decide +kernel
theorem d6_10 : decode prog_16_method_1_code 10 = .ok (.aconst_null, 1) := by decide +kernel
theorem d6_11 : decode prog_16_method_1_code 11 = .ok (.aconst_null, 1) := by decide +kernel
theorem d6_12 : decode prog_16_method_1_code 12 = .ok (.aconst_null, 1) := by decide +kernel
theorem d6_13 : decode prog_16_method_1_code 13 = .ok (.invokespecial 40, 3) := by decide +kernel
theorem d6_16 : decode prog_16_method_1_code 16 = .ok (.return_, 1) := by decide +kernel
theorem ef_6 (m : MethodId) (o0 : Addr) (m1 : Value) (m2 : Value) (m3 : Value) (m4 : Value) (m5 : Value) (hm1 : m1.isRef = true) (hm2 : m2.isRef = true) (hm3 : m3.isRef = true) (hm4 : m4.isRef = true) (hm5 : m5.isRef = true) : entryFrame m #[(.ref o0), m1, m2, m3, m4, m5] 6 = mkF m 0 #[.val (.ref o0), .val m1, .val m2, .val m3, .val m4, .val m5] [] := by
  simp [entryFrame, mkF, argsToLocals, own_ct1, own_ct0, own_cat hm1, own_cat hm2, own_cat hm3, own_cat hm4, own_cat hm5]
def Q6 (Z : State) (o0 : Addr) (m1 : Value) (m2 : Value) (m3 : Value) (m4 : Value) (m5 : Value) (u0_domain : Value) (u1_user : Value) (u2_project : Value) (u3_expires : Value) (u4_nonce : Value) (u5_accessKey : Value) (u6_algorithm : Value) (u7_method : Value) (u8_target : Value) (u9_bodySha256 : Value) (h0 : Heap) (n0 : Nat) (v : Option Value) (h : Heap) (L : List Loc) : Prop := Fr n0 L ∧ v = none ∧ Keep h0 h [o0] ∧ Exa Z h o0 "com/example/tollgate/tollgate/signing/SignedCall" ∧ Fld Z h o0 "com/example/tollgate/tollgate/signing/SignedCall" "domain" "Ljava/lang/String;" m1 ∧ Fld Z h o0 "com/example/tollgate/tollgate/signing/SignedCall" "user" "Ljava/lang/String;" m2 ∧ Fld Z h o0 "com/example/tollgate/tollgate/signing/SignedCall" "project" "Ljava/lang/String;" m3 ∧ Fld Z h o0 "com/example/tollgate/tollgate/signing/SignedCall" "expires" "Ljava/lang/String;" m4 ∧ Fld Z h o0 "com/example/tollgate/tollgate/signing/SignedCall" "nonce" "Ljava/lang/String;" m5 ∧ Fld Z h o0 "com/example/tollgate/tollgate/signing/SignedCall" "accessKey" "Ljava/lang/String;" .null ∧ Fld Z h o0 "com/example/tollgate/tollgate/signing/SignedCall" "algorithm" "Ljava/lang/String;" .null ∧ Fld Z h o0 "com/example/tollgate/tollgate/signing/SignedCall" "method" "Ljava/lang/String;" .null ∧ Fld Z h o0 "com/example/tollgate/tollgate/signing/SignedCall" "target" "Ljava/lang/String;" .null ∧ Fld Z h o0 "com/example/tollgate/tollgate/signing/SignedCall" "bodySha256" "Ljava/lang/String;" .null
set_option maxRecDepth 65536 in
set_option maxHeartbeats 40000000 in
theorem rm6 (l : Launch) (Z : State) (a0 : Array Value) (hw : ∀ d ∈ tables_1, d.before a0 Z = true) (ws : List Jvm.Cond) (o0 : Addr) (m1 : Value) (m2 : Value) (m3 : Value) (m4 : Value) (m5 : Value) (u0_domain : Value) (u1_user : Value) (u2_project : Value) (u3_expires : Value) (u4_nonce : Value) (u5_accessKey : Value) (u6_algorithm : Value) (u7_method : Value) (u8_target : Value) (u9_bodySha256 : Value) (h0 : Heap) (n0 : Nat) (Z0 : n0 ≤ h0.size) (E_o0 : Exa Z h0 o0 "com/example/tollgate/tollgate/signing/SignedCall") (hm1 : m1.isRef = true) (hm2 : m2.isRef = true) (hm3 : m3.isRef = true) (hm4 : m4.isRef = true) (hm5 : m5.isRef = true) (F_domain_o0 : Fld Z h0 o0 "com/example/tollgate/tollgate/signing/SignedCall" "domain" "Ljava/lang/String;" u0_domain) (g_o0 : n0 ≤ o0) (F_user_o0 : Fld Z h0 o0 "com/example/tollgate/tollgate/signing/SignedCall" "user" "Ljava/lang/String;" u1_user) (F_project_o0 : Fld Z h0 o0 "com/example/tollgate/tollgate/signing/SignedCall" "project" "Ljava/lang/String;" u2_project) (F_expires_o0 : Fld Z h0 o0 "com/example/tollgate/tollgate/signing/SignedCall" "expires" "Ljava/lang/String;" u3_expires) (F_nonce_o0 : Fld Z h0 o0 "com/example/tollgate/tollgate/signing/SignedCall" "nonce" "Ljava/lang/String;" u4_nonce) (F_accessKey_o0 : Fld Z h0 o0 "com/example/tollgate/tollgate/signing/SignedCall" "accessKey" "Ljava/lang/String;" u5_accessKey) (F_algorithm_o0 : Fld Z h0 o0 "com/example/tollgate/tollgate/signing/SignedCall" "algorithm" "Ljava/lang/String;" u6_algorithm) (F_method_o0 : Fld Z h0 o0 "com/example/tollgate/tollgate/signing/SignedCall" "method" "Ljava/lang/String;" u7_method) (F_target_o0 : Fld Z h0 o0 "com/example/tollgate/tollgate/signing/SignedCall" "target" "Ljava/lang/String;" u8_target) (F_bodySha256_o0 : Fld Z h0 o0 "com/example/tollgate/tollgate/signing/SignedCall" "bodySha256" "Ljava/lang/String;" u9_bodySha256) :
    MetFree l (⟨"com/example/tollgate/tollgate/signing/SignedCall", "<init>", "(Ljava/lang/String;Ljava/lang/String;Ljava/lang/String;Ljava/lang/String;Ljava/lang/String;)V"⟩ : MethodName) (head1 (Jvm.Cond.code (⟨"com/example/tollgate/tollgate/signing/SignedCall", "<init>", "(Ljava/lang/String;Ljava/lang/String;Ljava/lang/String;Ljava/lang/String;Ljava/lang/String;)V"⟩ : MethodName) prog_16_method_1_code 6 none :: ws) ({ frames := 3, cells := 0, slots := 0, locals := 46 } : Room)) (fun a U => a = #[(.ref o0), m1, m2, m3, m4, m5] ∧ Z.Warmed39 U.vm ∧ U.heap = h0) (fun _ _ _ _ _ => True) (fun _ U o U' => ∃ v L, o = .returned v ∧ Q6 Z o0 m1 m2 m3 m4 m5 u0_domain u1_user u2_project u3_expires u4_nonce u5_accessKey u6_algorithm u7_method u8_target u9_bodySha256 h0 n0 v U'.heap L ∧ FrameEnd U o U' L ({ frames := 3, cells := 0, slots := 0, locals := 46 } : Room).cells ({ frames := 3, cells := 0, slots := 0, locals := 46 } : Room).slots) := by
  refine MetFree.of_bodySF (plainFor_of_name pn_com_example_tollgate_tollgate_signing_SignedCall) hisR ?_
  intro p e s m args below meth c s₁ Bd hml0 hP hK
  obtain ⟨rfl, hZ, hh⟩ := hP
  have hx := Bd.exec
  have hby := Bd.bytes
  have hml : c.maxLocals = 6 := hml0
  have hown : s.vm.findClass "com/example/tollgate/tollgate/signing/SignedCall" = some m.cls := findClass_of_methodNamed Bd.named
  have hnm := (name_of_methodNamed Bd.named Bd.method).1
  have hlk := BodyLoose.notSynchronized Bd
  have X0 : Stand p l e ({ frames := 3, cells := 0, slots := 0, locals := 46 } : Room) s m #[(.ref o0), m1, m2, m3, m4, m5] below meth c s₁ [] 0 0 := Stand.of_body Bd
  have e0 : s₁.heap = h0 := by rw [← hh, Bd.state]; rfl
  have N0 := Fr.nil n0
  have pre0 : ∀ t, Steps p.tables e below (s₁.setTop (mkF m 0 #[.val (.ref o0), .val m1, .val m2, .val m3, .val m4, .val m5] [])) t → Steps p.tables e below (s₁.setTop (entryFrame m #[(.ref o0), m1, m2, m3, m4, m5] 6)) t := fun t k => castTop (ef_6 m o0 m1 m2 m3 m4 m5 hm1 hm2 hm3 hm4 hm5) k
  obtain ⟨vr1, _, ⟨T1, L1, k1, n1⟩, -, X1, ⟨Lc1, hQ1, l1, y1, z1⟩, st1⟩ := Jvm.Stand.specialBack X0 hx (y := (⟨"com/example/tollgate/tollgate/signing/SignedCall", "<init>", "(Ljava/lang/String;Ljava/lang/String;Ljava/lang/String;Ljava/lang/String;Ljava/lang/String;Ljava/lang/String;Ljava/lang/String;Ljava/lang/String;Ljava/lang/String;Ljava/lang/String;)V"⟩ : MethodName)) rfl hown (mvT hZ (wd hw 46 rfl)) (mvT hZ (wd hw 8 rfl)) (mvT hZ (wd hw 9 rfl)) (by decide) (backOf (W := 0) (rm2 l Z a0 hw [] o0 m1 m2 m3 m4 m5 .null .null .null .null .null u0_domain u1_user u2_project u3_expires u4_nonce u5_accessKey u6_algorithm u7_method u8_target u9_bodySha256 h0 n0 Z0 E_o0 hm1 hm2 hm3 hm4 hm5 rfl rfl rfl rfl rfl F_domain_o0 g_o0 F_user_o0 F_project_o0 F_expires_o0 F_nonce_o0 F_accessKey_o0 F_algorithm_o0 F_method_o0 F_target_o0 F_bodySha256_o0) hZ (wd hw 9 rfl) (wd hw 6 rfl) (by decide) (by decide)) (g := (mkF m 13 #[.val (.ref o0), .val m1, .val m2, .val m3, .val m4, .val m5] [.null, .null, .null, .null, .null, m5, m4, m3, m2, m1, (.ref o0)])) rfl (by rw [hml]; rfl) (Steps.refl _) (a := o0) (argsL := [m1, m2, m3, m4, m5, .null, .null, .null, .null, .null]) (rest := []) (lenOf pd_h550216 rfl) rfl (by show 2 * 0 + _ ≤ _; exact Nat.le_of_eq rfl) (hb hby d6_13) (fun _ _ => ⟨rfl, e0, (by decide : 0 + 0 ≤ _), (by decide : 0 + 0 ≤ _)⟩)
  dsimp only [Pt.U, Pt.locs, Pt.cells, Pt.slots] at X1 l1 y1 z1 st1 hQ1
  replace X1 := own_stand X1 l1 y1 z1
  clear l1 y1 z1
  have N1q := (show _ ∧ _ from hQ1).1
  have hq1 := (show _ ∧ _ from hQ1).2
  clear hQ1
  have hv1 := hq1.1
  have K1 := hq1.2.1
  have po1_0 := hq1.2.2.1
  have po1_1 := hq1.2.2.2.1
  have po1_2 := hq1.2.2.2.2.1
  have po1_3 := hq1.2.2.2.2.2.1
  have po1_4 := hq1.2.2.2.2.2.2.1
  have po1_5 := hq1.2.2.2.2.2.2.2.1
  have po1_6 := hq1.2.2.2.2.2.2.2.2.1
  have po1_7 := hq1.2.2.2.2.2.2.2.2.2.1
  have po1_8 := hq1.2.2.2.2.2.2.2.2.2.2.1
  have po1_9 := hq1.2.2.2.2.2.2.2.2.2.2.2.1
  have po1_10 := hq1.2.2.2.2.2.2.2.2.2.2.2.2
  clear hq1
  subst hv1
  have z2 : n0 ≤ T1.heap.size := Nat.le_trans Z0 K1.1
  have hs3 : h0.size ≤ T1.heap.size := Nat.le_trans (Nat.le_refl h0.size) K1.1
  have N1 := Fr.app N0 N1q
  obtain ⟨fs, hr, hrun, hended, hW, hsame⟩ := X1.leave (v := none) (fun _ => rfl) hlk
  refine ⟨_, _, pre0 _ ?_, hrun, hended, _, _, rfl, ?_, ⟨_, rfl⟩, hW, hsame.mono (by decide) (by decide)⟩
  · skip
    show Steps p.tables e below (s₁.setTop (mkF m 0 #[.val (.ref o0), .val m1, .val m2, .val m3, .val m4, .val m5] [])) _
    refine XS.aloadN X0.here hx rfl (hb hby d6_0) rfl rfl ?_
    refine XS.aloadN X0.here hx rfl (hb hby d6_1) rfl hm1 ?_
    refine XS.aloadN X0.here hx rfl (hb hby d6_2) rfl hm2 ?_
    refine XS.aloadN X0.here hx rfl (hb hby d6_3) rfl hm3 ?_
    show Steps p.tables e below (s₁.setTop (mkF m 4 #[.val (.ref o0), .val m1, .val m2, .val m3, .val m4, .val m5] [m3, m2, m1, (.ref o0)])) _
    refine XS.aload X0.here hx rfl (hb hby d6_4) rfl hm4 ?_
    refine XS.aload X0.here hx rfl (hb hby d6_6) rfl hm5 ?_
    show Steps p.tables e below (s₁.setTop (mkF m 8 #[.val (.ref o0), .val m1, .val m2, .val m3, .val m4, .val m5] [m5, m4, m3, m2, m1, (.ref o0)])) _
    refine XS.aconstNull X0.here hx rfl (hb hby d6_8) ?_
    show Steps p.tables e below (s₁.setTop (mkF m 9 #[.val (.ref o0), .val m1, .val m2, .val m3, .val m4, .val m5] [.null, m5, m4, m3, m2, m1, (.ref o0)])) _
    refine XS.aconstNull X0.here hx rfl (hb hby d6_9) ?_
    show Steps p.tables e below (s₁.setTop (mkF m 10 #[.val (.ref o0), .val m1, .val m2, .val m3, .val m4, .val m5] [.null, .null, m5, m4, m3, m2, m1, (.ref o0)])) _
    refine XS.aconstNull X0.here hx rfl (hb hby d6_10) ?_
    show Steps p.tables e below (s₁.setTop (mkF m 11 #[.val (.ref o0), .val m1, .val m2, .val m3, .val m4, .val m5] [.null, .null, .null, m5, m4, m3, m2, m1, (.ref o0)])) _
    refine XS.aconstNull X0.here hx rfl (hb hby d6_11) ?_
    show Steps p.tables e below (s₁.setTop (mkF m 12 #[.val (.ref o0), .val m1, .val m2, .val m3, .val m4, .val m5] [.null, .null, .null, .null, m5, m4, m3, m2, m1, (.ref o0)])) _
    refine XS.aconstNull X0.here hx rfl (hb hby d6_12) ?_
    show Steps p.tables e below (s₁.setTop (mkF m 13 #[.val (.ref o0), .val m1, .val m2, .val m3, .val m4, .val m5] [.null, .null, .null, .null, .null, m5, m4, m3, m2, m1, (.ref o0)])) _
    refine st1.trans ?_
    show Steps p.tables e below (T1.setTop (mkF m 16 #[.val (.ref o0), .val m1, .val m2, .val m3, .val m4, .val m5] [])) _
    exact X1.returnOut hx Bd.returns (hb hby d6_16) hr
  · skip
    show Q6 Z o0 m1 m2 m3 m4 m5 u0_domain u1_user u2_project u3_expires u4_nonce u5_accessKey u6_algorithm u7_method u8_target u9_bodySha256 h0 n0 _ T1.heap _
    exact ⟨N1, rfl, ((Keep.refl h0 [o0]).trans K1 (allS (Or.inl (List.mem_of_getElem? (i := 0) rfl)) all0)), po1_0, po1_1, po1_2, po1_3, po1_4, po1_5, po1_6, po1_7, po1_8, po1_9, po1_10⟩
theorem d5_0 : decode prog_16_method_5_code 0 = .ok (.aload_n 0, 1) := by decide +kernel
theorem d5_1 : decode prog_16_method_5_code 1 = .ok (.getfield 25, 3) := by decide +kernel
theorem d5_4 : decode prog_16_method_5_code 4 = .ok (.ifnonnull 10, 3) := by decide +kernel
theorem d5_7 : decode prog_16_method_5_code 7 = .ok (.aload_n 0, 1) := by decide +kernel
theorem d5_8 : decode prog_16_method_5_code 8 = .ok (.getfield 28, 3) := by decide +kernel
theorem d5_11 : decode prog_16_method_5_code 11 = .ok (.ifnull 7, 3) := by decide +kernel
theorem d5_14 : decode prog_16_method_5_code 14 = .ok (.iconst 1, 1) := by decide +kernel
theorem d5_15 : decode prog_16_method_5_code 15 = .ok (.goto 4, 3) := by decide +kernel
theorem d5_18 : decode prog_16_method_5_code 18 = .ok (.iconst 0, 1) := by decide +kernel
theorem d5_19 : decode prog_16_method_5_code 19 = .ok (.ireturn, 1) := by decide +kernel
theorem ef_5 (m : MethodId) (o0 : Addr) : entryFrame m #[(.ref o0)] 1 = mkF m 0 #[.val (.ref o0)] [] := by first | (simp [entryFrame, mkF, argsToLocals, Value.category]; done) | rfl
def v5_1 (u5_f : Value) (u6_f : Value) : Int32 := (if u5_f = Value.null then (if u6_f = Value.null then (0 : Int32) else (1 : Int32)) else (1 : Int32))
def f5 (u5_f : Value) (u6_f : Value) : Int32 := (nar .boolean (v5_1 u5_f u6_f))
def Q5 (Z : State) (o0 : Addr) (u5_f : Value) (u6_f : Value) (h0 : Heap) (n0 : Nat) (v : Option Value) (h : Heap) (L : List Loc) : Prop := Fr n0 L ∧ v = some (.int (f5 u5_f u6_f)) ∧ h = h0
set_option maxRecDepth 65536 in
set_option maxHeartbeats 40000000 in
theorem rm5 (l : Launch) (Z : State) (a0 : Array Value) (hw : ∀ d ∈ tables_1, d.before a0 Z = true) (ws : List Jvm.Cond) (o0 : Addr) (u5_f : Value) (u6_f : Value) (h0 : Heap) (n0 : Nat) (Z0 : n0 ≤ h0.size) (E_o0 : Exa Z h0 o0 "com/example/tollgate/tollgate/signing/SignedCall") (F_accessKey_o0 : Fld Z h0 o0 "com/example/tollgate/tollgate/signing/SignedCall" "accessKey" "Ljava/lang/String;" u5_f) (F_algorithm_o0 : Fld Z h0 o0 "com/example/tollgate/tollgate/signing/SignedCall" "algorithm" "Ljava/lang/String;" u6_f) (hf5 : u5_f.isRef = true) (hf6 : u6_f.isRef = true) :
    MetFree l (⟨"com/example/tollgate/tollgate/signing/SignedCall", "isKeyed", "()Z"⟩ : MethodName) (head1 (Jvm.Cond.code (⟨"com/example/tollgate/tollgate/signing/SignedCall", "isKeyed", "()Z"⟩ : MethodName) prog_16_method_5_code 1 (some .boolean) :: ws) ({ frames := 0, cells := 0, slots := 0, locals := 0 } : Room)) (fun a U => a = #[(.ref o0)] ∧ Z.Warmed39 U.vm ∧ U.heap = h0) (fun _ _ _ _ _ => True) (fun _ U o U' => ∃ v L, o = .returned v ∧ Q5 Z o0 u5_f u6_f h0 n0 v U'.heap L ∧ FrameEnd U o U' L ({ frames := 0, cells := 0, slots := 0, locals := 0 } : Room).cells ({ frames := 0, cells := 0, slots := 0, locals := 0 } : Room).slots) := by
  refine MetFree.of_bodySF (plainFor_of_name pn_com_example_tollgate_tollgate_signing_SignedCall) hisR ?_
  intro p e s m args below meth c s₁ Bd hml0 hP hK
  obtain ⟨rfl, hZ, hh⟩ := hP
  have hx := Bd.exec
  have hby := Bd.bytes
  have hml : c.maxLocals = 1 := hml0
  have hown : s.vm.findClass "com/example/tollgate/tollgate/signing/SignedCall" = some m.cls := findClass_of_methodNamed Bd.named
  have hnm := (name_of_methodNamed Bd.named Bd.method).1
  have hlk := BodyLoose.notSynchronized Bd
  have X0 : Stand p l e ({ frames := 0, cells := 0, slots := 0, locals := 0 } : Room) s m #[(.ref o0)] below meth c s₁ [] 0 0 := Stand.of_body Bd
  have e0 : s₁.heap = h0 := by rw [← hh, Bd.state]; rfl
  have N0 := Fr.nil n0
  have pre0 : ∀ t, Steps p.tables e below (s₁.setTop (mkF m 0 #[.val (.ref o0)] [])) t → Steps p.tables e below (s₁.setTop (entryFrame m #[(.ref o0)] 1)) t := fun t k => castTop (ef_5 m o0) k
  obtain ⟨T1, X1, e1, st1⟩ := getF X0 hx hZ hown (host := "") (Or.inl (wd hw 28 rfl)) Via.refl e0 F_accessKey_o0 (g := (mkF m 1 #[.val (.ref o0)] [(.ref o0)])) rfl rfl (hb hby d5_1)
  have pre2 : ∀ t, Steps p.tables e below (T1.setTop (mkF m 4 #[.val (.ref o0)] [u5_f])) t → Steps p.tables e below (s₁.setTop (entryFrame m #[(.ref o0)] 1)) t := by
    intro t k
    refine pre0 t ?_
    show Steps p.tables e below (s₁.setTop (mkF m 0 #[.val (.ref o0)] [])) _
    refine XS.aloadN X0.here hx rfl (hb hby d5_0) rfl rfl ?_
    show Steps p.tables e below (s₁.setTop (mkF m 1 #[.val (.ref o0)] [(.ref o0)])) _
    refine st1 _ ?_
    exact k
  clear pre0 st1
  obtain ⟨T7, L7, X7, e7, N7, pre7⟩ : ∃ (T' : State) (L' : List Loc), Stand p l e ({ frames := 0, cells := 0, slots := 0, locals := 0 } : Room) s m #[(.ref o0)] below meth c T' L' 0 0 ∧ T'.heap = h0 ∧ Fr n0 L' ∧ ∀ t, Steps p.tables e below (T'.setTop (mkF m 19 #[.val (.ref o0)] [(.int (v5_1 u5_f u6_f))])) t → Steps p.tables e below (s₁.setTop (entryFrame m #[(.ref o0)] 1)) t := by
    by_cases c3 : u5_f = Value.null
    · skip
      obtain ⟨T4, X4, e4, st4⟩ := getF X1 hx hZ hown (host := "") (Or.inl (wd hw 30 rfl)) Via.refl e1 F_algorithm_o0 (g := (mkF m 8 #[.val (.ref o0)] [(.ref o0)])) rfl rfl (hb hby d5_8)
      have pre5 : ∀ t, Steps p.tables e below (T4.setTop (mkF m 11 #[.val (.ref o0)] [u6_f])) t → Steps p.tables e below (s₁.setTop (entryFrame m #[(.ref o0)] 1)) t := by
        intro t k
        refine pre2 t ?_
        show Steps p.tables e below (T1.setTop (mkF m 4 #[.val (.ref o0)] [u5_f])) _
        rw [c3]
        refine XT.ifnonnullNo X1.here hx rfl (hb hby d5_4) rfl ?_
        refine XS.aloadN X1.here hx rfl (hb hby d5_7) rfl rfl ?_
        show Steps p.tables e below (T1.setTop (mkF m 8 #[.val (.ref o0)] [(.ref o0)])) _
        refine st4 _ ?_
        exact k
      clear pre2 st4
      by_cases c6 : u6_f = Value.null
      · skip
        refine ⟨T4, _, X4, e4, N0, fun t k => ?_⟩
        rw [show (v5_1 u5_f u6_f) = (0 : Int32) from ((if_pos c3).trans (if_pos c6))] at k
        refine pre5 t ?_
        show Steps p.tables e below (T4.setTop (mkF m 11 #[.val (.ref o0)] [u6_f])) _
        rw [c6]
        refine XS.ifnullYes X4.here hx rfl (pc0 := 11) (pc' := 18) rfl (hb hby d5_11) rfl (by decide) (by decide) ?_
        refine XT.iconstV X4.here hx rfl (0 : Int32) (hb hby d5_18) (by decide) ?_
        exact k
      · skip
        refine ⟨T4, _, X4, e4, N0, fun t k => ?_⟩
        rw [show (v5_1 u5_f u6_f) = (1 : Int32) from ((if_pos c3).trans (if_neg c6))] at k
        refine pre5 t ?_
        show Steps p.tables e below (T4.setTop (mkF m 11 #[.val (.ref o0)] [u6_f])) _
        obtain ⟨za, hza⟩ := own_rf hf6 c6
        rw [hza]
        refine XS.ifnullNo X4.here hx rfl (hb hby d5_11) rfl ?_
        refine XT.iconstV X4.here hx rfl (1 : Int32) (hb hby d5_14) (by decide) ?_
        show Steps p.tables e below (T4.setTop (mkF m 15 #[.val (.ref o0)] [(.int (1 : Int32))])) _
        refine XS.goto X4.here hx rfl (pc0 := 15) (pc' := 19) rfl (hb hby d5_15) (by decide) (by decide) ?_
        exact k
    · skip
      refine ⟨T1, _, X1, e1, N0, fun t k => ?_⟩
      rw [show (v5_1 u5_f u6_f) = (1 : Int32) from (if_neg c3)] at k
      refine pre2 t ?_
      show Steps p.tables e below (T1.setTop (mkF m 4 #[.val (.ref o0)] [u5_f])) _
      obtain ⟨za, hza⟩ := own_rf hf5 c3
      rw [hza]
      refine XT.ifnonnullYes X1.here hx rfl (pc0 := 4) (pc' := 14) rfl (hb hby d5_4) rfl (by decide) (by decide) ?_
      refine XT.iconstV X1.here hx rfl (1 : Int32) (hb hby d5_14) (by decide) ?_
      show Steps p.tables e below (T1.setTop (mkF m 15 #[.val (.ref o0)] [(.int (1 : Int32))])) _
      refine XS.goto X1.here hx rfl (pc0 := 15) (pc' := 19) rfl (hb hby d5_15) (by decide) (by decide) ?_
      exact k
  obtain ⟨fs, hr, hrun, hended, hW, hsame⟩ := X7.leave (v := some (.int (nar .boolean (v5_1 u5_f u6_f)))) (fun h => by rw [Bd.returns] at h; cases h) hlk
  refine ⟨_, _, pre7 _ ?_, hrun, hended, _, _, rfl, ?_, ⟨_, rfl⟩, hW, hsame.mono (by decide) (by decide)⟩
  · skip
    show Steps p.tables e below (T7.setTop (mkF m 19 #[.val (.ref o0)] [(.int (v5_1 u5_f u6_f))])) _
    exact retN X7 hx (t := .boolean) Bd.returns (by simp) (hb hby d5_19) hr
  · skip
    show Q5 Z o0 u5_f u6_f h0 n0 _ T7.heap _
    rw [e7]
    exact ⟨N7, rfl, rfl⟩
theorem d7_0 : decode prog_16_method_4_code 0 = .ok (.new 8, 3) := by decide +kernel
theorem d7_3 : decode prog_16_method_4_code 3 = .ok (.dup, 1) := by decide +kernel
theorem d7_4 : decode prog_16_method_4_code 4 = .ok (.aload_n 0, 1) := by decide +kernel
theorem d7_5 : decode prog_16_method_4_code 5 = .ok (.getfield 7, 3) := by decide +kernel
theorem d7_8 : decode prog_16_method_4_code 8 = .ok (.aload_n 0, 1) := by decide +kernel
theorem d7_9 : decode prog_16_method_4_code 9 = .ok (.getfield 13, 3) := by decide +kernel
theorem d7_12 : decode prog_16_method_4_code 12 = .ok (.aload_n 0, 1) := by decide +kernel
theorem d7_13 : decode prog_16_method_4_code 13 = .ok (.getfield 16, 3) := by decide +kernel
theorem d7_16 : decode prog_16_method_4_code 16 = .ok (.aload_n 0, 1) := by decide +kernel
theorem d7_17 : decode prog_16_method_4_code 17 = .ok (.getfield 19, 3) := by decide +kernel
theorem d7_20 : decode prog_16_method_4_code 20 = .ok (.aload_n 0, 1) := by decide +kernel
theorem d7_21 : decode prog_16_method_4_code 21 = .ok (.getfield 22, 3) := by decide +kernel
theorem d7_24 : decode prog_16_method_4_code 24 = .ok (.aload_n 0, 1) := by decide +kernel
theorem d7_25 : decode prog_16_method_4_code 25 = .ok (.getfield 25, 3) := by decide +kernel
theorem d7_28 : decode prog_16_method_4_code 28 = .ok (.aload_n 0, 1) := by decide +kernel
theorem d7_29 : decode prog_16_method_4_code 29 = .ok (.getfield 28, 3) := by decide +kernel
theorem d7_32 : decode prog_16_method_4_code 32 = .ok (.aload_n 1, 1) := by decide +kernel
theorem d7_33 : decode prog_16_method_4_code 33 = .ok (.aload_n 2, 1) := by decide +kernel
theorem d7_34 : decode prog_16_method_4_code 34 = .ok (.aload_n 3, 1) := by decide +kernel
theorem d7_35 : decode prog_16_method_4_code 35 = .ok (.invokespecial 40, 3) := by decide +kernel
theorem d7_38 : decode prog_16_method_4_code 38 = .ok (.areturn, 1) := by decide +kernel
theorem ef_7 (m : MethodId) (o0 : Addr) (m1 : Value) (m2 : Value) (m3 : Value) (hm1 : m1.isRef = true) (hm2 : m2.isRef = true) (hm3 : m3.isRef = true) : entryFrame m #[(.ref o0), m1, m2, m3] 4 = mkF m 0 #[.val (.ref o0), .val m1, .val m2, .val m3] [] := by
  simp [entryFrame, mkF, argsToLocals, own_ct1, own_ct0, own_cat hm1, own_cat hm2, own_cat hm3]
def Q7 (Z : State) (o0 : Addr) (m1 : Value) (m2 : Value) (m3 : Value) (u0_f : Value) (u1_f : Value) (u2_f : Value) (u3_f : Value) (u4_f : Value) (u5_f : Value) (u6_f : Value) (h0 : Heap) (n0 : Nat) (v : Option Value) (h : Heap) (L : List Loc) : Prop := Fr n0 L ∧ ∃ (x7_0 : Addr), v = some (.ref x7_0) ∧ h0.size ≤ x7_0 ∧ Keep h0 h [] ∧ Exa Z h x7_0 "com/example/tollgate/tollgate/signing/SignedCall" ∧ Fld Z h x7_0 "com/example/tollgate/tollgate/signing/SignedCall" "domain" "Ljava/lang/String;" u0_f ∧ Fld Z h x7_0 "com/example/tollgate/tollgate/signing/SignedCall" "user" "Ljava/lang/String;" u1_f ∧ Fld Z h x7_0 "com/example/tollgate/tollgate/signing/SignedCall" "project" "Ljava/lang/String;" u2_f ∧ Fld Z h x7_0 "com/example/tollgate/tollgate/signing/SignedCall" "expires" "Ljava/lang/String;" u3_f ∧ Fld Z h x7_0 "com/example/tollgate/tollgate/signing/SignedCall" "nonce" "Ljava/lang/String;" u4_f ∧ Fld Z h x7_0 "com/example/tollgate/tollgate/signing/SignedCall" "accessKey" "Ljava/lang/String;" u5_f ∧ Fld Z h x7_0 "com/example/tollgate/tollgate/signing/SignedCall" "algorithm" "Ljava/lang/String;" u6_f ∧ Fld Z h x7_0 "com/example/tollgate/tollgate/signing/SignedCall" "method" "Ljava/lang/String;" m1 ∧ Fld Z h x7_0 "com/example/tollgate/tollgate/signing/SignedCall" "target" "Ljava/lang/String;" m2 ∧ Fld Z h x7_0 "com/example/tollgate/tollgate/signing/SignedCall" "bodySha256" "Ljava/lang/String;" m3
set_option maxRecDepth 65536 in
set_option maxHeartbeats 40000000 in
theorem rm7 (l : Launch) (Z : State) (a0 : Array Value) (hw : ∀ d ∈ tables_1, d.before a0 Z = true) (ws : List Jvm.Cond) (o0 : Addr) (m1 : Value) (m2 : Value) (m3 : Value) (u0_f : Value) (u1_f : Value) (u2_f : Value) (u3_f : Value) (u4_f : Value) (u5_f : Value) (u6_f : Value) (h0 : Heap) (n0 : Nat) (Z0 : n0 ≤ h0.size) (E_o0 : Exa Z h0 o0 "com/example/tollgate/tollgate/signing/SignedCall") (F_domain_o0 : Fld Z h0 o0 "com/example/tollgate/tollgate/signing/SignedCall" "domain" "Ljava/lang/String;" u0_f) (F_user_o0 : Fld Z h0 o0 "com/example/tollgate/tollgate/signing/SignedCall" "user" "Ljava/lang/String;" u1_f) (F_project_o0 : Fld Z h0 o0 "com/example/tollgate/tollgate/signing/SignedCall" "project" "Ljava/lang/String;" u2_f) (F_expires_o0 : Fld Z h0 o0 "com/example/tollgate/tollgate/signing/SignedCall" "expires" "Ljava/lang/String;" u3_f) (F_nonce_o0 : Fld Z h0 o0 "com/example/tollgate/tollgate/signing/SignedCall" "nonce" "Ljava/lang/String;" u4_f) (F_accessKey_o0 : Fld Z h0 o0 "com/example/tollgate/tollgate/signing/SignedCall" "accessKey" "Ljava/lang/String;" u5_f) (F_algorithm_o0 : Fld Z h0 o0 "com/example/tollgate/tollgate/signing/SignedCall" "algorithm" "Ljava/lang/String;" u6_f) (hf0 : u0_f.isRef = true) (hf1 : u1_f.isRef = true) (hf2 : u2_f.isRef = true) (hf3 : u3_f.isRef = true) (hf4 : u4_f.isRef = true) (hf5 : u5_f.isRef = true) (hf6 : u6_f.isRef = true) (hm1 : m1.isRef = true) (hm2 : m2.isRef = true) (hm3 : m3.isRef = true) :
    MetFree l (⟨"com/example/tollgate/tollgate/signing/SignedCall", "bound", "(Ljava/lang/String;Ljava/lang/String;Ljava/lang/String;)Lcom/example/tollgate/tollgate/signing/SignedCall;"⟩ : MethodName) (head1 (Jvm.Cond.code (⟨"com/example/tollgate/tollgate/signing/SignedCall", "bound", "(Ljava/lang/String;Ljava/lang/String;Ljava/lang/String;)Lcom/example/tollgate/tollgate/signing/SignedCall;"⟩ : MethodName) prog_16_method_4_code 4 (some (.object "com/example/tollgate/tollgate/signing/SignedCall")) :: ws) ({ frames := 3, cells := 1, slots := 10, locals := 47 } : Room)) (fun a U => a = #[(.ref o0), m1, m2, m3] ∧ Z.Warmed39 U.vm ∧ U.heap = h0) (fun _ _ _ _ _ => True) (fun _ U o U' => ∃ v L, o = .returned v ∧ Q7 Z o0 m1 m2 m3 u0_f u1_f u2_f u3_f u4_f u5_f u6_f h0 n0 v U'.heap L ∧ FrameEnd U o U' L ({ frames := 3, cells := 1, slots := 10, locals := 47 } : Room).cells ({ frames := 3, cells := 1, slots := 10, locals := 47 } : Room).slots) := by
  refine MetFree.of_bodySF (plainFor_of_name pn_com_example_tollgate_tollgate_signing_SignedCall) hisR ?_
  intro p e s m args below meth c s₁ Bd hml0 hP hK
  obtain ⟨rfl, hZ, hh⟩ := hP
  have hx := Bd.exec
  have hby := Bd.bytes
  have hml : c.maxLocals = 4 := hml0
  have hown : s.vm.findClass "com/example/tollgate/tollgate/signing/SignedCall" = some m.cls := findClass_of_methodNamed Bd.named
  have hnm := (name_of_methodNamed Bd.named Bd.method).1
  have hlk := BodyLoose.notSynchronized Bd
  have X0 : Stand p l e ({ frames := 3, cells := 1, slots := 10, locals := 47 } : Room) s m #[(.ref o0), m1, m2, m3] below meth c s₁ [] 0 0 := Stand.of_body Bd
  have e0 : s₁.heap = h0 := by rw [← hh, Bd.state]; rfl
  have N0 := Fr.nil n0
  have pre0 : ∀ t, Steps p.tables e below (s₁.setTop (mkF m 0 #[.val (.ref o0), .val m1, .val m2, .val m3] [])) t → Steps p.tables e below (s₁.setTop (entryFrame m #[(.ref o0), m1, m2, m3] 4)) t := fun t k => castTop (ef_7 m o0 m1 m2 m3 hm1 hm2 hm3) k
  obtain ⟨T1, h1, X1, e1, E1, A1, D1, -, st1⟩ := newO X0 hx hZ hown (wd hw 52 rfl) (wd hw 5 rfl) (wd hw 6 rfl) e0 (g := (mkF m 0 #[.val (.ref o0), .val m1, .val m2, .val m3] [])) rfl (hb hby d7_0) (by decide) (by decide)
  obtain ⟨b1, gz1⟩ : ∃ z, z = h0.size := ⟨_, rfl⟩
  rw [← gz1] at A1 D1 st1
  have ne2 : o0 ≠ b1 := Nat.ne_of_lt (Nat.lt_of_lt_of_le E_o0.lt (Nat.le_of_eq gz1.symm))
  have g3 : n0 ≤ b1 := Nat.le_trans Z0 (Nat.le_of_eq gz1.symm)
  have sz4 : h0.size ≤ b1 := Nat.le_trans (Nat.le_refl h0.size) (Nat.le_of_eq gz1.symm)
  have z5 : n0 ≤ h1.size := Nat.le_trans Z0 E1.1
  have hs6 : h0.size ≤ h1.size := Nat.le_trans (Nat.le_refl h0.size) E1.1
  have F1_domain : Fld Z h1 b1 "com/example/tollgate/tollgate/signing/SignedCall" "domain" "Ljava/lang/String;" .null := D1 (Or.inr (wd hw 19 rfl)) (ty := (.object "java/lang/String")) (by decide)
  have F1_user : Fld Z h1 b1 "com/example/tollgate/tollgate/signing/SignedCall" "user" "Ljava/lang/String;" .null := D1 (Or.inr (wd hw 21 rfl)) (ty := (.object "java/lang/String")) (by decide)
  have F1_project : Fld Z h1 b1 "com/example/tollgate/tollgate/signing/SignedCall" "project" "Ljava/lang/String;" .null := D1 (Or.inr (wd hw 23 rfl)) (ty := (.object "java/lang/String")) (by decide)
  have F1_expires : Fld Z h1 b1 "com/example/tollgate/tollgate/signing/SignedCall" "expires" "Ljava/lang/String;" .null := D1 (Or.inr (wd hw 25 rfl)) (ty := (.object "java/lang/String")) (by decide)
  have F1_nonce : Fld Z h1 b1 "com/example/tollgate/tollgate/signing/SignedCall" "nonce" "Ljava/lang/String;" .null := D1 (Or.inr (wd hw 27 rfl)) (ty := (.object "java/lang/String")) (by decide)
  have F1_accessKey : Fld Z h1 b1 "com/example/tollgate/tollgate/signing/SignedCall" "accessKey" "Ljava/lang/String;" .null := D1 (Or.inr (wd hw 29 rfl)) (ty := (.object "java/lang/String")) (by decide)
  have F1_algorithm : Fld Z h1 b1 "com/example/tollgate/tollgate/signing/SignedCall" "algorithm" "Ljava/lang/String;" .null := D1 (Or.inr (wd hw 31 rfl)) (ty := (.object "java/lang/String")) (by decide)
  have F1_method : Fld Z h1 b1 "com/example/tollgate/tollgate/signing/SignedCall" "method" "Ljava/lang/String;" .null := D1 (Or.inr (wd hw 33 rfl)) (ty := (.object "java/lang/String")) (by decide)
  have F1_target : Fld Z h1 b1 "com/example/tollgate/tollgate/signing/SignedCall" "target" "Ljava/lang/String;" .null := D1 (Or.inr (wd hw 35 rfl)) (ty := (.object "java/lang/String")) (by decide)
  have F1_bodySha256 : Fld Z h1 b1 "com/example/tollgate/tollgate/signing/SignedCall" "bodySha256" "Ljava/lang/String;" .null := D1 (Or.inr (wd hw 37 rfl)) (ty := (.object "java/lang/String")) (by decide)
  have k7 := (F_domain_o0.ext E1)
  obtain ⟨T8, X8, e8, st8⟩ := getF X1 hx hZ hown (host := "") (Or.inl (wd hw 18 rfl)) Via.refl e1 k7 (g := (mkF m 5 #[.val (.ref o0), .val m1, .val m2, .val m3] [(.ref o0), (.ref b1), (.ref b1)])) rfl rfl (hb hby d7_5)
  have k9 := (F_user_o0.ext E1)
  obtain ⟨T10, X10, e10, st10⟩ := getF X8 hx hZ hown (host := "") (Or.inl (wd hw 20 rfl)) Via.refl e8 k9 (g := (mkF m 9 #[.val (.ref o0), .val m1, .val m2, .val m3] [(.ref o0), u0_f, (.ref b1), (.ref b1)])) rfl rfl (hb hby d7_9)
  have k11 := (F_project_o0.ext E1)
  obtain ⟨T12, X12, e12, st12⟩ := getF X10 hx hZ hown (host := "") (Or.inl (wd hw 22 rfl)) Via.refl e10 k11 (g := (mkF m 13 #[.val (.ref o0), .val m1, .val m2, .val m3] [(.ref o0), u1_f, u0_f, (.ref b1), (.ref b1)])) rfl rfl (hb hby d7_13)
  have k13 := (F_expires_o0.ext E1)
  obtain ⟨T14, X14, e14, st14⟩ := getF X12 hx hZ hown (host := "") (Or.inl (wd hw 24 rfl)) Via.refl e12 k13 (g := (mkF m 17 #[.val (.ref o0), .val m1, .val m2, .val m3] [(.ref o0), u2_f, u1_f, u0_f, (.ref b1), (.ref b1)])) rfl rfl (hb hby d7_17)
  have k15 := (F_nonce_o0.ext E1)
  obtain ⟨T16, X16, e16, st16⟩ := getF X14 hx hZ hown (host := "") (Or.inl (wd hw 26 rfl)) Via.refl e14 k15 (g := (mkF m 21 #[.val (.ref o0), .val m1, .val m2, .val m3] [(.ref o0), u3_f, u2_f, u1_f, u0_f, (.ref b1), (.ref b1)])) rfl rfl (hb hby d7_21)
  have k17 := (F_accessKey_o0.ext E1)
  obtain ⟨T18, X18, e18, st18⟩ := getF X16 hx hZ hown (host := "") (Or.inl (wd hw 28 rfl)) Via.refl e16 k17 (g := (mkF m 25 #[.val (.ref o0), .val m1, .val m2, .val m3] [(.ref o0), u4_f, u3_f, u2_f, u1_f, u0_f, (.ref b1), (.ref b1)])) rfl rfl (hb hby d7_25)
  have k19 := (F_algorithm_o0.ext E1)
  obtain ⟨T20, X20, e20, st20⟩ := getF X18 hx hZ hown (host := "") (Or.inl (wd hw 30 rfl)) Via.refl e18 k19 (g := (mkF m 29 #[.val (.ref o0), .val m1, .val m2, .val m3] [(.ref o0), u5_f, u4_f, u3_f, u2_f, u1_f, u0_f, (.ref b1), (.ref b1)])) rfl rfl (hb hby d7_29)
  obtain ⟨vr21, _, ⟨T21, L21, k21, n21⟩, -, X21, ⟨Lc21, hQ21, l21, y21, z21⟩, st21⟩ := Jvm.Stand.specialBack X20 hx (y := (⟨"com/example/tollgate/tollgate/signing/SignedCall", "<init>", "(Ljava/lang/String;Ljava/lang/String;Ljava/lang/String;Ljava/lang/String;Ljava/lang/String;Ljava/lang/String;Ljava/lang/String;Ljava/lang/String;Ljava/lang/String;Ljava/lang/String;)V"⟩ : MethodName)) rfl hown (mvT hZ (wd hw 46 rfl)) (mvT hZ (wd hw 8 rfl)) (mvT hZ (wd hw 9 rfl)) (by decide) (backOf (W := 1) (rm2 l Z a0 hw [] b1 u0_f u1_f u2_f u3_f u4_f u5_f u6_f m1 m2 m3 .null .null .null .null .null .null .null .null .null .null h1 n0 z5 A1 hf0 hf1 hf2 hf3 hf4 hf5 hf6 hm1 hm2 hm3 F1_domain g3 F1_user F1_project F1_expires F1_nonce F1_accessKey F1_algorithm F1_method F1_target F1_bodySha256) hZ (wd hw 9 rfl) (wd hw 6 rfl) (by decide) (by decide)) (g := (mkF m 35 #[.val (.ref o0), .val m1, .val m2, .val m3] [m3, m2, m1, u6_f, u5_f, u4_f, u3_f, u2_f, u1_f, u0_f, (.ref b1), (.ref b1)])) rfl (by rw [hml]; rfl) (Steps.refl _) (a := b1) (argsL := [u0_f, u1_f, u2_f, u3_f, u4_f, u5_f, u6_f, m1, m2, m3]) (rest := [(.ref b1)]) (lenOf pd_h550216 rfl) rfl (by show 2 * 0 + _ ≤ _; exact Nat.le_of_eq rfl) (hb hby d7_35) (fun _ _ => ⟨rfl, e20, (by decide : 1 + 0 ≤ _), (by decide : 10 + 0 ≤ _)⟩)
  dsimp only [Pt.U, Pt.locs, Pt.cells, Pt.slots] at X21 l21 y21 z21 st21 hQ21
  replace X21 := own_stand X21 l21 y21 z21
  clear l21 y21 z21
  have N21q := (show _ ∧ _ from hQ21).1
  have hq21 := (show _ ∧ _ from hQ21).2
  clear hQ21
  have hv21 := hq21.1
  have K21 := hq21.2.1
  have po21_0 := hq21.2.2.1
  have po21_1 := hq21.2.2.2.1
  have po21_2 := hq21.2.2.2.2.1
  have po21_3 := hq21.2.2.2.2.2.1
  have po21_4 := hq21.2.2.2.2.2.2.1
  have po21_5 := hq21.2.2.2.2.2.2.2.1
  have po21_6 := hq21.2.2.2.2.2.2.2.2.1
  have po21_7 := hq21.2.2.2.2.2.2.2.2.2.1
  have po21_8 := hq21.2.2.2.2.2.2.2.2.2.2.1
  have po21_9 := hq21.2.2.2.2.2.2.2.2.2.2.2.1
  have po21_10 := hq21.2.2.2.2.2.2.2.2.2.2.2.2
  clear hq21
  subst hv21
  have z22 : n0 ≤ T21.heap.size := Nat.le_trans z5 K21.1
  have hs23 : h0.size ≤ T21.heap.size := Nat.le_trans hs6 K21.1
  have N21 := Fr.app N0 N21q
  obtain ⟨fs, hr, hrun, hended, hW, hsame⟩ := X21.leave (v := some (.ref b1)) (fun h => by rw [Bd.returns] at h; cases h) hlk
  refine ⟨_, _, pre0 _ ?_, hrun, hended, _, _, rfl, ?_, ⟨_, rfl⟩, hW, hsame.mono (by decide) (by decide)⟩
  · skip
    show Steps p.tables e below (s₁.setTop (mkF m 0 #[.val (.ref o0), .val m1, .val m2, .val m3] [])) _
    refine st1 _ ?_
    refine XS.dup X1.here hx rfl (hb hby d7_3) rfl rfl ?_
    refine XS.aloadN X1.here hx rfl (hb hby d7_4) rfl rfl ?_
    show Steps p.tables e below (T1.setTop (mkF m 5 #[.val (.ref o0), .val m1, .val m2, .val m3] [(.ref o0), (.ref b1), (.ref b1)])) _
    refine st8 _ ?_
    refine XS.aloadN X8.here hx rfl (hb hby d7_8) rfl rfl ?_
    show Steps p.tables e below (T8.setTop (mkF m 9 #[.val (.ref o0), .val m1, .val m2, .val m3] [(.ref o0), u0_f, (.ref b1), (.ref b1)])) _
    refine st10 _ ?_
    refine XS.aloadN X10.here hx rfl (hb hby d7_12) rfl rfl ?_
    show Steps p.tables e below (T10.setTop (mkF m 13 #[.val (.ref o0), .val m1, .val m2, .val m3] [(.ref o0), u1_f, u0_f, (.ref b1), (.ref b1)])) _
    refine st12 _ ?_
    refine XS.aloadN X12.here hx rfl (hb hby d7_16) rfl rfl ?_
    show Steps p.tables e below (T12.setTop (mkF m 17 #[.val (.ref o0), .val m1, .val m2, .val m3] [(.ref o0), u2_f, u1_f, u0_f, (.ref b1), (.ref b1)])) _
    refine st14 _ ?_
    refine XS.aloadN X14.here hx rfl (hb hby d7_20) rfl rfl ?_
    show Steps p.tables e below (T14.setTop (mkF m 21 #[.val (.ref o0), .val m1, .val m2, .val m3] [(.ref o0), u3_f, u2_f, u1_f, u0_f, (.ref b1), (.ref b1)])) _
    refine st16 _ ?_
    refine XS.aloadN X16.here hx rfl (hb hby d7_24) rfl rfl ?_
    show Steps p.tables e below (T16.setTop (mkF m 25 #[.val (.ref o0), .val m1, .val m2, .val m3] [(.ref o0), u4_f, u3_f, u2_f, u1_f, u0_f, (.ref b1), (.ref b1)])) _
    refine st18 _ ?_
    refine XS.aloadN X18.here hx rfl (hb hby d7_28) rfl rfl ?_
    show Steps p.tables e below (T18.setTop (mkF m 29 #[.val (.ref o0), .val m1, .val m2, .val m3] [(.ref o0), u5_f, u4_f, u3_f, u2_f, u1_f, u0_f, (.ref b1), (.ref b1)])) _
    refine st20 _ ?_
    refine XS.aloadN X20.here hx rfl (hb hby d7_32) rfl hm1 ?_
    refine XS.aloadN X20.here hx rfl (hb hby d7_33) rfl hm2 ?_
    refine XS.aloadN X20.here hx rfl (hb hby d7_34) rfl hm3 ?_
    show Steps p.tables e below (T20.setTop (mkF m 35 #[.val (.ref o0), .val m1, .val m2, .val m3] [m3, m2, m1, u6_f, u5_f, u4_f, u3_f, u2_f, u1_f, u0_f, (.ref b1), (.ref b1)])) _
    refine st21.trans ?_
    show Steps p.tables e below (T21.setTop (mkF m 38 #[.val (.ref o0), .val m1, .val m2, .val m3] [(.ref b1)])) _
    exact X21.areturnOut hx rfl Bd.returns rfl (hb hby d7_38) hr
  · skip
    show Q7 Z o0 m1 m2 m3 u0_f u1_f u2_f u3_f u4_f u5_f u6_f h0 n0 _ T21.heap _
    exact ⟨N21, b1, rfl, sz4, (((Keep.refl h0 []).ext E1).trans K21 (allS (Or.inr sz4) all0)), po21_0, po21_1, po21_2, po21_3, po21_4, po21_5, po21_6, po21_7, po21_8, po21_9, po21_10⟩
theorem d8_0 : decode prog_16_method_3_code 0 = .ok (.new 8, 3) := by decide +kernel
theorem d8_3 : decode prog_16_method_3_code 3 = .ok (.dup, 1) := by decide +kernel
theorem d8_4 : decode prog_16_method_3_code 4 = .ok (.aload_n 0, 1) := by decide +kernel
theorem d8_5 : decode prog_16_method_3_code 5 = .ok (.getfield 7, 3) := by decide +kernel
theorem d8_8 : decode prog_16_method_3_code 8 = .ok (.aload_n 0, 1) := by decide +kernel
theorem d8_9 : decode prog_16_method_3_code 9 = .ok (.getfield 13, 3) := by decide +kernel
theorem d8_12 : decode prog_16_method_3_code 12 = .ok (.aload_n 0, 1) := by decide +kernel
theorem d8_13 : decode prog_16_method_3_code 13 = .ok (.getfield 16, 3) := by decide +kernel
theorem d8_16 : decode prog_16_method_3_code 16 = .ok (.aload_n 0, 1) := by decide +kernel
theorem d8_17 : decode prog_16_method_3_code 17 = .ok (.getfield 19, 3) := by decide +kernel
theorem d8_20 : decode prog_16_method_3_code 20 = .ok (.aload_n 0, 1) := by decide +kernel
theorem d8_21 : decode prog_16_method_3_code 21 = .ok (.getfield 22, 3) := by decide +kernel
theorem d8_24 : decode prog_16_method_3_code 24 = .ok (.aload_n 1, 1) := by decide +kernel
theorem d8_25 : decode prog_16_method_3_code 25 = .ok (.ldc 43, 2) := by decide +kernel
theorem d8_27 : decode prog_16_method_3_code 27 = .ok (.aload_n 2, 1) := by decide +kernel
theorem d8_28 : decode prog_16_method_3_code 28 = .ok (.aload_n 3, 1) := by decide +kernel
theorem d8_29 : decode prog_16_method_3_code 29 = .ok (.aload 4, 2) := by decide +kernel
theorem d8_31 : decode prog_16_method_3_code 31 = .ok (.invokespecial 40, 3) := by decide +kernel
theorem d8_34 : decode prog_16_method_3_code 34 = .ok (.areturn, 1) := by decide +kernel
theorem ef_8 (m : MethodId) (o0 : Addr) (m1 : Value) (m2 : Value) (m3 : Value) (m4 : Value) (hm1 : m1.isRef = true) (hm2 : m2.isRef = true) (hm3 : m3.isRef = true) (hm4 : m4.isRef = true) : entryFrame m #[(.ref o0), m1, m2, m3, m4] 5 = mkF m 0 #[.val (.ref o0), .val m1, .val m2, .val m3, .val m4] [] := by
  simp [entryFrame, mkF, argsToLocals, own_ct1, own_ct0, own_cat hm1, own_cat hm2, own_cat hm3, own_cat hm4]
def Q8 (Z : State) (o0 : Addr) (m1 : Value) (m2 : Value) (m3 : Value) (m4 : Value) (u0_f : Value) (u1_f : Value) (u2_f : Value) (u3_f : Value) (u4_f : Value) (h0 : Heap) (n0 : Nat) (v : Option Value) (h : Heap) (L : List Loc) : Prop := Fr n0 L ∧ ∃ (x8_0 : Addr) (x8_1 : Addr), v = some (.ref x8_0) ∧ h0.size ≤ x8_0 ∧ Keep h0 h [] ∧ Exa Z h x8_0 "com/example/tollgate/tollgate/signing/SignedCall" ∧ Fld Z h x8_0 "com/example/tollgate/tollgate/signing/SignedCall" "domain" "Ljava/lang/String;" u0_f ∧ Fld Z h x8_0 "com/example/tollgate/tollgate/signing/SignedCall" "user" "Ljava/lang/String;" u1_f ∧ Fld Z h x8_0 "com/example/tollgate/tollgate/signing/SignedCall" "project" "Ljava/lang/String;" u2_f ∧ Fld Z h x8_0 "com/example/tollgate/tollgate/signing/SignedCall" "expires" "Ljava/lang/String;" u3_f ∧ Fld Z h x8_0 "com/example/tollgate/tollgate/signing/SignedCall" "nonce" "Ljava/lang/String;" u4_f ∧ Fld Z h x8_0 "com/example/tollgate/tollgate/signing/SignedCall" "accessKey" "Ljava/lang/String;" m1 ∧ Fld Z h x8_0 "com/example/tollgate/tollgate/signing/SignedCall" "algorithm" "Ljava/lang/String;" (.ref x8_1) ∧ Fld Z h x8_0 "com/example/tollgate/tollgate/signing/SignedCall" "method" "Ljava/lang/String;" m2 ∧ Fld Z h x8_0 "com/example/tollgate/tollgate/signing/SignedCall" "target" "Ljava/lang/String;" m3 ∧ Fld Z h x8_0 "com/example/tollgate/tollgate/signing/SignedCall" "bodySha256" "Ljava/lang/String;" m4
set_option maxRecDepth 65536 in
set_option maxHeartbeats 40000000 in
theorem rm8 (l : Launch) (Z : State) (a0 : Array Value) (hw : ∀ d ∈ tables_1, d.before a0 Z = true) (ws : List Jvm.Cond) (o0 : Addr) (m1 : Value) (m2 : Value) (m3 : Value) (m4 : Value) (u0_f : Value) (u1_f : Value) (u2_f : Value) (u3_f : Value) (u4_f : Value) (h0 : Heap) (n0 : Nat) (Z0 : n0 ≤ h0.size) (E_o0 : Exa Z h0 o0 "com/example/tollgate/tollgate/signing/SignedCall") (F_domain_o0 : Fld Z h0 o0 "com/example/tollgate/tollgate/signing/SignedCall" "domain" "Ljava/lang/String;" u0_f) (F_user_o0 : Fld Z h0 o0 "com/example/tollgate/tollgate/signing/SignedCall" "user" "Ljava/lang/String;" u1_f) (F_project_o0 : Fld Z h0 o0 "com/example/tollgate/tollgate/signing/SignedCall" "project" "Ljava/lang/String;" u2_f) (F_expires_o0 : Fld Z h0 o0 "com/example/tollgate/tollgate/signing/SignedCall" "expires" "Ljava/lang/String;" u3_f) (F_nonce_o0 : Fld Z h0 o0 "com/example/tollgate/tollgate/signing/SignedCall" "nonce" "Ljava/lang/String;" u4_f) (hf0 : u0_f.isRef = true) (hf1 : u1_f.isRef = true) (hf2 : u2_f.isRef = true) (hf3 : u3_f.isRef = true) (hf4 : u4_f.isRef = true) (hm1 : m1.isRef = true) (hm2 : m2.isRef = true) (hm3 : m3.isRef = true) (hm4 : m4.isRef = true) :
    MetFree l (⟨"com/example/tollgate/tollgate/signing/SignedCall", "keyed", "(Ljava/lang/String;Ljava/lang/String;Ljava/lang/String;Ljava/lang/String;)Lcom/example/tollgate/tollgate/signing/SignedCall;"⟩ : MethodName) (head1 (Jvm.Cond.code (⟨"com/example/tollgate/tollgate/signing/SignedCall", "keyed", "(Ljava/lang/String;Ljava/lang/String;Ljava/lang/String;Ljava/lang/String;)Lcom/example/tollgate/tollgate/signing/SignedCall;"⟩ : MethodName) prog_16_method_3_code 5 (some (.object "com/example/tollgate/tollgate/signing/SignedCall")) :: ws) ({ frames := 3, cells := 3, slots := 58, locals := 47 } : Room)) (fun a U => a = #[(.ref o0), m1, m2, m3, m4] ∧ Z.Warmed39 U.vm ∧ U.heap = h0) (fun _ _ _ _ _ => True) (fun _ U o U' => ∃ v L, o = .returned v ∧ Q8 Z o0 m1 m2 m3 m4 u0_f u1_f u2_f u3_f u4_f h0 n0 v U'.heap L ∧ ReturnedEndW U o U' L ({ frames := 3, cells := 3, slots := 58, locals := 47 } : Room).cells ({ frames := 3, cells := 3, slots := 58, locals := 47 } : Room).slots) := by
  refine MetFree.of_bodySF (plainFor_of_name pn_com_example_tollgate_tollgate_signing_SignedCall) hisR ?_
  intro p e s m args below meth c s₁ Bd hml0 hP hK
  obtain ⟨rfl, hZ, hh⟩ := hP
  have hx := Bd.exec
  have hby := Bd.bytes
  have hml : c.maxLocals = 5 := hml0
  have hown : s.vm.findClass "com/example/tollgate/tollgate/signing/SignedCall" = some m.cls := findClass_of_methodNamed Bd.named
  have hnm := (name_of_methodNamed Bd.named Bd.method).1
  have hlk := BodyLoose.notSynchronized Bd
  have X0 : Stand p l e ({ frames := 3, cells := 3, slots := 58, locals := 47 } : Room) s m #[(.ref o0), m1, m2, m3, m4] below meth c s₁ [] 0 0 := Stand.of_body Bd
  have e0 : s₁.heap = h0 := by rw [← hh, Bd.state]; rfl
  have N0 := Fr.nil n0
  have hS0 : s.Since s.vm h0.size := (State.WarmedH.refl s).since _
  have pre0 : ∀ t, Steps p.tables e below (s₁.setTop (mkF m 0 #[.val (.ref o0), .val m1, .val m2, .val m3, .val m4] [])) t → Steps p.tables e below (s₁.setTop (entryFrame m #[(.ref o0), m1, m2, m3, m4] 5)) t := fun t k => castTop (ef_8 m o0 m1 m2 m3 m4 hm1 hm2 hm3 hm4) k
  obtain ⟨T1, h1, X1, e1, E1, A1, D1, -, st1⟩ := newO X0 hx hZ hown (wd hw 52 rfl) (wd hw 5 rfl) (wd hw 6 rfl) e0 (g := (mkF m 0 #[.val (.ref o0), .val m1, .val m2, .val m3, .val m4] [])) rfl (hb hby d8_0) (by decide) (by decide)
  obtain ⟨b1, gz1⟩ : ∃ z, z = h0.size := ⟨_, rfl⟩
  rw [← gz1] at A1 D1 st1
  have ne2 : o0 ≠ b1 := Nat.ne_of_lt (Nat.lt_of_lt_of_le E_o0.lt (Nat.le_of_eq gz1.symm))
  have g3 : n0 ≤ b1 := Nat.le_trans Z0 (Nat.le_of_eq gz1.symm)
  have sz4 : h0.size ≤ b1 := Nat.le_trans (Nat.le_refl h0.size) (Nat.le_of_eq gz1.symm)
  have z5 : n0 ≤ h1.size := Nat.le_trans Z0 E1.1
  have hs6 : h0.size ≤ h1.size := Nat.le_trans (Nat.le_refl h0.size) E1.1
  have hk7 := Nat.le_trans (Nat.le_refl _) E1.1
  have F1_domain : Fld Z h1 b1 "com/example/tollgate/tollgate/signing/SignedCall" "domain" "Ljava/lang/String;" .null := D1 (Or.inr (wd hw 19 rfl)) (ty := (.object "java/lang/String")) (by decide)
  have F1_user : Fld Z h1 b1 "com/example/tollgate/tollgate/signing/SignedCall" "user" "Ljava/lang/String;" .null := D1 (Or.inr (wd hw 21 rfl)) (ty := (.object "java/lang/String")) (by decide)
  have F1_project : Fld Z h1 b1 "com/example/tollgate/tollgate/signing/SignedCall" "project" "Ljava/lang/String;" .null := D1 (Or.inr (wd hw 23 rfl)) (ty := (.object "java/lang/String")) (by decide)
  have F1_expires : Fld Z h1 b1 "com/example/tollgate/tollgate/signing/SignedCall" "expires" "Ljava/lang/String;" .null := D1 (Or.inr (wd hw 25 rfl)) (ty := (.object "java/lang/String")) (by decide)
  have F1_nonce : Fld Z h1 b1 "com/example/tollgate/tollgate/signing/SignedCall" "nonce" "Ljava/lang/String;" .null := D1 (Or.inr (wd hw 27 rfl)) (ty := (.object "java/lang/String")) (by decide)
  have F1_accessKey : Fld Z h1 b1 "com/example/tollgate/tollgate/signing/SignedCall" "accessKey" "Ljava/lang/String;" .null := D1 (Or.inr (wd hw 29 rfl)) (ty := (.object "java/lang/String")) (by decide)
  have F1_algorithm : Fld Z h1 b1 "com/example/tollgate/tollgate/signing/SignedCall" "algorithm" "Ljava/lang/String;" .null := D1 (Or.inr (wd hw 31 rfl)) (ty := (.object "java/lang/String")) (by decide)
  have F1_method : Fld Z h1 b1 "com/example/tollgate/tollgate/signing/SignedCall" "method" "Ljava/lang/String;" .null := D1 (Or.inr (wd hw 33 rfl)) (ty := (.object "java/lang/String")) (by decide)
  have F1_target : Fld Z h1 b1 "com/example/tollgate/tollgate/signing/SignedCall" "target" "Ljava/lang/String;" .null := D1 (Or.inr (wd hw 35 rfl)) (ty := (.object "java/lang/String")) (by decide)
  have F1_bodySha256 : Fld Z h1 b1 "com/example/tollgate/tollgate/signing/SignedCall" "bodySha256" "Ljava/lang/String;" .null := D1 (Or.inr (wd hw 37 rfl)) (ty := (.object "java/lang/String")) (by decide)
  have k8 := (F_domain_o0.ext E1)
  obtain ⟨T9, X9, e9, st9⟩ := getF X1 hx hZ hown (host := "") (Or.inl (wd hw 18 rfl)) Via.refl e1 k8 (g := (mkF m 5 #[.val (.ref o0), .val m1, .val m2, .val m3, .val m4] [(.ref o0), (.ref b1), (.ref b1)])) rfl rfl (hb hby d8_5)
  have k10 := (F_user_o0.ext E1)
  obtain ⟨T11, X11, e11, st11⟩ := getF X9 hx hZ hown (host := "") (Or.inl (wd hw 20 rfl)) Via.refl e9 k10 (g := (mkF m 9 #[.val (.ref o0), .val m1, .val m2, .val m3, .val m4] [(.ref o0), u0_f, (.ref b1), (.ref b1)])) rfl rfl (hb hby d8_9)
  have k12 := (F_project_o0.ext E1)
  obtain ⟨T13, X13, e13, st13⟩ := getF X11 hx hZ hown (host := "") (Or.inl (wd hw 22 rfl)) Via.refl e11 k12 (g := (mkF m 13 #[.val (.ref o0), .val m1, .val m2, .val m3, .val m4] [(.ref o0), u1_f, u0_f, (.ref b1), (.ref b1)])) rfl rfl (hb hby d8_13)
  have k14 := (F_expires_o0.ext E1)
  obtain ⟨T15, X15, e15, st15⟩ := getF X13 hx hZ hown (host := "") (Or.inl (wd hw 24 rfl)) Via.refl e13 k14 (g := (mkF m 17 #[.val (.ref o0), .val m1, .val m2, .val m3, .val m4] [(.ref o0), u2_f, u1_f, u0_f, (.ref b1), (.ref b1)])) rfl rfl (hb hby d8_17)
  have k16 := (F_nonce_o0.ext E1)
  obtain ⟨T17, X17, e17, st17⟩ := getF X15 hx hZ hown (host := "") (Or.inl (wd hw 26 rfl)) Via.refl e15 k16 (g := (mkF m 21 #[.val (.ref o0), .val m1, .val m2, .val m3, .val m4] [(.ref o0), u3_f, u2_f, u1_f, u0_f, (.ref b1), (.ref b1)])) rfl rfl (hb hby d8_21)
  obtain ⟨la18, T18, h18, kk18, X18, e18, E18, hS18, hk18, hZ, hown, Cr18, Lt18, st18⟩ := ldcOH (s := s) (vm0 := s.vm) (EL := ([] : List (String × Nat))) X17 hx hZ hown (wd hw 58 rfl) (own_ws hw) e17 hS0 hk7 EW.nil (fun _ hp => nomatch hp) (g := (mkF m 25 #[.val (.ref o0), .val m1, .val m2, .val m3, .val m4] [m1, u4_f, u3_f, u2_f, u1_f, u0_f, (.ref b1), (.ref b1)])) rfl (hb hby d8_25) (n := 44) (by decide) (by decide) (by decide) (by decide)
  have z19 : n0 ≤ h18.size := Nat.le_trans z5 E18.1
  have hs20 : h0.size ≤ h18.size := Nat.le_trans hs6 E18.1
  have k22 := (A1.ext E18)
  have k23 := (F1_domain.ext E18)
  have k24 := (F1_user.ext E18)
  have k25 := (F1_project.ext E18)
  have k26 := (F1_expires.ext E18)
  have k27 := (F1_nonce.ext E18)
  have k28 := (F1_accessKey.ext E18)
  have k29 := (F1_algorithm.ext E18)
  have k30 := (F1_method.ext E18)
  have k31 := (F1_target.ext E18)
  have k32 := (F1_bodySha256.ext E18)
  obtain ⟨vr21, _, ⟨T21, L21, k21, n21⟩, -, X21, ⟨Lc21, hQ21, l21, y21, z21⟩, st21⟩ := Jvm.Stand.specialBack X18 hx (y := (⟨"com/example/tollgate/tollgate/signing/SignedCall", "<init>", "(Ljava/lang/String;Ljava/lang/String;Ljava/lang/String;Ljava/lang/String;Ljava/lang/String;Ljava/lang/String;Ljava/lang/String;Ljava/lang/String;Ljava/lang/String;Ljava/lang/String;)V"⟩ : MethodName)) rfl hown (mvT hZ (wd hw 46 rfl)) (mvT hZ (wd hw 8 rfl)) (mvT hZ (wd hw 9 rfl)) (by decide) (backOf (W := 1) (rm2 l Z a0 hw [] b1 u0_f u1_f u2_f u3_f u4_f m1 (.ref la18) m2 m3 m4 .null .null .null .null .null .null .null .null .null .null h18 n0 z19 k22 hf0 hf1 hf2 hf3 hf4 hm1 rfl hm2 hm3 hm4 k23 g3 k24 k25 k26 k27 k28 k29 k30 k31 k32) hZ (wd hw 9 rfl) (wd hw 6 rfl) (by decide) (by decide)) (g := (mkF m 31 #[.val (.ref o0), .val m1, .val m2, .val m3, .val m4] [m4, m3, m2, (.ref la18), m1, u4_f, u3_f, u2_f, u1_f, u0_f, (.ref b1), (.ref b1)])) rfl (by rw [hml]; rfl) (Steps.refl _) (a := b1) (argsL := [u0_f, u1_f, u2_f, u3_f, u4_f, m1, (.ref la18), m2, m3, m4]) (rest := [(.ref b1)]) (lenOf pd_h550216 rfl) rfl (by show 2 * 0 + _ ≤ _; exact Nat.le_of_eq rfl) (hb hby d8_31) (fun _ _ => ⟨rfl, e18, (by decide : 3 + 0 ≤ _), (by decide : 58 + 0 ≤ _)⟩)
  dsimp only [Pt.U, Pt.locs, Pt.cells, Pt.slots] at X21 l21 y21 z21 st21 hQ21
  replace X21 := own_stand X21 l21 y21 z21
  clear l21 y21 z21
  have N21q := (show _ ∧ _ from hQ21).1
  have hq21 := (show _ ∧ _ from hQ21).2
  clear hQ21
  have hv21 := hq21.1
  have K21 := hq21.2.1
  have po21_0 := hq21.2.2.1
  have po21_1 := hq21.2.2.2.1
  have po21_2 := hq21.2.2.2.2.1
  have po21_3 := hq21.2.2.2.2.2.1
  have po21_4 := hq21.2.2.2.2.2.2.1
  have po21_5 := hq21.2.2.2.2.2.2.2.1
  have po21_6 := hq21.2.2.2.2.2.2.2.2.1
  have po21_7 := hq21.2.2.2.2.2.2.2.2.2.1
  have po21_8 := hq21.2.2.2.2.2.2.2.2.2.2.1
  have po21_9 := hq21.2.2.2.2.2.2.2.2.2.2.2.1
  have po21_10 := hq21.2.2.2.2.2.2.2.2.2.2.2.2
  clear hq21
  subst hv21
  have z33 : n0 ≤ T21.heap.size := Nat.le_trans z19 K21.1
  have hs34 : h0.size ≤ T21.heap.size := Nat.le_trans hs20 K21.1
  have hk35 := Nat.le_trans hk18 K21.1
  have N21 := Fr.app N0 N21q
  obtain ⟨fs, hr, hrun, hended, hRW⟩ := Jvm.Stand.leaveW (s := s) (vm₁ := T18.vm) X21 hS18 hk35 (v := some (.ref b1)) (fun h => by rw [Bd.returns] at h; cases h) hlk
  refine ⟨_, _, pre0 _ ?_, hrun, hended, _, _, rfl, ?_, hRW.1, hRW.2.1, hRW.2.2.1, hRW.2.2.2.mono (by decide) (by decide)⟩
  · skip
    show Steps p.tables e below (s₁.setTop (mkF m 0 #[.val (.ref o0), .val m1, .val m2, .val m3, .val m4] [])) _
    refine st1 _ ?_
    refine XS.dup X1.here hx rfl (hb hby d8_3) rfl rfl ?_
    refine XS.aloadN X1.here hx rfl (hb hby d8_4) rfl rfl ?_
    show Steps p.tables e below (T1.setTop (mkF m 5 #[.val (.ref o0), .val m1, .val m2, .val m3, .val m4] [(.ref o0), (.ref b1), (.ref b1)])) _
    refine st9 _ ?_
    refine XS.aloadN X9.here hx rfl (hb hby d8_8) rfl rfl ?_
    show Steps p.tables e below (T9.setTop (mkF m 9 #[.val (.ref o0), .val m1, .val m2, .val m3, .val m4] [(.ref o0), u0_f, (.ref b1), (.ref b1)])) _
    refine st11 _ ?_
    refine XS.aloadN X11.here hx rfl (hb hby d8_12) rfl rfl ?_
    show Steps p.tables e below (T11.setTop (mkF m 13 #[.val (.ref o0), .val m1, .val m2, .val m3, .val m4] [(.ref o0), u1_f, u0_f, (.ref b1), (.ref b1)])) _
    refine st13 _ ?_
    refine XS.aloadN X13.here hx rfl (hb hby d8_16) rfl rfl ?_
    show Steps p.tables e below (T13.setTop (mkF m 17 #[.val (.ref o0), .val m1, .val m2, .val m3, .val m4] [(.ref o0), u2_f, u1_f, u0_f, (.ref b1), (.ref b1)])) _
    refine st15 _ ?_
    refine XS.aloadN X15.here hx rfl (hb hby d8_20) rfl rfl ?_
    show Steps p.tables e below (T15.setTop (mkF m 21 #[.val (.ref o0), .val m1, .val m2, .val m3, .val m4] [(.ref o0), u3_f, u2_f, u1_f, u0_f, (.ref b1), (.ref b1)])) _
    refine st17 _ ?_
    refine XS.aloadN X17.here hx rfl (hb hby d8_24) rfl hm1 ?_
    show Steps p.tables e below (T17.setTop (mkF m 25 #[.val (.ref o0), .val m1, .val m2, .val m3, .val m4] [m1, u4_f, u3_f, u2_f, u1_f, u0_f, (.ref b1), (.ref b1)])) _
    refine st18 _ ?_
    refine XS.aloadN X18.here hx rfl (hb hby d8_27) rfl hm2 ?_
    refine XS.aloadN X18.here hx rfl (hb hby d8_28) rfl hm3 ?_
    refine XS.aload X18.here hx rfl (hb hby d8_29) rfl hm4 ?_
    show Steps p.tables e below (T18.setTop (mkF m 31 #[.val (.ref o0), .val m1, .val m2, .val m3, .val m4] [m4, m3, m2, (.ref la18), m1, u4_f, u3_f, u2_f, u1_f, u0_f, (.ref b1), (.ref b1)])) _
    refine st21.trans ?_
    show Steps p.tables e below (T21.setTop (mkF m 34 #[.val (.ref o0), .val m1, .val m2, .val m3, .val m4] [(.ref b1)])) _
    exact X21.areturnOut hx rfl Bd.returns rfl (hb hby d8_34) hr
  · skip
    show Q8 Z o0 m1 m2 m3 m4 u0_f u1_f u2_f u3_f u4_f h0 n0 _ T21.heap _
    exact ⟨N21, b1, la18, rfl, sz4, ((((Keep.refl h0 []).ext E1).ext E18).trans K21 (allS (Or.inr sz4) all0)), po21_0, po21_1, po21_2, po21_3, po21_4, po21_5, po21_6, po21_7, po21_8, po21_9, po21_10⟩
/-own-/
def own_ex (x y : Int32) : Int32 := if x &&& 3 = 0 then (if y &&& 3 = 0 then (0 : Int32) else (1 : Int32)) else (1 : Int32)
theorem own_k2 {u v : Value} {x y : Int32} (h1 : u = Value.null ↔ x &&& 3 = 0) (h2 : v = Value.null ↔ y &&& 3 = 0) : f5 u v = own_ex x y := by
  unfold f5 v5_1 own_ex
  by_cases c1 : u = Value.null
  · rw [if_pos c1, if_pos (h1.mp c1)]
    by_cases c2 : v = Value.null
    · rw [if_pos c2, if_pos (h2.mp c2)]; decide
    · rw [if_neg c2, if_neg (fun z => c2 (h2.mpr z))]; decide
  · rw [if_neg c1, if_neg (fun z => c1 (h1.mpr z))]; decide
theorem own_k1 (u : Value) (a : Addr) : f5 u (.ref a) = 1 := by
  have e : ¬ (Value.ref a = Value.null) := fun z => nomatch z
  unfold f5 v5_1
  rw [if_neg e]
  split <;> decide
theorem pd__II_Ljava_lang_String_ : parseMethodDescriptor "(II)Ljava/lang/String;" = some ⟨[.int, .int], some (.object "java/lang/String")⟩ := by decide +kernel
theorem pd___Z : parseMethodDescriptor "()Z" = some ⟨[], some .boolean⟩ := by decide +kernel
theorem pd_h171213 : parseMethodDescriptor "(Ljava/lang/String;Ljava/lang/String;Ljava/lang/String;Ljava/lang/String;Ljava/lang/String;)V" = some ⟨[(.object "java/lang/String"), (.object "java/lang/String"), (.object "java/lang/String"), (.object "java/lang/String"), (.object "java/lang/String")], none⟩ := by decide +kernel
theorem pd_h433718 : parseMethodDescriptor "(Ljava/lang/String;Ljava/lang/String;Ljava/lang/String;)Lcom/example/tollgate/tollgate/signing/SignedCall;" = some ⟨[(.object "java/lang/String"), (.object "java/lang/String"), (.object "java/lang/String")], some (.object "com/example/tollgate/tollgate/signing/SignedCall")⟩ := by decide +kernel
theorem pd_h260936 : parseMethodDescriptor "(Ljava/lang/String;Ljava/lang/String;Ljava/lang/String;Ljava/lang/String;)Lcom/example/tollgate/tollgate/signing/SignedCall;" = some ⟨[(.object "java/lang/String"), (.object "java/lang/String"), (.object "java/lang/String"), (.object "java/lang/String")], some (.object "com/example/tollgate/tollgate/signing/SignedCall")⟩ := by decide +kernel
theorem ef_0 (m : MethodId) (p0 : Int32) (p1 : Int32) (p2 : Int32) (p3 : Int32) (p4 : Int32) (p5 : Int32) : entryFrame m #[(.int p0), (.int p1), (.int p2), (.int p3), (.int p4), (.int p5)] maxLocals = mkF m 0 #[.val (.int p0), .val (.int p1), .val (.int p2), .val (.int p3), .val (.int p4), .val (.int p5), .unset, .unset, .unset, .unset, .unset, .unset, .unset, .unset, .unset, .unset, .unset, .unset, .unset, .unset, .unset, .unset, .unset, .unset, .unset, .unset] [] := by first | (simp [entryFrame, mkF, argsToLocals, Value.category, maxLocals]; done) | rfl
def v0_1 (p0 : Int32) (p1 : Int32) (p2 : Int32) (p3 : Int32) (p4 : Int32) (p5 : Int32) (w0 : Int32) : Int32 := (XT.ushr p0 (2 : Int32))
def v0_2 (p0 : Int32) (p1 : Int32) (p2 : Int32) (p3 : Int32) (p4 : Int32) (p5 : Int32) (w0 : Int32) : Int32 := (XT.ushr p1 (8 : Int32))
def v0_3 (p0 : Int32) (p1 : Int32) (p2 : Int32) (p3 : Int32) (p4 : Int32) (p5 : Int32) (w0 : Int32) : Int32 := (XT.ushr p0 (4 : Int32))
def v0_4 (p0 : Int32) (p1 : Int32) (p2 : Int32) (p3 : Int32) (p4 : Int32) (p5 : Int32) (w0 : Int32) : Int32 := (XT.ushr p0 (6 : Int32))
def v0_5 (p0 : Int32) (p1 : Int32) (p2 : Int32) (p3 : Int32) (p4 : Int32) (p5 : Int32) (w0 : Int32) : Int32 := (XT.ushr p0 (8 : Int32))
def v0_6 (p0 : Int32) (p1 : Int32) (p2 : Int32) (p3 : Int32) (p4 : Int32) (p5 : Int32) (w0 : Int32) : Int32 := (XT.ushr p0 (10 : Int32))
def v0_7 (p0 : Int32) (p1 : Int32) (p2 : Int32) (p3 : Int32) (p4 : Int32) (p5 : Int32) (w0 : Int32) : Int32 := (XT.ushr p0 (12 : Int32))
def v0_8 (p0 : Int32) (p1 : Int32) (p2 : Int32) (p3 : Int32) (p4 : Int32) (p5 : Int32) (w0 : Int32) : Int32 := (XT.ushr p1 (16 : Int32))
def v0_9 (p0 : Int32) (p1 : Int32) (p2 : Int32) (p3 : Int32) (p4 : Int32) (p5 : Int32) (w0 : Int32) : Int32 := (XT.ushr p0 (14 : Int32))
def v0_10 (p0 : Int32) (p1 : Int32) (p2 : Int32) (p3 : Int32) (p4 : Int32) (p5 : Int32) (w0 : Int32) : Int32 := (XT.ushr p2 (8 : Int32))
def v0_11 (p0 : Int32) (p1 : Int32) (p2 : Int32) (p3 : Int32) (p4 : Int32) (p5 : Int32) (w0 : Int32) : Int32 := (XT.ushr p0 (16 : Int32))
def v0_12 (p0 : Int32) (p1 : Int32) (p2 : Int32) (p3 : Int32) (p4 : Int32) (p5 : Int32) (w0 : Int32) : Int32 := (XT.ushr p3 (8 : Int32))
def v0_13 (p0 : Int32) (p1 : Int32) (p2 : Int32) (p3 : Int32) (p4 : Int32) (p5 : Int32) (w0 : Int32) : Int32 := (XT.ushr p0 (18 : Int32))
def v0_14 (p0 : Int32) (p1 : Int32) (p2 : Int32) (p3 : Int32) (p4 : Int32) (p5 : Int32) (w0 : Int32) : Int32 := (XT.ushr p4 (8 : Int32))
def v0_15 (p0 : Int32) (p1 : Int32) (p2 : Int32) (p3 : Int32) (p4 : Int32) (p5 : Int32) (w0 : Int32) : Int32 := (XT.ushr p0 (20 : Int32))
def v0_16 (p0 : Int32) (p1 : Int32) (p2 : Int32) (p3 : Int32) (p4 : Int32) (p5 : Int32) (w0 : Int32) : Int32 := (XT.ushr p5 (8 : Int32))
def v0_17 (p0 : Int32) (p1 : Int32) (p2 : Int32) (p3 : Int32) (p4 : Int32) (p5 : Int32) (w0 : Int32) : Int32 := (p0 &&& (3 : Int32))
def v0_18 (p0 : Int32) (p1 : Int32) (p2 : Int32) (p3 : Int32) (p4 : Int32) (p5 : Int32) (w0 : Int32) : Int32 := ((XT.ushr p0 (2 : Int32)) &&& (3 : Int32))
def v0_19 (p0 : Int32) (p1 : Int32) (p2 : Int32) (p3 : Int32) (p4 : Int32) (p5 : Int32) (w0 : Int32) : Int32 := (if (v0_17 p0 p1 p2 p3 p4 p5 w0) = (0 : Int32) then (if (v0_18 p0 p1 p2 p3 p4 p5 w0) = (0 : Int32) then (0 : Int32) else (1 : Int32)) else (1 : Int32))
def v0_20 (p0 : Int32) (p1 : Int32) (p2 : Int32) (p3 : Int32) (p4 : Int32) (p5 : Int32) (w0 : Int32) : Int32 := (own_ex p0 (v0_1 p0 p1 p2 p3 p4 p5 w0))
def v0_21 (p0 : Int32) (p1 : Int32) (p2 : Int32) (p3 : Int32) (p4 : Int32) (p5 : Int32) (w0 : Int32) : Int32 := (own_ex p0 (v0_1 p0 p1 p2 p3 p4 p5 w0))
def v0_22 (p0 : Int32) (p1 : Int32) (p2 : Int32) (p3 : Int32) (p4 : Int32) (p5 : Int32) (w0 : Int32) : Int32 := (if (v0_20 p0 p1 p2 p3 p4 p5 w0) = (v0_19 p0 p1 p2 p3 p4 p5 w0) then (if (v0_21 p0 p1 p2 p3 p4 p5 w0) = (v0_19 p0 p1 p2 p3 p4 p5 w0) then (1 : Int32) else (0 : Int32)) else (0 : Int32))
/-own-/
theorem own_v0_22 (p0 p1 p2 p3 p4 p5 w0 : Int32) : v0_22 p0 p1 p2 p3 p4 p5 w0 = (1 : Int32) := by
  unfold v0_22
  rw [if_pos (show v0_20 p0 p1 p2 p3 p4 p5 w0 = v0_19 p0 p1 p2 p3 p4 p5 w0 from rfl), if_pos (show v0_21 p0 p1 p2 p3 p4 p5 w0 = v0_19 p0 p1 p2 p3 p4 p5 w0 from rfl)]
def Q0 (Z : State) (p0 : Int32) (p1 : Int32) (p2 : Int32) (p3 : Int32) (p4 : Int32) (p5 : Int32) (w0 : Int32) (h0 : Heap) (n0 : Nat) (v : Option Value) (h : Heap) (L : List Loc) : Prop := v = some (.int (1 : Int32)) ∧ Fr n0 L
set_option maxRecDepth 65536 in
set_option maxHeartbeats 40000000 in
theorem rm0 (l : Launch) (Z : State) (a0 : Array Value) (hw : ∀ d ∈ tables_1, d.before a0 Z = true) (ws : List Jvm.Cond) (p0 : Int32) (p1 : Int32) (p2 : Int32) (p3 : Int32) (p4 : Int32) (p5 : Int32) (w0 : Int32) (h0 : Heap) (n0 : Nat) (Z0 : n0 ≤ h0.size) (O0 : Old Z n0 h0) (S_String_COMPACT_STRINGS : Sta Z Z.heap "java/lang/String" "COMPACT_STRINGS" "Z" (.int w0)) (hcs : ¬ (w0 = (0 : Int32))) :
    MetFree l x (head1 (Jvm.Cond.code x code maxLocals ret :: ws) room_1) (fun a U => a = #[(.int p0), (.int p1), (.int p2), (.int p3), (.int p4), (.int p5)] ∧ Z.Warmed39 U.vm ∧ U.heap = h0) (fun _ _ _ _ _ => True) (fun _ U o U' => ∃ v L, o = .returned v ∧ Q0 Z p0 p1 p2 p3 p4 p5 w0 h0 n0 v U'.heap L ∧ ReturnedEndW U o U' L room_1.cells room_1.slots) := by
  refine MetFree.of_bodySF (plainFor_of_name pn_com_example_tollgate_tollgate_signing_SignedCallIsKeyedPinLaw) hisR ?_
  intro p e s m args below meth c s₁ Bd hml0 hP hK
  obtain ⟨rfl, hZ, hh⟩ := hP
  have hx := Bd.exec
  have hby := Bd.bytes
  have hml : c.maxLocals = 26 := hml0
  have hown : s.vm.findClass "com/example/tollgate/tollgate/signing/SignedCallIsKeyedPinLaw" = some m.cls := findClass_of_methodNamed Bd.named
  have hnm := (name_of_methodNamed Bd.named Bd.method).1
  have hlk := BodyLoose.notSynchronized Bd
  have X0 : Stand p l e room_1 s m #[(.int p0), (.int p1), (.int p2), (.int p3), (.int p4), (.int p5)] below meth c s₁ [] 0 0 := Stand.of_body Bd
  have e0 : s₁.heap = h0 := by rw [← hh, Bd.state]; rfl
  have N0 := Fr.nil n0
  have hS0 : s.Since s.vm h0.size := (State.WarmedH.refl s).since _
  have pre0 : ∀ t, Steps p.tables e below (s₁.setTop (mkF m 0 #[.val (.int p0), .val (.int p1), .val (.int p2), .val (.int p3), .val (.int p4), .val (.int p5), .unset, .unset, .unset, .unset, .unset, .unset, .unset, .unset, .unset, .unset, .unset, .unset, .unset, .unset, .unset, .unset, .unset, .unset, .unset, .unset] [])) t → Steps p.tables e below (s₁.setTop (entryFrame m #[(.int p0), (.int p1), (.int p2), (.int p3), (.int p4), (.int p5)] maxLocals)) t := fun t k => castTop (ef_0 m p0 p1 p2 p3 p4 p5) k
  obtain ⟨vr1, _, ⟨T1, L1, k1, n1⟩, -, X1, hSq1, hgq1, ⟨Lc1, hQ1, l1, y1, z1⟩, st1⟩ := Jvm.RoadKit.callSS (s := s.setVm s.vm) X0 hx (y := (⟨"com/example/tollgate/tollgate/signing/SignedCallIsKeyedPinLaw", "pick", "(II)Ljava/lang/String;"⟩ : MethodName)) hown (mvT hZ (wd hw 0 rfl)) (mvT hZ (wd hw 1 rfl)) (mvT hZ (wd hw 2 rfl)) (mvT hZ (wd hw 3 rfl)) (by decide) (backOfS (s := s.setVm s.vm) (W := 0) (own_pk l Z a0 hw [] p0 p1 w0 h0 n0 Z0 (Sta.ext O0.2 S_String_COMPACT_STRINGS) hcs) hZ (wd hw 3 rfl) (wd hw 2 rfl) (by decide) (by decide)) (g := (mkF m 2 #[.val (.int p0), .val (.int p1), .val (.int p2), .val (.int p3), .val (.int p4), .val (.int p5), .unset, .unset, .unset, .unset, .unset, .unset, .unset, .unset, .unset, .unset, .unset, .unset, .unset, .unset, .unset, .unset, .unset, .unset, .unset, .unset] [(.int p1), (.int p0)])) rfl (by rw [hml]; rfl) (argsL := [(.int p0), (.int p1)]) (rest := []) (lenOf pd__II_Ljava_lang_String_ rfl) rfl (by show 2 * 0 + _ ≤ _; exact Nat.le_of_eq rfl) (hb hby at_2) (fun _ _ => ⟨rfl, e0, (by decide : 0 + 3 ≤ _), (by decide : 0 + 8 ≤ _)⟩)
  dsimp only [Pt.U, Pt.locs, Pt.cells, Pt.slots] at X1 l1 y1 z1 st1 hQ1 hSq1 hgq1
  obtain ⟨X1, hS1, hZ, hown⟩ := rebS (s := s) (vm0 := s.vm) (n1 := h0.size) hS0 (Nat.le_refl _) X1 hSq1 (by rw [← e0]; exact hgq1) hZ hown
  replace X1 := own_stand X1 l1 y1 z1
  clear l1 y1 z1
  have N1q := (show _ ∧ _ from hQ1).1
  have hq1 := (show _ ∧ _ from hQ1).2
  clear hQ1
  obtain ⟨upk_1, hq1x⟩ := hq1
  have hv1 := hq1x.1
  have K1 := hq1x.2.1
  have po1_0 := hq1x.2.2.1
  have po1_1 := hq1x.2.2.2
  clear hq1x
  subst hv1
  have z2 : n0 ≤ T1.heap.size := Nat.le_trans Z0 K1.1
  have hs3 : h0.size ≤ T1.heap.size := Nat.le_trans (Nat.le_refl h0.size) K1.1
  have N1 := Fr.app N0 N1q
  have O5 := (O0.keep K1 all0)
  obtain ⟨vr4, _, ⟨T4, L4, k4, n4⟩, -, X4, hSq4, hgq4, ⟨Lc4, hQ4, l4, y4, z4⟩, st4⟩ := Jvm.RoadKit.callSS (s := s.setVm T1.vm) X1 hx (y := (⟨"com/example/tollgate/tollgate/signing/SignedCallIsKeyedPinLaw", "pick", "(II)Ljava/lang/String;"⟩ : MethodName)) hown (mvT hZ (wd hw 0 rfl)) (mvT hZ (wd hw 1 rfl)) (mvT hZ (wd hw 2 rfl)) (mvT hZ (wd hw 3 rfl)) (by decide) (backOfS (s := s.setVm T1.vm) (W := 0) (own_pk l Z a0 hw [] (v0_1 p0 p1 p2 p3 p4 p5 w0) (v0_2 p0 p1 p2 p3 p4 p5 w0) w0 T1.heap n0 z2 (Sta.ext O5.2 S_String_COMPACT_STRINGS) hcs) hZ (wd hw 3 rfl) (wd hw 2 rfl) (by decide) (by decide)) (g := (mkF m 14 #[.val (.int p0), .val (.int p1), .val (.int p2), .val (.int p3), .val (.int p4), .val (.int p5), .val upk_1, .unset, .unset, .unset, .unset, .unset, .unset, .unset, .unset, .unset, .unset, .unset, .unset, .unset, .unset, .unset, .unset, .unset, .unset, .unset] [(.int (v0_2 p0 p1 p2 p3 p4 p5 w0)), (.int (v0_1 p0 p1 p2 p3 p4 p5 w0))])) rfl (by rw [hml]; rfl) (argsL := [(.int (v0_1 p0 p1 p2 p3 p4 p5 w0)), (.int (v0_2 p0 p1 p2 p3 p4 p5 w0))]) (rest := []) (lenOf pd__II_Ljava_lang_String_ rfl) rfl (by show 2 * 0 + _ ≤ _; exact Nat.le_of_eq rfl) (hb hby at_14) (fun _ _ => ⟨rfl, rfl, (by decide : 3 + 3 ≤ _), (by decide : 8 + 8 ≤ _)⟩)
  dsimp only [Pt.U, Pt.locs, Pt.cells, Pt.slots] at X4 l4 y4 z4 st4 hQ4 hSq4 hgq4
  obtain ⟨X4, hS4, hZ, hown⟩ := rebS (s := s) (vm0 := T1.vm) (n1 := T1.heap.size) hS1 (Nat.le_refl _) X4 hSq4 hgq4 hZ hown
  replace X4 := own_stand X4 l4 y4 z4
  clear l4 y4 z4
  have N4q := (show _ ∧ _ from hQ4).1
  have hq4 := (show _ ∧ _ from hQ4).2
  clear hQ4
  obtain ⟨upk_4, hq4x⟩ := hq4
  have hv4 := hq4x.1
  have K4 := hq4x.2.1
  have po4_0 := hq4x.2.2.1
  have po4_1 := hq4x.2.2.2
  clear hq4x
  subst hv4
  have z6 : n0 ≤ T4.heap.size := Nat.le_trans z2 K4.1
  have hs7 : h0.size ≤ T4.heap.size := Nat.le_trans hs3 K4.1
  have N4 := Fr.app N1 N4q
  have O9 := (O5.keep K4 all0)
  obtain ⟨vr8, _, ⟨T8, L8, k8, n8⟩, -, X8, hSq8, hgq8, ⟨Lc8, hQ8, l8, y8, z8⟩, st8⟩ := Jvm.RoadKit.callSS (s := s.setVm T4.vm) X4 hx (y := (⟨"com/example/tollgate/tollgate/signing/SignedCallIsKeyedPinLaw", "pick", "(II)Ljava/lang/String;"⟩ : MethodName)) hown (mvT hZ (wd hw 0 rfl)) (mvT hZ (wd hw 1 rfl)) (mvT hZ (wd hw 2 rfl)) (mvT hZ (wd hw 3 rfl)) (by decide) (backOfS (s := s.setVm T4.vm) (W := 0) (own_pk l Z a0 hw [] (v0_3 p0 p1 p2 p3 p4 p5 w0) p2 w0 T4.heap n0 z6 (Sta.ext O9.2 S_String_COMPACT_STRINGS) hcs) hZ (wd hw 3 rfl) (wd hw 2 rfl) (by decide) (by decide)) (g := (mkF m 23 #[.val (.int p0), .val (.int p1), .val (.int p2), .val (.int p3), .val (.int p4), .val (.int p5), .val upk_1, .val upk_4, .unset, .unset, .unset, .unset, .unset, .unset, .unset, .unset, .unset, .unset, .unset, .unset, .unset, .unset, .unset, .unset, .unset, .unset] [(.int p2), (.int (v0_3 p0 p1 p2 p3 p4 p5 w0))])) rfl (by rw [hml]; rfl) (argsL := [(.int (v0_3 p0 p1 p2 p3 p4 p5 w0)), (.int p2)]) (rest := []) (lenOf pd__II_Ljava_lang_String_ rfl) rfl (by show 2 * 0 + _ ≤ _; exact Nat.le_of_eq rfl) (hb hby at_23) (fun _ _ => ⟨rfl, rfl, (by decide : 6 + 3 ≤ _), (by decide : 16 + 8 ≤ _)⟩)
  dsimp only [Pt.U, Pt.locs, Pt.cells, Pt.slots] at X8 l8 y8 z8 st8 hQ8 hSq8 hgq8
  obtain ⟨X8, hS8, hZ, hown⟩ := rebS (s := s) (vm0 := T4.vm) (n1 := T4.heap.size) hS4 (Nat.le_refl _) X8 hSq8 hgq8 hZ hown
  replace X8 := own_stand X8 l8 y8 z8
  clear l8 y8 z8
  have N8q := (show _ ∧ _ from hQ8).1
  have hq8 := (show _ ∧ _ from hQ8).2
  clear hQ8
  obtain ⟨upk_8, hq8x⟩ := hq8
  have hv8 := hq8x.1
  have K8 := hq8x.2.1
  have po8_0 := hq8x.2.2.1
  have po8_1 := hq8x.2.2.2
  clear hq8x
  subst hv8
  have z10 : n0 ≤ T8.heap.size := Nat.le_trans z6 K8.1
  have hs11 : h0.size ≤ T8.heap.size := Nat.le_trans hs7 K8.1
  have N8 := Fr.app N4 N8q
  have O13 := (O9.keep K8 all0)
  obtain ⟨vr12, _, ⟨T12, L12, k12, n12⟩, -, X12, hSq12, hgq12, ⟨Lc12, hQ12, l12, y12, z12⟩, st12⟩ := Jvm.RoadKit.callSS (s := s.setVm T8.vm) X8 hx (y := (⟨"com/example/tollgate/tollgate/signing/SignedCallIsKeyedPinLaw", "pick", "(II)Ljava/lang/String;"⟩ : MethodName)) hown (mvT hZ (wd hw 0 rfl)) (mvT hZ (wd hw 1 rfl)) (mvT hZ (wd hw 2 rfl)) (mvT hZ (wd hw 3 rfl)) (by decide) (backOfS (s := s.setVm T8.vm) (W := 0) (own_pk l Z a0 hw [] (v0_4 p0 p1 p2 p3 p4 p5 w0) p3 w0 T8.heap n0 z10 (Sta.ext O13.2 S_String_COMPACT_STRINGS) hcs) hZ (wd hw 3 rfl) (wd hw 2 rfl) (by decide) (by decide)) (g := (mkF m 33 #[.val (.int p0), .val (.int p1), .val (.int p2), .val (.int p3), .val (.int p4), .val (.int p5), .val upk_1, .val upk_4, .val upk_8, .unset, .unset, .unset, .unset, .unset, .unset, .unset, .unset, .unset, .unset, .unset, .unset, .unset, .unset, .unset, .unset, .unset] [(.int p3), (.int (v0_4 p0 p1 p2 p3 p4 p5 w0))])) rfl (by rw [hml]; rfl) (argsL := [(.int (v0_4 p0 p1 p2 p3 p4 p5 w0)), (.int p3)]) (rest := []) (lenOf pd__II_Ljava_lang_String_ rfl) rfl (by show 2 * 0 + _ ≤ _; exact Nat.le_of_eq rfl) (hb hby at_33) (fun _ _ => ⟨rfl, rfl, (by decide : 9 + 3 ≤ _), (by decide : 24 + 8 ≤ _)⟩)
  dsimp only [Pt.U, Pt.locs, Pt.cells, Pt.slots] at X12 l12 y12 z12 st12 hQ12 hSq12 hgq12
  obtain ⟨X12, hS12, hZ, hown⟩ := rebS (s := s) (vm0 := T8.vm) (n1 := T8.heap.size) hS8 (Nat.le_refl _) X12 hSq12 hgq12 hZ hown
  replace X12 := own_stand X12 l12 y12 z12
  clear l12 y12 z12
  have N12q := (show _ ∧ _ from hQ12).1
  have hq12 := (show _ ∧ _ from hQ12).2
  clear hQ12
  obtain ⟨upk_12, hq12x⟩ := hq12
  have hv12 := hq12x.1
  have K12 := hq12x.2.1
  have po12_0 := hq12x.2.2.1
  have po12_1 := hq12x.2.2.2
  clear hq12x
  subst hv12
  have z14 : n0 ≤ T12.heap.size := Nat.le_trans z10 K12.1
  have hs15 : h0.size ≤ T12.heap.size := Nat.le_trans hs11 K12.1
  have N12 := Fr.app N8 N12q
  have O17 := (O13.keep K12 all0)
  obtain ⟨vr16, _, ⟨T16, L16, k16, n16⟩, -, X16, hSq16, hgq16, ⟨Lc16, hQ16, l16, y16, z16⟩, st16⟩ := Jvm.RoadKit.callSS (s := s.setVm T12.vm) X12 hx (y := (⟨"com/example/tollgate/tollgate/signing/SignedCallIsKeyedPinLaw", "pick", "(II)Ljava/lang/String;"⟩ : MethodName)) hown (mvT hZ (wd hw 0 rfl)) (mvT hZ (wd hw 1 rfl)) (mvT hZ (wd hw 2 rfl)) (mvT hZ (wd hw 3 rfl)) (by decide) (backOfS (s := s.setVm T12.vm) (W := 0) (own_pk l Z a0 hw [] (v0_5 p0 p1 p2 p3 p4 p5 w0) p4 w0 T12.heap n0 z14 (Sta.ext O17.2 S_String_COMPACT_STRINGS) hcs) hZ (wd hw 3 rfl) (wd hw 2 rfl) (by decide) (by decide)) (g := (mkF m 44 #[.val (.int p0), .val (.int p1), .val (.int p2), .val (.int p3), .val (.int p4), .val (.int p5), .val upk_1, .val upk_4, .val upk_8, .val upk_12, .unset, .unset, .unset, .unset, .unset, .unset, .unset, .unset, .unset, .unset, .unset, .unset, .unset, .unset, .unset, .unset] [(.int p4), (.int (v0_5 p0 p1 p2 p3 p4 p5 w0))])) rfl (by rw [hml]; rfl) (argsL := [(.int (v0_5 p0 p1 p2 p3 p4 p5 w0)), (.int p4)]) (rest := []) (lenOf pd__II_Ljava_lang_String_ rfl) rfl (by show 2 * 0 + _ ≤ _; exact Nat.le_of_eq rfl) (hb hby at_44) (fun _ _ => ⟨rfl, rfl, (by decide : 12 + 3 ≤ _), (by decide : 32 + 8 ≤ _)⟩)
  dsimp only [Pt.U, Pt.locs, Pt.cells, Pt.slots] at X16 l16 y16 z16 st16 hQ16 hSq16 hgq16
  obtain ⟨X16, hS16, hZ, hown⟩ := rebS (s := s) (vm0 := T12.vm) (n1 := T12.heap.size) hS12 (Nat.le_refl _) X16 hSq16 hgq16 hZ hown
  replace X16 := own_stand X16 l16 y16 z16
  clear l16 y16 z16
  have N16q := (show _ ∧ _ from hQ16).1
  have hq16 := (show _ ∧ _ from hQ16).2
  clear hQ16
  obtain ⟨upk_16, hq16x⟩ := hq16
  have hv16 := hq16x.1
  have K16 := hq16x.2.1
  have po16_0 := hq16x.2.2.1
  have po16_1 := hq16x.2.2.2
  clear hq16x
  subst hv16
  have z18 : n0 ≤ T16.heap.size := Nat.le_trans z14 K16.1
  have hs19 : h0.size ≤ T16.heap.size := Nat.le_trans hs15 K16.1
  have N16 := Fr.app N12 N16q
  have O21 := (O17.keep K16 all0)
  obtain ⟨vr20, _, ⟨T20, L20, k20, n20⟩, -, X20, hSq20, hgq20, ⟨Lc20, hQ20, l20, y20, z20⟩, st20⟩ := Jvm.RoadKit.callSS (s := s.setVm T16.vm) X16 hx (y := (⟨"com/example/tollgate/tollgate/signing/SignedCallIsKeyedPinLaw", "pick", "(II)Ljava/lang/String;"⟩ : MethodName)) hown (mvT hZ (wd hw 0 rfl)) (mvT hZ (wd hw 1 rfl)) (mvT hZ (wd hw 2 rfl)) (mvT hZ (wd hw 3 rfl)) (by decide) (backOfS (s := s.setVm T16.vm) (W := 0) (own_pk l Z a0 hw [] (v0_6 p0 p1 p2 p3 p4 p5 w0) p5 w0 T16.heap n0 z18 (Sta.ext O21.2 S_String_COMPACT_STRINGS) hcs) hZ (wd hw 3 rfl) (wd hw 2 rfl) (by decide) (by decide)) (g := (mkF m 55 #[.val (.int p0), .val (.int p1), .val (.int p2), .val (.int p3), .val (.int p4), .val (.int p5), .val upk_1, .val upk_4, .val upk_8, .val upk_12, .val upk_16, .unset, .unset, .unset, .unset, .unset, .unset, .unset, .unset, .unset, .unset, .unset, .unset, .unset, .unset, .unset] [(.int p5), (.int (v0_6 p0 p1 p2 p3 p4 p5 w0))])) rfl (by rw [hml]; rfl) (argsL := [(.int (v0_6 p0 p1 p2 p3 p4 p5 w0)), (.int p5)]) (rest := []) (lenOf pd__II_Ljava_lang_String_ rfl) rfl (by show 2 * 0 + _ ≤ _; exact Nat.le_of_eq rfl) (hb hby at_55) (fun _ _ => ⟨rfl, rfl, (by decide : 15 + 3 ≤ _), (by decide : 40 + 8 ≤ _)⟩)
  dsimp only [Pt.U, Pt.locs, Pt.cells, Pt.slots] at X20 l20 y20 z20 st20 hQ20 hSq20 hgq20
  obtain ⟨X20, hS20, hZ, hown⟩ := rebS (s := s) (vm0 := T16.vm) (n1 := T16.heap.size) hS16 (Nat.le_refl _) X20 hSq20 hgq20 hZ hown
  replace X20 := own_stand X20 l20 y20 z20
  clear l20 y20 z20
  have N20q := (show _ ∧ _ from hQ20).1
  have hq20 := (show _ ∧ _ from hQ20).2
  clear hQ20
  obtain ⟨upk_20, hq20x⟩ := hq20
  have hv20 := hq20x.1
  have K20 := hq20x.2.1
  have po20_0 := hq20x.2.2.1
  have po20_1 := hq20x.2.2.2
  clear hq20x
  subst hv20
  have z22 : n0 ≤ T20.heap.size := Nat.le_trans z18 K20.1
  have hs23 : h0.size ≤ T20.heap.size := Nat.le_trans hs19 K20.1
  have N20 := Fr.app N16 N20q
  have O25 := (O21.keep K20 all0)
  obtain ⟨vr24, _, ⟨T24, L24, k24, n24⟩, -, X24, hSq24, hgq24, ⟨Lc24, hQ24, l24, y24, z24⟩, st24⟩ := Jvm.RoadKit.callSS (s := s.setVm T20.vm) X20 hx (y := (⟨"com/example/tollgate/tollgate/signing/SignedCallIsKeyedPinLaw", "pick", "(II)Ljava/lang/String;"⟩ : MethodName)) hown (mvT hZ (wd hw 0 rfl)) (mvT hZ (wd hw 1 rfl)) (mvT hZ (wd hw 2 rfl)) (mvT hZ (wd hw 3 rfl)) (by decide) (backOfS (s := s.setVm T20.vm) (W := 0) (own_pk l Z a0 hw [] (v0_7 p0 p1 p2 p3 p4 p5 w0) (v0_8 p0 p1 p2 p3 p4 p5 w0) w0 T20.heap n0 z22 (Sta.ext O25.2 S_String_COMPACT_STRINGS) hcs) hZ (wd hw 3 rfl) (wd hw 2 rfl) (by decide) (by decide)) (g := (mkF m 68 #[.val (.int p0), .val (.int p1), .val (.int p2), .val (.int p3), .val (.int p4), .val (.int p5), .val upk_1, .val upk_4, .val upk_8, .val upk_12, .val upk_16, .val upk_20, .unset, .unset, .unset, .unset, .unset, .unset, .unset, .unset, .unset, .unset, .unset, .unset, .unset, .unset] [(.int (v0_8 p0 p1 p2 p3 p4 p5 w0)), (.int (v0_7 p0 p1 p2 p3 p4 p5 w0))])) rfl (by rw [hml]; rfl) (argsL := [(.int (v0_7 p0 p1 p2 p3 p4 p5 w0)), (.int (v0_8 p0 p1 p2 p3 p4 p5 w0))]) (rest := []) (lenOf pd__II_Ljava_lang_String_ rfl) rfl (by show 2 * 0 + _ ≤ _; exact Nat.le_of_eq rfl) (hb hby at_68) (fun _ _ => ⟨rfl, rfl, (by decide : 18 + 3 ≤ _), (by decide : 48 + 8 ≤ _)⟩)
  dsimp only [Pt.U, Pt.locs, Pt.cells, Pt.slots] at X24 l24 y24 z24 st24 hQ24 hSq24 hgq24
  obtain ⟨X24, hS24, hZ, hown⟩ := rebS (s := s) (vm0 := T20.vm) (n1 := T20.heap.size) hS20 (Nat.le_refl _) X24 hSq24 hgq24 hZ hown
  replace X24 := own_stand X24 l24 y24 z24
  clear l24 y24 z24
  have N24q := (show _ ∧ _ from hQ24).1
  have hq24 := (show _ ∧ _ from hQ24).2
  clear hQ24
  obtain ⟨upk_24, hq24x⟩ := hq24
  have hv24 := hq24x.1
  have K24 := hq24x.2.1
  have po24_0 := hq24x.2.2.1
  have po24_1 := hq24x.2.2.2
  clear hq24x
  subst hv24
  have z26 : n0 ≤ T24.heap.size := Nat.le_trans z22 K24.1
  have hs27 : h0.size ≤ T24.heap.size := Nat.le_trans hs23 K24.1
  have N24 := Fr.app N20 N24q
  have O29 := (O25.keep K24 all0)
  obtain ⟨vr28, _, ⟨T28, L28, k28, n28⟩, -, X28, hSq28, hgq28, ⟨Lc28, hQ28, l28, y28, z28⟩, st28⟩ := Jvm.RoadKit.callSS (s := s.setVm T24.vm) X24 hx (y := (⟨"com/example/tollgate/tollgate/signing/SignedCallIsKeyedPinLaw", "pick", "(II)Ljava/lang/String;"⟩ : MethodName)) hown (mvT hZ (wd hw 0 rfl)) (mvT hZ (wd hw 1 rfl)) (mvT hZ (wd hw 2 rfl)) (mvT hZ (wd hw 3 rfl)) (by decide) (backOfS (s := s.setVm T24.vm) (W := 0) (own_pk l Z a0 hw [] (v0_9 p0 p1 p2 p3 p4 p5 w0) (v0_10 p0 p1 p2 p3 p4 p5 w0) w0 T24.heap n0 z26 (Sta.ext O29.2 S_String_COMPACT_STRINGS) hcs) hZ (wd hw 3 rfl) (wd hw 2 rfl) (by decide) (by decide)) (g := (mkF m 81 #[.val (.int p0), .val (.int p1), .val (.int p2), .val (.int p3), .val (.int p4), .val (.int p5), .val upk_1, .val upk_4, .val upk_8, .val upk_12, .val upk_16, .val upk_20, .val upk_24, .unset, .unset, .unset, .unset, .unset, .unset, .unset, .unset, .unset, .unset, .unset, .unset, .unset] [(.int (v0_10 p0 p1 p2 p3 p4 p5 w0)), (.int (v0_9 p0 p1 p2 p3 p4 p5 w0))])) rfl (by rw [hml]; rfl) (argsL := [(.int (v0_9 p0 p1 p2 p3 p4 p5 w0)), (.int (v0_10 p0 p1 p2 p3 p4 p5 w0))]) (rest := []) (lenOf pd__II_Ljava_lang_String_ rfl) rfl (by show 2 * 0 + _ ≤ _; exact Nat.le_of_eq rfl) (hb hby at_81) (fun _ _ => ⟨rfl, rfl, (by decide : 21 + 3 ≤ _), (by decide : 56 + 8 ≤ _)⟩)
  dsimp only [Pt.U, Pt.locs, Pt.cells, Pt.slots] at X28 l28 y28 z28 st28 hQ28 hSq28 hgq28
  obtain ⟨X28, hS28, hZ, hown⟩ := rebS (s := s) (vm0 := T24.vm) (n1 := T24.heap.size) hS24 (Nat.le_refl _) X28 hSq28 hgq28 hZ hown
  replace X28 := own_stand X28 l28 y28 z28
  clear l28 y28 z28
  have N28q := (show _ ∧ _ from hQ28).1
  have hq28 := (show _ ∧ _ from hQ28).2
  clear hQ28
  obtain ⟨upk_28, hq28x⟩ := hq28
  have hv28 := hq28x.1
  have K28 := hq28x.2.1
  have po28_0 := hq28x.2.2.1
  have po28_1 := hq28x.2.2.2
  clear hq28x
  subst hv28
  have z30 : n0 ≤ T28.heap.size := Nat.le_trans z26 K28.1
  have hs31 : h0.size ≤ T28.heap.size := Nat.le_trans hs27 K28.1
  have N28 := Fr.app N24 N28q
  have O33 := (O29.keep K28 all0)
  obtain ⟨vr32, _, ⟨T32, L32, k32, n32⟩, -, X32, hSq32, hgq32, ⟨Lc32, hQ32, l32, y32, z32⟩, st32⟩ := Jvm.RoadKit.callSS (s := s.setVm T28.vm) X28 hx (y := (⟨"com/example/tollgate/tollgate/signing/SignedCallIsKeyedPinLaw", "pick", "(II)Ljava/lang/String;"⟩ : MethodName)) hown (mvT hZ (wd hw 0 rfl)) (mvT hZ (wd hw 1 rfl)) (mvT hZ (wd hw 2 rfl)) (mvT hZ (wd hw 3 rfl)) (by decide) (backOfS (s := s.setVm T28.vm) (W := 0) (own_pk l Z a0 hw [] (v0_11 p0 p1 p2 p3 p4 p5 w0) (v0_12 p0 p1 p2 p3 p4 p5 w0) w0 T28.heap n0 z30 (Sta.ext O33.2 S_String_COMPACT_STRINGS) hcs) hZ (wd hw 3 rfl) (wd hw 2 rfl) (by decide) (by decide)) (g := (mkF m 94 #[.val (.int p0), .val (.int p1), .val (.int p2), .val (.int p3), .val (.int p4), .val (.int p5), .val upk_1, .val upk_4, .val upk_8, .val upk_12, .val upk_16, .val upk_20, .val upk_24, .val upk_28, .unset, .unset, .unset, .unset, .unset, .unset, .unset, .unset, .unset, .unset, .unset, .unset] [(.int (v0_12 p0 p1 p2 p3 p4 p5 w0)), (.int (v0_11 p0 p1 p2 p3 p4 p5 w0))])) rfl (by rw [hml]; rfl) (argsL := [(.int (v0_11 p0 p1 p2 p3 p4 p5 w0)), (.int (v0_12 p0 p1 p2 p3 p4 p5 w0))]) (rest := []) (lenOf pd__II_Ljava_lang_String_ rfl) rfl (by show 2 * 0 + _ ≤ _; exact Nat.le_of_eq rfl) (hb hby at_94) (fun _ _ => ⟨rfl, rfl, (by decide : 24 + 3 ≤ _), (by decide : 64 + 8 ≤ _)⟩)
  dsimp only [Pt.U, Pt.locs, Pt.cells, Pt.slots] at X32 l32 y32 z32 st32 hQ32 hSq32 hgq32
  obtain ⟨X32, hS32, hZ, hown⟩ := rebS (s := s) (vm0 := T28.vm) (n1 := T28.heap.size) hS28 (Nat.le_refl _) X32 hSq32 hgq32 hZ hown
  replace X32 := own_stand X32 l32 y32 z32
  clear l32 y32 z32
  have N32q := (show _ ∧ _ from hQ32).1
  have hq32 := (show _ ∧ _ from hQ32).2
  clear hQ32
  obtain ⟨upk_32, hq32x⟩ := hq32
  have hv32 := hq32x.1
  have K32 := hq32x.2.1
  have po32_0 := hq32x.2.2.1
  have po32_1 := hq32x.2.2.2
  clear hq32x
  subst hv32
  have z34 : n0 ≤ T32.heap.size := Nat.le_trans z30 K32.1
  have hs35 : h0.size ≤ T32.heap.size := Nat.le_trans hs31 K32.1
  have N32 := Fr.app N28 N32q
  have O37 := (O33.keep K32 all0)
  obtain ⟨vr36, _, ⟨T36, L36, k36, n36⟩, -, X36, hSq36, hgq36, ⟨Lc36, hQ36, l36, y36, z36⟩, st36⟩ := Jvm.RoadKit.callSS (s := s.setVm T32.vm) X32 hx (y := (⟨"com/example/tollgate/tollgate/signing/SignedCallIsKeyedPinLaw", "pick", "(II)Ljava/lang/String;"⟩ : MethodName)) hown (mvT hZ (wd hw 0 rfl)) (mvT hZ (wd hw 1 rfl)) (mvT hZ (wd hw 2 rfl)) (mvT hZ (wd hw 3 rfl)) (by decide) (backOfS (s := s.setVm T32.vm) (W := 0) (own_pk l Z a0 hw [] (v0_13 p0 p1 p2 p3 p4 p5 w0) (v0_14 p0 p1 p2 p3 p4 p5 w0) w0 T32.heap n0 z34 (Sta.ext O37.2 S_String_COMPACT_STRINGS) hcs) hZ (wd hw 3 rfl) (wd hw 2 rfl) (by decide) (by decide)) (g := (mkF m 108 #[.val (.int p0), .val (.int p1), .val (.int p2), .val (.int p3), .val (.int p4), .val (.int p5), .val upk_1, .val upk_4, .val upk_8, .val upk_12, .val upk_16, .val upk_20, .val upk_24, .val upk_28, .val upk_32, .unset, .unset, .unset, .unset, .unset, .unset, .unset, .unset, .unset, .unset, .unset] [(.int (v0_14 p0 p1 p2 p3 p4 p5 w0)), (.int (v0_13 p0 p1 p2 p3 p4 p5 w0))])) rfl (by rw [hml]; rfl) (argsL := [(.int (v0_13 p0 p1 p2 p3 p4 p5 w0)), (.int (v0_14 p0 p1 p2 p3 p4 p5 w0))]) (rest := []) (lenOf pd__II_Ljava_lang_String_ rfl) rfl (by show 2 * 0 + _ ≤ _; exact Nat.le_of_eq rfl) (hb hby at_108) (fun _ _ => ⟨rfl, rfl, (by decide : 27 + 3 ≤ _), (by decide : 72 + 8 ≤ _)⟩)
  dsimp only [Pt.U, Pt.locs, Pt.cells, Pt.slots] at X36 l36 y36 z36 st36 hQ36 hSq36 hgq36
  obtain ⟨X36, hS36, hZ, hown⟩ := rebS (s := s) (vm0 := T32.vm) (n1 := T32.heap.size) hS32 (Nat.le_refl _) X36 hSq36 hgq36 hZ hown
  replace X36 := own_stand X36 l36 y36 z36
  clear l36 y36 z36
  have N36q := (show _ ∧ _ from hQ36).1
  have hq36 := (show _ ∧ _ from hQ36).2
  clear hQ36
  obtain ⟨upk_36, hq36x⟩ := hq36
  have hv36 := hq36x.1
  have K36 := hq36x.2.1
  have po36_0 := hq36x.2.2.1
  have po36_1 := hq36x.2.2.2
  clear hq36x
  subst hv36
  have z38 : n0 ≤ T36.heap.size := Nat.le_trans z34 K36.1
  have hs39 : h0.size ≤ T36.heap.size := Nat.le_trans hs35 K36.1
  have N36 := Fr.app N32 N36q
  have O41 := (O37.keep K36 all0)
  obtain ⟨vr40, _, ⟨T40, L40, k40, n40⟩, -, X40, hSq40, hgq40, ⟨Lc40, hQ40, l40, y40, z40⟩, st40⟩ := Jvm.RoadKit.callSS (s := s.setVm T36.vm) X36 hx (y := (⟨"com/example/tollgate/tollgate/signing/SignedCallIsKeyedPinLaw", "pick", "(II)Ljava/lang/String;"⟩ : MethodName)) hown (mvT hZ (wd hw 0 rfl)) (mvT hZ (wd hw 1 rfl)) (mvT hZ (wd hw 2 rfl)) (mvT hZ (wd hw 3 rfl)) (by decide) (backOfS (s := s.setVm T36.vm) (W := 0) (own_pk l Z a0 hw [] (v0_15 p0 p1 p2 p3 p4 p5 w0) (v0_16 p0 p1 p2 p3 p4 p5 w0) w0 T36.heap n0 z38 (Sta.ext O41.2 S_String_COMPACT_STRINGS) hcs) hZ (wd hw 3 rfl) (wd hw 2 rfl) (by decide) (by decide)) (g := (mkF m 122 #[.val (.int p0), .val (.int p1), .val (.int p2), .val (.int p3), .val (.int p4), .val (.int p5), .val upk_1, .val upk_4, .val upk_8, .val upk_12, .val upk_16, .val upk_20, .val upk_24, .val upk_28, .val upk_32, .val upk_36, .unset, .unset, .unset, .unset, .unset, .unset, .unset, .unset, .unset, .unset] [(.int (v0_16 p0 p1 p2 p3 p4 p5 w0)), (.int (v0_15 p0 p1 p2 p3 p4 p5 w0))])) rfl (by rw [hml]; rfl) (argsL := [(.int (v0_15 p0 p1 p2 p3 p4 p5 w0)), (.int (v0_16 p0 p1 p2 p3 p4 p5 w0))]) (rest := []) (lenOf pd__II_Ljava_lang_String_ rfl) rfl (by show 2 * 0 + _ ≤ _; exact Nat.le_of_eq rfl) (hb hby at_122) (fun _ _ => ⟨rfl, rfl, (by decide : 30 + 3 ≤ _), (by decide : 80 + 8 ≤ _)⟩)
  dsimp only [Pt.U, Pt.locs, Pt.cells, Pt.slots] at X40 l40 y40 z40 st40 hQ40 hSq40 hgq40
  obtain ⟨X40, hS40, hZ, hown⟩ := rebS (s := s) (vm0 := T36.vm) (n1 := T36.heap.size) hS36 (Nat.le_refl _) X40 hSq40 hgq40 hZ hown
  replace X40 := own_stand X40 l40 y40 z40
  clear l40 y40 z40
  have N40q := (show _ ∧ _ from hQ40).1
  have hq40 := (show _ ∧ _ from hQ40).2
  clear hQ40
  obtain ⟨upk_40, hq40x⟩ := hq40
  have hv40 := hq40x.1
  have K40 := hq40x.2.1
  have po40_0 := hq40x.2.2.1
  have po40_1 := hq40x.2.2.2
  clear hq40x
  subst hv40
  have z42 : n0 ≤ T40.heap.size := Nat.le_trans z38 K40.1
  have hs43 : h0.size ≤ T40.heap.size := Nat.le_trans hs39 K40.1
  have N40 := Fr.app N36 N40q
  have pre44 : ∀ t, Steps p.tables e below (T40.setTop (mkF m 130 #[.val (.int p0), .val (.int p1), .val (.int p2), .val (.int p3), .val (.int p4), .val (.int p5), .val upk_1, .val upk_4, .val upk_8, .val upk_12, .val upk_16, .val upk_20, .val upk_24, .val upk_28, .val upk_32, .val upk_36, .val upk_40, .unset, .unset, .unset, .unset, .unset, .unset, .unset, .unset, .unset] [(.int (p0 &&& (3 : Int32)))])) t → Steps p.tables e below (s₁.setTop (entryFrame m #[(.int p0), (.int p1), (.int p2), (.int p3), (.int p4), (.int p5)] maxLocals)) t := by
    intro t k
    refine pre0 t ?_
    show Steps p.tables e below (s₁.setTop (mkF m 0 #[.val (.int p0), .val (.int p1), .val (.int p2), .val (.int p3), .val (.int p4), .val (.int p5), .unset, .unset, .unset, .unset, .unset, .unset, .unset, .unset, .unset, .unset, .unset, .unset, .unset, .unset, .unset, .unset, .unset, .unset, .unset, .unset] [])) _
    refine XS.iloadN X0.here hx rfl (hb hby at_0) rfl ?_
    refine XS.iloadN X0.here hx rfl (hb hby at_1) rfl ?_
    show Steps p.tables e below (s₁.setTop (mkF m 2 #[.val (.int p0), .val (.int p1), .val (.int p2), .val (.int p3), .val (.int p4), .val (.int p5), .unset, .unset, .unset, .unset, .unset, .unset, .unset, .unset, .unset, .unset, .unset, .unset, .unset, .unset, .unset, .unset, .unset, .unset, .unset, .unset] [(.int p1), (.int p0)])) _
    refine st1.trans ?_
    refine XS.astore X1.here hx rfl (hb hby at_5) rfl po1_0 (l' := #[.val (.int p0), .val (.int p1), .val (.int p2), .val (.int p3), .val (.int p4), .val (.int p5), .val upk_1, .unset, .unset, .unset, .unset, .unset, .unset, .unset, .unset, .unset, .unset, .unset, .unset, .unset, .unset, .unset, .unset, .unset, .unset, .unset]) (own_st (f := fun zz => #[.val (.int p0), .val (.int p1), .val (.int p2), .val (.int p3), .val (.int p4), .val (.int p5), .val zz, .unset, .unset, .unset, .unset, .unset, .unset, .unset, .unset, .unset, .unset, .unset, .unset, .unset, .unset, .unset, .unset, .unset, .unset, .unset]) po1_0 rfl (fun _ => rfl)) ?_
    refine XS.iloadN X1.here hx rfl (hb hby at_7) rfl ?_
    refine XT.iconstV X1.here hx rfl (2 : Int32) (hb hby at_8) (by decide) ?_
    show Steps p.tables e below (T1.setTop (mkF m 9 #[.val (.int p0), .val (.int p1), .val (.int p2), .val (.int p3), .val (.int p4), .val (.int p5), .val upk_1, .unset, .unset, .unset, .unset, .unset, .unset, .unset, .unset, .unset, .unset, .unset, .unset, .unset, .unset, .unset, .unset, .unset, .unset, .unset] [(.int (2 : Int32)), (.int p0)])) _
    refine XT.iushr X1.here hx rfl (hb hby at_9) rfl ?_
    refine XS.iloadN X1.here hx rfl (hb hby at_10) rfl ?_
    refine XT.bipushV X1.here hx rfl (8 : Int32) (hb hby at_11) (by decide) ?_
    show Steps p.tables e below (T1.setTop (mkF m 13 #[.val (.int p0), .val (.int p1), .val (.int p2), .val (.int p3), .val (.int p4), .val (.int p5), .val upk_1, .unset, .unset, .unset, .unset, .unset, .unset, .unset, .unset, .unset, .unset, .unset, .unset, .unset, .unset, .unset, .unset, .unset, .unset, .unset] [(.int (8 : Int32)), (.int p1), (.int (XT.ushr p0 (2 : Int32)))])) _
    refine XT.iushr X1.here hx rfl (hb hby at_13) rfl ?_
    show Steps p.tables e below (T1.setTop (mkF m 14 #[.val (.int p0), .val (.int p1), .val (.int p2), .val (.int p3), .val (.int p4), .val (.int p5), .val upk_1, .unset, .unset, .unset, .unset, .unset, .unset, .unset, .unset, .unset, .unset, .unset, .unset, .unset, .unset, .unset, .unset, .unset, .unset, .unset] [(.int (XT.ushr p1 (8 : Int32))), (.int (XT.ushr p0 (2 : Int32)))])) _
    refine st4.trans ?_
    refine XS.astore X4.here hx rfl (hb hby at_17) rfl po4_0 (l' := #[.val (.int p0), .val (.int p1), .val (.int p2), .val (.int p3), .val (.int p4), .val (.int p5), .val upk_1, .val upk_4, .unset, .unset, .unset, .unset, .unset, .unset, .unset, .unset, .unset, .unset, .unset, .unset, .unset, .unset, .unset, .unset, .unset, .unset]) (own_st (f := fun zz => #[.val (.int p0), .val (.int p1), .val (.int p2), .val (.int p3), .val (.int p4), .val (.int p5), .val upk_1, .val zz, .unset, .unset, .unset, .unset, .unset, .unset, .unset, .unset, .unset, .unset, .unset, .unset, .unset, .unset, .unset, .unset, .unset, .unset]) po4_0 rfl (fun _ => rfl)) ?_
    refine XS.iloadN X4.here hx rfl (hb hby at_19) rfl ?_
    refine XT.iconstV X4.here hx rfl (4 : Int32) (hb hby at_20) (by decide) ?_
    show Steps p.tables e below (T4.setTop (mkF m 21 #[.val (.int p0), .val (.int p1), .val (.int p2), .val (.int p3), .val (.int p4), .val (.int p5), .val upk_1, .val upk_4, .unset, .unset, .unset, .unset, .unset, .unset, .unset, .unset, .unset, .unset, .unset, .unset, .unset, .unset, .unset, .unset, .unset, .unset] [(.int (4 : Int32)), (.int p0)])) _
    refine XT.iushr X4.here hx rfl (hb hby at_21) rfl ?_
    refine XS.iloadN X4.here hx rfl (hb hby at_22) rfl ?_
    show Steps p.tables e below (T4.setTop (mkF m 23 #[.val (.int p0), .val (.int p1), .val (.int p2), .val (.int p3), .val (.int p4), .val (.int p5), .val upk_1, .val upk_4, .unset, .unset, .unset, .unset, .unset, .unset, .unset, .unset, .unset, .unset, .unset, .unset, .unset, .unset, .unset, .unset, .unset, .unset] [(.int p2), (.int (XT.ushr p0 (4 : Int32)))])) _
    refine st8.trans ?_
    refine XS.astore X8.here hx rfl (hb hby at_26) rfl po8_0 (l' := #[.val (.int p0), .val (.int p1), .val (.int p2), .val (.int p3), .val (.int p4), .val (.int p5), .val upk_1, .val upk_4, .val upk_8, .unset, .unset, .unset, .unset, .unset, .unset, .unset, .unset, .unset, .unset, .unset, .unset, .unset, .unset, .unset, .unset, .unset]) (own_st (f := fun zz => #[.val (.int p0), .val (.int p1), .val (.int p2), .val (.int p3), .val (.int p4), .val (.int p5), .val upk_1, .val upk_4, .val zz, .unset, .unset, .unset, .unset, .unset, .unset, .unset, .unset, .unset, .unset, .unset, .unset, .unset, .unset, .unset, .unset, .unset]) po8_0 rfl (fun _ => rfl)) ?_
    refine XS.iloadN X8.here hx rfl (hb hby at_28) rfl ?_
    refine XT.bipushV X8.here hx rfl (6 : Int32) (hb hby at_29) (by decide) ?_
    show Steps p.tables e below (T8.setTop (mkF m 31 #[.val (.int p0), .val (.int p1), .val (.int p2), .val (.int p3), .val (.int p4), .val (.int p5), .val upk_1, .val upk_4, .val upk_8, .unset, .unset, .unset, .unset, .unset, .unset, .unset, .unset, .unset, .unset, .unset, .unset, .unset, .unset, .unset, .unset, .unset] [(.int (6 : Int32)), (.int p0)])) _
    refine XT.iushr X8.here hx rfl (hb hby at_31) rfl ?_
    refine XS.iloadN X8.here hx rfl (hb hby at_32) rfl ?_
    show Steps p.tables e below (T8.setTop (mkF m 33 #[.val (.int p0), .val (.int p1), .val (.int p2), .val (.int p3), .val (.int p4), .val (.int p5), .val upk_1, .val upk_4, .val upk_8, .unset, .unset, .unset, .unset, .unset, .unset, .unset, .unset, .unset, .unset, .unset, .unset, .unset, .unset, .unset, .unset, .unset] [(.int p3), (.int (XT.ushr p0 (6 : Int32)))])) _
    refine st12.trans ?_
    refine XS.astore X12.here hx rfl (hb hby at_36) rfl po12_0 (l' := #[.val (.int p0), .val (.int p1), .val (.int p2), .val (.int p3), .val (.int p4), .val (.int p5), .val upk_1, .val upk_4, .val upk_8, .val upk_12, .unset, .unset, .unset, .unset, .unset, .unset, .unset, .unset, .unset, .unset, .unset, .unset, .unset, .unset, .unset, .unset]) (own_st (f := fun zz => #[.val (.int p0), .val (.int p1), .val (.int p2), .val (.int p3), .val (.int p4), .val (.int p5), .val upk_1, .val upk_4, .val upk_8, .val zz, .unset, .unset, .unset, .unset, .unset, .unset, .unset, .unset, .unset, .unset, .unset, .unset, .unset, .unset, .unset, .unset]) po12_0 rfl (fun _ => rfl)) ?_
    refine XS.iloadN X12.here hx rfl (hb hby at_38) rfl ?_
    refine XT.bipushV X12.here hx rfl (8 : Int32) (hb hby at_39) (by decide) ?_
    show Steps p.tables e below (T12.setTop (mkF m 41 #[.val (.int p0), .val (.int p1), .val (.int p2), .val (.int p3), .val (.int p4), .val (.int p5), .val upk_1, .val upk_4, .val upk_8, .val upk_12, .unset, .unset, .unset, .unset, .unset, .unset, .unset, .unset, .unset, .unset, .unset, .unset, .unset, .unset, .unset, .unset] [(.int (8 : Int32)), (.int p0)])) _
    refine XT.iushr X12.here hx rfl (hb hby at_41) rfl ?_
    refine XS.iload X12.here hx rfl (hb hby at_42) rfl ?_
    show Steps p.tables e below (T12.setTop (mkF m 44 #[.val (.int p0), .val (.int p1), .val (.int p2), .val (.int p3), .val (.int p4), .val (.int p5), .val upk_1, .val upk_4, .val upk_8, .val upk_12, .unset, .unset, .unset, .unset, .unset, .unset, .unset, .unset, .unset, .unset, .unset, .unset, .unset, .unset, .unset, .unset] [(.int p4), (.int (XT.ushr p0 (8 : Int32)))])) _
    refine st16.trans ?_
    refine XS.astore X16.here hx rfl (hb hby at_47) rfl po16_0 (l' := #[.val (.int p0), .val (.int p1), .val (.int p2), .val (.int p3), .val (.int p4), .val (.int p5), .val upk_1, .val upk_4, .val upk_8, .val upk_12, .val upk_16, .unset, .unset, .unset, .unset, .unset, .unset, .unset, .unset, .unset, .unset, .unset, .unset, .unset, .unset, .unset]) (own_st (f := fun zz => #[.val (.int p0), .val (.int p1), .val (.int p2), .val (.int p3), .val (.int p4), .val (.int p5), .val upk_1, .val upk_4, .val upk_8, .val upk_12, .val zz, .unset, .unset, .unset, .unset, .unset, .unset, .unset, .unset, .unset, .unset, .unset, .unset, .unset, .unset, .unset]) po16_0 rfl (fun _ => rfl)) ?_
    refine XS.iloadN X16.here hx rfl (hb hby at_49) rfl ?_
    refine XT.bipushV X16.here hx rfl (10 : Int32) (hb hby at_50) (by decide) ?_
    show Steps p.tables e below (T16.setTop (mkF m 52 #[.val (.int p0), .val (.int p1), .val (.int p2), .val (.int p3), .val (.int p4), .val (.int p5), .val upk_1, .val upk_4, .val upk_8, .val upk_12, .val upk_16, .unset, .unset, .unset, .unset, .unset, .unset, .unset, .unset, .unset, .unset, .unset, .unset, .unset, .unset, .unset] [(.int (10 : Int32)), (.int p0)])) _
    refine XT.iushr X16.here hx rfl (hb hby at_52) rfl ?_
    refine XS.iload X16.here hx rfl (hb hby at_53) rfl ?_
    show Steps p.tables e below (T16.setTop (mkF m 55 #[.val (.int p0), .val (.int p1), .val (.int p2), .val (.int p3), .val (.int p4), .val (.int p5), .val upk_1, .val upk_4, .val upk_8, .val upk_12, .val upk_16, .unset, .unset, .unset, .unset, .unset, .unset, .unset, .unset, .unset, .unset, .unset, .unset, .unset, .unset, .unset] [(.int p5), (.int (XT.ushr p0 (10 : Int32)))])) _
    refine st20.trans ?_
    refine XS.astore X20.here hx rfl (hb hby at_58) rfl po20_0 (l' := #[.val (.int p0), .val (.int p1), .val (.int p2), .val (.int p3), .val (.int p4), .val (.int p5), .val upk_1, .val upk_4, .val upk_8, .val upk_12, .val upk_16, .val upk_20, .unset, .unset, .unset, .unset, .unset, .unset, .unset, .unset, .unset, .unset, .unset, .unset, .unset, .unset]) (own_st (f := fun zz => #[.val (.int p0), .val (.int p1), .val (.int p2), .val (.int p3), .val (.int p4), .val (.int p5), .val upk_1, .val upk_4, .val upk_8, .val upk_12, .val upk_16, .val zz, .unset, .unset, .unset, .unset, .unset, .unset, .unset, .unset, .unset, .unset, .unset, .unset, .unset, .unset]) po20_0 rfl (fun _ => rfl)) ?_
    refine XS.iloadN X20.here hx rfl (hb hby at_60) rfl ?_
    refine XT.bipushV X20.here hx rfl (12 : Int32) (hb hby at_61) (by decide) ?_
    show Steps p.tables e below (T20.setTop (mkF m 63 #[.val (.int p0), .val (.int p1), .val (.int p2), .val (.int p3), .val (.int p4), .val (.int p5), .val upk_1, .val upk_4, .val upk_8, .val upk_12, .val upk_16, .val upk_20, .unset, .unset, .unset, .unset, .unset, .unset, .unset, .unset, .unset, .unset, .unset, .unset, .unset, .unset] [(.int (12 : Int32)), (.int p0)])) _
    refine XT.iushr X20.here hx rfl (hb hby at_63) rfl ?_
    refine XS.iloadN X20.here hx rfl (hb hby at_64) rfl ?_
    refine XT.bipushV X20.here hx rfl (16 : Int32) (hb hby at_65) (by decide) ?_
    show Steps p.tables e below (T20.setTop (mkF m 67 #[.val (.int p0), .val (.int p1), .val (.int p2), .val (.int p3), .val (.int p4), .val (.int p5), .val upk_1, .val upk_4, .val upk_8, .val upk_12, .val upk_16, .val upk_20, .unset, .unset, .unset, .unset, .unset, .unset, .unset, .unset, .unset, .unset, .unset, .unset, .unset, .unset] [(.int (16 : Int32)), (.int p1), (.int (XT.ushr p0 (12 : Int32)))])) _
    refine XT.iushr X20.here hx rfl (hb hby at_67) rfl ?_
    show Steps p.tables e below (T20.setTop (mkF m 68 #[.val (.int p0), .val (.int p1), .val (.int p2), .val (.int p3), .val (.int p4), .val (.int p5), .val upk_1, .val upk_4, .val upk_8, .val upk_12, .val upk_16, .val upk_20, .unset, .unset, .unset, .unset, .unset, .unset, .unset, .unset, .unset, .unset, .unset, .unset, .unset, .unset] [(.int (XT.ushr p1 (16 : Int32))), (.int (XT.ushr p0 (12 : Int32)))])) _
    refine st24.trans ?_
    refine XS.astore X24.here hx rfl (hb hby at_71) rfl po24_0 (l' := #[.val (.int p0), .val (.int p1), .val (.int p2), .val (.int p3), .val (.int p4), .val (.int p5), .val upk_1, .val upk_4, .val upk_8, .val upk_12, .val upk_16, .val upk_20, .val upk_24, .unset, .unset, .unset, .unset, .unset, .unset, .unset, .unset, .unset, .unset, .unset, .unset, .unset]) (own_st (f := fun zz => #[.val (.int p0), .val (.int p1), .val (.int p2), .val (.int p3), .val (.int p4), .val (.int p5), .val upk_1, .val upk_4, .val upk_8, .val upk_12, .val upk_16, .val upk_20, .val zz, .unset, .unset, .unset, .unset, .unset, .unset, .unset, .unset, .unset, .unset, .unset, .unset, .unset]) po24_0 rfl (fun _ => rfl)) ?_
    refine XS.iloadN X24.here hx rfl (hb hby at_73) rfl ?_
    refine XT.bipushV X24.here hx rfl (14 : Int32) (hb hby at_74) (by decide) ?_
    show Steps p.tables e below (T24.setTop (mkF m 76 #[.val (.int p0), .val (.int p1), .val (.int p2), .val (.int p3), .val (.int p4), .val (.int p5), .val upk_1, .val upk_4, .val upk_8, .val upk_12, .val upk_16, .val upk_20, .val upk_24, .unset, .unset, .unset, .unset, .unset, .unset, .unset, .unset, .unset, .unset, .unset, .unset, .unset] [(.int (14 : Int32)), (.int p0)])) _
    refine XT.iushr X24.here hx rfl (hb hby at_76) rfl ?_
    refine XS.iloadN X24.here hx rfl (hb hby at_77) rfl ?_
    refine XT.bipushV X24.here hx rfl (8 : Int32) (hb hby at_78) (by decide) ?_
    show Steps p.tables e below (T24.setTop (mkF m 80 #[.val (.int p0), .val (.int p1), .val (.int p2), .val (.int p3), .val (.int p4), .val (.int p5), .val upk_1, .val upk_4, .val upk_8, .val upk_12, .val upk_16, .val upk_20, .val upk_24, .unset, .unset, .unset, .unset, .unset, .unset, .unset, .unset, .unset, .unset, .unset, .unset, .unset] [(.int (8 : Int32)), (.int p2), (.int (XT.ushr p0 (14 : Int32)))])) _
    refine XT.iushr X24.here hx rfl (hb hby at_80) rfl ?_
    show Steps p.tables e below (T24.setTop (mkF m 81 #[.val (.int p0), .val (.int p1), .val (.int p2), .val (.int p3), .val (.int p4), .val (.int p5), .val upk_1, .val upk_4, .val upk_8, .val upk_12, .val upk_16, .val upk_20, .val upk_24, .unset, .unset, .unset, .unset, .unset, .unset, .unset, .unset, .unset, .unset, .unset, .unset, .unset] [(.int (XT.ushr p2 (8 : Int32))), (.int (XT.ushr p0 (14 : Int32)))])) _
    refine st28.trans ?_
    refine XS.astore X28.here hx rfl (hb hby at_84) rfl po28_0 (l' := #[.val (.int p0), .val (.int p1), .val (.int p2), .val (.int p3), .val (.int p4), .val (.int p5), .val upk_1, .val upk_4, .val upk_8, .val upk_12, .val upk_16, .val upk_20, .val upk_24, .val upk_28, .unset, .unset, .unset, .unset, .unset, .unset, .unset, .unset, .unset, .unset, .unset, .unset]) (own_st (f := fun zz => #[.val (.int p0), .val (.int p1), .val (.int p2), .val (.int p3), .val (.int p4), .val (.int p5), .val upk_1, .val upk_4, .val upk_8, .val upk_12, .val upk_16, .val upk_20, .val upk_24, .val zz, .unset, .unset, .unset, .unset, .unset, .unset, .unset, .unset, .unset, .unset, .unset, .unset]) po28_0 rfl (fun _ => rfl)) ?_
    refine XS.iloadN X28.here hx rfl (hb hby at_86) rfl ?_
    refine XT.bipushV X28.here hx rfl (16 : Int32) (hb hby at_87) (by decide) ?_
    show Steps p.tables e below (T28.setTop (mkF m 89 #[.val (.int p0), .val (.int p1), .val (.int p2), .val (.int p3), .val (.int p4), .val (.int p5), .val upk_1, .val upk_4, .val upk_8, .val upk_12, .val upk_16, .val upk_20, .val upk_24, .val upk_28, .unset, .unset, .unset, .unset, .unset, .unset, .unset, .unset, .unset, .unset, .unset, .unset] [(.int (16 : Int32)), (.int p0)])) _
    refine XT.iushr X28.here hx rfl (hb hby at_89) rfl ?_
    refine XS.iloadN X28.here hx rfl (hb hby at_90) rfl ?_
    refine XT.bipushV X28.here hx rfl (8 : Int32) (hb hby at_91) (by decide) ?_
    show Steps p.tables e below (T28.setTop (mkF m 93 #[.val (.int p0), .val (.int p1), .val (.int p2), .val (.int p3), .val (.int p4), .val (.int p5), .val upk_1, .val upk_4, .val upk_8, .val upk_12, .val upk_16, .val upk_20, .val upk_24, .val upk_28, .unset, .unset, .unset, .unset, .unset, .unset, .unset, .unset, .unset, .unset, .unset, .unset] [(.int (8 : Int32)), (.int p3), (.int (XT.ushr p0 (16 : Int32)))])) _
    refine XT.iushr X28.here hx rfl (hb hby at_93) rfl ?_
    show Steps p.tables e below (T28.setTop (mkF m 94 #[.val (.int p0), .val (.int p1), .val (.int p2), .val (.int p3), .val (.int p4), .val (.int p5), .val upk_1, .val upk_4, .val upk_8, .val upk_12, .val upk_16, .val upk_20, .val upk_24, .val upk_28, .unset, .unset, .unset, .unset, .unset, .unset, .unset, .unset, .unset, .unset, .unset, .unset] [(.int (XT.ushr p3 (8 : Int32))), (.int (XT.ushr p0 (16 : Int32)))])) _
    refine st32.trans ?_
    refine XS.astore X32.here hx rfl (hb hby at_97) rfl po32_0 (l' := #[.val (.int p0), .val (.int p1), .val (.int p2), .val (.int p3), .val (.int p4), .val (.int p5), .val upk_1, .val upk_4, .val upk_8, .val upk_12, .val upk_16, .val upk_20, .val upk_24, .val upk_28, .val upk_32, .unset, .unset, .unset, .unset, .unset, .unset, .unset, .unset, .unset, .unset, .unset]) (own_st (f := fun zz => #[.val (.int p0), .val (.int p1), .val (.int p2), .val (.int p3), .val (.int p4), .val (.int p5), .val upk_1, .val upk_4, .val upk_8, .val upk_12, .val upk_16, .val upk_20, .val upk_24, .val upk_28, .val zz, .unset, .unset, .unset, .unset, .unset, .unset, .unset, .unset, .unset, .unset, .unset]) po32_0 rfl (fun _ => rfl)) ?_
    refine XS.iloadN X32.here hx rfl (hb hby at_99) rfl ?_
    refine XT.bipushV X32.here hx rfl (18 : Int32) (hb hby at_100) (by decide) ?_
    show Steps p.tables e below (T32.setTop (mkF m 102 #[.val (.int p0), .val (.int p1), .val (.int p2), .val (.int p3), .val (.int p4), .val (.int p5), .val upk_1, .val upk_4, .val upk_8, .val upk_12, .val upk_16, .val upk_20, .val upk_24, .val upk_28, .val upk_32, .unset, .unset, .unset, .unset, .unset, .unset, .unset, .unset, .unset, .unset, .unset] [(.int (18 : Int32)), (.int p0)])) _
    refine XT.iushr X32.here hx rfl (hb hby at_102) rfl ?_
    refine XS.iload X32.here hx rfl (hb hby at_103) rfl ?_
    refine XT.bipushV X32.here hx rfl (8 : Int32) (hb hby at_105) (by decide) ?_
    show Steps p.tables e below (T32.setTop (mkF m 107 #[.val (.int p0), .val (.int p1), .val (.int p2), .val (.int p3), .val (.int p4), .val (.int p5), .val upk_1, .val upk_4, .val upk_8, .val upk_12, .val upk_16, .val upk_20, .val upk_24, .val upk_28, .val upk_32, .unset, .unset, .unset, .unset, .unset, .unset, .unset, .unset, .unset, .unset, .unset] [(.int (8 : Int32)), (.int p4), (.int (XT.ushr p0 (18 : Int32)))])) _
    refine XT.iushr X32.here hx rfl (hb hby at_107) rfl ?_
    show Steps p.tables e below (T32.setTop (mkF m 108 #[.val (.int p0), .val (.int p1), .val (.int p2), .val (.int p3), .val (.int p4), .val (.int p5), .val upk_1, .val upk_4, .val upk_8, .val upk_12, .val upk_16, .val upk_20, .val upk_24, .val upk_28, .val upk_32, .unset, .unset, .unset, .unset, .unset, .unset, .unset, .unset, .unset, .unset, .unset] [(.int (XT.ushr p4 (8 : Int32))), (.int (XT.ushr p0 (18 : Int32)))])) _
    refine st36.trans ?_
    refine XS.astore X36.here hx rfl (hb hby at_111) rfl po36_0 (l' := #[.val (.int p0), .val (.int p1), .val (.int p2), .val (.int p3), .val (.int p4), .val (.int p5), .val upk_1, .val upk_4, .val upk_8, .val upk_12, .val upk_16, .val upk_20, .val upk_24, .val upk_28, .val upk_32, .val upk_36, .unset, .unset, .unset, .unset, .unset, .unset, .unset, .unset, .unset, .unset]) (own_st (f := fun zz => #[.val (.int p0), .val (.int p1), .val (.int p2), .val (.int p3), .val (.int p4), .val (.int p5), .val upk_1, .val upk_4, .val upk_8, .val upk_12, .val upk_16, .val upk_20, .val upk_24, .val upk_28, .val upk_32, .val zz, .unset, .unset, .unset, .unset, .unset, .unset, .unset, .unset, .unset, .unset]) po36_0 rfl (fun _ => rfl)) ?_
    refine XS.iloadN X36.here hx rfl (hb hby at_113) rfl ?_
    refine XT.bipushV X36.here hx rfl (20 : Int32) (hb hby at_114) (by decide) ?_
    show Steps p.tables e below (T36.setTop (mkF m 116 #[.val (.int p0), .val (.int p1), .val (.int p2), .val (.int p3), .val (.int p4), .val (.int p5), .val upk_1, .val upk_4, .val upk_8, .val upk_12, .val upk_16, .val upk_20, .val upk_24, .val upk_28, .val upk_32, .val upk_36, .unset, .unset, .unset, .unset, .unset, .unset, .unset, .unset, .unset, .unset] [(.int (20 : Int32)), (.int p0)])) _
    refine XT.iushr X36.here hx rfl (hb hby at_116) rfl ?_
    refine XS.iload X36.here hx rfl (hb hby at_117) rfl ?_
    refine XT.bipushV X36.here hx rfl (8 : Int32) (hb hby at_119) (by decide) ?_
    show Steps p.tables e below (T36.setTop (mkF m 121 #[.val (.int p0), .val (.int p1), .val (.int p2), .val (.int p3), .val (.int p4), .val (.int p5), .val upk_1, .val upk_4, .val upk_8, .val upk_12, .val upk_16, .val upk_20, .val upk_24, .val upk_28, .val upk_32, .val upk_36, .unset, .unset, .unset, .unset, .unset, .unset, .unset, .unset, .unset, .unset] [(.int (8 : Int32)), (.int p5), (.int (XT.ushr p0 (20 : Int32)))])) _
    refine XT.iushr X36.here hx rfl (hb hby at_121) rfl ?_
    show Steps p.tables e below (T36.setTop (mkF m 122 #[.val (.int p0), .val (.int p1), .val (.int p2), .val (.int p3), .val (.int p4), .val (.int p5), .val upk_1, .val upk_4, .val upk_8, .val upk_12, .val upk_16, .val upk_20, .val upk_24, .val upk_28, .val upk_32, .val upk_36, .unset, .unset, .unset, .unset, .unset, .unset, .unset, .unset, .unset, .unset] [(.int (XT.ushr p5 (8 : Int32))), (.int (XT.ushr p0 (20 : Int32)))])) _
    refine st40.trans ?_
    refine XS.astore X40.here hx rfl (hb hby at_125) rfl po40_0 (l' := #[.val (.int p0), .val (.int p1), .val (.int p2), .val (.int p3), .val (.int p4), .val (.int p5), .val upk_1, .val upk_4, .val upk_8, .val upk_12, .val upk_16, .val upk_20, .val upk_24, .val upk_28, .val upk_32, .val upk_36, .val upk_40, .unset, .unset, .unset, .unset, .unset, .unset, .unset, .unset, .unset]) (own_st (f := fun zz => #[.val (.int p0), .val (.int p1), .val (.int p2), .val (.int p3), .val (.int p4), .val (.int p5), .val upk_1, .val upk_4, .val upk_8, .val upk_12, .val upk_16, .val upk_20, .val upk_24, .val upk_28, .val upk_32, .val upk_36, .val zz, .unset, .unset, .unset, .unset, .unset, .unset, .unset, .unset, .unset]) po40_0 rfl (fun _ => rfl)) ?_
    refine XS.iloadN X40.here hx rfl (hb hby at_127) rfl ?_
    refine XT.iconstV X40.here hx rfl (3 : Int32) (hb hby at_128) (by decide) ?_
    show Steps p.tables e below (T40.setTop (mkF m 129 #[.val (.int p0), .val (.int p1), .val (.int p2), .val (.int p3), .val (.int p4), .val (.int p5), .val upk_1, .val upk_4, .val upk_8, .val upk_12, .val upk_16, .val upk_20, .val upk_24, .val upk_28, .val upk_32, .val upk_36, .val upk_40, .unset, .unset, .unset, .unset, .unset, .unset, .unset, .unset, .unset] [(.int (3 : Int32)), (.int p0)])) _
    refine XS.iand X40.here hx rfl (hb hby at_129) rfl ?_
    exact k
  clear pre0 st1 st4 st8 st12 st16 st20 st24 st28 st32 st36 st40
  have pre48 : ∀ t, Steps p.tables e below (T40.setTop (mkF m 146 #[.val (.int p0), .val (.int p1), .val (.int p2), .val (.int p3), .val (.int p4), .val (.int p5), .val upk_1, .val upk_4, .val upk_8, .val upk_12, .val upk_16, .val upk_20, .val upk_24, .val upk_28, .val upk_32, .val upk_36, .val upk_40, .unset, .unset, .unset, .unset, .unset, .unset, .unset, .unset, .unset] [(.int (v0_19 p0 p1 p2 p3 p4 p5 w0))])) t → Steps p.tables e below (s₁.setTop (entryFrame m #[(.int p0), (.int p1), (.int p2), (.int p3), (.int p4), (.int p5)] maxLocals)) t := by
    intro t k
    by_cases c45 : (v0_17 p0 p1 p2 p3 p4 p5 w0) = (0 : Int32)
    · skip
      have pre46 : ∀ t, Steps p.tables e below (T40.setTop (mkF m 138 #[.val (.int p0), .val (.int p1), .val (.int p2), .val (.int p3), .val (.int p4), .val (.int p5), .val upk_1, .val upk_4, .val upk_8, .val upk_12, .val upk_16, .val upk_20, .val upk_24, .val upk_28, .val upk_32, .val upk_36, .val upk_40, .unset, .unset, .unset, .unset, .unset, .unset, .unset, .unset, .unset] [(.int ((XT.ushr p0 (2 : Int32)) &&& (3 : Int32)))])) t → Steps p.tables e below (s₁.setTop (entryFrame m #[(.int p0), (.int p1), (.int p2), (.int p3), (.int p4), (.int p5)] maxLocals)) t := by
        intro t k
        refine pre44 t ?_
        show Steps p.tables e below (T40.setTop (mkF m 130 #[.val (.int p0), .val (.int p1), .val (.int p2), .val (.int p3), .val (.int p4), .val (.int p5), .val upk_1, .val upk_4, .val upk_8, .val upk_12, .val upk_16, .val upk_20, .val upk_24, .val upk_28, .val upk_32, .val upk_36, .val upk_40, .unset, .unset, .unset, .unset, .unset, .unset, .unset, .unset, .unset] [(.int (p0 &&& (3 : Int32)))])) _
        refine XS.ifNo X40.here hx rfl (hb hby at_130) rfl (XT.i0_ne_f c45) ?_
        refine XS.iloadN X40.here hx rfl (hb hby at_133) rfl ?_
        refine XT.iconstV X40.here hx rfl (2 : Int32) (hb hby at_134) (by decide) ?_
        show Steps p.tables e below (T40.setTop (mkF m 135 #[.val (.int p0), .val (.int p1), .val (.int p2), .val (.int p3), .val (.int p4), .val (.int p5), .val upk_1, .val upk_4, .val upk_8, .val upk_12, .val upk_16, .val upk_20, .val upk_24, .val upk_28, .val upk_32, .val upk_36, .val upk_40, .unset, .unset, .unset, .unset, .unset, .unset, .unset, .unset, .unset] [(.int (2 : Int32)), (.int p0)])) _
        refine XT.iushr X40.here hx rfl (hb hby at_135) rfl ?_
        refine XT.iconstV X40.here hx rfl (3 : Int32) (hb hby at_136) (by decide) ?_
        refine XS.iand X40.here hx rfl (hb hby at_137) rfl ?_
        exact k
      clear pre44
      by_cases c47 : (v0_18 p0 p1 p2 p3 p4 p5 w0) = (0 : Int32)
      · skip
        rw [show (v0_19 p0 p1 p2 p3 p4 p5 w0) = (0 : Int32) from ((if_pos c45).trans (if_pos c47))] at k
        refine pre46 t ?_
        show Steps p.tables e below (T40.setTop (mkF m 138 #[.val (.int p0), .val (.int p1), .val (.int p2), .val (.int p3), .val (.int p4), .val (.int p5), .val upk_1, .val upk_4, .val upk_8, .val upk_12, .val upk_16, .val upk_20, .val upk_24, .val upk_28, .val upk_32, .val upk_36, .val upk_40, .unset, .unset, .unset, .unset, .unset, .unset, .unset, .unset, .unset] [(.int ((XT.ushr p0 (2 : Int32)) &&& (3 : Int32)))])) _
        refine XS.ifYes X40.here hx rfl (pc0 := 138) (pc' := 145) rfl (hb hby at_138) rfl (XT.i0_eq_t c47) (by decide) (by decide) ?_
        refine XT.iconstV X40.here hx rfl (0 : Int32) (hb hby at_145) (by decide) ?_
        exact k
      · skip
        rw [show (v0_19 p0 p1 p2 p3 p4 p5 w0) = (1 : Int32) from ((if_pos c45).trans (if_neg c47))] at k
        refine pre46 t ?_
        show Steps p.tables e below (T40.setTop (mkF m 138 #[.val (.int p0), .val (.int p1), .val (.int p2), .val (.int p3), .val (.int p4), .val (.int p5), .val upk_1, .val upk_4, .val upk_8, .val upk_12, .val upk_16, .val upk_20, .val upk_24, .val upk_28, .val upk_32, .val upk_36, .val upk_40, .unset, .unset, .unset, .unset, .unset, .unset, .unset, .unset, .unset] [(.int ((XT.ushr p0 (2 : Int32)) &&& (3 : Int32)))])) _
        refine XS.ifNo X40.here hx rfl (hb hby at_138) rfl (XT.i0_eq_f c47) ?_
        refine XT.iconstV X40.here hx rfl (1 : Int32) (hb hby at_141) (by decide) ?_
        show Steps p.tables e below (T40.setTop (mkF m 142 #[.val (.int p0), .val (.int p1), .val (.int p2), .val (.int p3), .val (.int p4), .val (.int p5), .val upk_1, .val upk_4, .val upk_8, .val upk_12, .val upk_16, .val upk_20, .val upk_24, .val upk_28, .val upk_32, .val upk_36, .val upk_40, .unset, .unset, .unset, .unset, .unset, .unset, .unset, .unset, .unset] [(.int (1 : Int32))])) _
        refine XS.goto X40.here hx rfl (pc0 := 142) (pc' := 146) rfl (hb hby at_142) (by decide) (by decide) ?_
        exact k
    · skip
      rw [show (v0_19 p0 p1 p2 p3 p4 p5 w0) = (1 : Int32) from (if_neg c45)] at k
      refine pre44 t ?_
      show Steps p.tables e below (T40.setTop (mkF m 130 #[.val (.int p0), .val (.int p1), .val (.int p2), .val (.int p3), .val (.int p4), .val (.int p5), .val upk_1, .val upk_4, .val upk_8, .val upk_12, .val upk_16, .val upk_20, .val upk_24, .val upk_28, .val upk_32, .val upk_36, .val upk_40, .unset, .unset, .unset, .unset, .unset, .unset, .unset, .unset, .unset] [(.int (p0 &&& (3 : Int32)))])) _
      refine XS.ifYes X40.here hx rfl (pc0 := 130) (pc' := 141) rfl (hb hby at_130) rfl (XT.i0_ne_t c45) (by decide) (by decide) ?_
      refine XT.iconstV X40.here hx rfl (1 : Int32) (hb hby at_141) (by decide) ?_
      show Steps p.tables e below (T40.setTop (mkF m 142 #[.val (.int p0), .val (.int p1), .val (.int p2), .val (.int p3), .val (.int p4), .val (.int p5), .val upk_1, .val upk_4, .val upk_8, .val upk_12, .val upk_16, .val upk_20, .val upk_24, .val upk_28, .val upk_32, .val upk_36, .val upk_40, .unset, .unset, .unset, .unset, .unset, .unset, .unset, .unset, .unset] [(.int (1 : Int32))])) _
      refine XS.goto X40.here hx rfl (pc0 := 142) (pc' := 146) rfl (hb hby at_142) (by decide) (by decide) ?_
      exact k
  obtain ⟨T49, h49, X49, e49, E49, A49, D49, -, st49⟩ := newO X40 hx hZ hown (wd hw 4 rfl) (wd hw 5 rfl) (wd hw 6 rfl) rfl (g := (mkF m 148 #[.val (.int p0), .val (.int p1), .val (.int p2), .val (.int p3), .val (.int p4), .val (.int p5), .val upk_1, .val upk_4, .val upk_8, .val upk_12, .val upk_16, .val upk_20, .val upk_24, .val upk_28, .val upk_32, .val upk_36, .val upk_40, .val (.int (v0_19 p0 p1 p2 p3 p4 p5 w0)), .unset, .unset, .unset, .unset, .unset, .unset, .unset, .unset] [])) rfl (hb hby at_148) (by decide) (by decide)
  obtain ⟨b49, gz49⟩ : ∃ z, z = T40.heap.size := ⟨_, rfl⟩
  rw [← gz49] at A49 D49 st49
  have g50 : n0 ≤ b49 := Nat.le_trans z42 (Nat.le_of_eq gz49.symm)
  have sz51 : h0.size ≤ b49 := Nat.le_trans hs43 (Nat.le_of_eq gz49.symm)
  have z52 : n0 ≤ h49.size := Nat.le_trans z42 E49.1
  have hs53 : h0.size ≤ h49.size := Nat.le_trans hs43 E49.1
  have hk54 := Nat.le_trans (Nat.le_refl _) E49.1
  have F49_domain : Fld Z h49 b49 "com/example/tollgate/tollgate/signing/SignedCall" "domain" "Ljava/lang/String;" .null := D49 (Or.inr (wd hw 19 rfl)) (ty := (.object "java/lang/String")) (by decide)
  have F49_user : Fld Z h49 b49 "com/example/tollgate/tollgate/signing/SignedCall" "user" "Ljava/lang/String;" .null := D49 (Or.inr (wd hw 21 rfl)) (ty := (.object "java/lang/String")) (by decide)
  have F49_project : Fld Z h49 b49 "com/example/tollgate/tollgate/signing/SignedCall" "project" "Ljava/lang/String;" .null := D49 (Or.inr (wd hw 23 rfl)) (ty := (.object "java/lang/String")) (by decide)
  have F49_expires : Fld Z h49 b49 "com/example/tollgate/tollgate/signing/SignedCall" "expires" "Ljava/lang/String;" .null := D49 (Or.inr (wd hw 25 rfl)) (ty := (.object "java/lang/String")) (by decide)
  have F49_nonce : Fld Z h49 b49 "com/example/tollgate/tollgate/signing/SignedCall" "nonce" "Ljava/lang/String;" .null := D49 (Or.inr (wd hw 27 rfl)) (ty := (.object "java/lang/String")) (by decide)
  have F49_accessKey : Fld Z h49 b49 "com/example/tollgate/tollgate/signing/SignedCall" "accessKey" "Ljava/lang/String;" .null := D49 (Or.inr (wd hw 29 rfl)) (ty := (.object "java/lang/String")) (by decide)
  have F49_algorithm : Fld Z h49 b49 "com/example/tollgate/tollgate/signing/SignedCall" "algorithm" "Ljava/lang/String;" .null := D49 (Or.inr (wd hw 31 rfl)) (ty := (.object "java/lang/String")) (by decide)
  have F49_method : Fld Z h49 b49 "com/example/tollgate/tollgate/signing/SignedCall" "method" "Ljava/lang/String;" .null := D49 (Or.inr (wd hw 33 rfl)) (ty := (.object "java/lang/String")) (by decide)
  have F49_target : Fld Z h49 b49 "com/example/tollgate/tollgate/signing/SignedCall" "target" "Ljava/lang/String;" .null := D49 (Or.inr (wd hw 35 rfl)) (ty := (.object "java/lang/String")) (by decide)
  have F49_bodySha256 : Fld Z h49 b49 "com/example/tollgate/tollgate/signing/SignedCall" "bodySha256" "Ljava/lang/String;" .null := D49 (Or.inr (wd hw 37 rfl)) (ty := (.object "java/lang/String")) (by decide)
  obtain ⟨vr55, _, ⟨T55, L55, k55, n55⟩, -, X55, ⟨Lc55, hQ55, l55, y55, z55⟩, st55⟩ := Jvm.Stand.specialBack X49 hx (y := (⟨"com/example/tollgate/tollgate/signing/SignedCall", "<init>", "(Ljava/lang/String;Ljava/lang/String;Ljava/lang/String;Ljava/lang/String;Ljava/lang/String;Ljava/lang/String;Ljava/lang/String;Ljava/lang/String;Ljava/lang/String;Ljava/lang/String;)V"⟩ : MethodName)) rfl hown (mvT hZ (wd hw 7 rfl)) (mvT hZ (wd hw 8 rfl)) (mvT hZ (wd hw 9 rfl)) (by decide) (backOf (W := 1) (rm2 l Z a0 hw [] b49 upk_8 upk_12 upk_16 upk_20 upk_24 upk_1 upk_4 upk_28 upk_32 upk_36 .null .null .null .null .null .null .null .null .null .null h49 n0 z52 A49 po8_0 po12_0 po16_0 po20_0 po24_0 po1_0 po4_0 po28_0 po32_0 po36_0 F49_domain g50 F49_user F49_project F49_expires F49_nonce F49_accessKey F49_algorithm F49_method F49_target F49_bodySha256) hZ (wd hw 9 rfl) (wd hw 6 rfl) (by decide) (by decide)) (g := (mkF m 172 #[.val (.int p0), .val (.int p1), .val (.int p2), .val (.int p3), .val (.int p4), .val (.int p5), .val upk_1, .val upk_4, .val upk_8, .val upk_12, .val upk_16, .val upk_20, .val upk_24, .val upk_28, .val upk_32, .val upk_36, .val upk_40, .val (.int (v0_19 p0 p1 p2 p3 p4 p5 w0)), .unset, .unset, .unset, .unset, .unset, .unset, .unset, .unset] [upk_36, upk_32, upk_28, upk_4, upk_1, upk_24, upk_20, upk_16, upk_12, upk_8, (.ref b49), (.ref b49)])) rfl (by rw [hml]; rfl) (Steps.refl _) (a := b49) (argsL := [upk_8, upk_12, upk_16, upk_20, upk_24, upk_1, upk_4, upk_28, upk_32, upk_36]) (rest := [(.ref b49)]) (lenOf pd_h550216 rfl) rfl (by show 2 * 0 + _ ≤ _; exact Nat.le_of_eq rfl) (hb hby at_172) (fun _ _ => ⟨rfl, e49, (by decide : 34 + 0 ≤ _), (by decide : 98 + 0 ≤ _)⟩)
  dsimp only [Pt.U, Pt.locs, Pt.cells, Pt.slots] at X55 l55 y55 z55 st55 hQ55
  replace X55 := own_stand X55 l55 y55 z55
  clear l55 y55 z55
  have N55q := (show _ ∧ _ from hQ55).1
  have hq55 := (show _ ∧ _ from hQ55).2
  clear hQ55
  have hv55 := hq55.1
  have K55 := hq55.2.1
  have po55_0 := hq55.2.2.1
  have po55_1 := hq55.2.2.2.1
  have po55_2 := hq55.2.2.2.2.1
  have po55_3 := hq55.2.2.2.2.2.1
  have po55_4 := hq55.2.2.2.2.2.2.1
  have po55_5 := hq55.2.2.2.2.2.2.2.1
  have po55_6 := hq55.2.2.2.2.2.2.2.2.1
  have po55_7 := hq55.2.2.2.2.2.2.2.2.2.1
  have po55_8 := hq55.2.2.2.2.2.2.2.2.2.2.1
  have po55_9 := hq55.2.2.2.2.2.2.2.2.2.2.2.1
  have po55_10 := hq55.2.2.2.2.2.2.2.2.2.2.2.2
  clear hq55
  subst hv55
  have z56 : n0 ≤ T55.heap.size := Nat.le_trans z52 K55.1
  have hs57 : h0.size ≤ T55.heap.size := Nat.le_trans hs53 K55.1
  have hk58 := Nat.le_trans hk54 K55.1
  have N55 := Fr.app N40 N55q
  obtain ⟨cq59, kq59, q59a, q59b, q59c⟩ := isOf hZ rfl po55_0
  obtain ⟨vr59, _, ⟨T59, L59, k59, n59⟩, -, X59, ⟨Lc59, hQ59, l59, y59, z59⟩, st59⟩ := Jvm.Stand.virtualBack X55 hx (y := (⟨"com/example/tollgate/tollgate/signing/SignedCall", "isKeyed", "()Z"⟩ : MethodName)) (z := (⟨"com/example/tollgate/tollgate/signing/SignedCall", "isKeyed", "()Z"⟩ : MethodName)) hown (mvT hZ (wd hw 38 rfl)) (mvT hZ (wd hw 39 rfl)) (notFace_of_selects (args := #[]) (mvT hZ (wd hw 41 rfl))) (mvT hZ (wd hw 41 rfl)) (mvT hZ (wd hw 40 rfl)) (by decide) (backOf (W := 0) (rm5 l Z a0 hw [] b49 upk_1 upk_4 T55.heap n0 z56 po55_0 po55_6 po55_7 po1_0 po4_0) hZ (wd hw 42 rfl) (wd hw 6 rfl) (by decide) (by decide)) q59a q59c (g := (mkF m 179 #[.val (.int p0), .val (.int p1), .val (.int p2), .val (.int p3), .val (.int p4), .val (.int p5), .val upk_1, .val upk_4, .val upk_8, .val upk_12, .val upk_16, .val upk_20, .val upk_24, .val upk_28, .val upk_32, .val upk_36, .val upk_40, .val (.int (v0_19 p0 p1 p2 p3 p4 p5 w0)), .val (.ref b49), .unset, .unset, .unset, .unset, .unset, .unset, .unset] [(.ref b49)])) rfl (by rw [hml]; rfl) (Steps.refl _) (argsL := []) (rest := []) (lenOf pd___Z rfl) rfl (by show 2 * 0 + _ ≤ _; exact Nat.le_of_eq rfl) (hb hby at_179) (fun _ _ => ⟨rfl, rfl, (by decide : 34 + 0 ≤ _), (by decide : 98 + 0 ≤ _)⟩)
  dsimp only [Pt.U, Pt.locs, Pt.cells, Pt.slots] at X59 l59 y59 z59 st59 hQ59
  replace X59 := own_stand X59 l59 y59 z59
  clear l59 y59 z59
  have N59q := (show _ ∧ _ ∧ _ from hQ59).1
  have hv59 := (show _ ∧ _ ∧ _ from hQ59).2.1
  have e59 := (show _ ∧ _ ∧ _ from hQ59).2.2
  clear hQ59
  subst hv59
  have N59 := Fr.app N55 N59q
  rw [show (f5 upk_1 upk_4) = (own_ex p0 (v0_1 p0 p1 p2 p3 p4 p5 w0)) from (own_k2 po1_1 po4_1)] at st59
  obtain ⟨T60, h60, X60, e60, E60, A60, D60, -, st60⟩ := newO X59 hx hZ hown (wd hw 4 rfl) (wd hw 5 rfl) (wd hw 6 rfl) e59 (g := (mkF m 184 #[.val (.int p0), .val (.int p1), .val (.int p2), .val (.int p3), .val (.int p4), .val (.int p5), .val upk_1, .val upk_4, .val upk_8, .val upk_12, .val upk_16, .val upk_20, .val upk_24, .val upk_28, .val upk_32, .val upk_36, .val upk_40, .val (.int (v0_19 p0 p1 p2 p3 p4 p5 w0)), .val (.ref b49), .val (.int (v0_20 p0 p1 p2 p3 p4 p5 w0)), .unset, .unset, .unset, .unset, .unset, .unset] [])) rfl (hb hby at_184) (by decide) (by decide)
  obtain ⟨b60, gz60⟩ : ∃ z, z = T55.heap.size := ⟨_, rfl⟩
  rw [← gz60] at A60 D60 st60
  have ne61 : b49 ≠ b60 := Nat.ne_of_lt (Nat.lt_of_lt_of_le po55_0.lt (Nat.le_of_eq gz60.symm))
  have g62 : n0 ≤ b60 := Nat.le_trans z56 (Nat.le_of_eq gz60.symm)
  have sz63 : h0.size ≤ b60 := Nat.le_trans hs57 (Nat.le_of_eq gz60.symm)
  have z64 : n0 ≤ h60.size := Nat.le_trans z56 E60.1
  have hs65 : h0.size ≤ h60.size := Nat.le_trans hs57 E60.1
  have hk66 := Nat.le_trans hk58 E60.1
  have F60_domain : Fld Z h60 b60 "com/example/tollgate/tollgate/signing/SignedCall" "domain" "Ljava/lang/String;" .null := D60 (Or.inr (wd hw 19 rfl)) (ty := (.object "java/lang/String")) (by decide)
  have F60_user : Fld Z h60 b60 "com/example/tollgate/tollgate/signing/SignedCall" "user" "Ljava/lang/String;" .null := D60 (Or.inr (wd hw 21 rfl)) (ty := (.object "java/lang/String")) (by decide)
  have F60_project : Fld Z h60 b60 "com/example/tollgate/tollgate/signing/SignedCall" "project" "Ljava/lang/String;" .null := D60 (Or.inr (wd hw 23 rfl)) (ty := (.object "java/lang/String")) (by decide)
  have F60_expires : Fld Z h60 b60 "com/example/tollgate/tollgate/signing/SignedCall" "expires" "Ljava/lang/String;" .null := D60 (Or.inr (wd hw 25 rfl)) (ty := (.object "java/lang/String")) (by decide)
  have F60_nonce : Fld Z h60 b60 "com/example/tollgate/tollgate/signing/SignedCall" "nonce" "Ljava/lang/String;" .null := D60 (Or.inr (wd hw 27 rfl)) (ty := (.object "java/lang/String")) (by decide)
  have F60_accessKey : Fld Z h60 b60 "com/example/tollgate/tollgate/signing/SignedCall" "accessKey" "Ljava/lang/String;" .null := D60 (Or.inr (wd hw 29 rfl)) (ty := (.object "java/lang/String")) (by decide)
  have F60_algorithm : Fld Z h60 b60 "com/example/tollgate/tollgate/signing/SignedCall" "algorithm" "Ljava/lang/String;" .null := D60 (Or.inr (wd hw 31 rfl)) (ty := (.object "java/lang/String")) (by decide)
  have F60_method : Fld Z h60 b60 "com/example/tollgate/tollgate/signing/SignedCall" "method" "Ljava/lang/String;" .null := D60 (Or.inr (wd hw 33 rfl)) (ty := (.object "java/lang/String")) (by decide)
  have F60_target : Fld Z h60 b60 "com/example/tollgate/tollgate/signing/SignedCall" "target" "Ljava/lang/String;" .null := D60 (Or.inr (wd hw 35 rfl)) (ty := (.object "java/lang/String")) (by decide)
  have F60_bodySha256 : Fld Z h60 b60 "com/example/tollgate/tollgate/signing/SignedCall" "bodySha256" "Ljava/lang/String;" .null := D60 (Or.inr (wd hw 37 rfl)) (ty := (.object "java/lang/String")) (by decide)
  obtain ⟨vr67, _, ⟨T67, L67, k67, n67⟩, -, X67, ⟨Lc67, hQ67, l67, y67, z67⟩, st67⟩ := Jvm.Stand.specialBack X60 hx (y := (⟨"com/example/tollgate/tollgate/signing/SignedCall", "<init>", "(Ljava/lang/String;Ljava/lang/String;Ljava/lang/String;Ljava/lang/String;Ljava/lang/String;)V"⟩ : MethodName)) rfl hown (mvT hZ (wd hw 43 rfl)) (mvT hZ (wd hw 44 rfl)) (mvT hZ (wd hw 45 rfl)) (by decide) (backOf (W := 1) (rm6 l Z a0 hw [] b60 upk_8 upk_12 upk_16 upk_20 upk_24 .null .null .null .null .null .null .null .null .null .null h60 n0 z64 A60 po8_0 po12_0 po16_0 po20_0 po24_0 F60_domain g62 F60_user F60_project F60_expires F60_nonce F60_accessKey F60_algorithm F60_method F60_target F60_bodySha256) hZ (wd hw 45 rfl) (wd hw 6 rfl) (by decide) (by decide)) (g := (mkF m 198 #[.val (.int p0), .val (.int p1), .val (.int p2), .val (.int p3), .val (.int p4), .val (.int p5), .val upk_1, .val upk_4, .val upk_8, .val upk_12, .val upk_16, .val upk_20, .val upk_24, .val upk_28, .val upk_32, .val upk_36, .val upk_40, .val (.int (v0_19 p0 p1 p2 p3 p4 p5 w0)), .val (.ref b49), .val (.int (v0_20 p0 p1 p2 p3 p4 p5 w0)), .unset, .unset, .unset, .unset, .unset, .unset] [upk_24, upk_20, upk_16, upk_12, upk_8, (.ref b60), (.ref b60)])) rfl (by rw [hml]; rfl) (Steps.refl _) (a := b60) (argsL := [upk_8, upk_12, upk_16, upk_20, upk_24]) (rest := [(.ref b60)]) (lenOf pd_h171213 rfl) rfl (by show 2 * 0 + _ ≤ _; exact Nat.le_of_eq rfl) (hb hby at_198) (fun _ _ => ⟨rfl, e60, (by decide : 35 + 0 ≤ _), (by decide : 108 + 0 ≤ _)⟩)
  dsimp only [Pt.U, Pt.locs, Pt.cells, Pt.slots] at X67 l67 y67 z67 st67 hQ67
  replace X67 := own_stand X67 l67 y67 z67
  clear l67 y67 z67
  have N67q := (show _ ∧ _ from hQ67).1
  have hq67 := (show _ ∧ _ from hQ67).2
  clear hQ67
  have hv67 := hq67.1
  have K67 := hq67.2.1
  have po67_0 := hq67.2.2.1
  have po67_1 := hq67.2.2.2.1
  have po67_2 := hq67.2.2.2.2.1
  have po67_3 := hq67.2.2.2.2.2.1
  have po67_4 := hq67.2.2.2.2.2.2.1
  have po67_5 := hq67.2.2.2.2.2.2.2.1
  have po67_6 := hq67.2.2.2.2.2.2.2.2.1
  have po67_7 := hq67.2.2.2.2.2.2.2.2.2.1
  have po67_8 := hq67.2.2.2.2.2.2.2.2.2.2.1
  have po67_9 := hq67.2.2.2.2.2.2.2.2.2.2.2.1
  have po67_10 := hq67.2.2.2.2.2.2.2.2.2.2.2.2
  clear hq67
  subst hv67
  have z68 : n0 ≤ T67.heap.size := Nat.le_trans z64 K67.1
  have hs69 : h0.size ≤ T67.heap.size := Nat.le_trans hs65 K67.1
  have hk70 := Nat.le_trans hk66 K67.1
  have N67 := Fr.app N59 N67q
  obtain ⟨cq71, kq71, q71a, q71b, q71c⟩ := isOf hZ rfl po67_0
  obtain ⟨vr71, _, ⟨T71, L71, k71, n71⟩, -, X71, ⟨Lc71, hQ71, l71, y71, z71⟩, st71⟩ := Jvm.Stand.virtualBack X67 hx (y := (⟨"com/example/tollgate/tollgate/signing/SignedCall", "isKeyed", "()Z"⟩ : MethodName)) (z := (⟨"com/example/tollgate/tollgate/signing/SignedCall", "isKeyed", "()Z"⟩ : MethodName)) hown (mvT hZ (wd hw 38 rfl)) (mvT hZ (wd hw 39 rfl)) (notFace_of_selects (args := #[]) (mvT hZ (wd hw 41 rfl))) (mvT hZ (wd hw 41 rfl)) (mvT hZ (wd hw 40 rfl)) (by decide) (backOf (W := 0) (rm5 l Z a0 hw [] b60 .null .null T67.heap n0 z68 po67_0 po67_6 po67_7 rfl rfl) hZ (wd hw 42 rfl) (wd hw 6 rfl) (by decide) (by decide)) q71a q71c (g := (mkF m 205 #[.val (.int p0), .val (.int p1), .val (.int p2), .val (.int p3), .val (.int p4), .val (.int p5), .val upk_1, .val upk_4, .val upk_8, .val upk_12, .val upk_16, .val upk_20, .val upk_24, .val upk_28, .val upk_32, .val upk_36, .val upk_40, .val (.int (v0_19 p0 p1 p2 p3 p4 p5 w0)), .val (.ref b49), .val (.int (v0_20 p0 p1 p2 p3 p4 p5 w0)), .val (.ref b60), .unset, .unset, .unset, .unset, .unset] [(.ref b60)])) rfl (by rw [hml]; rfl) (Steps.refl _) (argsL := []) (rest := []) (lenOf pd___Z rfl) rfl (by show 2 * 0 + _ ≤ _; exact Nat.le_of_eq rfl) (hb hby at_205) (fun _ _ => ⟨rfl, rfl, (by decide : 35 + 0 ≤ _), (by decide : 108 + 0 ≤ _)⟩)
  dsimp only [Pt.U, Pt.locs, Pt.cells, Pt.slots] at X71 l71 y71 z71 st71 hQ71
  replace X71 := own_stand X71 l71 y71 z71
  clear l71 y71 z71
  have N71q := (show _ ∧ _ ∧ _ from hQ71).1
  have hv71 := (show _ ∧ _ ∧ _ from hQ71).2.1
  have e71 := (show _ ∧ _ ∧ _ from hQ71).2.2
  clear hQ71
  subst hv71
  have N71 := Fr.app N67 N71q
  rw [show (f5 .null .null) = (0 : Int32) from rfl] at st71
  have k73 := ((po55_0.ext E60).keep K67)
  have k74 := ((po55_1.ext E60).keep K67 (ninS ne61 nin0))
  have k75 := ((po55_2.ext E60).keep K67 (ninS ne61 nin0))
  have k76 := ((po55_3.ext E60).keep K67 (ninS ne61 nin0))
  have k77 := ((po55_4.ext E60).keep K67 (ninS ne61 nin0))
  have k78 := ((po55_5.ext E60).keep K67 (ninS ne61 nin0))
  have k79 := ((po55_6.ext E60).keep K67 (ninS ne61 nin0))
  have k80 := ((po55_7.ext E60).keep K67 (ninS ne61 nin0))
  obtain ⟨cq72, kq72, q72a, q72b, q72c⟩ := isOf hZ e71 k73
  obtain ⟨vr72, _, ⟨T72, L72, k72, n72⟩, -, X72, ⟨Lc72, hQ72, l72, y72, z72⟩, st72⟩ := Jvm.Stand.virtualBack X71 hx (y := (⟨"com/example/tollgate/tollgate/signing/SignedCall", "bound", "(Ljava/lang/String;Ljava/lang/String;Ljava/lang/String;)Lcom/example/tollgate/tollgate/signing/SignedCall;"⟩ : MethodName)) (z := (⟨"com/example/tollgate/tollgate/signing/SignedCall", "bound", "(Ljava/lang/String;Ljava/lang/String;Ljava/lang/String;)Lcom/example/tollgate/tollgate/signing/SignedCall;"⟩ : MethodName)) hown (mvT hZ (wd hw 47 rfl)) (mvT hZ (wd hw 48 rfl)) (notFace_of_selects (args := #[]) (mvT hZ (wd hw 50 rfl))) (mvT hZ (wd hw 50 rfl)) (mvT hZ (wd hw 49 rfl)) (by decide) (backOf (W := 0) (rm7 l Z a0 hw [] b49 upk_40 upk_40 upk_40 upk_8 upk_12 upk_16 upk_20 upk_24 upk_1 upk_4 T67.heap n0 z68 k73 k74 k75 k76 k77 k78 k79 k80 po8_0 po12_0 po16_0 po20_0 po24_0 po1_0 po4_0 po40_0 po40_0 po40_0) hZ (wd hw 51 rfl) (wd hw 6 rfl) (by decide) (by decide)) q72a q72c (g := (mkF m 218 #[.val (.int p0), .val (.int p1), .val (.int p2), .val (.int p3), .val (.int p4), .val (.int p5), .val upk_1, .val upk_4, .val upk_8, .val upk_12, .val upk_16, .val upk_20, .val upk_24, .val upk_28, .val upk_32, .val upk_36, .val upk_40, .val (.int (v0_19 p0 p1 p2 p3 p4 p5 w0)), .val (.ref b49), .val (.int (v0_20 p0 p1 p2 p3 p4 p5 w0)), .val (.ref b60), .val (.int (0 : Int32)), .unset, .unset, .unset, .unset] [upk_40, upk_40, upk_40, (.ref b49)])) rfl (by rw [hml]; rfl) (Steps.refl _) (argsL := [upk_40, upk_40, upk_40]) (rest := []) (lenOf pd_h433718 rfl) rfl (by show 2 * 0 + _ ≤ _; exact Nat.le_of_eq rfl) (hb hby at_218) (fun _ _ => ⟨rfl, e71, (by decide : 35 + 1 ≤ _), (by decide : 108 + 10 ≤ _)⟩)
  dsimp only [Pt.U, Pt.locs, Pt.cells, Pt.slots] at X72 l72 y72 z72 st72 hQ72
  replace X72 := own_stand X72 l72 y72 z72
  clear l72 y72 z72
  have N72q := (show _ ∧ _ from hQ72).1
  have hq72 := (show _ ∧ _ from hQ72).2
  clear hQ72
  obtain ⟨x7_0_72, hq72x⟩ := hq72
  have hv72 := hq72x.1
  have szx7_0_72 := hq72x.2.1
  have K72 := hq72x.2.2.1
  have po72_0 := hq72x.2.2.2.1
  have po72_1 := hq72x.2.2.2.2.1
  have po72_2 := hq72x.2.2.2.2.2.1
  have po72_3 := hq72x.2.2.2.2.2.2.1
  have po72_4 := hq72x.2.2.2.2.2.2.2.1
  have po72_5 := hq72x.2.2.2.2.2.2.2.2.1
  have po72_6 := hq72x.2.2.2.2.2.2.2.2.2.1
  have po72_7 := hq72x.2.2.2.2.2.2.2.2.2.2.1
  have po72_8 := hq72x.2.2.2.2.2.2.2.2.2.2.2.1
  have po72_9 := hq72x.2.2.2.2.2.2.2.2.2.2.2.2.1
  have po72_10 := hq72x.2.2.2.2.2.2.2.2.2.2.2.2.2
  clear hq72x
  subst hv72
  have ne81 : b49 ≠ x7_0_72 := Nat.ne_of_lt (Nat.lt_of_lt_of_le k73.lt szx7_0_72)
  have ne82 : b60 ≠ x7_0_72 := Nat.ne_of_lt (Nat.lt_of_lt_of_le po67_0.lt szx7_0_72)
  have g83 : n0 ≤ x7_0_72 := Nat.le_trans z68 szx7_0_72
  have sz84 : h0.size ≤ x7_0_72 := Nat.le_trans hs69 szx7_0_72
  have z85 : n0 ≤ T72.heap.size := Nat.le_trans z68 K72.1
  have hs86 : h0.size ≤ T72.heap.size := Nat.le_trans hs69 K72.1
  have hk87 := Nat.le_trans hk70 K72.1
  have N72 := Fr.app N71 N72q
  obtain ⟨cq88, kq88, q88a, q88b, q88c⟩ := isOf hZ rfl po72_0
  obtain ⟨vr88, _, ⟨T88, L88, k88, n88⟩, -, X88, ⟨Lc88, hQ88, l88, y88, z88⟩, st88⟩ := Jvm.Stand.virtualBack X72 hx (y := (⟨"com/example/tollgate/tollgate/signing/SignedCall", "isKeyed", "()Z"⟩ : MethodName)) (z := (⟨"com/example/tollgate/tollgate/signing/SignedCall", "isKeyed", "()Z"⟩ : MethodName)) hown (mvT hZ (wd hw 38 rfl)) (mvT hZ (wd hw 39 rfl)) (notFace_of_selects (args := #[]) (mvT hZ (wd hw 41 rfl))) (mvT hZ (wd hw 41 rfl)) (mvT hZ (wd hw 40 rfl)) (by decide) (backOf (W := 0) (rm5 l Z a0 hw [] x7_0_72 upk_1 upk_4 T72.heap n0 z85 po72_0 po72_6 po72_7 po1_0 po4_0) hZ (wd hw 42 rfl) (wd hw 6 rfl) (by decide) (by decide)) q88a q88c (g := (mkF m 225 #[.val (.int p0), .val (.int p1), .val (.int p2), .val (.int p3), .val (.int p4), .val (.int p5), .val upk_1, .val upk_4, .val upk_8, .val upk_12, .val upk_16, .val upk_20, .val upk_24, .val upk_28, .val upk_32, .val upk_36, .val upk_40, .val (.int (v0_19 p0 p1 p2 p3 p4 p5 w0)), .val (.ref b49), .val (.int (v0_20 p0 p1 p2 p3 p4 p5 w0)), .val (.ref b60), .val (.int (0 : Int32)), .val (.ref x7_0_72), .unset, .unset, .unset] [(.ref x7_0_72)])) rfl (by rw [hml]; rfl) (Steps.refl _) (argsL := []) (rest := []) (lenOf pd___Z rfl) rfl (by show 2 * 0 + _ ≤ _; exact Nat.le_of_eq rfl) (hb hby at_225) (fun _ _ => ⟨rfl, rfl, (by decide : 36 + 0 ≤ _), (by decide : 118 + 0 ≤ _)⟩)
  dsimp only [Pt.U, Pt.locs, Pt.cells, Pt.slots] at X88 l88 y88 z88 st88 hQ88
  replace X88 := own_stand X88 l88 y88 z88
  clear l88 y88 z88
  have N88q := (show _ ∧ _ ∧ _ from hQ88).1
  have hv88 := (show _ ∧ _ ∧ _ from hQ88).2.1
  have e88 := (show _ ∧ _ ∧ _ from hQ88).2.2
  clear hQ88
  subst hv88
  have N88 := Fr.app N72 N88q
  rw [show (f5 upk_1 upk_4) = (own_ex p0 (v0_1 p0 p1 p2 p3 p4 p5 w0)) from (own_k2 po1_1 po4_1)] at st88
  have k90 := (k73.keep K72)
  have k91 := (k74.keep K72 nin0)
  have k92 := (k75.keep K72 nin0)
  have k93 := (k76.keep K72 nin0)
  have k94 := (k77.keep K72 nin0)
  have k95 := (k78.keep K72 nin0)
  obtain ⟨cq89, kq89, q89a, q89b, q89c⟩ := isOf hZ e88 k90
  obtain ⟨vr89, _, ⟨T89, L89, k89, n89⟩, -, X89, hSq89, hgq89, ⟨Lc89, hQ89, l89, y89, z89⟩, st89⟩ := Jvm.Stand.virtualBackS (s := s.setVm T40.vm) X88 hx (y := (⟨"com/example/tollgate/tollgate/signing/SignedCall", "keyed", "(Ljava/lang/String;Ljava/lang/String;Ljava/lang/String;Ljava/lang/String;)Lcom/example/tollgate/tollgate/signing/SignedCall;"⟩ : MethodName)) (z := (⟨"com/example/tollgate/tollgate/signing/SignedCall", "keyed", "(Ljava/lang/String;Ljava/lang/String;Ljava/lang/String;Ljava/lang/String;)Lcom/example/tollgate/tollgate/signing/SignedCall;"⟩ : MethodName)) hown (mvT hZ (wd hw 53 rfl)) (mvT hZ (wd hw 54 rfl)) (notFace_of_selects (args := #[]) (mvT hZ (wd hw 56 rfl))) (mvT hZ (wd hw 56 rfl)) (mvT hZ (wd hw 55 rfl)) (by decide) (backOfS (s := s.setVm T40.vm) (W := 0) (rm8 l Z a0 hw [] b49 upk_1 upk_28 upk_32 upk_36 upk_8 upk_12 upk_16 upk_20 upk_24 T72.heap n0 z85 k90 k91 k92 k93 k94 k95 po8_0 po12_0 po16_0 po20_0 po24_0 po1_0 po28_0 po32_0 po36_0) hZ (wd hw 57 rfl) (wd hw 6 rfl) (by decide) (by decide)) q89a q89c (g := (mkF m 240 #[.val (.int p0), .val (.int p1), .val (.int p2), .val (.int p3), .val (.int p4), .val (.int p5), .val upk_1, .val upk_4, .val upk_8, .val upk_12, .val upk_16, .val upk_20, .val upk_24, .val upk_28, .val upk_32, .val upk_36, .val upk_40, .val (.int (v0_19 p0 p1 p2 p3 p4 p5 w0)), .val (.ref b49), .val (.int (v0_20 p0 p1 p2 p3 p4 p5 w0)), .val (.ref b60), .val (.int (0 : Int32)), .val (.ref x7_0_72), .val (.int (v0_21 p0 p1 p2 p3 p4 p5 w0)), .unset, .unset] [upk_36, upk_32, upk_28, upk_1, (.ref b49)])) rfl (by rw [hml]; rfl) (Steps.refl _) (argsL := [upk_1, upk_28, upk_32, upk_36]) (rest := []) (lenOf pd_h260936 rfl) rfl (by show 2 * 0 + _ ≤ _; exact Nat.le_of_eq rfl) (hb hby at_240) (fun _ _ => ⟨rfl, e88, (by decide : 36 + 3 ≤ _), (by decide : 118 + 58 ≤ _)⟩)
  dsimp only [Pt.U, Pt.locs, Pt.cells, Pt.slots] at X89 l89 y89 z89 st89 hQ89 hSq89 hgq89
  obtain ⟨X89, hS89, hZ, hown⟩ := rebS (s := s) (vm0 := T40.vm) (n1 := T72.heap.size) hS40 hk87 X89 hSq89 (by rw [← e88]; exact hgq89) hZ hown
  replace X89 := own_stand X89 l89 y89 z89
  clear l89 y89 z89
  have N89q := (show _ ∧ _ from hQ89).1
  have hq89 := (show _ ∧ _ from hQ89).2
  clear hQ89
  obtain ⟨x8_0_89, x8_1_89, hq89x⟩ := hq89
  have hv89 := hq89x.1
  have szx8_0_89 := hq89x.2.1
  have K89 := hq89x.2.2.1
  have po89_0 := hq89x.2.2.2.1
  have po89_1 := hq89x.2.2.2.2.1
  have po89_2 := hq89x.2.2.2.2.2.1
  have po89_3 := hq89x.2.2.2.2.2.2.1
  have po89_4 := hq89x.2.2.2.2.2.2.2.1
  have po89_5 := hq89x.2.2.2.2.2.2.2.2.1
  have po89_6 := hq89x.2.2.2.2.2.2.2.2.2.1
  have po89_7 := hq89x.2.2.2.2.2.2.2.2.2.2.1
  have po89_8 := hq89x.2.2.2.2.2.2.2.2.2.2.2.1
  have po89_9 := hq89x.2.2.2.2.2.2.2.2.2.2.2.2.1
  have po89_10 := hq89x.2.2.2.2.2.2.2.2.2.2.2.2.2
  clear hq89x
  subst hv89
  have ne96 : b49 ≠ x8_0_89 := Nat.ne_of_lt (Nat.lt_of_lt_of_le k90.lt szx8_0_89)
  have k97 := (po67_0.keep K72)
  have ne98 : b60 ≠ x8_0_89 := Nat.ne_of_lt (Nat.lt_of_lt_of_le k97.lt szx8_0_89)
  have ne99 : x7_0_72 ≠ x8_0_89 := Nat.ne_of_lt (Nat.lt_of_lt_of_le po72_0.lt szx8_0_89)
  have g100 : n0 ≤ x8_0_89 := Nat.le_trans z85 szx8_0_89
  have sz101 : h0.size ≤ x8_0_89 := Nat.le_trans hs86 szx8_0_89
  have z102 : n0 ≤ T89.heap.size := Nat.le_trans z85 K89.1
  have hs103 : h0.size ≤ T89.heap.size := Nat.le_trans hs86 K89.1
  have N89 := Fr.app N88 N89q
  obtain ⟨cq104, kq104, q104a, q104b, q104c⟩ := isOf hZ rfl po89_0
  obtain ⟨vr104, _, ⟨T104, L104, k104, n104⟩, -, X104, ⟨Lc104, hQ104, l104, y104, z104⟩, st104⟩ := Jvm.Stand.virtualBack X89 hx (y := (⟨"com/example/tollgate/tollgate/signing/SignedCall", "isKeyed", "()Z"⟩ : MethodName)) (z := (⟨"com/example/tollgate/tollgate/signing/SignedCall", "isKeyed", "()Z"⟩ : MethodName)) hown (mvT hZ (wd hw 38 rfl)) (mvT hZ (wd hw 39 rfl)) (notFace_of_selects (args := #[]) (mvT hZ (wd hw 41 rfl))) (mvT hZ (wd hw 41 rfl)) (mvT hZ (wd hw 40 rfl)) (by decide) (backOf (W := 0) (rm5 l Z a0 hw [] x8_0_89 upk_1 (.ref x8_1_89) T89.heap n0 z102 po89_0 po89_6 po89_7 po1_0 rfl) hZ (wd hw 42 rfl) (wd hw 6 rfl) (by decide) (by decide)) q104a q104c (g := (mkF m 247 #[.val (.int p0), .val (.int p1), .val (.int p2), .val (.int p3), .val (.int p4), .val (.int p5), .val upk_1, .val upk_4, .val upk_8, .val upk_12, .val upk_16, .val upk_20, .val upk_24, .val upk_28, .val upk_32, .val upk_36, .val upk_40, .val (.int (v0_19 p0 p1 p2 p3 p4 p5 w0)), .val (.ref b49), .val (.int (v0_20 p0 p1 p2 p3 p4 p5 w0)), .val (.ref b60), .val (.int (0 : Int32)), .val (.ref x7_0_72), .val (.int (v0_21 p0 p1 p2 p3 p4 p5 w0)), .val (.ref x8_0_89), .unset] [(.ref x8_0_89)])) rfl (by rw [hml]; rfl) (Steps.refl _) (argsL := []) (rest := []) (lenOf pd___Z rfl) rfl (by show 2 * 0 + _ ≤ _; exact Nat.le_of_eq rfl) (hb hby at_247) (fun _ _ => ⟨rfl, rfl, (by decide : 39 + 0 ≤ _), (by decide : 176 + 0 ≤ _)⟩)
  dsimp only [Pt.U, Pt.locs, Pt.cells, Pt.slots] at X104 l104 y104 z104 st104 hQ104
  replace X104 := own_stand X104 l104 y104 z104
  clear l104 y104 z104
  have N104q := (show _ ∧ _ ∧ _ from hQ104).1
  have hv104 := (show _ ∧ _ ∧ _ from hQ104).2.1
  have e104 := (show _ ∧ _ ∧ _ from hQ104).2.2
  clear hQ104
  subst hv104
  have N104 := Fr.app N89 N104q
  rw [show (f5 upk_1 (.ref x8_1_89)) = (1 : Int32) from (own_k1 _ _)] at st104
  have pre105 : ∀ t, Steps p.tables e below (T104.setTop (mkF m 256 #[.val (.int p0), .val (.int p1), .val (.int p2), .val (.int p3), .val (.int p4), .val (.int p5), .val upk_1, .val upk_4, .val upk_8, .val upk_12, .val upk_16, .val upk_20, .val upk_24, .val upk_28, .val upk_32, .val upk_36, .val upk_40, .val (.int (v0_19 p0 p1 p2 p3 p4 p5 w0)), .val (.ref b49), .val (.int (v0_20 p0 p1 p2 p3 p4 p5 w0)), .val (.ref b60), .val (.int (0 : Int32)), .val (.ref x7_0_72), .val (.int (v0_21 p0 p1 p2 p3 p4 p5 w0)), .val (.ref x8_0_89), .val (.int (1 : Int32))] [(.int (v0_19 p0 p1 p2 p3 p4 p5 w0)), (.int (v0_20 p0 p1 p2 p3 p4 p5 w0))])) t → Steps p.tables e below (s₁.setTop (entryFrame m #[(.int p0), (.int p1), (.int p2), (.int p3), (.int p4), (.int p5)] maxLocals)) t := by
    intro t k
    refine pre48 t ?_
    show Steps p.tables e below (T40.setTop (mkF m 146 #[.val (.int p0), .val (.int p1), .val (.int p2), .val (.int p3), .val (.int p4), .val (.int p5), .val upk_1, .val upk_4, .val upk_8, .val upk_12, .val upk_16, .val upk_20, .val upk_24, .val upk_28, .val upk_32, .val upk_36, .val upk_40, .unset, .unset, .unset, .unset, .unset, .unset, .unset, .unset, .unset] [(.int (v0_19 p0 p1 p2 p3 p4 p5 w0))])) _
    refine XS.istore X40.here hx rfl (hb hby at_146) rfl (l' := #[.val (.int p0), .val (.int p1), .val (.int p2), .val (.int p3), .val (.int p4), .val (.int p5), .val upk_1, .val upk_4, .val upk_8, .val upk_12, .val upk_16, .val upk_20, .val upk_24, .val upk_28, .val upk_32, .val upk_36, .val upk_40, .val (.int (v0_19 p0 p1 p2 p3 p4 p5 w0)), .unset, .unset, .unset, .unset, .unset, .unset, .unset, .unset]) rfl ?_
    show Steps p.tables e below (T40.setTop (mkF m 148 #[.val (.int p0), .val (.int p1), .val (.int p2), .val (.int p3), .val (.int p4), .val (.int p5), .val upk_1, .val upk_4, .val upk_8, .val upk_12, .val upk_16, .val upk_20, .val upk_24, .val upk_28, .val upk_32, .val upk_36, .val upk_40, .val (.int (v0_19 p0 p1 p2 p3 p4 p5 w0)), .unset, .unset, .unset, .unset, .unset, .unset, .unset, .unset] [])) _
    refine st49 _ ?_
    refine XS.dup X49.here hx rfl (hb hby at_151) rfl rfl ?_
    refine XS.aload X49.here hx rfl (hb hby at_152) rfl po8_0 ?_
    refine XS.aload X49.here hx rfl (hb hby at_154) rfl po12_0 ?_
    show Steps p.tables e below (T49.setTop (mkF m 156 #[.val (.int p0), .val (.int p1), .val (.int p2), .val (.int p3), .val (.int p4), .val (.int p5), .val upk_1, .val upk_4, .val upk_8, .val upk_12, .val upk_16, .val upk_20, .val upk_24, .val upk_28, .val upk_32, .val upk_36, .val upk_40, .val (.int (v0_19 p0 p1 p2 p3 p4 p5 w0)), .unset, .unset, .unset, .unset, .unset, .unset, .unset, .unset] [upk_12, upk_8, (.ref b49), (.ref b49)])) _
    refine XS.aload X49.here hx rfl (hb hby at_156) rfl po16_0 ?_
    refine XS.aload X49.here hx rfl (hb hby at_158) rfl po20_0 ?_
    refine XS.aload X49.here hx rfl (hb hby at_160) rfl po24_0 ?_
    refine XS.aload X49.here hx rfl (hb hby at_162) rfl po1_0 ?_
    show Steps p.tables e below (T49.setTop (mkF m 164 #[.val (.int p0), .val (.int p1), .val (.int p2), .val (.int p3), .val (.int p4), .val (.int p5), .val upk_1, .val upk_4, .val upk_8, .val upk_12, .val upk_16, .val upk_20, .val upk_24, .val upk_28, .val upk_32, .val upk_36, .val upk_40, .val (.int (v0_19 p0 p1 p2 p3 p4 p5 w0)), .unset, .unset, .unset, .unset, .unset, .unset, .unset, .unset] [upk_1, upk_24, upk_20, upk_16, upk_12, upk_8, (.ref b49), (.ref b49)])) _
    refine XS.aload X49.here hx rfl (hb hby at_164) rfl po4_0 ?_
    refine XS.aload X49.here hx rfl (hb hby at_166) rfl po28_0 ?_
    refine XS.aload X49.here hx rfl (hb hby at_168) rfl po32_0 ?_
    refine XS.aload X49.here hx rfl (hb hby at_170) rfl po36_0 ?_
    show Steps p.tables e below (T49.setTop (mkF m 172 #[.val (.int p0), .val (.int p1), .val (.int p2), .val (.int p3), .val (.int p4), .val (.int p5), .val upk_1, .val upk_4, .val upk_8, .val upk_12, .val upk_16, .val upk_20, .val upk_24, .val upk_28, .val upk_32, .val upk_36, .val upk_40, .val (.int (v0_19 p0 p1 p2 p3 p4 p5 w0)), .unset, .unset, .unset, .unset, .unset, .unset, .unset, .unset] [upk_36, upk_32, upk_28, upk_4, upk_1, upk_24, upk_20, upk_16, upk_12, upk_8, (.ref b49), (.ref b49)])) _
    refine st55.trans ?_
    refine XS.astore X55.here hx rfl (hb hby at_175) rfl rfl (l' := #[.val (.int p0), .val (.int p1), .val (.int p2), .val (.int p3), .val (.int p4), .val (.int p5), .val upk_1, .val upk_4, .val upk_8, .val upk_12, .val upk_16, .val upk_20, .val upk_24, .val upk_28, .val upk_32, .val upk_36, .val upk_40, .val (.int (v0_19 p0 p1 p2 p3 p4 p5 w0)), .val (.ref b49), .unset, .unset, .unset, .unset, .unset, .unset, .unset]) rfl ?_
    refine XS.aload X55.here hx rfl (hb hby at_177) rfl rfl ?_
    show Steps p.tables e below (T55.setTop (mkF m 179 #[.val (.int p0), .val (.int p1), .val (.int p2), .val (.int p3), .val (.int p4), .val (.int p5), .val upk_1, .val upk_4, .val upk_8, .val upk_12, .val upk_16, .val upk_20, .val upk_24, .val upk_28, .val upk_32, .val upk_36, .val upk_40, .val (.int (v0_19 p0 p1 p2 p3 p4 p5 w0)), .val (.ref b49), .unset, .unset, .unset, .unset, .unset, .unset, .unset] [(.ref b49)])) _
    refine st59.trans ?_
    refine XS.istore X59.here hx rfl (hb hby at_182) rfl (l' := #[.val (.int p0), .val (.int p1), .val (.int p2), .val (.int p3), .val (.int p4), .val (.int p5), .val upk_1, .val upk_4, .val upk_8, .val upk_12, .val upk_16, .val upk_20, .val upk_24, .val upk_28, .val upk_32, .val upk_36, .val upk_40, .val (.int (v0_19 p0 p1 p2 p3 p4 p5 w0)), .val (.ref b49), .val (.int (v0_20 p0 p1 p2 p3 p4 p5 w0)), .unset, .unset, .unset, .unset, .unset, .unset]) rfl ?_
    show Steps p.tables e below (T59.setTop (mkF m 184 #[.val (.int p0), .val (.int p1), .val (.int p2), .val (.int p3), .val (.int p4), .val (.int p5), .val upk_1, .val upk_4, .val upk_8, .val upk_12, .val upk_16, .val upk_20, .val upk_24, .val upk_28, .val upk_32, .val upk_36, .val upk_40, .val (.int (v0_19 p0 p1 p2 p3 p4 p5 w0)), .val (.ref b49), .val (.int (v0_20 p0 p1 p2 p3 p4 p5 w0)), .unset, .unset, .unset, .unset, .unset, .unset] [])) _
    refine st60 _ ?_
    refine XS.dup X60.here hx rfl (hb hby at_187) rfl rfl ?_
    refine XS.aload X60.here hx rfl (hb hby at_188) rfl po8_0 ?_
    refine XS.aload X60.here hx rfl (hb hby at_190) rfl po12_0 ?_
    show Steps p.tables e below (T60.setTop (mkF m 192 #[.val (.int p0), .val (.int p1), .val (.int p2), .val (.int p3), .val (.int p4), .val (.int p5), .val upk_1, .val upk_4, .val upk_8, .val upk_12, .val upk_16, .val upk_20, .val upk_24, .val upk_28, .val upk_32, .val upk_36, .val upk_40, .val (.int (v0_19 p0 p1 p2 p3 p4 p5 w0)), .val (.ref b49), .val (.int (v0_20 p0 p1 p2 p3 p4 p5 w0)), .unset, .unset, .unset, .unset, .unset, .unset] [upk_12, upk_8, (.ref b60), (.ref b60)])) _
    refine XS.aload X60.here hx rfl (hb hby at_192) rfl po16_0 ?_
    refine XS.aload X60.here hx rfl (hb hby at_194) rfl po20_0 ?_
    refine XS.aload X60.here hx rfl (hb hby at_196) rfl po24_0 ?_
    show Steps p.tables e below (T60.setTop (mkF m 198 #[.val (.int p0), .val (.int p1), .val (.int p2), .val (.int p3), .val (.int p4), .val (.int p5), .val upk_1, .val upk_4, .val upk_8, .val upk_12, .val upk_16, .val upk_20, .val upk_24, .val upk_28, .val upk_32, .val upk_36, .val upk_40, .val (.int (v0_19 p0 p1 p2 p3 p4 p5 w0)), .val (.ref b49), .val (.int (v0_20 p0 p1 p2 p3 p4 p5 w0)), .unset, .unset, .unset, .unset, .unset, .unset] [upk_24, upk_20, upk_16, upk_12, upk_8, (.ref b60), (.ref b60)])) _
    refine st67.trans ?_
    refine XS.astore X67.here hx rfl (hb hby at_201) rfl rfl (l' := #[.val (.int p0), .val (.int p1), .val (.int p2), .val (.int p3), .val (.int p4), .val (.int p5), .val upk_1, .val upk_4, .val upk_8, .val upk_12, .val upk_16, .val upk_20, .val upk_24, .val upk_28, .val upk_32, .val upk_36, .val upk_40, .val (.int (v0_19 p0 p1 p2 p3 p4 p5 w0)), .val (.ref b49), .val (.int (v0_20 p0 p1 p2 p3 p4 p5 w0)), .val (.ref b60), .unset, .unset, .unset, .unset, .unset]) rfl ?_
    refine XS.aload X67.here hx rfl (hb hby at_203) rfl rfl ?_
    show Steps p.tables e below (T67.setTop (mkF m 205 #[.val (.int p0), .val (.int p1), .val (.int p2), .val (.int p3), .val (.int p4), .val (.int p5), .val upk_1, .val upk_4, .val upk_8, .val upk_12, .val upk_16, .val upk_20, .val upk_24, .val upk_28, .val upk_32, .val upk_36, .val upk_40, .val (.int (v0_19 p0 p1 p2 p3 p4 p5 w0)), .val (.ref b49), .val (.int (v0_20 p0 p1 p2 p3 p4 p5 w0)), .val (.ref b60), .unset, .unset, .unset, .unset, .unset] [(.ref b60)])) _
    refine st71.trans ?_
    refine XS.istore X71.here hx rfl (hb hby at_208) rfl (l' := #[.val (.int p0), .val (.int p1), .val (.int p2), .val (.int p3), .val (.int p4), .val (.int p5), .val upk_1, .val upk_4, .val upk_8, .val upk_12, .val upk_16, .val upk_20, .val upk_24, .val upk_28, .val upk_32, .val upk_36, .val upk_40, .val (.int (v0_19 p0 p1 p2 p3 p4 p5 w0)), .val (.ref b49), .val (.int (v0_20 p0 p1 p2 p3 p4 p5 w0)), .val (.ref b60), .val (.int (0 : Int32)), .unset, .unset, .unset, .unset]) rfl ?_
    refine XS.aload X71.here hx rfl (hb hby at_210) rfl rfl ?_
    refine XS.aload X71.here hx rfl (hb hby at_212) rfl po40_0 ?_
    show Steps p.tables e below (T71.setTop (mkF m 214 #[.val (.int p0), .val (.int p1), .val (.int p2), .val (.int p3), .val (.int p4), .val (.int p5), .val upk_1, .val upk_4, .val upk_8, .val upk_12, .val upk_16, .val upk_20, .val upk_24, .val upk_28, .val upk_32, .val upk_36, .val upk_40, .val (.int (v0_19 p0 p1 p2 p3 p4 p5 w0)), .val (.ref b49), .val (.int (v0_20 p0 p1 p2 p3 p4 p5 w0)), .val (.ref b60), .val (.int (0 : Int32)), .unset, .unset, .unset, .unset] [upk_40, (.ref b49)])) _
    refine XS.aload X71.here hx rfl (hb hby at_214) rfl po40_0 ?_
    refine XS.aload X71.here hx rfl (hb hby at_216) rfl po40_0 ?_
    show Steps p.tables e below (T71.setTop (mkF m 218 #[.val (.int p0), .val (.int p1), .val (.int p2), .val (.int p3), .val (.int p4), .val (.int p5), .val upk_1, .val upk_4, .val upk_8, .val upk_12, .val upk_16, .val upk_20, .val upk_24, .val upk_28, .val upk_32, .val upk_36, .val upk_40, .val (.int (v0_19 p0 p1 p2 p3 p4 p5 w0)), .val (.ref b49), .val (.int (v0_20 p0 p1 p2 p3 p4 p5 w0)), .val (.ref b60), .val (.int (0 : Int32)), .unset, .unset, .unset, .unset] [upk_40, upk_40, upk_40, (.ref b49)])) _
    refine st72.trans ?_
    refine XS.astore X72.here hx rfl (hb hby at_221) rfl rfl (l' := #[.val (.int p0), .val (.int p1), .val (.int p2), .val (.int p3), .val (.int p4), .val (.int p5), .val upk_1, .val upk_4, .val upk_8, .val upk_12, .val upk_16, .val upk_20, .val upk_24, .val upk_28, .val upk_32, .val upk_36, .val upk_40, .val (.int (v0_19 p0 p1 p2 p3 p4 p5 w0)), .val (.ref b49), .val (.int (v0_20 p0 p1 p2 p3 p4 p5 w0)), .val (.ref b60), .val (.int (0 : Int32)), .val (.ref x7_0_72), .unset, .unset, .unset]) rfl ?_
    refine XS.aload X72.here hx rfl (hb hby at_223) rfl rfl ?_
    show Steps p.tables e below (T72.setTop (mkF m 225 #[.val (.int p0), .val (.int p1), .val (.int p2), .val (.int p3), .val (.int p4), .val (.int p5), .val upk_1, .val upk_4, .val upk_8, .val upk_12, .val upk_16, .val upk_20, .val upk_24, .val upk_28, .val upk_32, .val upk_36, .val upk_40, .val (.int (v0_19 p0 p1 p2 p3 p4 p5 w0)), .val (.ref b49), .val (.int (v0_20 p0 p1 p2 p3 p4 p5 w0)), .val (.ref b60), .val (.int (0 : Int32)), .val (.ref x7_0_72), .unset, .unset, .unset] [(.ref x7_0_72)])) _
    refine st88.trans ?_
    refine XS.istore X88.here hx rfl (hb hby at_228) rfl (l' := #[.val (.int p0), .val (.int p1), .val (.int p2), .val (.int p3), .val (.int p4), .val (.int p5), .val upk_1, .val upk_4, .val upk_8, .val upk_12, .val upk_16, .val upk_20, .val upk_24, .val upk_28, .val upk_32, .val upk_36, .val upk_40, .val (.int (v0_19 p0 p1 p2 p3 p4 p5 w0)), .val (.ref b49), .val (.int (v0_20 p0 p1 p2 p3 p4 p5 w0)), .val (.ref b60), .val (.int (0 : Int32)), .val (.ref x7_0_72), .val (.int (v0_21 p0 p1 p2 p3 p4 p5 w0)), .unset, .unset]) rfl ?_
    refine XS.aload X88.here hx rfl (hb hby at_230) rfl rfl ?_
    refine XS.aload X88.here hx rfl (hb hby at_232) rfl po1_0 ?_
    show Steps p.tables e below (T88.setTop (mkF m 234 #[.val (.int p0), .val (.int p1), .val (.int p2), .val (.int p3), .val (.int p4), .val (.int p5), .val upk_1, .val upk_4, .val upk_8, .val upk_12, .val upk_16, .val upk_20, .val upk_24, .val upk_28, .val upk_32, .val upk_36, .val upk_40, .val (.int (v0_19 p0 p1 p2 p3 p4 p5 w0)), .val (.ref b49), .val (.int (v0_20 p0 p1 p2 p3 p4 p5 w0)), .val (.ref b60), .val (.int (0 : Int32)), .val (.ref x7_0_72), .val (.int (v0_21 p0 p1 p2 p3 p4 p5 w0)), .unset, .unset] [upk_1, (.ref b49)])) _
    refine XS.aload X88.here hx rfl (hb hby at_234) rfl po28_0 ?_
    refine XS.aload X88.here hx rfl (hb hby at_236) rfl po32_0 ?_
    refine XS.aload X88.here hx rfl (hb hby at_238) rfl po36_0 ?_
    show Steps p.tables e below (T88.setTop (mkF m 240 #[.val (.int p0), .val (.int p1), .val (.int p2), .val (.int p3), .val (.int p4), .val (.int p5), .val upk_1, .val upk_4, .val upk_8, .val upk_12, .val upk_16, .val upk_20, .val upk_24, .val upk_28, .val upk_32, .val upk_36, .val upk_40, .val (.int (v0_19 p0 p1 p2 p3 p4 p5 w0)), .val (.ref b49), .val (.int (v0_20 p0 p1 p2 p3 p4 p5 w0)), .val (.ref b60), .val (.int (0 : Int32)), .val (.ref x7_0_72), .val (.int (v0_21 p0 p1 p2 p3 p4 p5 w0)), .unset, .unset] [upk_36, upk_32, upk_28, upk_1, (.ref b49)])) _
    refine st89.trans ?_
    refine XS.astore X89.here hx rfl (hb hby at_243) rfl rfl (l' := #[.val (.int p0), .val (.int p1), .val (.int p2), .val (.int p3), .val (.int p4), .val (.int p5), .val upk_1, .val upk_4, .val upk_8, .val upk_12, .val upk_16, .val upk_20, .val upk_24, .val upk_28, .val upk_32, .val upk_36, .val upk_40, .val (.int (v0_19 p0 p1 p2 p3 p4 p5 w0)), .val (.ref b49), .val (.int (v0_20 p0 p1 p2 p3 p4 p5 w0)), .val (.ref b60), .val (.int (0 : Int32)), .val (.ref x7_0_72), .val (.int (v0_21 p0 p1 p2 p3 p4 p5 w0)), .val (.ref x8_0_89), .unset]) rfl ?_
    refine XS.aload X89.here hx rfl (hb hby at_245) rfl rfl ?_
    show Steps p.tables e below (T89.setTop (mkF m 247 #[.val (.int p0), .val (.int p1), .val (.int p2), .val (.int p3), .val (.int p4), .val (.int p5), .val upk_1, .val upk_4, .val upk_8, .val upk_12, .val upk_16, .val upk_20, .val upk_24, .val upk_28, .val upk_32, .val upk_36, .val upk_40, .val (.int (v0_19 p0 p1 p2 p3 p4 p5 w0)), .val (.ref b49), .val (.int (v0_20 p0 p1 p2 p3 p4 p5 w0)), .val (.ref b60), .val (.int (0 : Int32)), .val (.ref x7_0_72), .val (.int (v0_21 p0 p1 p2 p3 p4 p5 w0)), .val (.ref x8_0_89), .unset] [(.ref x8_0_89)])) _
    refine st104.trans ?_
    refine XS.istore X104.here hx rfl (hb hby at_250) rfl (l' := #[.val (.int p0), .val (.int p1), .val (.int p2), .val (.int p3), .val (.int p4), .val (.int p5), .val upk_1, .val upk_4, .val upk_8, .val upk_12, .val upk_16, .val upk_20, .val upk_24, .val upk_28, .val upk_32, .val upk_36, .val upk_40, .val (.int (v0_19 p0 p1 p2 p3 p4 p5 w0)), .val (.ref b49), .val (.int (v0_20 p0 p1 p2 p3 p4 p5 w0)), .val (.ref b60), .val (.int (0 : Int32)), .val (.ref x7_0_72), .val (.int (v0_21 p0 p1 p2 p3 p4 p5 w0)), .val (.ref x8_0_89), .val (.int (1 : Int32))]) rfl ?_
    refine XS.iload X104.here hx rfl (hb hby at_252) rfl ?_
    refine XS.iload X104.here hx rfl (hb hby at_254) rfl ?_
    exact k
  clear pre48 st49 st55 st59 st60 st67 st71 st72 st88 st89 st104
  have pre109 : ∀ t, Steps p.tables e below (T104.setTop (mkF m 281 #[.val (.int p0), .val (.int p1), .val (.int p2), .val (.int p3), .val (.int p4), .val (.int p5), .val upk_1, .val upk_4, .val upk_8, .val upk_12, .val upk_16, .val upk_20, .val upk_24, .val upk_28, .val upk_32, .val upk_36, .val upk_40, .val (.int (v0_19 p0 p1 p2 p3 p4 p5 w0)), .val (.ref b49), .val (.int (v0_20 p0 p1 p2 p3 p4 p5 w0)), .val (.ref b60), .val (.int (0 : Int32)), .val (.ref x7_0_72), .val (.int (v0_21 p0 p1 p2 p3 p4 p5 w0)), .val (.ref x8_0_89), .val (.int (1 : Int32))] [(.int (v0_22 p0 p1 p2 p3 p4 p5 w0))])) t → Steps p.tables e below (s₁.setTop (entryFrame m #[(.int p0), (.int p1), (.int p2), (.int p3), (.int p4), (.int p5)] maxLocals)) t := by
    intro t k
    by_cases c106 : (v0_20 p0 p1 p2 p3 p4 p5 w0) = (v0_19 p0 p1 p2 p3 p4 p5 w0)
    · skip
      have pre107 : ∀ t, Steps p.tables e below (T104.setTop (mkF m 268 #[.val (.int p0), .val (.int p1), .val (.int p2), .val (.int p3), .val (.int p4), .val (.int p5), .val upk_1, .val upk_4, .val upk_8, .val upk_12, .val upk_16, .val upk_20, .val upk_24, .val upk_28, .val upk_32, .val upk_36, .val upk_40, .val (.int (v0_19 p0 p1 p2 p3 p4 p5 w0)), .val (.ref b49), .val (.int (v0_20 p0 p1 p2 p3 p4 p5 w0)), .val (.ref b60), .val (.int (0 : Int32)), .val (.ref x7_0_72), .val (.int (v0_21 p0 p1 p2 p3 p4 p5 w0)), .val (.ref x8_0_89), .val (.int (1 : Int32))] [(.int (v0_19 p0 p1 p2 p3 p4 p5 w0)), (.int (v0_21 p0 p1 p2 p3 p4 p5 w0))])) t → Steps p.tables e below (s₁.setTop (entryFrame m #[(.int p0), (.int p1), (.int p2), (.int p3), (.int p4), (.int p5)] maxLocals)) t := by
        intro t k
        refine pre105 t ?_
        show Steps p.tables e below (T104.setTop (mkF m 256 #[.val (.int p0), .val (.int p1), .val (.int p2), .val (.int p3), .val (.int p4), .val (.int p5), .val upk_1, .val upk_4, .val upk_8, .val upk_12, .val upk_16, .val upk_20, .val upk_24, .val upk_28, .val upk_32, .val upk_36, .val upk_40, .val (.int (v0_19 p0 p1 p2 p3 p4 p5 w0)), .val (.ref b49), .val (.int (v0_20 p0 p1 p2 p3 p4 p5 w0)), .val (.ref b60), .val (.int (0 : Int32)), .val (.ref x7_0_72), .val (.int (v0_21 p0 p1 p2 p3 p4 p5 w0)), .val (.ref x8_0_89), .val (.int (1 : Int32))] [(.int (v0_19 p0 p1 p2 p3 p4 p5 w0)), (.int (v0_20 p0 p1 p2 p3 p4 p5 w0))])) _
        refine XS.icmpNo X104.here hx rfl (hb hby at_256) rfl (XT.ii_ne_f c106) ?_
        refine XS.iload X104.here hx rfl (hb hby at_259) rfl ?_
        show Steps p.tables e below (T104.setTop (mkF m 261 #[.val (.int p0), .val (.int p1), .val (.int p2), .val (.int p3), .val (.int p4), .val (.int p5), .val upk_1, .val upk_4, .val upk_8, .val upk_12, .val upk_16, .val upk_20, .val upk_24, .val upk_28, .val upk_32, .val upk_36, .val upk_40, .val (.int (v0_19 p0 p1 p2 p3 p4 p5 w0)), .val (.ref b49), .val (.int (v0_20 p0 p1 p2 p3 p4 p5 w0)), .val (.ref b60), .val (.int (0 : Int32)), .val (.ref x7_0_72), .val (.int (v0_21 p0 p1 p2 p3 p4 p5 w0)), .val (.ref x8_0_89), .val (.int (1 : Int32))] [(.int (0 : Int32))])) _
        refine XS.ifNo X104.here hx rfl (hb hby at_261) rfl (XT.i0_ne_f (by decide)) ?_
        refine XS.iload X104.here hx rfl (hb hby at_264) rfl ?_
        refine XS.iload X104.here hx rfl (hb hby at_266) rfl ?_
        exact k
      clear pre105
      by_cases c108 : (v0_21 p0 p1 p2 p3 p4 p5 w0) = (v0_19 p0 p1 p2 p3 p4 p5 w0)
      · skip
        rw [show (v0_22 p0 p1 p2 p3 p4 p5 w0) = (1 : Int32) from ((if_pos c106).trans (if_pos c108))] at k
        refine pre107 t ?_
        show Steps p.tables e below (T104.setTop (mkF m 268 #[.val (.int p0), .val (.int p1), .val (.int p2), .val (.int p3), .val (.int p4), .val (.int p5), .val upk_1, .val upk_4, .val upk_8, .val upk_12, .val upk_16, .val upk_20, .val upk_24, .val upk_28, .val upk_32, .val upk_36, .val upk_40, .val (.int (v0_19 p0 p1 p2 p3 p4 p5 w0)), .val (.ref b49), .val (.int (v0_20 p0 p1 p2 p3 p4 p5 w0)), .val (.ref b60), .val (.int (0 : Int32)), .val (.ref x7_0_72), .val (.int (v0_21 p0 p1 p2 p3 p4 p5 w0)), .val (.ref x8_0_89), .val (.int (1 : Int32))] [(.int (v0_19 p0 p1 p2 p3 p4 p5 w0)), (.int (v0_21 p0 p1 p2 p3 p4 p5 w0))])) _
        refine XS.icmpNo X104.here hx rfl (hb hby at_268) rfl (XT.ii_ne_f c108) ?_
        refine XS.iload X104.here hx rfl (hb hby at_271) rfl ?_
        show Steps p.tables e below (T104.setTop (mkF m 273 #[.val (.int p0), .val (.int p1), .val (.int p2), .val (.int p3), .val (.int p4), .val (.int p5), .val upk_1, .val upk_4, .val upk_8, .val upk_12, .val upk_16, .val upk_20, .val upk_24, .val upk_28, .val upk_32, .val upk_36, .val upk_40, .val (.int (v0_19 p0 p1 p2 p3 p4 p5 w0)), .val (.ref b49), .val (.int (v0_20 p0 p1 p2 p3 p4 p5 w0)), .val (.ref b60), .val (.int (0 : Int32)), .val (.ref x7_0_72), .val (.int (v0_21 p0 p1 p2 p3 p4 p5 w0)), .val (.ref x8_0_89), .val (.int (1 : Int32))] [(.int (1 : Int32))])) _
        refine XS.ifNo X104.here hx rfl (hb hby at_273) rfl (XT.i0_eq_f (by decide)) ?_
        refine XT.iconstV X104.here hx rfl (1 : Int32) (hb hby at_276) (by decide) ?_
        show Steps p.tables e below (T104.setTop (mkF m 277 #[.val (.int p0), .val (.int p1), .val (.int p2), .val (.int p3), .val (.int p4), .val (.int p5), .val upk_1, .val upk_4, .val upk_8, .val upk_12, .val upk_16, .val upk_20, .val upk_24, .val upk_28, .val upk_32, .val upk_36, .val upk_40, .val (.int (v0_19 p0 p1 p2 p3 p4 p5 w0)), .val (.ref b49), .val (.int (v0_20 p0 p1 p2 p3 p4 p5 w0)), .val (.ref b60), .val (.int (0 : Int32)), .val (.ref x7_0_72), .val (.int (v0_21 p0 p1 p2 p3 p4 p5 w0)), .val (.ref x8_0_89), .val (.int (1 : Int32))] [(.int (1 : Int32))])) _
        refine XS.goto X104.here hx rfl (pc0 := 277) (pc' := 281) rfl (hb hby at_277) (by decide) (by decide) ?_
        exact k
      · skip
        rw [show (v0_22 p0 p1 p2 p3 p4 p5 w0) = (0 : Int32) from ((if_pos c106).trans (if_neg c108))] at k
        refine pre107 t ?_
        show Steps p.tables e below (T104.setTop (mkF m 268 #[.val (.int p0), .val (.int p1), .val (.int p2), .val (.int p3), .val (.int p4), .val (.int p5), .val upk_1, .val upk_4, .val upk_8, .val upk_12, .val upk_16, .val upk_20, .val upk_24, .val upk_28, .val upk_32, .val upk_36, .val upk_40, .val (.int (v0_19 p0 p1 p2 p3 p4 p5 w0)), .val (.ref b49), .val (.int (v0_20 p0 p1 p2 p3 p4 p5 w0)), .val (.ref b60), .val (.int (0 : Int32)), .val (.ref x7_0_72), .val (.int (v0_21 p0 p1 p2 p3 p4 p5 w0)), .val (.ref x8_0_89), .val (.int (1 : Int32))] [(.int (v0_19 p0 p1 p2 p3 p4 p5 w0)), (.int (v0_21 p0 p1 p2 p3 p4 p5 w0))])) _
        refine XS.icmpYes X104.here hx rfl (pc0 := 268) (pc' := 280) rfl (hb hby at_268) rfl (XT.ii_ne_t c108) (by decide) (by decide) ?_
        refine XT.iconstV X104.here hx rfl (0 : Int32) (hb hby at_280) (by decide) ?_
        exact k
    · skip
      rw [show (v0_22 p0 p1 p2 p3 p4 p5 w0) = (0 : Int32) from (if_neg c106)] at k
      refine pre105 t ?_
      show Steps p.tables e below (T104.setTop (mkF m 256 #[.val (.int p0), .val (.int p1), .val (.int p2), .val (.int p3), .val (.int p4), .val (.int p5), .val upk_1, .val upk_4, .val upk_8, .val upk_12, .val upk_16, .val upk_20, .val upk_24, .val upk_28, .val upk_32, .val upk_36, .val upk_40, .val (.int (v0_19 p0 p1 p2 p3 p4 p5 w0)), .val (.ref b49), .val (.int (v0_20 p0 p1 p2 p3 p4 p5 w0)), .val (.ref b60), .val (.int (0 : Int32)), .val (.ref x7_0_72), .val (.int (v0_21 p0 p1 p2 p3 p4 p5 w0)), .val (.ref x8_0_89), .val (.int (1 : Int32))] [(.int (v0_19 p0 p1 p2 p3 p4 p5 w0)), (.int (v0_20 p0 p1 p2 p3 p4 p5 w0))])) _
      refine XS.icmpYes X104.here hx rfl (pc0 := 256) (pc' := 280) rfl (hb hby at_256) rfl (XT.ii_ne_t c106) (by decide) (by decide) ?_
      refine XT.iconstV X104.here hx rfl (0 : Int32) (hb hby at_280) (by decide) ?_
      exact k
  have hv110 : (v0_22 p0 p1 p2 p3 p4 p5 w0) = (1 : Int32) := own_v0_22 p0 p1 p2 p3 p4 p5 w0
  obtain ⟨fs, hr, hrun, hended, hRW⟩ := Jvm.Stand.leaveW (s := s) (vm₁ := T89.vm) X104 hS89 (by rw [e104]; exact (Nat.le_refl _)) (v := some (.int (1 : Int32))) (fun h => by rw [Bd.returns] at h; cases h) hlk
  refine ⟨_, _, pre109 _ ?_, hrun, hended, _, _, rfl, ?_, hRW.1, hRW.2.1, hRW.2.2.1, hRW.2.2.2.mono (by decide) (by decide)⟩
  · skip
    show Steps p.tables e below (T104.setTop (mkF m 281 #[.val (.int p0), .val (.int p1), .val (.int p2), .val (.int p3), .val (.int p4), .val (.int p5), .val upk_1, .val upk_4, .val upk_8, .val upk_12, .val upk_16, .val upk_20, .val upk_24, .val upk_28, .val upk_32, .val upk_36, .val upk_40, .val (.int (v0_19 p0 p1 p2 p3 p4 p5 w0)), .val (.ref b49), .val (.int (v0_20 p0 p1 p2 p3 p4 p5 w0)), .val (.ref b60), .val (.int (0 : Int32)), .val (.ref x7_0_72), .val (.int (v0_21 p0 p1 p2 p3 p4 p5 w0)), .val (.ref x8_0_89), .val (.int (1 : Int32))] [(.int (v0_22 p0 p1 p2 p3 p4 p5 w0))])) _
    rw [hv110]
    exact retN X104 hx (t := .boolean) Bd.returns (by simp) (hb hby at_281) hr
  · skip
    show Q0 Z p0 p1 p2 p3 p4 p5 w0 h0 n0 _ T104.heap _
    rw [e104]
    exact ⟨rfl, N104⟩
set_option maxRecDepth 65536 in
set_option maxHeartbeats 40000000 in
theorem comes_1 {Post : Tables → Env → Array Value → State → Outcome → State → Prop} (hpost : ∀ tb e args s v u, (limb_1_1.after args s (.returned v) u = true ∧ limb_1_2.after args s (.returned v) u = true ∧ True) → Jvm.D.FramedW s (.returned v) u (Jvm.fieldLocs frame_1_writes args s ++ Jvm.arrayLocs frame_1_arrays args s ++ Jvm.staticLocs frame_1_statics s) 88 2432 → Post tb e args s (.returned v) u) :
    ArmFor flags0 classFile x code maxLocals ret World_1 tables_1 room_1 Calls_1 rest_1 Pre_1 Post := by
  intro l hfl _ _ p e ha hc hk s m args below hf hA hF happ hP
  obtain ⟨hcalls, hrest, hpre⟩ := hP
  obtain ⟨-, -, -, hnamed, -, -, -, hat⟩ := (Spec.applies_iff hf).mp happ
  obtain ⟨hg, hn⟩ := and_e (Cond.before_iff.mp (show (Jvm.Cond.and given_1 narrow_1).before args s = true from hpre))
  obtain ⟨hcount, r0⟩ := and_e hg
  obtain ⟨ha0, r1⟩ := and_e r0
  obtain ⟨ha1, r2⟩ := and_e r1
  obtain ⟨ha2, r3⟩ := and_e r2
  obtain ⟨ha3, r4⟩ := and_e r3
  obtain ⟨ha4, r5⟩ := and_e r4
  obtain ⟨w0, w1, w2, w3, w4, w5, rfl⟩ : ∃ w0 w1 w2 w3 w4 w5 : Value, args = #[w0, w1, w2, w3, w4, w5] := by
    have hs : args.size = 6 := by simpa [Cond.value, given_1] using hcount
    obtain ⟨L⟩ := args
    match L, hs with
    | [w0, w1, w2, w3, w4, w5], _ => exact ⟨w0, w1, w2, w3, w4, w5, rfl⟩
  have hw := fun d (hd : d ∈ tables_1) => atoms_spec (ws := Jvm.Cond.code x code maxLocals ret :: tables_1) hat d (List.mem_cons_of_mem _ hd)
  have hfit : Fit s := fun {y c} hc i hi => by
    obtain ⟨ha, rfl⟩ := Array.getElem?_eq_some_iff.mp hc
    have q := List.all_eq_true.mp ((Array.all_eq_true_iff_forall_mem.mp hF) _ (Array.getElem_mem ha)) i (List.mem_range.mpr hi)
    simpa [Array.getElem?_eq_getElem hi] using q
  obtain ⟨i0, ei0⟩ := is_v ha0
  obtain rfl : w0 = (.int i0) := Option.some.inj ei0
  obtain ⟨i1, ei1⟩ := is_v ha1
  obtain rfl : w1 = (.int i1) := Option.some.inj ei1
  obtain ⟨i2, ei2⟩ := is_v ha2
  obtain rfl : w2 = (.int i2) := Option.some.inj ei2
  obtain ⟨i3, ei3⟩ := is_v ha3
  obtain rfl : w3 = (.int i3) := Option.some.inj ei3
  obtain ⟨i4, ei4⟩ := is_v ha4
  obtain rfl : w4 = (.int i4) := Option.some.inj ei4
  obtain ⟨i5, ei5⟩ := is_v r5
  obtain rfl : w5 = (.int i5) := Option.some.inj ei5
  obtain ⟨hsets, hown0⟩ := atoms_of _ (rest_1_c_eq ▸ (show rest_1_c.before _ s = true from hrest))
  obtain ⟨vcs, ecs⟩ := is_v (Cond.before_iff.mp (hsets _ (List.mem_of_getElem? (i := 1) rfl)))
  have hcs := own_ne_int (hsets _ (List.mem_of_getElem? (i := 2) rfl)) ecs
  have SC := Sta.start ecs (Or.inl (hsets _ (List.mem_of_getElem? (i := 0) rfl)))
  obtain ⟨n, o, h1, h2, h3, _, L, rfl, ⟨rfl, N⟩, hq⟩ := rm0 l s _ hw tables_1 i0 i1 i2 i3 i4 i5 vcs s.heap s.heap.size (Nat.le_refl _) (Old.start s) SC hcs p e ha hc hk s m _ below hf ((Spec.applies_iff_loose hf).mp happ).1 ⟨rfl, State.Warmed39.refl s, rfl⟩ trivial
  refine ⟨n, _, h1, h2, h3, hpost _ _ _ _ _ _ ⟨Cond.after_iff.mpr rfl, Cond.after_iff.mpr (eq_i res_at (Term.int_eval (1)) rfl), trivial⟩ ⟨hq.1, hq.2.1, hq.2.2.1, (hq.2.2.2.sift fun y hy => Or.inr (N y hy)).mono (by decide) (by decide)⟩⟩
theorem main_1_1 : Claimed_1_1 := comes_1 fun _ _ _ _ _ _ h hF => ⟨h.1, hF⟩
theorem main_1_2 : Claimed_1_2 := comes_1 fun _ _ _ _ _ _ h hF => ⟨h.2.1, hF⟩
end Jvm.Pilot.@@N@@
namespace Jvm.Pilot.@@N@@
open Jvm Jvm.ClassFile Sem Op Lib Jvm.Free Jvm.Stand Jvm.Pilot.@@N@@.Jvm.D
/-! MADE BY PROGRAM (witnessworld.py) out of the Statement's table words and the real class files: 21 classes; the members and pool entries that the words name. The judged class is class 1, her method 2. -/
namespace start1
open Jvm.ClassFile
def u (s : String) : CpInfo := .utf8 (stringToUtf16 s)
/-- a pool by its gaps: so many unusable entries, then the entry; so many at the end -/
def gap : Nat → List CpInfo → List CpInfo
  | 0, r => r
  | n + 1, r => .unusable :: gap n r
def poolList (es : List (Nat × CpInfo)) (last : Nat) : List CpInfo := es.foldr (fun e r => gap e.1 (e.2 :: r)) (gap last [])
def pool (es : List (Nat × CpInfo)) (last : Nat) : Array CpInfo := ⟨poolList es last⟩
def fileOf (pool : Array CpInfo) (this : Nat) (attrs : Array Attribute := #[]) (ms : Array MethodInfo := #[]) (fl : Nat := 33) (sup : Nat := 0) (ifs : Array Nat := #[]) (fds : Array FieldInfo := #[]) : ClassFile where
  minorVersion := 0
  majorVersion := 65
  constantPool := pool
  accessFlags := fl
  thisClass := this
  superClass := sup
  interfaces := ifs
  fields := fds
  methods := ms
  attributes := attrs
def plain (name : String) (sup : Option ClassId) : Class where
  name := name
  kind := .ordinary
  loader := none
  accessFlags := 33
  super := sup
  interfaces := #[]
  cf := none
  fields := #[]
  methods := #[]
  instanceTypes := #[]
  staticTypes := #[]
  resolved := #[]
  callSites := []
  init := .initialized
  statics := none
  mirror := none

def pool0 : Array CpInfo := pool [(5, u "<init>"), (0, u "()V"), (1, .class_ 10), (1, u "java/lang/Object")] 113

def k0c0 : Code := { maxStack := 0, maxLocals := 1, code := object_method_1_code, exceptionTable := #[], attributes := #[] }
def k0m0 : Method := { name := "<init>", desc := "()V", sig := { parameters := [], returnType := none }, accessFlags := 1, code := some k0c0 }
/-- java/lang/Object -/
def k0 : Class := { plain "java/lang/Object" none with
  accessFlags := 33
  interfaces := #[]
  cf := some (fileOf pool0 8 #[] #[{ accessFlags := 1, nameIndex := 5, descriptorIndex := 6, attributes := #[] }] 33 0 #[] #[])
  fields := #[]
  methods := #[k0m0]
  instanceTypes := #[]
  staticTypes := #[]
  resolved := Array.replicate 124 none
  statics := none }

def pool1 : Array CpInfo := pool [(2, .class_ 4), (1, u "java/lang/Object"), (0, u "<init>"), (0, u "()V"), (0, .string 8), (0, u ""), (0, .methodref 10 11), (0, .class_ 12), (0, .nameAndType 13 14), (0, u "java/lang/String"), (0, u "valueOf"), (0, u "(C)Ljava/lang/String;"), (0, .methodref 10 16), (0, .nameAndType 5 17), (0, u "([C)V"), (0, .methodref 19 20), (0, .class_ 21), (0, .nameAndType 22 23), (0, u "com/example/tollgate/tollgate/signing/SignedCallIsKeyedPinLaw"), (0, u "pick"), (0, u "(II)Ljava/lang/String;"), (0, .class_ 25), (0, u "com/example/tollgate/tollgate/signing/SignedCall"), (0, .methodref 24 27), (0, .nameAndType 5 28), (0, u "(Ljava/lang/String;Ljava/lang/String;Ljava/lang/String;Ljava/lang/String;Ljava/lang/String;Ljava/lang/String;Ljava/lang/String;Ljava/lang/String;Ljava/lang/String;Ljava/lang/String;)V"), (0, .methodref 24 30), (0, .nameAndType 31 32), (0, u "isKeyed"), (0, u "()Z"), (0, .methodref 24 34), (0, .nameAndType 5 35), (0, u "(Ljava/lang/String;Ljava/lang/String;Ljava/lang/String;Ljava/lang/String;Ljava/lang/String;)V"), (0, .methodref 24 37), (0, .nameAndType 38 39), (0, u "bound"), (0, u "(Ljava/lang/String;Ljava/lang/String;Ljava/lang/String;)Lcom/example/tollgate/tollgate/signing/SignedCall;"), (0, .methodref 24 41), (0, .nameAndType 42 43), (0, u "keyed"), (0, u "(Ljava/lang/String;Ljava/lang/String;Ljava/lang/String;Ljava/lang/String;)Lcom/example/tollgate/tollgate/signing/SignedCall;"), (3, u "law"), (0, u "(IIIIII)Z")] 2

def k1m0 : Method := { name := "<init>", desc := "()V", sig := { parameters := [], returnType := none }, accessFlags := 2, code := none }
def k1c1 : Code := { maxStack := 4, maxLocals := 4, code := method_2_code, exceptionTable := #[], attributes := #[] }
def k1m1 : Method := { name := "pick", desc := "(II)Ljava/lang/String;", sig := { parameters := [.int, .int], returnType := some (.object "java/lang/String") }, accessFlags := 10, code := some k1c1 }
def k1c2 : Code := { maxStack := 12, maxLocals := 26, code := code, exceptionTable := #[], attributes := #[] }
def k1m2 : Method := { name := "law", desc := "(IIIIII)Z", sig := { parameters := [.int, .int, .int, .int, .int, .int], returnType := some .boolean }, accessFlags := 9, code := some k1c2 }
/-- com/example/tollgate/tollgate/signing/SignedCallIsKeyedPinLaw -/
def k1 : Class := { plain "com/example/tollgate/tollgate/signing/SignedCallIsKeyedPinLaw" (some 0) with
  accessFlags := 49
  interfaces := #[]
  cf := some (fileOf pool1 19 #[] #[{ accessFlags := 2, nameIndex := 5, descriptorIndex := 6, attributes := #[] }, { accessFlags := 10, nameIndex := 22, descriptorIndex := 23, attributes := #[] }, { accessFlags := 9, nameIndex := 47, descriptorIndex := 48, attributes := #[] }] 49 2 #[] #[])
  fields := #[]
  methods := #[k1m0, k1m1, k1m2]
  instanceTypes := #[]
  staticTypes := #[]
  resolved := Array.replicate 51 none
  statics := none }

def pool2 : Array CpInfo := pool [(1, .methodref 2 3), (0, .class_ 4), (0, .nameAndType 5 6), (0, u "java/lang/Object"), (0, u "<init>"), (0, u "()V"), (0, .class_ 8), (0, u "java/lang/Record")] 13

def k2c0 : Code := { maxStack := 1, maxLocals := 1, code := jdk_30_method_1_code, exceptionTable := #[], attributes := #[] }
def k2m0 : Method := { name := "<init>", desc := "()V", sig := { parameters := [], returnType := none }, accessFlags := 4, code := some k2c0 }
/-- java/lang/Record -/
def k2 : Class := { plain "java/lang/Record" (some 0) with
  accessFlags := 1057
  interfaces := #[]
  cf := some (fileOf pool2 7 #[] #[{ accessFlags := 4, nameIndex := 5, descriptorIndex := 6, attributes := #[] }] 1057 2 #[] #[])
  fields := #[]
  methods := #[k2m0]
  instanceTypes := #[]
  staticTypes := #[]
  resolved := Array.replicate 22 none
  statics := none }

def pool3 : Array CpInfo := pool [(1, .methodref 2 3), (0, .class_ 4), (0, .nameAndType 5 6), (0, u "java/lang/Record"), (0, u "<init>"), (0, u "()V"), (0, .fieldref 8 9), (0, .class_ 10), (0, .nameAndType 11 12), (0, u "com/example/tollgate/tollgate/signing/SignedCall"), (0, u "domain"), (0, u "Ljava/lang/String;"), (0, .fieldref 8 14), (0, .nameAndType 15 12), (0, u "user"), (0, .fieldref 8 17), (0, .nameAndType 18 12), (0, u "project"), (0, .fieldref 8 20), (0, .nameAndType 21 12), (0, u "expires"), (0, .fieldref 8 23), (0, .nameAndType 24 12), (0, u "nonce"), (0, .fieldref 8 26), (0, .nameAndType 27 12), (0, u "accessKey"), (0, .fieldref 8 29), (0, .nameAndType 30 12), (0, u "algorithm"), (0, .fieldref 8 32), (0, .nameAndType 33 12), (0, u "method"), (0, .fieldref 8 35), (0, .nameAndType 36 12), (0, u "target"), (0, .fieldref 8 38), (0, .nameAndType 39 12), (0, u "bodySha256"), (0, .methodref 8 41), (0, .nameAndType 5 42), (0, u "(Ljava/lang/String;Ljava/lang/String;Ljava/lang/String;Ljava/lang/String;Ljava/lang/String;Ljava/lang/String;Ljava/lang/String;Ljava/lang/String;Ljava/lang/String;Ljava/lang/String;)V"), (0, .string 44), (0, u "HMAC-SHA256"), (14, u "EXPIRES_FORM"), (0, u "Ljava/util/regex/Pattern;"), (11, u "()Z"), (4, u "NONCE_FORM"), (4, u "isKeyed"), (21, u "METHOD_FORM"), (4, u "TARGET_FORM"), (4, u "SHA256_FORM"), (4, u "MD5_SIGNATURE_FORM"), (23, u "DOMAIN"), (0, u "Lcom/example/tollgate/tollgate/signing/SignedCall$Part;"), (7, u "USER"), (2, u "PROJECT"), (2, u "EXPIRES"), (2, u "NONCE"), (2, u "ACCESS_KEY"), (2, u "ALGORITHM_PART"), (2, u "METHOD"), (2, u "TARGET"), (2, u "BODY_SHA256"), (2, u "bound"), (0, u "(Ljava/lang/String;Ljava/lang/String;Ljava/lang/String;)Lcom/example/tollgate/tollgate/signing/SignedCall;"), (2, u "HEADER_ORDER"), (0, u "Ljava/util/List;"), (9, u "FIELD_ORDER"), (19, .class_ 215), (0, u "com/example/tollgate/tollgate/signing/SignedCall$Part"), (2, u "SIGNATURE"), (26, u "HEX"), (0, u "Ljava/util/HexFormat;"), (182, u "DOMAIN_HEADER"), (1, u "USER_HEADER"), (0, u "PROJECT_HEADER"), (0, u "EXPIRES_HEADER"), (0, u "NONCE_HEADER"), (0, u "ACCESS_KEY_HEADER"), (0, u "ALGORITHM_HEADER"), (0, u "SIGNATURE_HEADER"), (0, u "SIGNATURE_FIELD"), (0, u "ALGORITHM"), (0, u "HMAC_SCOPE"), (2, u "(Ljava/lang/String;Ljava/lang/String;Ljava/lang/String;Ljava/lang/String;Ljava/lang/String;)V"), (3, u "keyed"), (0, u "(Ljava/lang/String;Ljava/lang/String;Ljava/lang/String;Ljava/lang/String;)Lcom/example/tollgate/tollgate/signing/SignedCall;")] 118

def k3c0 : Code := { maxStack := 11, maxLocals := 6, code := prog_16_method_1_code, exceptionTable := #[], attributes := #[] }
def k3m0 : Method := { name := "<init>", desc := "(Ljava/lang/String;Ljava/lang/String;Ljava/lang/String;Ljava/lang/String;Ljava/lang/String;)V", sig := { parameters := [(.object "java/lang/String"), (.object "java/lang/String"), (.object "java/lang/String"), (.object "java/lang/String"), (.object "java/lang/String")], returnType := none }, accessFlags := 1, code := some k3c0 }
def k3c1 : Code := { maxStack := 2, maxLocals := 11, code := prog_16_method_2_code, exceptionTable := #[], attributes := #[] }
def k3m1 : Method := { name := "<init>", desc := "(Ljava/lang/String;Ljava/lang/String;Ljava/lang/String;Ljava/lang/String;Ljava/lang/String;Ljava/lang/String;Ljava/lang/String;Ljava/lang/String;Ljava/lang/String;Ljava/lang/String;)V", sig := { parameters := [(.object "java/lang/String"), (.object "java/lang/String"), (.object "java/lang/String"), (.object "java/lang/String"), (.object "java/lang/String"), (.object "java/lang/String"), (.object "java/lang/String"), (.object "java/lang/String"), (.object "java/lang/String"), (.object "java/lang/String")], returnType := none }, accessFlags := 1, code := some k3c1 }
def k3c2 : Code := { maxStack := 12, maxLocals := 5, code := prog_16_method_3_code, exceptionTable := #[], attributes := #[] }
def k3m2 : Method := { name := "keyed", desc := "(Ljava/lang/String;Ljava/lang/String;Ljava/lang/String;Ljava/lang/String;)Lcom/example/tollgate/tollgate/signing/SignedCall;", sig := { parameters := [(.object "java/lang/String"), (.object "java/lang/String"), (.object "java/lang/String"), (.object "java/lang/String")], returnType := some (.object "com/example/tollgate/tollgate/signing/SignedCall") }, accessFlags := 1, code := some k3c2 }
def k3c3 : Code := { maxStack := 12, maxLocals := 4, code := prog_16_method_4_code, exceptionTable := #[], attributes := #[] }
def k3m3 : Method := { name := "bound", desc := "(Ljava/lang/String;Ljava/lang/String;Ljava/lang/String;)Lcom/example/tollgate/tollgate/signing/SignedCall;", sig := { parameters := [(.object "java/lang/String"), (.object "java/lang/String"), (.object "java/lang/String")], returnType := some (.object "com/example/tollgate/tollgate/signing/SignedCall") }, accessFlags := 1, code := some k3c3 }
def k3c4 : Code := { maxStack := 1, maxLocals := 1, code := prog_16_method_5_code, exceptionTable := #[], attributes := #[] }
def k3m4 : Method := { name := "isKeyed", desc := "()Z", sig := { parameters := [], returnType := some .boolean }, accessFlags := 1, code := some k3c4 }
/-- com/example/tollgate/tollgate/signing/SignedCall -/
def k3 : Class := { plain "com/example/tollgate/tollgate/signing/SignedCall" (some 2) with
  accessFlags := 49
  interfaces := #[]
  cf := some (fileOf pool3 8 #[.nestMembers #[214]] #[{ accessFlags := 1, nameIndex := 5, descriptorIndex := 443, attributes := #[] }, { accessFlags := 1, nameIndex := 5, descriptorIndex := 42, attributes := #[] }, { accessFlags := 1, nameIndex := 447, descriptorIndex := 448, attributes := #[] }, { accessFlags := 1, nameIndex := 179, descriptorIndex := 180, attributes := #[] }, { accessFlags := 1, nameIndex := 82, descriptorIndex := 72, attributes := #[] }] 49 2 #[] #[{ accessFlags := 18, nameIndex := 11, descriptorIndex := 12, attributes := #[] }, { accessFlags := 18, nameIndex := 15, descriptorIndex := 12, attributes := #[] }, { accessFlags := 18, nameIndex := 18, descriptorIndex := 12, attributes := #[] }, { accessFlags := 18, nameIndex := 21, descriptorIndex := 12, attributes := #[] }, { accessFlags := 18, nameIndex := 24, descriptorIndex := 12, attributes := #[] }, { accessFlags := 18, nameIndex := 27, descriptorIndex := 12, attributes := #[] }, { accessFlags := 18, nameIndex := 30, descriptorIndex := 12, attributes := #[] }, { accessFlags := 18, nameIndex := 33, descriptorIndex := 12, attributes := #[] }, { accessFlags := 18, nameIndex := 36, descriptorIndex := 12, attributes := #[] }, { accessFlags := 18, nameIndex := 39, descriptorIndex := 12, attributes := #[] }, { accessFlags := 25, nameIndex := 429, descriptorIndex := 12, attributes := #[] }, { accessFlags := 25, nameIndex := 431, descriptorIndex := 12, attributes := #[] }, { accessFlags := 25, nameIndex := 432, descriptorIndex := 12, attributes := #[] }, { accessFlags := 25, nameIndex := 433, descriptorIndex := 12, attributes := #[] }, { accessFlags := 25, nameIndex := 434, descriptorIndex := 12, attributes := #[] }, { accessFlags := 25, nameIndex := 435, descriptorIndex := 12, attributes := #[] }, { accessFlags := 25, nameIndex := 436, descriptorIndex := 12, attributes := #[] }, { accessFlags := 25, nameIndex := 437, descriptorIndex := 12, attributes := #[] }, { accessFlags := 25, nameIndex := 438, descriptorIndex := 12, attributes := #[] }, { accessFlags := 25, nameIndex := 439, descriptorIndex := 12, attributes := #[] }, { accessFlags := 26, nameIndex := 440, descriptorIndex := 12, attributes := #[] }, { accessFlags := 26, nameIndex := 143, descriptorIndex := 144, attributes := #[] }, { accessFlags := 26, nameIndex := 152, descriptorIndex := 144, attributes := #[] }, { accessFlags := 26, nameIndex := 155, descriptorIndex := 144, attributes := #[] }, { accessFlags := 26, nameIndex := 158, descriptorIndex := 144, attributes := #[] }, { accessFlags := 26, nameIndex := 161, descriptorIndex := 144, attributes := #[] }, { accessFlags := 26, nameIndex := 218, descriptorIndex := 144, attributes := #[] }, { accessFlags := 26, nameIndex := 164, descriptorIndex := 144, attributes := #[] }, { accessFlags := 26, nameIndex := 167, descriptorIndex := 144, attributes := #[] }, { accessFlags := 26, nameIndex := 170, descriptorIndex := 144, attributes := #[] }, { accessFlags := 26, nameIndex := 173, descriptorIndex := 144, attributes := #[] }, { accessFlags := 26, nameIndex := 176, descriptorIndex := 144, attributes := #[] }, { accessFlags := 26, nameIndex := 183, descriptorIndex := 184, attributes := #[] }, { accessFlags := 26, nameIndex := 194, descriptorIndex := 184, attributes := #[] }, { accessFlags := 26, nameIndex := 59, descriptorIndex := 60, attributes := #[] }, { accessFlags := 26, nameIndex := 77, descriptorIndex := 60, attributes := #[] }, { accessFlags := 26, nameIndex := 104, descriptorIndex := 60, attributes := #[] }, { accessFlags := 26, nameIndex := 109, descriptorIndex := 60, attributes := #[] }, { accessFlags := 26, nameIndex := 114, descriptorIndex := 60, attributes := #[] }, { accessFlags := 26, nameIndex := 119, descriptorIndex := 60, attributes := #[] }, { accessFlags := 26, nameIndex := 245, descriptorIndex := 246, attributes := #[] }])
  fields := #[{ name := "domain", type := (.object "java/lang/String"), accessFlags := 18, slot := 0, constantValue := 0 }, { name := "user", type := (.object "java/lang/String"), accessFlags := 18, slot := 1, constantValue := 0 }, { name := "project", type := (.object "java/lang/String"), accessFlags := 18, slot := 2, constantValue := 0 }, { name := "expires", type := (.object "java/lang/String"), accessFlags := 18, slot := 3, constantValue := 0 }, { name := "nonce", type := (.object "java/lang/String"), accessFlags := 18, slot := 4, constantValue := 0 }, { name := "accessKey", type := (.object "java/lang/String"), accessFlags := 18, slot := 5, constantValue := 0 }, { name := "algorithm", type := (.object "java/lang/String"), accessFlags := 18, slot := 6, constantValue := 0 }, { name := "method", type := (.object "java/lang/String"), accessFlags := 18, slot := 7, constantValue := 0 }, { name := "target", type := (.object "java/lang/String"), accessFlags := 18, slot := 8, constantValue := 0 }, { name := "bodySha256", type := (.object "java/lang/String"), accessFlags := 18, slot := 9, constantValue := 0 }, { name := "DOMAIN_HEADER", type := (.object "java/lang/String"), accessFlags := 25, slot := 0, constantValue := 0 }, { name := "USER_HEADER", type := (.object "java/lang/String"), accessFlags := 25, slot := 1, constantValue := 0 }, { name := "PROJECT_HEADER", type := (.object "java/lang/String"), accessFlags := 25, slot := 2, constantValue := 0 }, { name := "EXPIRES_HEADER", type := (.object "java/lang/String"), accessFlags := 25, slot := 3, constantValue := 0 }, { name := "NONCE_HEADER", type := (.object "java/lang/String"), accessFlags := 25, slot := 4, constantValue := 0 }, { name := "ACCESS_KEY_HEADER", type := (.object "java/lang/String"), accessFlags := 25, slot := 5, constantValue := 0 }, { name := "ALGORITHM_HEADER", type := (.object "java/lang/String"), accessFlags := 25, slot := 6, constantValue := 0 }, { name := "SIGNATURE_HEADER", type := (.object "java/lang/String"), accessFlags := 25, slot := 7, constantValue := 0 }, { name := "SIGNATURE_FIELD", type := (.object "java/lang/String"), accessFlags := 25, slot := 8, constantValue := 0 }, { name := "ALGORITHM", type := (.object "java/lang/String"), accessFlags := 25, slot := 9, constantValue := 0 }, { name := "HMAC_SCOPE", type := (.object "java/lang/String"), accessFlags := 26, slot := 10, constantValue := 0 }, { name := "DOMAIN", type := (.object "com/example/tollgate/tollgate/signing/SignedCall$Part"), accessFlags := 26, slot := 11, constantValue := 0 }, { name := "USER", type := (.object "com/example/tollgate/tollgate/signing/SignedCall$Part"), accessFlags := 26, slot := 12, constantValue := 0 }, { name := "PROJECT", type := (.object "com/example/tollgate/tollgate/signing/SignedCall$Part"), accessFlags := 26, slot := 13, constantValue := 0 }, { name := "EXPIRES", type := (.object "com/example/tollgate/tollgate/signing/SignedCall$Part"), accessFlags := 26, slot := 14, constantValue := 0 }, { name := "NONCE", type := (.object "com/example/tollgate/tollgate/signing/SignedCall$Part"), accessFlags := 26, slot := 15, constantValue := 0 }, { name := "SIGNATURE", type := (.object "com/example/tollgate/tollgate/signing/SignedCall$Part"), accessFlags := 26, slot := 16, constantValue := 0 }, { name := "ACCESS_KEY", type := (.object "com/example/tollgate/tollgate/signing/SignedCall$Part"), accessFlags := 26, slot := 17, constantValue := 0 }, { name := "ALGORITHM_PART", type := (.object "com/example/tollgate/tollgate/signing/SignedCall$Part"), accessFlags := 26, slot := 18, constantValue := 0 }, { name := "METHOD", type := (.object "com/example/tollgate/tollgate/signing/SignedCall$Part"), accessFlags := 26, slot := 19, constantValue := 0 }, { name := "TARGET", type := (.object "com/example/tollgate/tollgate/signing/SignedCall$Part"), accessFlags := 26, slot := 20, constantValue := 0 }, { name := "BODY_SHA256", type := (.object "com/example/tollgate/tollgate/signing/SignedCall$Part"), accessFlags := 26, slot := 21, constantValue := 0 }, { name := "HEADER_ORDER", type := (.object "java/util/List"), accessFlags := 26, slot := 22, constantValue := 0 }, { name := "FIELD_ORDER", type := (.object "java/util/List"), accessFlags := 26, slot := 23, constantValue := 0 }, { name := "EXPIRES_FORM", type := (.object "java/util/regex/Pattern"), accessFlags := 26, slot := 24, constantValue := 0 }, { name := "NONCE_FORM", type := (.object "java/util/regex/Pattern"), accessFlags := 26, slot := 25, constantValue := 0 }, { name := "METHOD_FORM", type := (.object "java/util/regex/Pattern"), accessFlags := 26, slot := 26, constantValue := 0 }, { name := "TARGET_FORM", type := (.object "java/util/regex/Pattern"), accessFlags := 26, slot := 27, constantValue := 0 }, { name := "SHA256_FORM", type := (.object "java/util/regex/Pattern"), accessFlags := 26, slot := 28, constantValue := 0 }, { name := "MD5_SIGNATURE_FORM", type := (.object "java/util/regex/Pattern"), accessFlags := 26, slot := 29, constantValue := 0 }, { name := "HEX", type := (.object "java/util/HexFormat"), accessFlags := 26, slot := 30, constantValue := 0 }]
  methods := #[k3m0, k3m1, k3m2, k3m3, k3m4]
  instanceTypes := #[(.object "java/lang/String"), (.object "java/lang/String"), (.object "java/lang/String"), (.object "java/lang/String"), (.object "java/lang/String"), (.object "java/lang/String"), (.object "java/lang/String"), (.object "java/lang/String"), (.object "java/lang/String"), (.object "java/lang/String")]
  staticTypes := #[(.object "java/lang/String"), (.object "java/lang/String"), (.object "java/lang/String"), (.object "java/lang/String"), (.object "java/lang/String"), (.object "java/lang/String"), (.object "java/lang/String"), (.object "java/lang/String"), (.object "java/lang/String"), (.object "java/lang/String"), (.object "java/lang/String"), (.object "com/example/tollgate/tollgate/signing/SignedCall$Part"), (.object "com/example/tollgate/tollgate/signing/SignedCall$Part"), (.object "com/example/tollgate/tollgate/signing/SignedCall$Part"), (.object "com/example/tollgate/tollgate/signing/SignedCall$Part"), (.object "com/example/tollgate/tollgate/signing/SignedCall$Part"), (.object "com/example/tollgate/tollgate/signing/SignedCall$Part"), (.object "com/example/tollgate/tollgate/signing/SignedCall$Part"), (.object "com/example/tollgate/tollgate/signing/SignedCall$Part"), (.object "com/example/tollgate/tollgate/signing/SignedCall$Part"), (.object "com/example/tollgate/tollgate/signing/SignedCall$Part"), (.object "com/example/tollgate/tollgate/signing/SignedCall$Part"), (.object "java/util/List"), (.object "java/util/List"), (.object "java/util/regex/Pattern"), (.object "java/util/regex/Pattern"), (.object "java/util/regex/Pattern"), (.object "java/util/regex/Pattern"), (.object "java/util/regex/Pattern"), (.object "java/util/regex/Pattern"), (.object "java/util/HexFormat")]
  resolved := Array.replicate 567 none
  statics := none }

def pool4 : Array CpInfo := pool [(1, .class_ 2), (0, u "java/io/Serializable"), (0, .class_ 4), (0, u "java/lang/Object")] 2

/-- java/io/Serializable -/
def k4 : Class := { plain "java/io/Serializable" (some 0) with
  accessFlags := 1537
  interfaces := #[]
  cf := some (fileOf pool4 1 #[] #[] 1537 3 #[] #[])
  fields := #[]
  methods := #[]
  instanceTypes := #[]
  staticTypes := #[]
  resolved := Array.replicate 7 none
  statics := none }

def pool5 : Array CpInfo := pool [(1, .class_ 2), (0, u "java/lang/Comparable"), (0, .class_ 4), (0, u "java/lang/Object")] 7

/-- java/lang/Comparable -/
def k5 : Class := { plain "java/lang/Comparable" (some 0) with
  accessFlags := 1537
  interfaces := #[]
  cf := some (fileOf pool5 1 #[] #[] 1537 3 #[] #[])
  fields := #[]
  methods := #[]
  instanceTypes := #[]
  staticTypes := #[]
  resolved := Array.replicate 12 none
  statics := none }

def pool6 : Array CpInfo := pool [(2, .class_ 4), (1, u "java/lang/CharSequence"), (42, .class_ 48), (0, u "java/lang/CharSequence$1CodePointIterator"), (10, .class_ 60), (0, u "java/lang/CharSequence$1CharIterator"), (5, .class_ 67), (0, u "java/lang/Object")] 63

/-- java/lang/CharSequence -/
def k6 : Class := { plain "java/lang/CharSequence" (some 0) with
  accessFlags := 1537
  interfaces := #[]
  cf := some (fileOf pool6 2 #[.nestMembers #[47, 59]] #[] 1537 66 #[] #[])
  fields := #[]
  methods := #[]
  instanceTypes := #[]
  staticTypes := #[]
  resolved := Array.replicate 131 none
  statics := none }

def pool7 : Array CpInfo := pool [(1, .class_ 2), (0, u "java/lang/constant/Constable"), (0, .class_ 4), (0, u "java/lang/Object")] 6

/-- java/lang/constant/Constable -/
def k7 : Class := { plain "java/lang/constant/Constable" (some 0) with
  accessFlags := 1537
  interfaces := #[]
  cf := some (fileOf pool7 1 #[] #[] 1537 3 #[] #[])
  fields := #[]
  methods := #[]
  instanceTypes := #[]
  staticTypes := #[]
  resolved := Array.replicate 11 none
  statics := none }

def pool8 : Array CpInfo := pool [(1, .class_ 2), (0, u "java/lang/constant/ConstantDesc"), (0, .class_ 4), (0, u "java/lang/Object")] 32

/-- java/lang/constant/ConstantDesc -/
def k8 : Class := { plain "java/lang/constant/ConstantDesc" (some 0) with
  accessFlags := 1537
  interfaces := #[]
  cf := some (fileOf pool8 1 #[] #[] 1537 3 #[] #[])
  fields := #[]
  methods := #[]
  instanceTypes := #[]
  staticTypes := #[]
  resolved := Array.replicate 37 none
  statics := none }

def pool9 : Array CpInfo := pool [(1, .methodref 2 3), (0, .class_ 4), (0, .nameAndType 5 6), (0, u "java/lang/Object"), (0, u "<init>"), (0, u "()V"), (2, .fieldref 10 11), (0, .class_ 12), (0, .nameAndType 13 14), (0, u "java/lang/String"), (0, u "value"), (0, u "[B"), (0, .fieldref 10 16), (0, .nameAndType 17 18), (0, u "coder"), (0, u "B"), (2, u "hash"), (0, u "I"), (2, u "hashIsZero"), (0, u "Z"), (0, .methodref 10 28), (0, .nameAndType 5 29), (0, u "([CIILjava/lang/Void;)V"), (8, .fieldref 10 39), (0, .nameAndType 40 26), (0, u "COMPACT_STRINGS"), (1, .class_ 44), (1, u "java/lang/StringUTF16"), (0, u "compress"), (1, .methodref 42 48), (0, .nameAndType 49 50), (0, u "coderFromArrayLen"), (0, u "([BI)B"), (2, u "toBytes"), (53, .class_ 109), (1, u "java/lang/StringLatin1"), (67, .methodref 42 178), (0, .nameAndType 45 179), (0, u "([CII)[B"), (29, .methodref 10 210), (0, .nameAndType 5 211), (0, u "([BB)V"), (157, u "(C)Z"), (205, .class_ 576), (0, u "java/lang/CharSequence"), (22, u "CASE_INSENSITIVE_ORDER"), (0, u "Ljava/util/Comparator;"), (181, u "valueOf"), (0, u "(C)Ljava/lang/String;"), (226, u "([C)V"), (4, .methodref 107 1016), (0, .nameAndType 1017 369), (0, u "canEncode"), (0, .methodref 107 1019), (0, .nameAndType 53 1020), (0, u "(C)[B"), (80, u "serialPersistentFields"), (0, u "[Ljava/io/ObjectStreamField;"), (0, .class_ 1104), (0, u "java/lang/String$CaseInsensitiveComparator"), (1, .class_ 1107), (0, u "java/io/Serializable"), (0, .class_ 1109), (0, u "java/lang/Comparable"), (0, .class_ 1111), (0, u "java/lang/constant/Constable"), (0, .class_ 1113), (0, u "java/lang/constant/ConstantDesc"), (2, u "serialVersionUID"), (0, u "J"), (3, u "REPL"), (0, u "C"), (2, u "LATIN1"), (1, u "UTF16")] 323

def k9m0 : Method := { name := "<init>", desc := "()V", sig := { parameters := [], returnType := none }, accessFlags := 1, code := none }
def k9c1 : Code := { maxStack := 5, maxLocals := 2, code := jdk_42_method_3_code, exceptionTable := #[], attributes := #[] }
def k9m1 : Method := { name := "<init>", desc := "([C)V", sig := { parameters := [(.array .char)], returnType := none }, accessFlags := 1, code := some k9c1 }
def k9c2 : Code := { maxStack := 4, maxLocals := 1, code := jdk_42_method_139_code, exceptionTable := #[], attributes := #[] }
def k9m2 : Method := { name := "valueOf", desc := "(C)Ljava/lang/String;", sig := { parameters := [.char], returnType := some (.object "java/lang/String") }, accessFlags := 9, code := some k9c2 }
def k9c3 : Code := { maxStack := 4, maxLocals := 6, code := jdk_42_method_149_code, exceptionTable := #[], attributes := #[] }
def k9m3 : Method := { name := "<init>", desc := "([CIILjava/lang/Void;)V", sig := { parameters := [(.array .char), .int, .int, (.object "java/lang/Void")], returnType := none }, accessFlags := 2, code := some k9c3 }
def k9c4 : Code := { maxStack := 2, maxLocals := 3, code := jdk_42_method_151_code, exceptionTable := #[], attributes := #[] }
def k9m4 : Method := { name := "<init>", desc := "([BB)V", sig := { parameters := [(.array .byte), .byte], returnType := none }, accessFlags := 0, code := some k9c4 }
/-- java/lang/String -/
def k9 : Class := { plain "java/lang/String" (some 0) with
  accessFlags := 49
  interfaces := #[4, 5, 6, 7, 8]
  cf := some (fileOf pool9 10 #[.nestMembers #[1103]] #[{ accessFlags := 1, nameIndex := 5, descriptorIndex := 6, attributes := #[] }, { accessFlags := 1, nameIndex := 5, descriptorIndex := 1010, attributes := #[] }, { accessFlags := 9, nameIndex := 782, descriptorIndex := 783, attributes := #[] }, { accessFlags := 2, nameIndex := 5, descriptorIndex := 29, attributes := #[] }, { accessFlags := 0, nameIndex := 5, descriptorIndex := 211, attributes := #[] }] 49 2 #[1106, 1108, 575, 1110, 1112] #[{ accessFlags := 18, nameIndex := 13, descriptorIndex := 14, attributes := #[] }, { accessFlags := 18, nameIndex := 17, descriptorIndex := 18, attributes := #[] }, { accessFlags := 2, nameIndex := 21, descriptorIndex := 22, attributes := #[] }, { accessFlags := 2, nameIndex := 25, descriptorIndex := 26, attributes := #[] }, { accessFlags := 26, nameIndex := 1116, descriptorIndex := 1117, attributes := #[] }, { accessFlags := 24, nameIndex := 40, descriptorIndex := 26, attributes := #[] }, { accessFlags := 26, nameIndex := 1101, descriptorIndex := 1102, attributes := #[] }, { accessFlags := 26, nameIndex := 1121, descriptorIndex := 1122, attributes := #[] }, { accessFlags := 25, nameIndex := 599, descriptorIndex := 600, attributes := #[] }, { accessFlags := 24, nameIndex := 1125, descriptorIndex := 18, attributes := #[] }, { accessFlags := 24, nameIndex := 1127, descriptorIndex := 18, attributes := #[] }])
  fields := #[{ name := "value", type := (.array .byte), accessFlags := 18, slot := 0, constantValue := 0 }, { name := "coder", type := .byte, accessFlags := 18, slot := 1, constantValue := 0 }, { name := "hash", type := .int, accessFlags := 2, slot := 2, constantValue := 0 }, { name := "hashIsZero", type := .boolean, accessFlags := 2, slot := 3, constantValue := 0 }, { name := "serialVersionUID", type := .long, accessFlags := 26, slot := 0, constantValue := 0 }, { name := "COMPACT_STRINGS", type := .boolean, accessFlags := 24, slot := 1, constantValue := 0 }, { name := "serialPersistentFields", type := (.array (.object "java/io/ObjectStreamField")), accessFlags := 26, slot := 2, constantValue := 0 }, { name := "REPL", type := .char, accessFlags := 26, slot := 3, constantValue := 0 }, { name := "CASE_INSENSITIVE_ORDER", type := (.object "java/util/Comparator"), accessFlags := 25, slot := 4, constantValue := 0 }, { name := "LATIN1", type := .byte, accessFlags := 24, slot := 5, constantValue := 0 }, { name := "UTF16", type := .byte, accessFlags := 24, slot := 6, constantValue := 0 }]
  methods := #[k9m0, k9m1, k9m2, k9m3, k9m4]
  instanceTypes := #[(.array .byte), .byte, .int, .boolean]
  staticTypes := #[.long, .boolean, (.array (.object "java/io/ObjectStreamField")), .char, (.object "java/util/Comparator"), .byte, .byte]
  resolved := Array.replicate 1451 none
  statics := some 0 }

def pool10 : Array CpInfo := pool [(6, .class_ 8), (1, u "java/lang/Object"), (0, u "<init>"), (0, u "()V"), (1, .class_ 14), (1, u "java/lang/StringUTF16"), (31, u "$assertionsDisabled"), (0, u "Z"), (13, u "HI_BYTE_SHIFT"), (0, u "I"), (2, u "LO_BYTE_SHIFT"), (49, .methodref 12 116), (0, .nameAndType 117 118), (0, u "compress"), (0, u "([CI[BII)I"), (3, u "([CII)[B"), (138, u "coderFromArrayLen"), (0, u "([BI)B"), (106, .class_ 371), (1, u "java/lang/StringUTF16$LinesSpliterator"), (58, u "MAX_LENGTH"), (196, .class_ 628), (0, u "java/lang/StringUTF16$CodePointsSpliterator"), (0, .class_ 630), (0, u "java/lang/StringUTF16$CharsSpliterator")] 4

def k10m0 : Method := { name := "<init>", desc := "()V", sig := { parameters := [], returnType := none }, accessFlags := 0, code := none }
def k10c1 : Code := { maxStack := 2, maxLocals := 2, code := jdk_52_method_15_code, exceptionTable := #[], attributes := #[] }
def k10m1 : Method := { name := "coderFromArrayLen", desc := "([BI)B", sig := { parameters := [(.array .byte), .int], returnType := some .byte }, accessFlags := 8, code := some k10c1 }
def k10c2 : Code := { maxStack := 5, maxLocals := 6, code := jdk_52_method_16_code, exceptionTable := #[], attributes := #[] }
def k10m2 : Method := { name := "compress", desc := "([CII)[B", sig := { parameters := [(.array .char), .int, .int], returnType := some (.array .byte) }, accessFlags := 9, code := some k10c2 }
def k10c3 : Code := { maxStack := 3, maxLocals := 7, code := jdk_52_method_21_code, exceptionTable := #[], attributes := #[] }
def k10m3 : Method := { name := "compress", desc := "([CI[BII)I", sig := { parameters := [(.array .char), .int, (.array .byte), .int, .int], returnType := some .int }, accessFlags := 9, code := some k10c3 }
/-- java/lang/StringUTF16 -/
def k10 : Class := { plain "java/lang/StringUTF16" (some 0) with
  accessFlags := 48
  interfaces := #[]
  cf := some (fileOf pool10 12 #[.nestMembers #[627, 629, 369]] #[{ accessFlags := 0, nameIndex := 9, descriptorIndex := 10, attributes := #[] }, { accessFlags := 8, nameIndex := 261, descriptorIndex := 262, attributes := #[] }, { accessFlags := 9, nameIndex := 117, descriptorIndex := 122, attributes := #[] }, { accessFlags := 9, nameIndex := 117, descriptorIndex := 118, attributes := #[] }] 48 6 #[] #[{ accessFlags := 26, nameIndex := 61, descriptorIndex := 62, attributes := #[] }, { accessFlags := 26, nameIndex := 65, descriptorIndex := 62, attributes := #[] }, { accessFlags := 24, nameIndex := 430, descriptorIndex := 62, attributes := #[] }, { accessFlags := 4120, nameIndex := 46, descriptorIndex := 47, attributes := #[] }])
  fields := #[{ name := "HI_BYTE_SHIFT", type := .int, accessFlags := 26, slot := 0, constantValue := 0 }, { name := "LO_BYTE_SHIFT", type := .int, accessFlags := 26, slot := 1, constantValue := 0 }, { name := "MAX_LENGTH", type := .int, accessFlags := 24, slot := 2, constantValue := 0 }, { name := "$assertionsDisabled", type := .boolean, accessFlags := 4120, slot := 3, constantValue := 0 }]
  methods := #[k10m0, k10m1, k10m2, k10m3]
  instanceTypes := #[]
  staticTypes := #[.int, .int, .int, .boolean]
  resolved := Array.replicate 635 none
  statics := none }

def pool11 : Array CpInfo := pool [(4, .class_ 6), (1, u "java/lang/Object"), (0, u "<init>"), (0, u "()V"), (5, .class_ 16), (1, u "java/lang/StringLatin1"), (73, u "canEncode"), (14, u "(C)Z"), (15, u "$assertionsDisabled"), (0, u "Z"), (98, .class_ 223), (1, u "java/lang/StringLatin1$LinesSpliterator"), (156, u "toBytes"), (1, u "(C)[B"), (7, .class_ 391), (0, u "java/lang/StringLatin1$CharsSpliterator")] 3

def k11m0 : Method := { name := "<init>", desc := "()V", sig := { parameters := [], returnType := none }, accessFlags := 0, code := none }
def k11c1 : Code := { maxStack := 2, maxLocals := 1, code := jdk_43_method_3_code, exceptionTable := #[], attributes := #[] }
def k11m1 : Method := { name := "canEncode", desc := "(C)Z", sig := { parameters := [.char], returnType := some .boolean }, accessFlags := 9, code := some k11c1 }
def k11c2 : Code := { maxStack := 4, maxLocals := 1, code := jdk_43_method_46_code, exceptionTable := #[], attributes := #[] }
def k11m2 : Method := { name := "toBytes", desc := "(C)[B", sig := { parameters := [.char], returnType := some (.array .byte) }, accessFlags := 9, code := some k11c2 }
/-- java/lang/StringLatin1 -/
def k11 : Class := { plain "java/lang/StringLatin1" (some 0) with
  accessFlags := 48
  interfaces := #[]
  cf := some (fileOf pool11 14 #[.nestMembers #[390, 221]] #[{ accessFlags := 0, nameIndex := 7, descriptorIndex := 8, attributes := #[] }, { accessFlags := 9, nameIndex := 90, descriptorIndex := 105, attributes := #[] }, { accessFlags := 9, nameIndex := 380, descriptorIndex := 382, attributes := #[] }] 48 4 #[] #[{ accessFlags := 4120, nameIndex := 121, descriptorIndex := 122, attributes := #[] }])
  fields := #[{ name := "$assertionsDisabled", type := .boolean, accessFlags := 4120, slot := 0, constantValue := 0 }]
  methods := #[k11m0, k11m1, k11m2]
  instanceTypes := #[]
  staticTypes := #[.boolean]
  resolved := Array.replicate 395 none
  statics := none }

def pool12 : Array CpInfo := pool [(2, .class_ 4), (1, u "java/lang/Object"), (0, u "<init>"), (0, u "()V"), (17, .class_ 26), (1, u "jdk/internal/util/Preconditions"), (28, .class_ 56), (0, u "jdk/internal/util/Preconditions$4"), (57, .class_ 115), (0, u "jdk/internal/util/Preconditions$1"), (7, u "SIOOBE_FORMATTER"), (0, u "Ljava/util/function/BiFunction;"), (0, .class_ 126), (0, u "jdk/internal/util/Preconditions$2"), (3, u "AIOOBE_FORMATTER"), (0, .class_ 132), (0, u "jdk/internal/util/Preconditions$3"), (3, u "IOOBE_FORMATTER")] 57

def k12m0 : Method := { name := "<init>", desc := "()V", sig := { parameters := [], returnType := none }, accessFlags := 1, code := none }
/-- jdk/internal/util/Preconditions -/
def k12 : Class := { plain "jdk/internal/util/Preconditions" (some 0) with
  accessFlags := 33
  interfaces := #[]
  cf := some (fileOf pool12 24 #[.nestMembers #[55, 131, 125, 114]] #[{ accessFlags := 1, nameIndex := 5, descriptorIndex := 6, attributes := #[] }] 33 2 #[] #[{ accessFlags := 25, nameIndex := 123, descriptorIndex := 124, attributes := #[] }, { accessFlags := 25, nameIndex := 130, descriptorIndex := 124, attributes := #[] }, { accessFlags := 25, nameIndex := 136, descriptorIndex := 124, attributes := #[] }])
  fields := #[{ name := "SIOOBE_FORMATTER", type := (.object "java/util/function/BiFunction"), accessFlags := 25, slot := 0, constantValue := 0 }, { name := "AIOOBE_FORMATTER", type := (.object "java/util/function/BiFunction"), accessFlags := 25, slot := 1, constantValue := 0 }, { name := "IOOBE_FORMATTER", type := (.object "java/util/function/BiFunction"), accessFlags := 25, slot := 2, constantValue := 0 }]
  methods := #[k12m0]
  instanceTypes := #[]
  staticTypes := #[(.object "java/util/function/BiFunction"), (.object "java/util/function/BiFunction"), (.object "java/util/function/BiFunction")]
  resolved := Array.replicate 194 none
  statics := some 1 }

def pool13 : Array CpInfo := pool [(9, u "<init>"), (6, .class_ 18), (1, u "java/lang/Object"), (0, u "()V"), (1, .class_ 23), (1, u "jdk/internal/util/ArraysSupport"), (0, u "LOG2_ARRAY_LONG_INDEX_SCALE"), (0, u "I"), (2, u "U"), (0, u "Ljdk/internal/misc/Unsafe;"), (8, u "BIG_ENDIAN"), (0, u "Z"), (8, u "LOG2_BYTE_BIT_SIZE"), (4, u "LOG2_ARRAY_INT_INDEX_SCALE"), (54, u "JLA"), (0, u "Ljdk/internal/access/JavaLangAccess;"), (11, u "LOG2_ARRAY_BOOLEAN_INDEX_SCALE"), (9, u "LOG2_ARRAY_BYTE_INDEX_SCALE"), (5, u "LOG2_ARRAY_CHAR_INDEX_SCALE"), (5, u "LOG2_ARRAY_SHORT_INDEX_SCALE"), (18, u "LOG2_ARRAY_FLOAT_INDEX_SCALE"), (24, u "LOG2_ARRAY_DOUBLE_INDEX_SCALE"), (89, u "T_BOOLEAN"), (2, u "T_CHAR"), (1, u "T_FLOAT"), (1, u "T_DOUBLE"), (1, u "T_BYTE"), (1, u "T_SHORT"), (1, u "T_INT"), (1, u "T_LONG"), (1, u "SOFT_MAX_ARRAY_LENGTH")] 83

def k13m0 : Method := { name := "<init>", desc := "()V", sig := { parameters := [], returnType := none }, accessFlags := 2, code := none }
/-- jdk/internal/util/ArraysSupport -/
def k13 : Class := { plain "jdk/internal/util/ArraysSupport" (some 0) with
  accessFlags := 33
  interfaces := #[]
  cf := some (fileOf pool13 21 #[] #[{ accessFlags := 2, nameIndex := 9, descriptorIndex := 19, attributes := #[] }] 33 16 #[] #[{ accessFlags := 24, nameIndex := 28, descriptorIndex := 29, attributes := #[] }, { accessFlags := 26, nameIndex := 38, descriptorIndex := 39, attributes := #[] }, { accessFlags := 25, nameIndex := 121, descriptorIndex := 25, attributes := #[] }, { accessFlags := 25, nameIndex := 131, descriptorIndex := 25, attributes := #[] }, { accessFlags := 25, nameIndex := 137, descriptorIndex := 25, attributes := #[] }, { accessFlags := 25, nameIndex := 143, descriptorIndex := 25, attributes := #[] }, { accessFlags := 25, nameIndex := 53, descriptorIndex := 25, attributes := #[] }, { accessFlags := 25, nameIndex := 24, descriptorIndex := 25, attributes := #[] }, { accessFlags := 25, nameIndex := 162, descriptorIndex := 25, attributes := #[] }, { accessFlags := 25, nameIndex := 187, descriptorIndex := 25, attributes := #[] }, { accessFlags := 26, nameIndex := 48, descriptorIndex := 25, attributes := #[] }, { accessFlags := 25, nameIndex := 277, descriptorIndex := 25, attributes := #[] }, { accessFlags := 25, nameIndex := 280, descriptorIndex := 25, attributes := #[] }, { accessFlags := 25, nameIndex := 282, descriptorIndex := 25, attributes := #[] }, { accessFlags := 25, nameIndex := 284, descriptorIndex := 25, attributes := #[] }, { accessFlags := 25, nameIndex := 286, descriptorIndex := 25, attributes := #[] }, { accessFlags := 25, nameIndex := 288, descriptorIndex := 25, attributes := #[] }, { accessFlags := 25, nameIndex := 290, descriptorIndex := 25, attributes := #[] }, { accessFlags := 25, nameIndex := 292, descriptorIndex := 25, attributes := #[] }, { accessFlags := 26, nameIndex := 108, descriptorIndex := 109, attributes := #[] }, { accessFlags := 25, nameIndex := 294, descriptorIndex := 25, attributes := #[] }])
  fields := #[{ name := "U", type := (.object "jdk/internal/misc/Unsafe"), accessFlags := 24, slot := 0, constantValue := 0 }, { name := "BIG_ENDIAN", type := .boolean, accessFlags := 26, slot := 1, constantValue := 0 }, { name := "LOG2_ARRAY_BOOLEAN_INDEX_SCALE", type := .int, accessFlags := 25, slot := 2, constantValue := 0 }, { name := "LOG2_ARRAY_BYTE_INDEX_SCALE", type := .int, accessFlags := 25, slot := 3, constantValue := 0 }, { name := "LOG2_ARRAY_CHAR_INDEX_SCALE", type := .int, accessFlags := 25, slot := 4, constantValue := 0 }, { name := "LOG2_ARRAY_SHORT_INDEX_SCALE", type := .int, accessFlags := 25, slot := 5, constantValue := 0 }, { name := "LOG2_ARRAY_INT_INDEX_SCALE", type := .int, accessFlags := 25, slot := 6, constantValue := 0 }, { name := "LOG2_ARRAY_LONG_INDEX_SCALE", type := .int, accessFlags := 25, slot := 7, constantValue := 0 }, { name := "LOG2_ARRAY_FLOAT_INDEX_SCALE", type := .int, accessFlags := 25, slot := 8, constantValue := 0 }, { name := "LOG2_ARRAY_DOUBLE_INDEX_SCALE", type := .int, accessFlags := 25, slot := 9, constantValue := 0 }, { name := "LOG2_BYTE_BIT_SIZE", type := .int, accessFlags := 26, slot := 10, constantValue := 0 }, { name := "T_BOOLEAN", type := .int, accessFlags := 25, slot := 11, constantValue := 0 }, { name := "T_CHAR", type := .int, accessFlags := 25, slot := 12, constantValue := 0 }, { name := "T_FLOAT", type := .int, accessFlags := 25, slot := 13, constantValue := 0 }, { name := "T_DOUBLE", type := .int, accessFlags := 25, slot := 14, constantValue := 0 }, { name := "T_BYTE", type := .int, accessFlags := 25, slot := 15, constantValue := 0 }, { name := "T_SHORT", type := .int, accessFlags := 25, slot := 16, constantValue := 0 }, { name := "T_INT", type := .int, accessFlags := 25, slot := 17, constantValue := 0 }, { name := "T_LONG", type := .int, accessFlags := 25, slot := 18, constantValue := 0 }, { name := "JLA", type := (.object "jdk/internal/access/JavaLangAccess"), accessFlags := 26, slot := 19, constantValue := 0 }, { name := "SOFT_MAX_ARRAY_LENGTH", type := .int, accessFlags := 25, slot := 20, constantValue := 0 }]
  methods := #[k13m0]
  instanceTypes := #[]
  staticTypes := #[(.object "jdk/internal/misc/Unsafe"), .boolean, .int, .int, .int, .int, .int, .int, .int, .int, .int, .int, .int, .int, .int, .int, .int, .int, .int, (.object "jdk/internal/access/JavaLangAccess"), .int]
  resolved := Array.replicate 378 none
  statics := none }

def pool14 : Array CpInfo := pool [(1, u "java/lang/Cloneable"), (0, .class_ 1), (0, u "java/lang/Object"), (0, .class_ 3)] 3

/-- java/lang/Cloneable -/
def k14 : Class := { plain "java/lang/Cloneable" (some 0) with
  accessFlags := 1537
  interfaces := #[]
  cf := some (fileOf pool14 2 #[] #[] 1537 4 #[] #[])
  fields := #[]
  methods := #[]
  instanceTypes := #[]
  staticTypes := #[]
  resolved := Array.replicate 8 none
  statics := none }

/-- the primitive byte -/
def k15 : Class := { plain "byte" none with kind := .primitive 'B', accessFlags := 0x411 }
/-- [B -/
def k16 : Class := { plain "[B" (some 0) with kind := .array 15 .byte, interfaces := #[14, 4], accessFlags := 1041 }

/-- the primitive char -/
def k17 : Class := { plain "char" none with kind := .primitive 'C', accessFlags := 0x411 }
/-- [C -/
def k18 : Class := { plain "[C" (some 0) with kind := .array 17 .char, interfaces := #[14, 4], accessFlags := 1041 }

/-- the primitive int -/
def k19 : Class := { plain "int" none with kind := .primitive 'I', accessFlags := 0x411 }
/-- [I -/
def k20 : Class := { plain "[I" (some 0) with kind := .array 19 .int, interfaces := #[14, 4], accessFlags := 1041 }

def heap : Heap := #[{ cls := 9, slots := #[.long 0, .int 1, .null, .int 0, .null, .int 0, .int 0], vm := .statics 9 },
  { cls := 12, slots := #[.null, .null, .null], vm := .statics 12 }]
def classes : Array Class := #[k0, k1, k2, k3, k4, k5, k6, k7, k8, k9, k10, k11, k12, k13, k14, k15, k16, k17, k18, k19, k20]
def interned : List (Array UInt16 × Addr) := []
def slotsUsed : Nat := 10
def theMethod : MethodId := ⟨1, 2⟩
def args0 : Array Value := #[.int 5, .int 7, .int 9, .int 11, .int 1, .int 3]
def aboutOver (below : List Frame) : State where
  vm := { classes := classes, interned := interned.toArray }
  heap := heap
  slotsUsed := slotsUsed
  threads := #[{ frames := .invoking theMethod args0 :: below }]
def below0 : List Frame := [.native { method := ⟨0, 0⟩, args := #[] }]
def about1 : State := aboutOver below0
def p0 : Program := .bare "" "" ""
def e0 : Env := launch0.env 0 0 0
theorem w_frames : about1.frames = Frame.invoking theMethod args0 :: below0 := rfl
set_option maxRecDepth 65536 in
theorem w_args : argsFit about1.vm theMethod args0 = true := by decide +kernel
set_option maxRecDepth 65536 in
theorem w_heap : heapFits about1 = true := by decide +kernel
set_option maxRecDepth 65536 in
theorem w_runnable : about1.curStatus? = some .runnable := by decide +kernel
set_option maxRecDepth 65536 in
theorem w_alone : about1.alone = true := by decide +kernel
set_option maxRecDepth 65536 in
theorem w_named : about1.methodNamed? x = some theMethod := by decide +kernel
set_option maxRecDepth 65536 in
theorem w_hears : about1.hears theMethod below0 = true := by decide +kernel
set_option maxRecDepth 65536 in
theorem w_ripe : about1.ripe theMethod args0 below0 = true := by decide +kernel
theorem w_running : about1.status = .running := rfl
set_option maxRecDepth 65536 in
theorem w_room : about1.hasRoom e0.platform room_1 = true :=
  launch0.hasRoom_least _ room_1 (by decide +kernel) (by decide +kernel) (by decide +kernel) (by decide +kernel) (by decide +kernel) (by decide +kernel)
theorem allAtoms_all (ts : List Jvm.Cond) (a : Array Jvm.Value) (st : Jvm.State) : (allAtoms ts).before a st = ts.all (fun c => c.before a st) := by
  induction ts with
  | nil => rfl
  | cons c t ih =>
    show (Jvm.Cond.and c (allAtoms t)).before a st = _
    rw [Jvm.Cond.before_and, ih, List.all_cons]
def words1 : List Jvm.Cond := Jvm.Cond.code x code maxLocals ret :: tables_1
/-- a 'code' word, met by the world's own term for the bytes: nothing is compared byte by byte -/
theorem code_word {y : MethodName} {bytes : ByteArray} {mx : Nat} {rt : Option FieldType} {a : Array Value} {s : State} {m : MethodId} {meth : Method} {c : Code} (h1 : s.methodNamed? y = some m) (h2 : s.vm.method? m = some meth) (h3 : meth.code = some c) (h4 : c.code = bytes)
    (h5 : (c.maxLocals == mx && c.exceptionTable.isEmpty && decide (c.maxStack ≤ mostOperands) && decide (meth.sig.returnType = rt) && !meth.locks && decide (parseMethodDescriptor y.desc = some meth.sig)) = true) : (Jvm.Cond.code y bytes mx rt).before a s = true := by
  simp only [Bool.and_eq_true, beq_iff_eq, Bool.not_eq_true', decide_eq_true_eq] at h5
  obtain ⟨⟨⟨⟨⟨g1, g2⟩, g3⟩, g4⟩, g5⟩, g6⟩ := h5
  simp [Cond.before, Cond.holds, Cond.value, h1, h2, h3, h4, g1, g2, g3, g4, g5, g6]
def isCode : Jvm.Cond → Bool
  | .code _ _ _ _ => true
  | _ => false
theorem all_split {L : List Jvm.Cond} {P : Jvm.Cond → Bool} (h1 : L.all (fun c => isCode c || P c) = true) (h2 : ∀ c ∈ L.filter isCode, P c = true) : L.all P = true := by
  refine List.all_eq_true.mpr fun c hc => ?_
  have h := List.all_eq_true.mp h1 c hc
  rcases Bool.eq_false_or_eq_true (isCode c) with hi | hi
  · exact h2 c (List.mem_filter.mpr ⟨hc, hi⟩)
  · simpa [hi] using h
set_option maxRecDepth 65536 in
theorem w_c0 : (Jvm.Cond.code x code maxLocals ret).before args0 about1 = true := code_word (m := ⟨1, 2⟩) (meth := k1m2) (c := k1c2) (by decide +kernel) rfl rfl rfl (by decide +kernel)
set_option maxRecDepth 65536 in
theorem w_c1 : (Jvm.Cond.code ({ cls := "com/example/tollgate/tollgate/signing/SignedCallIsKeyedPinLaw", name := "pick", desc := "(II)Ljava/lang/String;" } : Jvm.MethodName) method_2_code (4 : Nat) (Option.some (Jvm.ClassFile.FieldType.object "java/lang/String"))).before args0 about1 = true := code_word (m := ⟨1, 1⟩) (meth := k1m1) (c := k1c1) (by decide +kernel) rfl rfl rfl (by decide +kernel)
set_option maxRecDepth 65536 in
theorem w_c2 : (Jvm.Cond.code ({ cls := "com/example/tollgate/tollgate/signing/SignedCall", name := "<init>", desc := "(Ljava/lang/String;Ljava/lang/String;Ljava/lang/String;Ljava/lang/String;Ljava/lang/String;Ljava/lang/String;Ljava/lang/String;Ljava/lang/String;Ljava/lang/String;Ljava/lang/String;)V" } : Jvm.MethodName) prog_16_method_2_code (11 : Nat) (Option.none : Option Jvm.ClassFile.FieldType)).before args0 about1 = true := code_word (m := ⟨3, 1⟩) (meth := k3m1) (c := k3c1) (by decide +kernel) rfl rfl rfl (by decide +kernel)
set_option maxRecDepth 65536 in
theorem w_c3 : (Jvm.Cond.code ({ cls := "java/lang/Record", name := "<init>", desc := "()V" } : Jvm.MethodName) jdk_30_method_1_code (1 : Nat) (Option.none : Option Jvm.ClassFile.FieldType)).before args0 about1 = true := code_word (m := ⟨2, 0⟩) (meth := k2m0) (c := k2c0) (by decide +kernel) rfl rfl rfl (by decide +kernel)
set_option maxRecDepth 65536 in
theorem w_c4 : (Jvm.Cond.code ({ cls := "java/lang/Object", name := "<init>", desc := "()V" } : Jvm.MethodName) object_method_1_code (1 : Nat) (Option.none : Option Jvm.ClassFile.FieldType)).before args0 about1 = true := code_word (m := ⟨0, 0⟩) (meth := k0m0) (c := k0c0) (by decide +kernel) rfl rfl rfl (by decide +kernel)
set_option maxRecDepth 65536 in
theorem w_c5 : (Jvm.Cond.code ({ cls := "com/example/tollgate/tollgate/signing/SignedCall", name := "isKeyed", desc := "()Z" } : Jvm.MethodName) prog_16_method_5_code (1 : Nat) (Option.some Jvm.ClassFile.FieldType.boolean)).before args0 about1 = true := code_word (m := ⟨3, 4⟩) (meth := k3m4) (c := k3c4) (by decide +kernel) rfl rfl rfl (by decide +kernel)
set_option maxRecDepth 65536 in
theorem w_c6 : (Jvm.Cond.code ({ cls := "com/example/tollgate/tollgate/signing/SignedCall", name := "<init>", desc := "(Ljava/lang/String;Ljava/lang/String;Ljava/lang/String;Ljava/lang/String;Ljava/lang/String;)V" } : Jvm.MethodName) prog_16_method_1_code (6 : Nat) (Option.none : Option Jvm.ClassFile.FieldType)).before args0 about1 = true := code_word (m := ⟨3, 0⟩) (meth := k3m0) (c := k3c0) (by decide +kernel) rfl rfl rfl (by decide +kernel)
set_option maxRecDepth 65536 in
theorem w_c7 : (Jvm.Cond.code ({ cls := "com/example/tollgate/tollgate/signing/SignedCall", name := "bound", desc := "(Ljava/lang/String;Ljava/lang/String;Ljava/lang/String;)Lcom/example/tollgate/tollgate/signing/SignedCall;" } : Jvm.MethodName) prog_16_method_4_code (4 : Nat) (Option.some (Jvm.ClassFile.FieldType.object "com/example/tollgate/tollgate/signing/SignedCall"))).before args0 about1 = true := code_word (m := ⟨3, 3⟩) (meth := k3m3) (c := k3c3) (by decide +kernel) rfl rfl rfl (by decide +kernel)
set_option maxRecDepth 65536 in
theorem w_c8 : (Jvm.Cond.code ({ cls := "com/example/tollgate/tollgate/signing/SignedCall", name := "keyed", desc := "(Ljava/lang/String;Ljava/lang/String;Ljava/lang/String;Ljava/lang/String;)Lcom/example/tollgate/tollgate/signing/SignedCall;" } : Jvm.MethodName) prog_16_method_3_code (5 : Nat) (Option.some (Jvm.ClassFile.FieldType.object "com/example/tollgate/tollgate/signing/SignedCall"))).before args0 about1 = true := code_word (m := ⟨3, 2⟩) (meth := k3m2) (c := k3c2) (by decide +kernel) rfl rfl rfl (by decide +kernel)
set_option maxRecDepth 65536 in
theorem w_c9 : (Jvm.Cond.code ({ cls := "java/lang/String", name := "<init>", desc := "([C)V" } : Jvm.MethodName) jdk_42_method_3_code (2 : Nat) (Option.none : Option Jvm.ClassFile.FieldType)).before args0 about1 = true := code_word (m := ⟨9, 1⟩) (meth := k9m1) (c := k9c1) (by decide +kernel) rfl rfl rfl (by decide +kernel)
set_option maxRecDepth 65536 in
theorem w_c10 : (Jvm.Cond.code ({ cls := "java/lang/String", name := "<init>", desc := "([CIILjava/lang/Void;)V" } : Jvm.MethodName) jdk_42_method_149_code (6 : Nat) (Option.none : Option Jvm.ClassFile.FieldType)).before args0 about1 = true := code_word (m := ⟨9, 3⟩) (meth := k9m3) (c := k9c3) (by decide +kernel) rfl rfl rfl (by decide +kernel)
set_option maxRecDepth 65536 in
theorem w_c11 : (Jvm.Cond.code ({ cls := "java/lang/StringUTF16", name := "compress", desc := "([CII)[B" } : Jvm.MethodName) jdk_52_method_16_code (6 : Nat) (Option.some (Jvm.ClassFile.FieldType.array Jvm.ClassFile.FieldType.byte))).before args0 about1 = true := code_word (m := ⟨10, 2⟩) (meth := k10m2) (c := k10c2) (by decide +kernel) rfl rfl rfl (by decide +kernel)
set_option maxRecDepth 65536 in
theorem w_c12 : (Jvm.Cond.code ({ cls := "java/lang/StringUTF16", name := "compress", desc := "([CI[BII)I" } : Jvm.MethodName) jdk_52_method_21_code (7 : Nat) (Option.some Jvm.ClassFile.FieldType.int)).before args0 about1 = true := code_word (m := ⟨10, 3⟩) (meth := k10m3) (c := k10c3) (by decide +kernel) rfl rfl rfl (by decide +kernel)
set_option maxRecDepth 65536 in
theorem w_c13 : (Jvm.Cond.code ({ cls := "java/lang/StringUTF16", name := "coderFromArrayLen", desc := "([BI)B" } : Jvm.MethodName) jdk_52_method_15_code (2 : Nat) (Option.some Jvm.ClassFile.FieldType.byte)).before args0 about1 = true := code_word (m := ⟨10, 1⟩) (meth := k10m1) (c := k10c1) (by decide +kernel) rfl rfl rfl (by decide +kernel)
set_option maxRecDepth 65536 in
theorem w_c14 : (Jvm.Cond.code ({ cls := "java/lang/String", name := "valueOf", desc := "(C)Ljava/lang/String;" } : Jvm.MethodName) jdk_42_method_139_code (1 : Nat) (Option.some (Jvm.ClassFile.FieldType.object "java/lang/String"))).before args0 about1 = true := code_word (m := ⟨9, 2⟩) (meth := k9m2) (c := k9c2) (by decide +kernel) rfl rfl rfl (by decide +kernel)
set_option maxRecDepth 65536 in
theorem w_c15 : (Jvm.Cond.code ({ cls := "java/lang/StringLatin1", name := "canEncode", desc := "(C)Z" } : Jvm.MethodName) jdk_43_method_3_code (1 : Nat) (Option.some Jvm.ClassFile.FieldType.boolean)).before args0 about1 = true := code_word (m := ⟨11, 1⟩) (meth := k11m1) (c := k11c1) (by decide +kernel) rfl rfl rfl (by decide +kernel)
set_option maxRecDepth 65536 in
theorem w_c16 : (Jvm.Cond.code ({ cls := "java/lang/StringLatin1", name := "toBytes", desc := "(C)[B" } : Jvm.MethodName) jdk_43_method_46_code (1 : Nat) (Option.some (Jvm.ClassFile.FieldType.array Jvm.ClassFile.FieldType.byte))).before args0 about1 = true := code_word (m := ⟨11, 2⟩) (meth := k11m2) (c := k11c2) (by decide +kernel) rfl rfl rfl (by decide +kernel)
set_option maxRecDepth 65536 in
theorem w_c17 : (Jvm.Cond.code ({ cls := "java/lang/String", name := "<init>", desc := "([BB)V" } : Jvm.MethodName) jdk_42_method_151_code (3 : Nat) (Option.none : Option Jvm.ClassFile.FieldType)).before args0 about1 = true := code_word (m := ⟨9, 4⟩) (meth := k9m4) (c := k9c4) (by decide +kernel) rfl rfl rfl (by decide +kernel)
def codes1 : List Jvm.Cond := [Jvm.Cond.code x code maxLocals ret, Jvm.Cond.code ({ cls := "com/example/tollgate/tollgate/signing/SignedCallIsKeyedPinLaw", name := "pick", desc := "(II)Ljava/lang/String;" } : Jvm.MethodName) method_2_code (4 : Nat) (Option.some (Jvm.ClassFile.FieldType.object "java/lang/String")), Jvm.Cond.code ({ cls := "com/example/tollgate/tollgate/signing/SignedCall", name := "<init>", desc := "(Ljava/lang/String;Ljava/lang/String;Ljava/lang/String;Ljava/lang/String;Ljava/lang/String;Ljava/lang/String;Ljava/lang/String;Ljava/lang/String;Ljava/lang/String;Ljava/lang/String;)V" } : Jvm.MethodName) prog_16_method_2_code (11 : Nat) (Option.none : Option Jvm.ClassFile.FieldType), Jvm.Cond.code ({ cls := "java/lang/Record", name := "<init>", desc := "()V" } : Jvm.MethodName) jdk_30_method_1_code (1 : Nat) (Option.none : Option Jvm.ClassFile.FieldType), Jvm.Cond.code ({ cls := "java/lang/Object", name := "<init>", desc := "()V" } : Jvm.MethodName) object_method_1_code (1 : Nat) (Option.none : Option Jvm.ClassFile.FieldType), Jvm.Cond.code ({ cls := "com/example/tollgate/tollgate/signing/SignedCall", name := "isKeyed", desc := "()Z" } : Jvm.MethodName) prog_16_method_5_code (1 : Nat) (Option.some Jvm.ClassFile.FieldType.boolean), Jvm.Cond.code ({ cls := "com/example/tollgate/tollgate/signing/SignedCall", name := "<init>", desc := "(Ljava/lang/String;Ljava/lang/String;Ljava/lang/String;Ljava/lang/String;Ljava/lang/String;)V" } : Jvm.MethodName) prog_16_method_1_code (6 : Nat) (Option.none : Option Jvm.ClassFile.FieldType), Jvm.Cond.code ({ cls := "com/example/tollgate/tollgate/signing/SignedCall", name := "bound", desc := "(Ljava/lang/String;Ljava/lang/String;Ljava/lang/String;)Lcom/example/tollgate/tollgate/signing/SignedCall;" } : Jvm.MethodName) prog_16_method_4_code (4 : Nat) (Option.some (Jvm.ClassFile.FieldType.object "com/example/tollgate/tollgate/signing/SignedCall")), Jvm.Cond.code ({ cls := "com/example/tollgate/tollgate/signing/SignedCall", name := "keyed", desc := "(Ljava/lang/String;Ljava/lang/String;Ljava/lang/String;Ljava/lang/String;)Lcom/example/tollgate/tollgate/signing/SignedCall;" } : Jvm.MethodName) prog_16_method_3_code (5 : Nat) (Option.some (Jvm.ClassFile.FieldType.object "com/example/tollgate/tollgate/signing/SignedCall")), Jvm.Cond.code ({ cls := "java/lang/String", name := "<init>", desc := "([C)V" } : Jvm.MethodName) jdk_42_method_3_code (2 : Nat) (Option.none : Option Jvm.ClassFile.FieldType), Jvm.Cond.code ({ cls := "java/lang/String", name := "<init>", desc := "([CIILjava/lang/Void;)V" } : Jvm.MethodName) jdk_42_method_149_code (6 : Nat) (Option.none : Option Jvm.ClassFile.FieldType), Jvm.Cond.code ({ cls := "java/lang/StringUTF16", name := "compress", desc := "([CII)[B" } : Jvm.MethodName) jdk_52_method_16_code (6 : Nat) (Option.some (Jvm.ClassFile.FieldType.array Jvm.ClassFile.FieldType.byte)), Jvm.Cond.code ({ cls := "java/lang/StringUTF16", name := "compress", desc := "([CI[BII)I" } : Jvm.MethodName) jdk_52_method_21_code (7 : Nat) (Option.some Jvm.ClassFile.FieldType.int), Jvm.Cond.code ({ cls := "java/lang/StringUTF16", name := "coderFromArrayLen", desc := "([BI)B" } : Jvm.MethodName) jdk_52_method_15_code (2 : Nat) (Option.some Jvm.ClassFile.FieldType.byte), Jvm.Cond.code ({ cls := "java/lang/String", name := "valueOf", desc := "(C)Ljava/lang/String;" } : Jvm.MethodName) jdk_42_method_139_code (1 : Nat) (Option.some (Jvm.ClassFile.FieldType.object "java/lang/String")), Jvm.Cond.code ({ cls := "java/lang/StringLatin1", name := "canEncode", desc := "(C)Z" } : Jvm.MethodName) jdk_43_method_3_code (1 : Nat) (Option.some Jvm.ClassFile.FieldType.boolean), Jvm.Cond.code ({ cls := "java/lang/StringLatin1", name := "toBytes", desc := "(C)[B" } : Jvm.MethodName) jdk_43_method_46_code (1 : Nat) (Option.some (Jvm.ClassFile.FieldType.array Jvm.ClassFile.FieldType.byte)), Jvm.Cond.code ({ cls := "java/lang/String", name := "<init>", desc := "([BB)V" } : Jvm.MethodName) jdk_42_method_151_code (3 : Nat) (Option.none : Option Jvm.ClassFile.FieldType)]
set_option maxRecDepth 65536 in
theorem codes_eq : words1.filter isCode = codes1 := rfl
theorem w_codes : ∀ c ∈ words1.filter isCode, c.before args0 about1 = true := by
  rw [codes_eq]
  intro c hc
  simp only [codes1, List.mem_cons, List.not_mem_nil, or_false] at hc
  rcases hc with rfl | rfl | rfl | rfl | rfl | rfl | rfl | rfl | rfl | rfl | rfl | rfl | rfl | rfl | rfl | rfl | rfl | rfl
  · exact w_c0
  · exact w_c1
  · exact w_c2
  · exact w_c3
  · exact w_c4
  · exact w_c5
  · exact w_c6
  · exact w_c7
  · exact w_c8
  · exact w_c9
  · exact w_c10
  · exact w_c11
  · exact w_c12
  · exact w_c13
  · exact w_c14
  · exact w_c15
  · exact w_c16
  · exact w_c17
set_option maxRecDepth 65536 in
theorem w_t1 : (words1.take 24).all (fun c => isCode c || c.before args0 about1) = true := by decide +kernel
set_option maxRecDepth 65536 in
theorem w_t2 : ((words1.drop 24).take 24).all (fun c => isCode c || c.before args0 about1) = true := by decide +kernel
set_option maxRecDepth 65536 in
theorem w_t3 : (((words1.drop 24).drop 24).take 24).all (fun c => isCode c || c.before args0 about1) = true := by decide +kernel
set_option maxRecDepth 65536 in
theorem w_t4 : ((((words1.drop 24).drop 24).drop 24).take 24).all (fun c => isCode c || c.before args0 about1) = true := by decide +kernel
set_option maxRecDepth 65536 in
theorem w_t5 : ((((words1.drop 24).drop 24).drop 24).drop 24).all (fun c => isCode c || c.before args0 about1) = true := by decide +kernel
theorem w_tables : (allAtoms (Jvm.Cond.code x code maxLocals ret :: tables_1)).before args0 about1 = true := by
  rw [allAtoms_all]
  show words1.all (fun c => c.before args0 about1) = true
  refine all_split ?_ w_codes
  rw [← List.take_append_drop 24 words1, List.all_append, w_t1, ← List.take_append_drop 24 (words1.drop 24), List.all_append, w_t2, ← List.take_append_drop 24 ((words1.drop 24).drop 24), List.all_append, w_t3, ← List.take_append_drop 24 (((words1.drop 24).drop 24).drop 24), List.all_append, w_t4, w_t5]
  rfl
set_option maxRecDepth 65536 in
theorem w_rest : rest_1_c.before args0 about1 = true := by decide +kernel
set_option maxRecDepth 65536 in
theorem w_case : (Jvm.Cond.and given_1 narrow_1).before args0 about1 = true := by decide +kernel
theorem w_applies : (headSpec (Jvm.Cond.code x code maxLocals ret :: tables_1) room_1).applies x e0.platform about1 = true :=
  (Spec.applies_iff w_frames).mpr ⟨w_running, w_runnable, w_alone, w_named, w_hears, w_ripe, w_room, w_tables⟩
theorem atStart : AtStart classFile x code maxLocals ret World_1 tables_1 room_1 Calls_1 rest_1 Pre_1 launch0 p0 e0 about1 theMethod args0 below0 :=
  ⟨lists_1, trivial, launch0.admits_env _ _ _, launch0.least_env, fairChoices_fair.cas, fairChoices_fair.clock, w_frames, w_args, w_heap, w_applies, trivial, w_rest, w_case⟩
end start1
theorem witness_1 : WitnessClaimed_1 := ⟨start1.p0, start1.e0, start1.about1, start1.theMethod, start1.args0, start1.below0, start1.atStart⟩
end Jvm.Pilot.@@N@@
