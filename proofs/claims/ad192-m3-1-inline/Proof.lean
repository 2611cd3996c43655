import JvmDerived
import JvmDerived.Pilot.@@N@@Statement
import JvmDerived.Pilot.@@N@@Code
set_option linter.unusedVariables false
set_option linter.unusedSimpArgs false
@@BLOCK:NumsL.lean.txt@@
@@BLOCK:SetKit.lean.txt@@
/- laws to paste: Road.backV, Road.eqW (cut by pick.py; bodies as the Statement names them) -/
namespace Jvm.Pilot.@@N@@
namespace StrChars
open Jvm Sem ClassFile Op Lib Jvm.Stand Jvm.Free.XT Jvm.Free.ALB Jvm.Free.JM Jvm.Free
open Jvm.Lib.Cold (StaticIs)
/-- a char array whose places are chars -/
def Ch (a : Addr) (A : Cell) (U : State) : Prop := Arr .char a A U ∧ Typed .char A
theorem Ch.mv {a : Addr} {A : Cell} {U U' : State} (h : Ch a A U) (hal : U.vm.Alike U'.vm) (hh : U'.heap = U.heap) : Ch a A U' := ⟨h.1.mv hal hh, h.2⟩
theorem Ch.keep {a : Addr} {A : Cell} {U U' : State} (h : Ch a A U) (hal : U.vm.Alike U'.vm) (hk : U'.heap[a]? = some A) : Ch a A U' := ⟨h.1.keep hal hk, h.2⟩
/-- what place i of a char[]'s cell holds -/
def cv (A : Cell) (i : Nat) : Int32 := match A.slots[i]? with | some (.int x) => x | _ => 0
theorem Ch.get {a : Addr} {A : Cell} {U : State} (h : Ch a A U) {i : Nat} (hi : i < A.slots.size) : A.slots[i]? = some (.int (cv A i)) := by
  have e := Array.getElem?_eq_getElem hi
  have f := h.2 i _ e
  unfold cv; rw [e]
  generalize A.slots[i] = v at f
  cases v <;> simp [fits] at f ⊢
/-- the byte that i2b leaves of a char -/
def lo8 (x : Int32) : Int32 := x.toInt8.toInt32
theorem fits_lo8 (y : Int32) : fits .byte (.int (lo8 y)) = true := by
  have h1 := y.toInt8.le_toInt
  have h2 := y.toInt8.toInt_lt
  simp only [lo8, fits, Bool.and_eq_true, decide_eq_true_eq, Int32.le_iff_toInt_le, Int8.toInt_toInt32, show (-128 : Int32).toInt = -128 from by decide, show (127 : Int32).toInt = 127 from by decide]
  omega
/-- A' is A but that each place j of lo .. hi - 1 holds f j -/
def Laid (A A' : Cell) (lo hi : Nat) (f : Nat → Value) : Prop := A'.cls = A.cls ∧ A'.vm = A.vm ∧ A'.slots.size = A.slots.size ∧ ∀ i, A'.slots[i]? = if lo ≤ i ∧ i < hi then some (f i) else A.slots[i]?
theorem Laid.zero (A : Cell) (lo : Nat) (f : Nat → Value) : Laid A A lo (lo + 0) f := ⟨rfl, rfl, rfl, fun i => by rw [if_neg (by omega)]⟩
theorem Laid.step {A Ak : Cell} {lo k : Nat} {f : Nat → Value} {v : Value} (h : Laid A Ak lo k f) (hlo : lo ≤ k) (hk : k < Ak.slots.size) (hv : v = f k) : Laid A (Ak.setSlot k v) lo (k + 1) f := by
  refine ⟨h.1, h.2.1, by simpa [Cell.setSlot] using h.2.2.1, fun i => ?_⟩
  by_cases e : k = i
  · subst e; rw [Cell.slots_setSlot_self v hk, if_pos (by omega), hv]
  · rw [Cell.slots_setSlot_ne v e, h.2.2.2 i]
    by_cases q : lo ≤ i ∧ i < k
    · rw [if_pos q, if_pos (by omega)]
    · rw [if_neg q, if_neg (by omega)]
def U16 : String := "java/lang/StringUTF16"
namespace Cmp5
def yN : MethodName := ⟨"java/lang/StringUTF16", "compress", "([CI[BII)I"⟩
abbrev yB : ByteArray := jdk_52_method_21_code
theorem d0 : decode yB 0 = .ok (.iconst 0, 1) := by decide +kernel
theorem d1 : decode yB 1 = .ok (.istore 5, 2) := by decide +kernel
theorem d3 : decode yB 3 = .ok (.iload 5, 2) := by decide +kernel
theorem d5 : decode yB 5 = .ok (.iload 4, 2) := by decide +kernel
theorem d7 : decode yB 7 = .ok (.if_icmp (.ge) 37, 3) := by decide +kernel
theorem d10 : decode yB 10 = .ok (.aload_n 0, 1) := by decide +kernel
theorem d11 : decode yB 11 = .ok (.iload_n 1, 1) := by decide +kernel
theorem d12 : decode yB 12 = .ok (.caload, 1) := by decide +kernel
theorem d13 : decode yB 13 = .ok (.istore 6, 2) := by decide +kernel
theorem d15 : decode yB 15 = .ok (.iload 6, 2) := by decide +kernel
theorem d17 : decode yB 17 = .ok (.sipush 255, 3) := by decide +kernel
theorem d20 : decode yB 20 = .ok (.if_icmp (.le) 6, 3) := by decide +kernel
theorem d26 : decode yB 26 = .ok (.aload_n 2, 1) := by decide +kernel
theorem d27 : decode yB 27 = .ok (.iload_n 3, 1) := by decide +kernel
theorem d28 : decode yB 28 = .ok (.iload 6, 2) := by decide +kernel
theorem d30 : decode yB 30 = .ok (.i2b, 1) := by decide +kernel
theorem d31 : decode yB 31 = .ok (.bastore, 1) := by decide +kernel
theorem d32 : decode yB 32 = .ok (.iinc 1 1, 3) := by decide +kernel
theorem d35 : decode yB 35 = .ok (.iinc 3 1, 3) := by decide +kernel
theorem d38 : decode yB 38 = .ok (.iinc 5 1, 3) := by decide +kernel
theorem d41 : decode yB 41 = .ok (.goto (-38), 3) := by decide +kernel
theorem d44 : decode yB 44 = .ok (.iload 4, 2) := by decide +kernel
theorem d46 : decode yB 46 = .ok (.ireturn, 1) := by decide +kernel
def site : List Cond := []
def tab : Cond := tabOf yN yB 7 (some .int) site
def P (b : Addr) (A : Cell) (d : Addr) (B : Cell) (o q len : Nat) (args : Array Value) (s : State) : Prop := args = #[.ref b, .int (Int32.ofNat o), .ref d, .int (Int32.ofNat q), .int (Int32.ofNat len)] ∧ Ch b A s ∧ Arr .byte d B s ∧ b ≠ d ∧ o + len ≤ A.slots.size ∧ q + len ≤ B.slots.size ∧ ∀ i, i < len → ¬ 255 < cv A (o + i)
def E (b : Addr) (A : Cell) (d : Addr) (B : Cell) (o q len : Nat) (r : Option Value) (s u : State) : Prop := r = some (.int (Int32.ofNat len)) ∧ ∃ B', Put d B' s u ∧ Laid B B' q (q + len) (fun j => Value.int (lo8 (cv A (o + (j - q)))))
/-- no char of the range above 255: len; the places written hold each char's low byte -/
theorem law (l : Launch) (b : Addr) (A : Cell) (d : Addr) (B : Cell) (o q len : Nat) : Law l yN 5 5 0 0 yB 7 (some .int) site (P b A d B o q len) (E b A d B o q len) (copyLocs d q len) 0 0 := by
  refine Law.of_walk (plainFor_of_name (by decide +kernel)) (by decide +kernel) (by decide +kernel) (by decide) (fun _ _ h => by rw [h.1]; rfl) (fun _ U U' hal hh h => ⟨h.1, h.2.1.mv hal hh, h.2.2.1.mv hal hh, h.2.2.2⟩) (fun r U U' V V' h1 hal h2 h => ⟨h.1, h.2.elim fun B' q => ⟨B', q.1.mv h1 h2, q.2⟩⟩) ?_
  intro p e s m args below meth c s₁ X0 hexec hbytes hml hret hlk hnm hown hh0 W hP
  obtain ⟨rfl, hA, hB, hne, l1, l2, hp⟩ := hP
  have c1 : Steps p.tables e below (s₁.setTop (entryFrame m #[.ref b, .int (Int32.ofNat o), .ref d, .int (Int32.ofNat q), .int (Int32.ofNat len)] 7)) (s₁.setTop (mkF m 0 #[.val (.ref b), .val (.int (Int32.ofNat o)), .val (.ref d), .val (.int (Int32.ofNat q)), .val (.int (Int32.ofNat len)), .unset, .unset] [])) := entry rfl
  have hA0 := hA.1.mv X0.warmed.alike hh0
  have hB0 := hB.mv X0.warmed.alike hh0
  have a31 := hA.1.2.2.2
  have c2 : Steps p.tables e below (s₁.setTop (entryFrame m #[.ref b, .int (Int32.ofNat o), .ref d, .int (Int32.ofNat q), .int (Int32.ofNat len)] 7)) (s₁.setTop (mkF m 3 #[.val (.ref b), .val (.int (Int32.ofNat o)), .val (.ref d), .val (.int (Int32.ofNat q)), .val (.int (Int32.ofNat len)), .val (.int 0), .unset] [])) := c1.trans (by
    refine iconstV X0.here hexec rfl 0 (hb hbytes d0) (by decide) ?_
    refine XS.istore X0.here hexec rfl (hb hbytes d1) rfl rfl ?_
    exact Steps.refl _)
  have loop : ∀ (r i : Nat), i + r = len → ∀ (z : Slot), (z = .unset ∨ ∃ w, z = .val w ∧ w.category = 1) → ∀ (Tl : State) (Bk : Cell), Stand p l e { frames := 0, locals := 0, cells := 0, slots := 0 } s m #[.ref b, .int (Int32.ofNat o), .ref d, .int (Int32.ofNat q), .int (Int32.ofNat len)] below meth c Tl ([] ++ copyLocs d q i) 0 0 → Put d Bk s₁ Tl → Laid B Bk q (q + i) (fun j => Value.int (lo8 (cv A (o + (j - q))))) →
      Steps p.tables e below (s₁.setTop (entryFrame m #[.ref b, .int (Int32.ofNat o), .ref d, .int (Int32.ofNat q), .int (Int32.ofNat len)] 7)) (Tl.setTop (mkF m 3 #[.val (.ref b), .val (.int (Int32.ofNat (o + i))), .val (.ref d), .val (.int (Int32.ofNat (q + i))), .val (.int (Int32.ofNat len)), .val (.int (Int32.ofNat i)), z] [])) → ∃ (T' : State) (B' : Cell) (z' : Slot), Stand p l e { frames := 0, locals := 0, cells := 0, slots := 0 } s m #[.ref b, .int (Int32.ofNat o), .ref d, .int (Int32.ofNat q), .int (Int32.ofNat len)] below meth c T' ([] ++ copyLocs d q len) 0 0 ∧ Put d B' s₁ T' ∧ Laid B B' q (q + len) (fun j => Value.int (lo8 (cv A (o + (j - q))))) ∧
      Steps p.tables e below (s₁.setTop (entryFrame m #[.ref b, .int (Int32.ofNat o), .ref d, .int (Int32.ofNat q), .int (Int32.ofNat len)] 7)) (T'.setTop (mkF m 3 #[.val (.ref b), .val (.int (Int32.ofNat (o + len))), .val (.ref d), .val (.int (Int32.ofNat (q + len))), .val (.int (Int32.ofNat len)), .val (.int (Int32.ofNat len)), z'] [])) := by
    intro r
    induction r with
    | zero =>
      intro i hi z hz Tl Bk Xl pl fl cl
      have hil : i = len := by omega
      rw [hil] at Xl fl cl
      exact ⟨Tl, Bk, z, Xl, pl, fl, cl⟩
    | succ r ih =>
      intro i hi z hz Tl Bk Xl pl fl cl
      have all := X0.warmed.alike.symm.trans Xl.warmed.alike
      have hAl := hA0.keep all (pl.other hne hA0.1)
      have hBk := hB0.like all pl.1 fl.1 fl.2.1 fl.2.2.1
      have hlt : q + i < Bk.slots.size := by rw [fl.2.2.1]; omega
      have c3 : Steps p.tables e below (s₁.setTop (entryFrame m #[.ref b, .int (Int32.ofNat o), .ref d, .int (Int32.ofNat q), .int (Int32.ofNat len)] 7)) (Tl.setTop (mkF m 12 #[.val (.ref b), .val (.int (Int32.ofNat (o + i))), .val (.ref d), .val (.int (Int32.ofNat (q + i))), .val (.int (Int32.ofNat len)), .val (.int (Int32.ofNat i)), z] [.int (Int32.ofNat (o + i)), .ref b])) := cl.trans (by
        refine XS.iload Xl.here hexec rfl (hb hbytes d3) rfl ?_
        refine XS.iload Xl.here hexec rfl (hb hbytes d5) rfl ?_
        refine XS.icmpNo Xl.here hexec rfl (hb hbytes d7) rfl (ii_ge_f (lt32 (by omega) (by omega))) ?_
        refine XS.aloadN Xl.here hexec rfl (hb hbytes d10) rfl rfl ?_
        refine XS.iloadN Xl.here hexec rfl (hb hbytes d11) rfl ?_
        exact Steps.refl _)
      have c4 : Steps p.tables e below (s₁.setTop (entryFrame m #[.ref b, .int (Int32.ofNat o), .ref d, .int (Int32.ofNat q), .int (Int32.ofNat len)] 7)) (Tl.setTop (mkF m 13 #[.val (.ref b), .val (.int (Int32.ofNat (o + i))), .val (.ref d), .val (.int (Int32.ofNat (q + i))), .val (.int (Int32.ofNat len)), .val (.int (Int32.ofNat i)), z] [.int (cv A (o + i))])) := c3.trans (by
        refine Xl.aget hexec hAl rfl (hA.get (i := o + i) (by omega)) rfl rfl (hb hbytes d12) ?_
        exact Steps.refl _)
      have c5 : Steps p.tables e below (s₁.setTop (entryFrame m #[.ref b, .int (Int32.ofNat o), .ref d, .int (Int32.ofNat q), .int (Int32.ofNat len)] 7)) (Tl.setTop (mkF m 15 #[.val (.ref b), .val (.int (Int32.ofNat (o + i))), .val (.ref d), .val (.int (Int32.ofNat (q + i))), .val (.int (Int32.ofNat len)), .val (.int (Int32.ofNat i)), .val (.int (cv A (o + i)))] [])) := c4.trans (by
        refine XS.istoreS Xl.here hexec rfl (hb hbytes d13) rfl rfl hz ?_
        exact Steps.refl _)
      have c6 : Steps p.tables e below (s₁.setTop (entryFrame m #[.ref b, .int (Int32.ofNat o), .ref d, .int (Int32.ofNat q), .int (Int32.ofNat len)] 7)) (Tl.setTop (mkF m 31 #[.val (.ref b), .val (.int (Int32.ofNat (o + i))), .val (.ref d), .val (.int (Int32.ofNat (q + i))), .val (.int (Int32.ofNat len)), .val (.int (Int32.ofNat i)), .val (.int (cv A (o + i)))] [.int (lo8 (cv A (o + i))), .int (Int32.ofNat (q + i)), .ref d])) := c5.trans (by
        refine XS.iload Xl.here hexec rfl (hb hbytes d15) rfl ?_
        refine sipushV Xl.here hexec rfl 255 (hb hbytes d17) (by decide) ?_
        refine XS.icmpYes Xl.here hexec rfl (pc0 := 20) rfl (hb hbytes d20) rfl (ii_le_t (hp i (by omega))) (by decide) rfl ?_
        refine XS.aloadN Xl.here hexec rfl (hb hbytes d26) rfl rfl ?_
        refine XS.iloadN Xl.here hexec rfl (hb hbytes d27) rfl ?_
        refine XS.iload Xl.here hexec rfl (hb hbytes d28) rfl ?_
        refine i2b Xl.here hexec rfl (hb hbytes d30) rfl ?_
        exact Steps.refl _)
      obtain ⟨T7, X7, p7, st7⟩ := Xl.aput hexec hBk rfl hlt rfl (fits_lo8 (cv A (o + i))) (g := (mkF m 31 #[.val (.ref b), .val (.int (Int32.ofNat (o + i))), .val (.ref d), .val (.int (Int32.ofNat (q + i))), .val (.int (Int32.ofNat len)), .val (.int (Int32.ofNat i)), .val (.int (cv A (o + i)))] [.int (lo8 (cv A (o + i))), .int (Int32.ofNat (q + i)), .ref d])) rfl (rest := []) rfl (hb hbytes d31)
      have c8 : Steps p.tables e below (s₁.setTop (entryFrame m #[.ref b, .int (Int32.ofNat o), .ref d, .int (Int32.ofNat q), .int (Int32.ofNat len)] 7)) (T7.setTop (mkF m 32 #[.val (.ref b), .val (.int (Int32.ofNat (o + i))), .val (.ref d), .val (.int (Int32.ofNat (q + i))), .val (.int (Int32.ofNat len)), .val (.int (Int32.ofNat i)), .val (.int (cv A (o + i)))] [])) := c6.trans (st7 _ (Steps.refl _))
      have c9 : Steps p.tables e below (s₁.setTop (entryFrame m #[.ref b, .int (Int32.ofNat o), .ref d, .int (Int32.ofNat q), .int (Int32.ofNat len)] 7)) (T7.setTop (mkF m 3 #[.val (.ref b), .val (.int (Int32.ofNat (o + i) + 1)), .val (.ref d), .val (.int (Int32.ofNat (q + i) + 1)), .val (.int (Int32.ofNat len)), .val (.int (Int32.ofNat i + 1)), .val (.int (cv A (o + i)))] [])) := c8.trans (by
        refine iincV X7.here hexec rfl 1 (hb hbytes d32) (by decide) rfl rfl ?_
        refine iincV X7.here hexec rfl 1 (hb hbytes d35) (by decide) rfl rfl ?_
        refine iincV X7.here hexec rfl 1 (hb hbytes d38) (by decide) rfl rfl ?_
        refine XS.goto X7.here hexec rfl (pc0 := 41) rfl (hb hbytes d41) (by decide) rfl ?_
        exact Steps.refl _)
      have c10 : Steps p.tables e below (s₁.setTop (entryFrame m #[.ref b, .int (Int32.ofNat o), .ref d, .int (Int32.ofNat q), .int (Int32.ofNat len)] 7)) (T7.setTop (mkF m 3 #[.val (.ref b), .val (.int (Int32.ofNat (o + (i + 1)))), .val (.ref d), .val (.int (Int32.ofNat (q + (i + 1)))), .val (.int (Int32.ofNat len)), .val (.int (Int32.ofNat (i + 1))), .val (.int (cv A (o + i)))] [])) := by
        have := c9
        rw [succ32, succ32, succ32] at this
        exact this
      exact ih (i + 1) (by omega) _ (Or.inr ⟨_, rfl, rfl⟩) T7 _ (by rw [copyLocs_step, ← List.append_assoc]; exact X7) (pl.trans p7) (fl.step (by omega) hlt (by simp)) c10
  obtain ⟨T9, B9, z9, X9, p9, f9, g9⟩ := loop len 0 (by omega) .unset (Or.inl rfl) s₁ B (by simpa [copyLocs] using X0) ⟨hB0.1, fun _ _ => rfl, rfl⟩ (Laid.zero _ _ _) c2
  have c11 : Steps p.tables e below (s₁.setTop (entryFrame m #[.ref b, .int (Int32.ofNat o), .ref d, .int (Int32.ofNat q), .int (Int32.ofNat len)] 7)) (T9.setTop (mkF m 46 #[.val (.ref b), .val (.int (Int32.ofNat (o + len))), .val (.ref d), .val (.int (Int32.ofNat (q + len))), .val (.int (Int32.ofNat len)), .val (.int (Int32.ofNat len)), z9] [.int (Int32.ofNat len)])) := g9.trans (by
    refine XS.iload X9.here hexec rfl (hb hbytes d3) rfl ?_
    refine XS.iload X9.here hexec rfl (hb hbytes d5) rfl ?_
    refine XS.icmpYes X9.here hexec rfl (pc0 := 7) rfl (hb hbytes d7) rfl (ii_ge_t (nlt32 (by omega) (Nat.le_refl _))) (by decide) rfl ?_
    refine XS.iload X9.here hexec rfl (hb hbytes d44) rfl ?_
    exact Steps.refl _)
  exact ⟨T9, some (.int (Int32.ofNat len)), _, _, _, X9, by simp, rfl, rfl, (fun h => by cases h), ⟨rfl, B9, p9.from hh0, f9⟩, fun fs hl => c11.trans (X9.ireturnOut hexec hret rfl (Or.inl rfl) (hb hbytes d46) hl)⟩
end Cmp5
namespace Cmp3
def yN : MethodName := ⟨"java/lang/StringUTF16", "compress", "([CII)[B"⟩
abbrev yB : ByteArray := jdk_52_method_16_code
theorem d0 : decode yB 0 = .ok (.iload_n 2, 1) := by decide +kernel
theorem d1 : decode yB 1 = .ok (.newarray .byte, 2) := by decide +kernel
theorem d3 : decode yB 3 = .ok (.astore_n 3, 1) := by decide +kernel
theorem d4 : decode yB 4 = .ok (.aload_n 0, 1) := by decide +kernel
theorem d5 : decode yB 5 = .ok (.iload_n 1, 1) := by decide +kernel
theorem d6 : decode yB 6 = .ok (.aload_n 3, 1) := by decide +kernel
theorem d7 : decode yB 7 = .ok (.iconst 0, 1) := by decide +kernel
theorem d8 : decode yB 8 = .ok (.iload_n 2, 1) := by decide +kernel
theorem d9 : decode yB 9 = .ok (.invokestatic 115, 3) := by decide +kernel
theorem d12 : decode yB 12 = .ok (.istore 4, 2) := by decide +kernel
theorem d14 : decode yB 14 = .ok (.iload 4, 2) := by decide +kernel
theorem d16 : decode yB 16 = .ok (.iload_n 2, 1) := by decide +kernel
theorem d17 : decode yB 17 = .ok (.if_icmp (.eq) 40, 3) := by decide +kernel
theorem d57 : decode yB 57 = .ok (.aload_n 3, 1) := by decide +kernel
theorem d58 : decode yB 58 = .ok (.areturn, 1) := by decide +kernel
def site : List Cond := [.arrayClass .byte, Cmp5.tab] ++ staticW U16 115 Cmp5.yN
def tab : Cond := tabOf yN yB 6 (some (.array .byte)) site
def P (b : Addr) (A : Cell) (o len : Nat) (args : Array Value) (s : State) : Prop := args = #[.ref b, .int (Int32.ofNat o), .int (Int32.ofNat len)] ∧ Ch b A s ∧ o + len ≤ A.slots.size ∧ len ≤ 536870912 ∧ ∀ i, i < len → ¬ 255 < cv A (o + i)
def E (b : Addr) (A : Cell) (o len : Nat) (r : Option Value) (s u : State) : Prop := NewArr .byte "[B" len (fun j => .int (lo8 (cv A (o + j)))) r s u ∧ u.heap.size = s.heap.size + 1
/-- no char of the range above 255: a new byte[] of their low bytes -/
theorem law (l : Launch) (b : Addr) (A : Cell) (o len : Nat) : Law l yN 3 3 1 18 yB 6 (some (.array .byte)) site (P b A o len) (E b A o len) [] 1 len := by
  refine Law.of_walk (plainFor_of_name (by decide +kernel)) (by decide +kernel) (by decide +kernel) (by decide) (fun _ _ h => by rw [h.1]; rfl) (fun _ U U' hal hh h => ⟨h.1, h.2.1.mv hal hh, h.2.2⟩) (fun r U U' V V' h1 hal h2 h => ⟨NewArr.mv r U U' V V' h1 hal h2 h.1, by rw [h1, h2]; exact h.2⟩) ?_
  intro p e s m args below meth c s₁ X0 hexec hbytes hml hret hlk hnm hown hh0 W hP
  obtain ⟨rfl, hA, l1, l2, hp⟩ := hP
  have a31 := hA.1.2.2.2
  have c1 : Steps p.tables e below (s₁.setTop (entryFrame m #[.ref b, .int (Int32.ofNat o), .int (Int32.ofNat len)] 6)) (s₁.setTop (mkF m 0 #[.val (.ref b), .val (.int (Int32.ofNat o)), .val (.int (Int32.ofNat len)), .unset, .unset, .unset] [])) := entry rfl
  have c2 : Steps p.tables e below (s₁.setTop (entryFrame m #[.ref b, .int (Int32.ofNat o), .int (Int32.ofNat len)] 6)) (s₁.setTop (mkF m 1 #[.val (.ref b), .val (.int (Int32.ofNat o)), .val (.int (Int32.ofNat len)), .unset, .unset, .unset] [.int (Int32.ofNat len)])) := c1.trans (by
    refine XS.iloadN X0.here hexec rfl (hb hbytes d0) rfl ?_
    exact Steps.refl _)
  obtain ⟨T3, B3, X3, ba3, bs3, bv3, bh3, bf3, st3⟩ := X0.anew hexec (atype := .byte) (wk W (.arrayClass .byte)) rfl (by show len * 1 ≤ _; omega) (by omega) (g := (mkF m 1 #[.val (.ref b), .val (.int (Int32.ofNat o)), .val (.int (Int32.ofNat len)), .unset, .unset, .unset] [.int (Int32.ofNat len)])) rfl (hb hbytes d1) (rest := []) rfl (Nat.le_refl _) (by show 0 + len ≤ len; omega)
  rw [hh0] at ba3 st3
  have kp3 : XT.Kept s T3 := (XT.Kept.of_eq hh0).push bh3
  have hA3 := hA.keep X3.warmed.alike (kp3 _ _ hA.1.1)
  have hne : b ≠ s.heap.size := hA.1.ne
  have c4 : Steps p.tables e below (s₁.setTop (entryFrame m #[.ref b, .int (Int32.ofNat o), .int (Int32.ofNat len)] 6)) (T3.setTop (mkF m 3 #[.val (.ref b), .val (.int (Int32.ofNat o)), .val (.int (Int32.ofNat len)), .unset, .unset, .unset] [.ref s.heap.size])) := c2.trans (st3 _ (Steps.refl _))
  have c5 : Steps p.tables e below (s₁.setTop (entryFrame m #[.ref b, .int (Int32.ofNat o), .int (Int32.ofNat len)] 6)) (T3.setTop (mkF m 9 #[.val (.ref b), .val (.int (Int32.ofNat o)), .val (.int (Int32.ofNat len)), .val (.ref s.heap.size), .unset, .unset] [.int (Int32.ofNat len), .int 0, .ref s.heap.size, .int (Int32.ofNat o), .ref b])) := c4.trans (by
    refine XS.astoreN X3.here hexec rfl (hb hbytes d3) rfl rfl rfl ?_
    refine XS.aloadN X3.here hexec rfl (hb hbytes d4) rfl rfl ?_
    refine XS.iloadN X3.here hexec rfl (hb hbytes d5) rfl ?_
    refine XS.aloadN X3.here hexec rfl (hb hbytes d6) rfl rfl ?_
    refine iconstV X3.here hexec rfl 0 (hb hbytes d7) (by decide) ?_
    refine XS.iloadN X3.here hexec rfl (hb hbytes d8) rfl ?_
    exact Steps.refl _)
  obtain ⟨v6, T6, X6, E6, g6⟩ := X3.callS hexec (Cmp5.law l b A s.heap.size B3 o 0 len) hown (wks W (staticW U16 115 Cmp5.yN)) (wk W Cmp5.tab) (W := 0) (Nat.le_of_ble_eq_true rfl) (Nat.le_of_ble_eq_true rfl) (Nat.le_refl _) (by show 0 + len + 0 ≤ len; omega) (g := (mkF m 9 #[.val (.ref b), .val (.int (Int32.ofNat o)), .val (.int (Int32.ofNat len)), .val (.ref s.heap.size), .unset, .unset] [.int (Int32.ofNat len), .int (Int32.ofNat 0), .ref s.heap.size, .int (Int32.ofNat o), .ref b])) rfl (by rw [hml]; rfl) c5 (argsL := [.ref b, .int (Int32.ofNat o), .ref s.heap.size, .int (Int32.ofNat 0), .int (Int32.ofNat len)]) (rest := []) rfl rfl (by show 2 * 0 + 0 ≤ _; decide) (hb hbytes d9) (⟨rfl, hA3, ba3, hne, l1, by rw [bs3]; simp, hp⟩)
  obtain ⟨rfl, B6, p6, f6⟩ := E6
  have c7 : Steps p.tables e below (s₁.setTop (entryFrame m #[.ref b, .int (Int32.ofNat o), .int (Int32.ofNat len)] 6)) (T6.setTop (mkF m 12 #[.val (.ref b), .val (.int (Int32.ofNat o)), .val (.int (Int32.ofNat len)), .val (.ref s.heap.size), .unset, .unset] [.int (Int32.ofNat len)])) := g6
  have c8 : Steps p.tables e below (s₁.setTop (entryFrame m #[.ref b, .int (Int32.ofNat o), .int (Int32.ofNat len)] 6)) (T6.setTop (mkF m 58 #[.val (.ref b), .val (.int (Int32.ofNat o)), .val (.int (Int32.ofNat len)), .val (.ref s.heap.size), .val (.int (Int32.ofNat len)), .unset] [.ref s.heap.size])) := c7.trans (by
    refine XS.istore X6.here hexec rfl (hb hbytes d12) rfl rfl ?_
    refine XS.iload X6.here hexec rfl (hb hbytes d14) rfl ?_
    refine XS.iloadN X6.here hexec rfl (hb hbytes d16) rfl ?_
    refine XS.icmpYes X6.here hexec rfl (pc0 := 17) rfl (hb hbytes d17) rfl (ii_eq_t rfl) (by decide) rfl ?_
    refine XS.aloadN X6.here hexec rfl (hb hbytes d57) rfl rfl ?_
    exact Steps.refl _)
  have X8 := X6.wide (L' := []) (cells' := 1) (slots' := len) (fun x hx hlt => by
    simp only [List.nil_append, copyLocs, List.mem_map, List.mem_range] at hx
    obtain ⟨i, -, rfl⟩ := hx
    exact absurd hlt (Nat.lt_irrefl _)) (Nat.le_refl _) (by omega)
  exact ⟨T6, some (.ref s.heap.size), _, _, _, X8, rfl, rfl, rfl, (fun h => by cases h), ⟨⟨rfl, B6, ba3.like (X3.warmed.alike.symm.trans X6.warmed.alike) p6.1 f6.1 f6.2.1 f6.2.2.1, f6.2.1.trans bv3, by rw [X6.warmed.alike.findClass, f6.1]; exact bf3, by rw [f6.2.2.1, bs3]; simp, fun j hj => by rw [f6.2.2.2 j, if_pos (by omega)]; rfl, kp3.put p6 (Nat.le_refl _)⟩, by rw [p6.2.2, bh3, hh0]; simp⟩, fun fs hl => c8.trans (X8.areturnOut hexec rfl hret rfl (hb hbytes d58) hl)⟩
end Cmp3
namespace CodL
def yN : MethodName := ⟨"java/lang/StringUTF16", "coderFromArrayLen", "([BI)B"⟩
abbrev yB : ByteArray := jdk_52_method_15_code
theorem d0 : decode yB 0 = .ok (.iload_n 1, 1) := by decide +kernel
theorem d1 : decode yB 1 = .ok (.aload_n 0, 1) := by decide +kernel
theorem d2 : decode yB 2 = .ok (.arraylength, 1) := by decide +kernel
theorem d3 : decode yB 3 = .ok (.isub, 1) := by decide +kernel
theorem d4 : decode yB 4 = .ok (.bipush 31, 2) := by decide +kernel
theorem d6 : decode yB 6 = .ok (.iushr, 1) := by decide +kernel
theorem d7 : decode yB 7 = .ok (.i2b, 1) := by decide +kernel
theorem d8 : decode yB 8 = .ok (.ireturn, 1) := by decide +kernel
def site : List Cond := []
def tab : Cond := tabOf yN yB 2 (some .byte) site
def P (d : Addr) (B : Cell) (args : Array Value) (s : State) : Prop := args = #[.ref d, .int (Int32.ofNat B.slots.size)] ∧ Arr .byte d B s
def E (r : Option Value) (s u : State) : Prop := XT.PureE (some (.int 0)) r s u
/-- an array as long as the number of chars: LATIN1 -/
theorem law (l : Launch) (d : Addr) (B : Cell) : Law l yN 2 2 0 0 yB 2 (some .byte) site (P d B) E [] 0 0 := by
  refine Law.of_walk (plainFor_of_name (by decide +kernel)) (by decide +kernel) (by decide +kernel) (by decide) (fun _ _ h => by rw [h.1]; rfl) (fun _ U U' hal hh h => ⟨h.1, h.2.mv hal hh⟩) (fun r U U' V V' h1 hal h2 h => XT.PureE.mv r U U' V V' h1 hal h2 h) ?_
  intro p e s m args below meth c s₁ X0 hexec hbytes hml hret hlk hnm hown hh0 W hP
  obtain ⟨rfl, hB⟩ := hP
  have hB0 := hB.mv X0.warmed.alike hh0
  have c1 : Steps p.tables e below (s₁.setTop (entryFrame m #[.ref d, .int (Int32.ofNat B.slots.size)] 2)) (s₁.setTop (mkF m 0 #[.val (.ref d), .val (.int (Int32.ofNat B.slots.size))] [])) := entry rfl
  have c2 : Steps p.tables e below (s₁.setTop (entryFrame m #[.ref d, .int (Int32.ofNat B.slots.size)] 2)) (s₁.setTop (mkF m 2 #[.val (.ref d), .val (.int (Int32.ofNat B.slots.size))] [.ref d, .int (Int32.ofNat B.slots.size)])) := c1.trans (by
    refine XS.iloadN X0.here hexec rfl (hb hbytes d0) rfl ?_
    refine XS.aloadN X0.here hexec rfl (hb hbytes d1) rfl rfl ?_
    exact Steps.refl _)
  have c3 : Steps p.tables e below (s₁.setTop (entryFrame m #[.ref d, .int (Int32.ofNat B.slots.size)] 2)) (s₁.setTop (mkF m 8 #[.val (.ref d), .val (.int (Int32.ofNat B.slots.size))] [.int (lo8 (ushr (Int32.ofNat B.slots.size - Int32.ofNat B.slots.size) 31))])) := c2.trans (by
    refine X0.alen hexec hB0 rfl rfl (hb hbytes d2) ?_
    refine XS.isub X0.here hexec rfl (hb hbytes d3) rfl ?_
    refine bipushV X0.here hexec rfl 31 (hb hbytes d4) (by decide) ?_
    refine iushr X0.here hexec rfl (hb hbytes d6) rfl ?_
    refine i2b X0.here hexec rfl (hb hbytes d7) rfl ?_
    exact Steps.refl _)
  have e0 : lo8 (ushr (Int32.ofNat B.slots.size - Int32.ofNat B.slots.size) 31) = 0 := by rw [Int32.sub_self]; decide
  rw [e0] at c3
  exact ⟨s₁, some (.int 0), _, _, _, X0, rfl, rfl, rfl, (fun h => by cases h), ⟨rfl, hh0⟩, fun fs hl => c3.trans (X0.ireturnOut hexec hret rfl (Or.inr (Or.inr (Or.inl rfl))) (hb hbytes d8) hl)⟩
end CodL
/-- the String at a is Latin-1 over a new byte[] (the heap's one new cell): the low bytes of the len chars of A from o on; every cell but a is kept -/
def Got (a : Addr) (D : Cell) (fV fC : Field) (A : Cell) (o len : Nat) (r : Option Value) (s u : State) : Prop := r = none ∧ ∃ D' V : Cell, Blank "java/lang/String" a D' u ∧ Same D D' [fV.slot, fC.slot] ∧ D'.slots[fV.slot]? = some (.ref s.heap.size) ∧ D'.slots[fC.slot]? = some (.int 0) ∧ Arr .byte s.heap.size V u ∧ V.vm = .none ∧ u.vm.findClass "[B" = some V.cls ∧ V.slots.size = len ∧ (∀ j, j < len → V.slots[j]? = some (.int (lo8 (cv A (o + j))))) ∧ (∀ (y : Addr) (c : Cell), y ≠ a → s.heap[y]? = some c → u.heap[y]? = some c) ∧ u.heap.size = s.heap.size + 1
theorem Got.mv {a : Addr} {D A : Cell} {fV fC : Field} {o len : Nat} : ∀ r (U U' V V' : State), U'.heap = U.heap → V.vm.Alike V'.vm → V'.heap = V.heap → Got a D fV fC A o len r U V → Got a D fV fC A o len r U' V' :=
  fun r U U' V V' h1 hal h2 ⟨e0, D', X, a1, a2, a3, a4, a5, a6, a7, a8, a9, a10, a11⟩ => ⟨e0, D', X, a1.mv hal h2, a2, by rw [h1]; exact a3, a4, by rw [h1]; exact a5.mv hal h2, a6, by rw [hal.findClass]; exact a7, a8, a9, by rw [h1, h2]; exact a10, by rw [h1, h2]; exact a11⟩
namespace New4
def yN : MethodName := ⟨"java/lang/String", "<init>", "([CIILjava/lang/Void;)V"⟩
abbrev yB : ByteArray := jdk_42_method_149_code
theorem d0 : decode yB 0 = .ok (.aload_n 0, 1) := by decide +kernel
theorem d1 : decode yB 1 = .ok (.invokespecial 1, 3) := by decide +kernel
theorem d4 : decode yB 4 = .ok (.iload_n 3, 1) := by decide +kernel
theorem d5 : decode yB 5 = .ok (.ifCond (.ne) 22, 3) := by decide +kernel
theorem d27 : decode yB 27 = .ok (.getstatic 38, 3) := by decide +kernel
theorem d30 : decode yB 30 = .ok (.ifCond (.eq) 28, 3) := by decide +kernel
theorem d33 : decode yB 33 = .ok (.aload_n 1, 1) := by decide +kernel
theorem d34 : decode yB 34 = .ok (.iload_n 2, 1) := by decide +kernel
theorem d35 : decode yB 35 = .ok (.iload_n 3, 1) := by decide +kernel
theorem d36 : decode yB 36 = .ok (.invokestatic 177, 3) := by decide +kernel
theorem d39 : decode yB 39 = .ok (.astore 5, 2) := by decide +kernel
theorem d41 : decode yB 41 = .ok (.aload_n 0, 1) := by decide +kernel
theorem d42 : decode yB 42 = .ok (.aload 5, 2) := by decide +kernel
theorem d44 : decode yB 44 = .ok (.iload_n 3, 1) := by decide +kernel
theorem d45 : decode yB 45 = .ok (.invokestatic 47, 3) := by decide +kernel
theorem d48 : decode yB 48 = .ok (.putfield 15, 3) := by decide +kernel
theorem d51 : decode yB 51 = .ok (.aload_n 0, 1) := by decide +kernel
theorem d52 : decode yB 52 = .ok (.aload 5, 2) := by decide +kernel
theorem d54 : decode yB 54 = .ok (.putfield 9, 3) := by decide +kernel
theorem d57 : decode yB 57 = .ok (.return_, 1) := by decide +kernel
def site : List Cond := [.fieldLink "java/lang/String" 38 "java/lang/String" "COMPACT_STRINGS" "Z", Cmp3.tab, CodL.tab, .laysFinal "java/lang/String" "java/lang/String" "value" "[B", .fieldLink "java/lang/String" 9 "java/lang/String" "value" "[B", .laysFinal "java/lang/String" "java/lang/String" "coder" "B", .fieldLink "java/lang/String" 15 "java/lang/String" "coder" "B"] ++ objW "java/lang/String" 1 ++ staticW "java/lang/String" 177 Cmp3.yN ++ staticW "java/lang/String" 47 CodL.yN
def tab : Cond := tabOf yN yB 6 none site
def P (a : Addr) (D : Cell) (fV fC : Field) (b : Addr) (A : Cell) (z : Int32) (o len : Nat) (args : Array Value) (s : State) : Prop := args = #[.ref a, .ref b, .int (Int32.ofNat o), .int (Int32.ofNat len), .null] ∧ Blank "java/lang/String" a D s ∧ Found "java/lang/String" "value" "[B" fV s ∧ Found "java/lang/String" "coder" "B" fC s ∧ Ch b A s ∧ StaticIs s "java/lang/String" "COMPACT_STRINGS" "Z" (.int z) ∧ ¬ z = 0 ∧ 0 < len ∧ o + len ≤ A.slots.size ∧ len ≤ 536870912 ∧ ∀ i, i < len → ¬ 255 < cv A (o + i)
def E (a : Addr) (D : Cell) (fV fC : Field) (A : Cell) (o len : Nat) (r : Option Value) (s u : State) : Prop := Got a D fV fC A o len r s u
/-- len > 0, no char of the range above 255: a Latin-1 String of their low bytes -/
theorem law (l : Launch) (a : Addr) (D : Cell) (fV fC : Field) (b : Addr) (A : Cell) (z : Int32) (o len : Nat) : Law l yN 5 4 2 35 yB 6 none site (P a D fV fC b A z o len) (E a D fV fC A o len) [⟨a, fC.slot⟩, ⟨a, fV.slot⟩] 1 len := by
  refine Law.of_walk (plainFor_of_name (by decide +kernel)) (by decide +kernel) (by decide +kernel) (by decide) (fun _ _ h => by rw [h.1]; rfl) (fun _ U U' hal hh h => ⟨h.1, h.2.1.mv hal hh, h.2.2.1.al hal, h.2.2.2.1.al hal, h.2.2.2.2.1.mv hal hh, h.2.2.2.2.2.1.there hal hh, h.2.2.2.2.2.2⟩) (fun r U U' V V' h1 hal h2 h => Got.mv r U U' V V' h1 hal h2 h) ?_
  intro p e s m args below meth c s₁ X0 hexec hbytes hml hret hlk hnm hown hh0 W hP
  obtain ⟨rfl, hB, f1, f2, hA, s1, hz, l0, l1, l2, hp⟩ := hP
  have a31 := hA.1.2.2.2
  have c1 : Steps p.tables e below (s₁.setTop (entryFrame m #[.ref a, .ref b, .int (Int32.ofNat o), .int (Int32.ofNat len), .null] 6)) (s₁.setTop (mkF m 0 #[.val (.ref a), .val (.ref b), .val (.int (Int32.ofNat o)), .val (.int (Int32.ofNat len)), .val .null, .unset] [])) := entry rfl
  have c2 : Steps p.tables e below (s₁.setTop (entryFrame m #[.ref a, .ref b, .int (Int32.ofNat o), .int (Int32.ofNat len), .null] 6)) (s₁.setTop (mkF m 1 #[.val (.ref a), .val (.ref b), .val (.int (Int32.ofNat o)), .val (.int (Int32.ofNat len)), .val .null, .unset] [.ref a])) := c1.trans (by
    refine XS.aloadN X0.here hexec rfl (hb hbytes d0) rfl rfl ?_
    exact Steps.refl _)
  obtain ⟨T3, X3, q3, st3⟩ := X0.oinit hexec hown (wks W (objW "java/lang/String" 1)) (g := (mkF m 1 #[.val (.ref a), .val (.ref b), .val (.int (Int32.ofNat o)), .val (.int (Int32.ofNat len)), .val .null, .unset] [.ref a])) rfl (by rw [hml]; rfl) (rest := []) rfl (hb hbytes d1) (W := 0) (by show 2 * 0 + 0 ≤ _; decide) (Nat.le_of_ble_eq_true rfl) (Nat.le_of_ble_eq_true rfl)
  have hh3 := q3.trans hh0
  have c4 : Steps p.tables e below (s₁.setTop (entryFrame m #[.ref a, .ref b, .int (Int32.ofNat o), .int (Int32.ofNat len), .null] 6)) (T3.setTop (mkF m 27 #[.val (.ref a), .val (.ref b), .val (.int (Int32.ofNat o)), .val (.int (Int32.ofNat len)), .val .null, .unset] [])) := (c2.trans (st3 _ (Steps.refl _))).trans (by
    refine XS.iloadN X3.here hexec rfl (hb hbytes d4) rfl ?_
    refine XS.ifYes X3.here hexec rfl (pc0 := 5) rfl (hb hbytes d5) rfl (i0_ne_t (nz32 (by omega) l0)) (by decide) rfl ?_
    exact Steps.refl _)
  obtain ⟨T5, X5, q5, st5⟩ := X3.sget hexec hown (wk W (.fieldLink "java/lang/String" 38 "java/lang/String" "COMPACT_STRINGS" "Z")) s1 (fun _ _ h => by rw [hh3]; exact h) (g := (mkF m 27 #[.val (.ref a), .val (.ref b), .val (.int (Int32.ofNat o)), .val (.int (Int32.ofNat len)), .val .null, .unset] [])) rfl (hb hbytes d27)
  have hh5 := q5.trans hh3
  have c6 : Steps p.tables e below (s₁.setTop (entryFrame m #[.ref a, .ref b, .int (Int32.ofNat o), .int (Int32.ofNat len), .null] 6)) (T5.setTop (mkF m 30 #[.val (.ref a), .val (.ref b), .val (.int (Int32.ofNat o)), .val (.int (Int32.ofNat len)), .val .null, .unset] [.int z])) := c4.trans (st5 _ (Steps.refl _))
  have c7 : Steps p.tables e below (s₁.setTop (entryFrame m #[.ref a, .ref b, .int (Int32.ofNat o), .int (Int32.ofNat len), .null] 6)) (T5.setTop (mkF m 36 #[.val (.ref a), .val (.ref b), .val (.int (Int32.ofNat o)), .val (.int (Int32.ofNat len)), .val .null, .unset] [.int (Int32.ofNat len), .int (Int32.ofNat o), .ref b])) := c6.trans (by
    refine XS.ifNo X5.here hexec rfl (hb hbytes d30) rfl (i0_eq_f hz) ?_
    refine XS.aloadN X5.here hexec rfl (hb hbytes d33) rfl rfl ?_
    refine XS.iloadN X5.here hexec rfl (hb hbytes d34) rfl ?_
    refine XS.iloadN X5.here hexec rfl (hb hbytes d35) rfl ?_
    exact Steps.refl _)
  obtain ⟨v8, T8, X8, E8, g8⟩ := X5.callS hexec (Cmp3.law l b A o len) hown (wks W (staticW "java/lang/String" 177 Cmp3.yN)) (wk W Cmp3.tab) (W := 0) (Nat.le_of_ble_eq_true rfl) (Nat.le_of_ble_eq_true rfl) (Nat.le_refl _) (by show 0 + len ≤ len; omega) (g := (mkF m 36 #[.val (.ref a), .val (.ref b), .val (.int (Int32.ofNat o)), .val (.int (Int32.ofNat len)), .val .null, .unset] [.int (Int32.ofNat len), .int (Int32.ofNat o), .ref b])) rfl (by rw [hml]; rfl) c7 (argsL := [.ref b, .int (Int32.ofNat o), .int (Int32.ofNat len)]) (rest := []) rfl rfl (by show 2 * 0 + 0 ≤ _; decide) (hb hbytes d36) (⟨rfl, hA.mv X5.warmed.alike hh5, l1, l2, hp⟩)
  obtain ⟨e8, z8⟩ := E8
  obtain ⟨rfl, N, n1, n2, n3, n4, n5, n6⟩ := NewArr.mv _ T5 s _ _ hh5.symm (Vm.Alike.refl _) rfl e8
  rw [hh5] at z8
  have hB1 := hB.keep X8.warmed.alike (n6 _ _ hB.1)
  have hne : s.heap.size ≠ a := (Nat.ne_of_lt (Array.getElem?_eq_some_iff.mp hB.1).1).symm
  have c9 : Steps p.tables e below (s₁.setTop (entryFrame m #[.ref a, .ref b, .int (Int32.ofNat o), .int (Int32.ofNat len), .null] 6)) (T8.setTop (mkF m 39 #[.val (.ref a), .val (.ref b), .val (.int (Int32.ofNat o)), .val (.int (Int32.ofNat len)), .val .null, .unset] [.ref s.heap.size])) := g8
  have c10 : Steps p.tables e below (s₁.setTop (entryFrame m #[.ref a, .ref b, .int (Int32.ofNat o), .int (Int32.ofNat len), .null] 6)) (T8.setTop (mkF m 45 #[.val (.ref a), .val (.ref b), .val (.int (Int32.ofNat o)), .val (.int (Int32.ofNat len)), .val .null, .val (.ref s.heap.size)] [.int (Int32.ofNat N.slots.size), .ref s.heap.size, .ref a])) := by
    have hc : Steps p.tables e below (s₁.setTop (entryFrame m #[.ref a, .ref b, .int (Int32.ofNat o), .int (Int32.ofNat len), .null] 6)) (T8.setTop (mkF m 45 #[.val (.ref a), .val (.ref b), .val (.int (Int32.ofNat o)), .val (.int (Int32.ofNat len)), .val .null, .val (.ref s.heap.size)] [.int (Int32.ofNat len), .ref s.heap.size, .ref a])) := c9.trans (by
      refine XS.astore X8.here hexec rfl (hb hbytes d39) rfl rfl rfl ?_
      refine XS.aloadN X8.here hexec rfl (hb hbytes d41) rfl rfl ?_
      refine XS.aload X8.here hexec rfl (hb hbytes d42) rfl rfl ?_
      refine XS.iloadN X8.here hexec rfl (hb hbytes d44) rfl ?_
      exact Steps.refl _)
    rw [n4]; exact hc
  obtain ⟨v11, T11, X11, E11, g11⟩ := X8.callS hexec (CodL.law l s.heap.size N) hown (wks W (staticW "java/lang/String" 47 CodL.yN)) (wk W CodL.tab) (W := 1) (Nat.le_of_ble_eq_true rfl) (Nat.le_of_ble_eq_true rfl) (Nat.le_refl _) (by show 0 + len + 0 ≤ len; omega) (g := (mkF m 45 #[.val (.ref a), .val (.ref b), .val (.int (Int32.ofNat o)), .val (.int (Int32.ofNat len)), .val .null, .val (.ref s.heap.size)] [.int (Int32.ofNat N.slots.size), .ref s.heap.size, .ref a])) rfl (by rw [hml]; rfl) c10 (argsL := [.ref s.heap.size, .int (Int32.ofNat N.slots.size)]) (rest := [.ref a]) rfl rfl (by show 2 * 0 + (1 + 0) ≤ _; decide) (hb hbytes d45) (⟨rfl, n1⟩)
  obtain ⟨rfl, q11⟩ := E11
  have hB11 := hB1.mv (X8.warmed.alike.symm.trans X11.warmed.alike) q11
  have c12 : Steps p.tables e below (s₁.setTop (entryFrame m #[.ref a, .ref b, .int (Int32.ofNat o), .int (Int32.ofNat len), .null] 6)) (T11.setTop (mkF m 48 #[.val (.ref a), .val (.ref b), .val (.int (Int32.ofNat o)), .val (.int (Int32.ofNat len)), .val .null, .val (.ref s.heap.size)] [.int 0, .ref a])) := g11
  obtain ⟨T13, X13, p13, bl13, sl13, st13⟩ := X11.finit hexec hown (wk W (.fieldLink "java/lang/String" 15 "java/lang/String" "coder" "B")) (Or.inr ⟨_, (wk W (.laysFinal "java/lang/String" "java/lang/String" "coder" "B"))⟩) (Or.inl ⟨rfl, hnm⟩) f2 (Or.inl rfl) hB11 (t := .byte) (by decide +kernel) rfl (g := (mkF m 48 #[.val (.ref a), .val (.ref b), .val (.int (Int32.ofNat o)), .val (.int (Int32.ofNat len)), .val .null, .val (.ref s.heap.size)] [.int 0, .ref a])) rfl (rest := []) rfl (hb hbytes d48)
  have c14 : Steps p.tables e below (s₁.setTop (entryFrame m #[.ref a, .ref b, .int (Int32.ofNat o), .int (Int32.ofNat len), .null] 6)) (T13.setTop (mkF m 54 #[.val (.ref a), .val (.ref b), .val (.int (Int32.ofNat o)), .val (.int (Int32.ofNat len)), .val .null, .val (.ref s.heap.size)] [.ref s.heap.size, .ref a])) := (c12.trans (st13 _ (Steps.refl _))).trans (by
    refine XS.aloadN X13.here hexec rfl (hb hbytes d51) rfl rfl ?_
    refine XS.aload X13.here hexec rfl (hb hbytes d52) rfl rfl ?_
    exact Steps.refl _)
  obtain ⟨T15, X15, p15, bl15, sl15, st15⟩ := X13.finit hexec hown (wk W (.fieldLink "java/lang/String" 9 "java/lang/String" "value" "[B")) (Or.inr ⟨_, (wk W (.laysFinal "java/lang/String" "java/lang/String" "value" "[B"))⟩) (Or.inl ⟨rfl, hnm⟩) f1 (Or.inl rfl) bl13 (t := (.array .byte)) (by decide +kernel) rfl (g := (mkF m 54 #[.val (.ref a), .val (.ref b), .val (.int (Int32.ofNat o)), .val (.int (Int32.ofNat len)), .val .null, .val (.ref s.heap.size)] [.ref s.heap.size, .ref a])) rfl (rest := []) rfl (hb hbytes d54)
  have c16 : Steps p.tables e below (s₁.setTop (entryFrame m #[.ref a, .ref b, .int (Int32.ofNat o), .int (Int32.ofNat len), .null] 6)) (T15.setTop (mkF m 57 #[.val (.ref a), .val (.ref b), .val (.int (Int32.ofNat o)), .val (.int (Int32.ofNat len)), .val .null, .val (.ref s.heap.size)] [])) := c14.trans (st15 _ (Steps.refl _))
  have ap := apart (Or.inr ⟨_, (wk W (.laysFinal "java/lang/String" "java/lang/String" "value" "[B"))⟩) (Or.inr ⟨_, (wk W (.laysFinal "java/lang/String" "java/lang/String" "coder" "B"))⟩) f1 f2 (t₁ := .array .byte) (t₂ := .byte) (by decide +kernel) (by decide +kernel) (by decide)
  have al := X8.warmed.alike.symm.trans X15.warmed.alike
  have n7 : T11.heap[s.heap.size]? = some N := by rw [q11]; exact n1.1
  exact ⟨T15, none, _, _, _, X15, by simp, rfl, by omega, (fun _ => rfl), ⟨rfl, _, N, bl15, ((Same.refl D _).set _ (by simp)).set _ (by simp), sl15, (Cell.slots_setSlot_ne _ ap).trans sl13, n1.keep al (p15.other hne (p13.other hne n7)), n2, by rw [al.findClass]; exact n3, n4, n5, fun y c h1 h2 => p15.other h1 (p13.other h1 (by rw [q11]; exact n6 y c h2)), by rw [p15.2.2, p13.2.2, q11]; exact z8⟩, fun fs hl => c16.trans (X15.returnOut hexec hret (hb hbytes d57) hl)⟩
end New4
namespace New1
def yN : MethodName := ⟨"java/lang/String", "<init>", "([C)V"⟩
abbrev yB : ByteArray := jdk_42_method_3_code
theorem d0 : decode yB 0 = .ok (.aload_n 0, 1) := by decide +kernel
theorem d1 : decode yB 1 = .ok (.aload_n 1, 1) := by decide +kernel
theorem d2 : decode yB 2 = .ok (.iconst 0, 1) := by decide +kernel
theorem d3 : decode yB 3 = .ok (.aload_n 1, 1) := by decide +kernel
theorem d4 : decode yB 4 = .ok (.arraylength, 1) := by decide +kernel
theorem d5 : decode yB 5 = .ok (.aconst_null, 1) := by decide +kernel
theorem d6 : decode yB 6 = .ok (.invokespecial 27, 3) := by decide +kernel
theorem d9 : decode yB 9 = .ok (.return_, 1) := by decide +kernel
def site : List Cond := [New4.tab] ++ initW "java/lang/String" 27 New4.yN
def tab : Cond := tabOf yN yB 2 none site
def P (a : Addr) (D : Cell) (fV fC : Field) (b : Addr) (A : Cell) (z : Int32) (args : Array Value) (s : State) : Prop := args = #[.ref a, .ref b] ∧ Blank "java/lang/String" a D s ∧ Found "java/lang/String" "value" "[B" fV s ∧ Found "java/lang/String" "coder" "B" fC s ∧ Ch b A s ∧ StaticIs s "java/lang/String" "COMPACT_STRINGS" "Z" (.int z) ∧ ¬ z = 0 ∧ 0 < A.slots.size ∧ A.slots.size ≤ 536870912 ∧ ∀ i, i < A.slots.size → ¬ 255 < cv A i
def E (a : Addr) (D : Cell) (fV fC : Field) (A : Cell) (r : Option Value) (s u : State) : Prop := Got a D fV fC A 0 A.slots.size r s u
/-- new String(chars), not empty, no char above 255: a Latin-1 String of their low bytes -/
theorem law (l : Launch) (a : Addr) (D : Cell) (fV fC : Field) (b : Addr) (A : Cell) (z : Int32) : Law l yN 2 1 3 52 yB 2 none site (P a D fV fC b A z) (E a D fV fC A) [⟨a, fC.slot⟩, ⟨a, fV.slot⟩] 1 A.slots.size := by
  refine Law.of_walk (plainFor_of_name (by decide +kernel)) (by decide +kernel) (by decide +kernel) (by decide) (fun _ _ h => by rw [h.1]; rfl) (fun _ U U' hal hh h => ⟨h.1, h.2.1.mv hal hh, h.2.2.1.al hal, h.2.2.2.1.al hal, h.2.2.2.2.1.mv hal hh, h.2.2.2.2.2.1.there hal hh, h.2.2.2.2.2.2⟩) (fun r U U' V V' h1 hal h2 h => Got.mv r U U' V V' h1 hal h2 h) ?_
  intro p e s m args below meth c s₁ X0 hexec hbytes hml hret hlk hnm hown hh0 W hP
  obtain ⟨rfl, hB, f1, f2, hA, s1, hz, l0, l2, hp⟩ := hP
  have c1 : Steps p.tables e below (s₁.setTop (entryFrame m #[.ref a, .ref b] 2)) (s₁.setTop (mkF m 0 #[.val (.ref a), .val (.ref b)] [])) := entry rfl
  have c2 : Steps p.tables e below (s₁.setTop (entryFrame m #[.ref a, .ref b] 2)) (s₁.setTop (mkF m 6 #[.val (.ref a), .val (.ref b)] [.null, .int (Int32.ofNat A.slots.size), .int 0, .ref b, .ref a])) := c1.trans (by
    refine XS.aloadN X0.here hexec rfl (hb hbytes d0) rfl rfl ?_
    refine XS.aloadN X0.here hexec rfl (hb hbytes d1) rfl rfl ?_
    refine iconstV X0.here hexec rfl 0 (hb hbytes d2) (by decide) ?_
    refine XS.aloadN X0.here hexec rfl (hb hbytes d3) rfl rfl ?_
    refine X0.alen hexec (hA.1.mv X0.warmed.alike hh0) rfl rfl (hb hbytes d4) ?_
    refine XS.aconstNull X0.here hexec rfl (hb hbytes d5) ?_
    exact Steps.refl _)
  obtain ⟨v3, T3, X3, E3, g3⟩ := X0.callN hexec (New4.law l a D fV fC b A z 0 A.slots.size) rfl hown (wks W (initW "java/lang/String" 27 New4.yN)) (W New4.tab (by simp only [site, List.mem_cons, List.mem_append, true_or, or_true])) (W := 0) (Nat.le_of_ble_eq_true rfl) (Nat.le_of_ble_eq_true rfl) (Nat.le_refl _) (by show 0 + A.slots.size ≤ A.slots.size; omega) (g := (mkF m 6 #[.val (.ref a), .val (.ref b)] [.null, .int (Int32.ofNat A.slots.size), .int (Int32.ofNat 0), .ref b, .ref a])) rfl (by rw [hml]; rfl) c2 (argsL := [.ref b, .int (Int32.ofNat 0), .int (Int32.ofNat A.slots.size), .null]) (rest := []) rfl rfl (by show 2 * 0 + 0 ≤ _; decide) (hb hbytes d6) (⟨rfl, hB.mv X0.warmed.alike hh0, f1.al X0.warmed.alike, f2.al X0.warmed.alike, hA.mv X0.warmed.alike hh0, s1.there X0.warmed.alike hh0, hz, l0, by omega, l2, fun i hi => by rw [Nat.zero_add]; exact hp i hi⟩)
  have e0 := Got.mv _ s₁ s _ _ hh0.symm (Vm.Alike.refl _) rfl E3
  obtain rfl := e0.1
  have c4 : Steps p.tables e below (s₁.setTop (entryFrame m #[.ref a, .ref b] 2)) (T3.setTop (mkF m 9 #[.val (.ref a), .val (.ref b)] [])) := g3
  exact ⟨T3, none, _, _, _, X3, by simp, rfl, by omega, (fun _ => rfl), e0, fun fs hl => c4.trans (X3.returnOut hexec hret (hb hbytes d9) hl)⟩
theorem pays {l : Launch} {R : Room} {p : Program} {e : Env} {below : List Frame} {s : State} {sargs : Array Value} {len W : Nat} (a : Addr) (D : Cell) (fV fC : Field) (b : Addr) (A : Cell) (z : Int32) (htab : tab.before sargs s = true) (hfr : 4 ≤ R.frames) (hlo : W + 65 ≤ R.locals) :
    Back l R p e below s sargs yN len W (fun A₁ a₁ => A₁.cells + 1 ≤ R.cells ∧ A₁.slots + A.slots.size ≤ R.slots ∧ P a D fV fC b A z a₁ A₁.U) (fun A₁ _ v₁ B₁ => E a D fV fC A v₁ A₁.U B₁.U ∧ B₁.locs = A₁.locs ++ [⟨a, fC.slot⟩, ⟨a, fV.slot⟩] ∧ B₁.cells = A₁.cells + 1 ∧ B₁.slots = A₁.slots + A.slots.size) :=
  (law l a D fV fC b A z).pays htab hfr (by omega)
end New1
/-- the byte, read back as charAt reads it, is the char -/
theorem lo8_mask {x : Int32} (h0 : ¬ x < 0) (h1 : ¬ 255 < x) : lo8 x &&& 255 = x := by
  have t : ∀ k : Fin 256, lo8 (Int32.ofNat k.val) &&& 255 = Int32.ofNat k.val := by decide +kernel
  rw [Int32.lt_iff_toInt_lt] at h0 h1
  have e0 : (0 : Int32).toInt = 0 := rfl
  have e1 : (255 : Int32).toInt = 255 := rfl
  obtain ⟨k, hk⟩ : ∃ k : Nat, x.toInt = k := ⟨x.toInt.toNat, by omega⟩
  have hx : x = Int32.ofNat k := Int32.toInt_inj.mp (by rw [hk, Int32.toInt_ofNat_small (by omega)])
  rw [hx]
  exact t ⟨k, by omega⟩
end StrChars
namespace StrChars.Road
open Jvm Sem ClassFile Op Lib Jvm.Stand Jvm.Free Jvm.Free.XT
open Jvm.Lib.Cold (StaticIs)
abbrev ST : String := "java/lang/String"
/-- every table word that New1's law asks, flat -/
abbrev words : List Jvm.Cond := [.code New1.yN New1.yB 2 none, .initialized ST, .methodLink ST 27 New4.yN, .instanceMethod New4.yN,
  .code New4.yN New4.yB 6 none, .fieldLink ST 38 ST "COMPACT_STRINGS" "Z", .laysFinal ST ST "value" "[B", .fieldLink ST 9 ST "value" "[B", .laysFinal ST ST "coder" "B", .fieldLink ST 15 ST "coder" "B",
  .methodLink ST 1 Lib.objectInit, .instanceMethod Lib.objectInit, .code Lib.objectInit ⟨#[0xb1]⟩ 1 none, .methodLink ST 177 Cmp3.yN, .static Cmp3.yN, .methodLink ST 47 CodL.yN, .static CodL.yN,
  .code Cmp3.yN Cmp3.yB 6 (some (.array .byte)), .initialized U16, .arrayClass .byte, .methodLink U16 115 Cmp5.yN, .static Cmp5.yN, .code Cmp5.yN Cmp5.yB 7 (some .int), .code CodL.yN CodL.yB 2 (some .byte)]
theorem tab_of {a : Array Value} {s : State} (h : ∀ w ∈ words, w.before a s = true) : New1.tab.before a s = true := by
  have h5 : Cmp5.tab.before a s = true := unparts (wk h (.code Cmp5.yN Cmp5.yB 7 (some .int))) (wks h (.initialized Cmp5.yN.cls :: Cmp5.site))
  have hc : CodL.tab.before a s = true := unparts (wk h (.code CodL.yN CodL.yB 2 (some .byte))) (wks h (.initialized CodL.yN.cls :: CodL.site))
  have q5 : ∀ w ∈ Cmp5.tab :: words, w.before a s = true := fun w hw => (List.mem_cons.mp hw).elim (fun e => e ▸ h5) (h w)
  have h3 : Cmp3.tab.before a s = true := unparts (wk q5 (.code Cmp3.yN Cmp3.yB 6 (some (.array .byte)))) (wks q5 (.initialized Cmp3.yN.cls :: Cmp3.site))
  have q3 : ∀ w ∈ Cmp3.tab :: CodL.tab :: words, w.before a s = true := fun w hw => (List.mem_cons.mp hw).elim (fun e => e ▸ h3) fun hw => (List.mem_cons.mp hw).elim (fun e => e ▸ hc) (h w)
  have h4 : New4.tab.before a s = true := unparts (wk q3 (.code New4.yN New4.yB 6 none)) (wks q3 (.initialized New4.yN.cls :: New4.site))
  have q4 : ∀ w ∈ New4.tab :: words, w.before a s = true := fun w hw => (List.mem_cons.mp hw).elim (fun e => e ▸ h4) (h w)
  exact unparts (wk q4 (.code New1.yN New1.yB 2 none)) (wks q4 (.initialized New1.yN.cls :: New1.site))
/-- the words ride from the start Z to the walk's own state -/
theorem moved {Z s : State} {a0 args : Array Value} (hZ : Z.Warmed39 s.vm) (hw : ∀ d ∈ words, d.before a0 Z = true) : ∀ d ∈ words, d.before args s = true := fun d hd => by
  have q := hw d hd
  have t : ∀ d ∈ words, d = .arrayClass .byte ∨ (d.onTables && d.keepsFace) = true := by decide +kernel
  rcases t d hd with rfl | t
  · exact RoadKit.mvA hZ q
  · exact RoadKit.mv hZ q t
/-- WHAT COMES BACK, over the tables of the start Z: h the heap at the call, h' behind it -/
def Q (Z : State) (x : Addr) (A : Cell) (h : Heap) (v : Option Value) (h' : Heap) (L : List Loc) : Prop := v = none ∧ (∀ y ∈ L, y.base = x) ∧ RoadKit.Keep h h' [x] ∧ h'.size = h.size + 1 ∧ RoadKit.Exa Z h' x ST ∧ RoadKit.Fld Z h' x ST "value" "[B" (.ref h.size) ∧ RoadKit.Fld Z h' x ST "coder" "B" (.int 0) ∧
  (∃ V : Cell, RoadKit.Arr Z h' h.size V .byte ∧ V.vm = .none ∧ Z.vm.findClass "[B" = some V.cls ∧ V.slots.size = A.slots.size ∧ ∀ j, j < A.slots.size → V.slots[j]? = some (.int (lo8 (cv A j)))) ∧
  ∀ (O n d : String) (w : Value), RoadKit.Fld Z h x O n d w → RoadKit.slotOf Z O n d ≠ RoadKit.slotOf Z ST "value" "[B" → RoadKit.slotOf Z O n d ≠ RoadKit.slotOf Z ST "coder" "B" → RoadKit.Fld Z h' x O n d w
/-- **new String(chars) AT A CALL, IN THE ROAD'S FORM**: for specialBack behind newO: x the fresh String, b the char[] with the cell A -/
theorem back {p : Program} {l : Launch} {e : Env} {R : Room} {s : State} {args : Array Value} {below : List Frame} {len W : Nat} {Z : State} {a0 : Array Value} {h : Heap} (hZ : Z.Warmed39 s.vm) (hw : ∀ d ∈ words, d.before a0 Z = true) {kI : Nat} (wi : (Jvm.Cond.instantiable ST kI).before a0 Z = true)
    {x b : Addr} {A : Cell} {z : Int32} {v0 c0 : Value} (E : RoadKit.Exa Z h x ST) (V : RoadKit.Fld Z h x ST "value" "[B" v0) (C : RoadKit.Fld Z h x ST "coder" "B" c0) (K : RoadKit.Arr Z h b A .char) (hty : Typed .char A) (S : RoadKit.Sta Z h ST "COMPACT_STRINGS" "Z" (.int z)) (hz : ¬ z = 0)
    (l0 : 0 < A.slots.size) (l2 : A.slots.size ≤ 536870912) (hp : ∀ i, i < A.slots.size → ¬ 255 < cv A i) (hfr : 4 ≤ R.frames) (hlo : W + 65 ≤ R.locals) :
    Back l R p e below s args New1.yN len W (fun P a => a = #[.ref x, .ref b] ∧ P.U.heap = h ∧ P.cells + 1 ≤ R.cells ∧ P.slots + A.slots.size ≤ R.slots)
      (fun P _ v B => ∃ L, Q Z x A h v B.U.heap L ∧ B.locs = P.locs ++ L ∧ B.cells = P.cells + 1 ∧ B.slots = P.slots + A.slots.size) := by
  intro m meth c P g ig mk a X hg hsize hdg hW hn hp'
  obtain ⟨rfl, rfl, r1, r2⟩ := hp'
  have al : Z.vm.Alike P.U.vm := hZ.alike.trans X.warmed.alike
  obtain ⟨D, cfV, kV, iV, fV, hD, gV, stV, knV, obV, asV, slV⟩ := id V
  obtain ⟨D', cfC, kC, iC, fC, hD', gC, stC, -, -, asC, slC⟩ := id C
  cases hD.symm.trans hD'
  obtain ⟨D2, kD, e1, e2, e3, e4, e5⟩ := id E
  cases hD.symm.trans e1
  obtain ⟨c2, k2, i1, i2, i3, -⟩ := Cond.instantiable_spec wi
  cases e2.symm.trans i1
  cases e3.symm.trans i2
  obtain ⟨kU, u1, u2⟩ := al.2.2 _ _ e3
  have hB : Blank ST x D P.U := ⟨hD, ⟨knV, fun q hq => by rw [hq] at obV; cases obV⟩, by rw [al.findClass]; exact e2, kU, u1, by rw [u2]; exact i3, by rw [u2]; exact e5 i3⟩
  have F1 : Found ST "value" "[B" fV P.U := ⟨SBG.found_only al ⟨cfV, kV, iV, gV⟩, stV⟩
  have F2 : Found ST "coder" "B" fC P.U := ⟨SBG.found_only al ⟨cfC, kC, iC, gC⟩, stC⟩
  have hA : Ch b A P.U := ⟨⟨K.1, State.isArrayOf_alike al K.2.1, K.2.2, by omega⟩, hty⟩
  have hS : StaticIs P.U ST "COMPACT_STRINGS" "Z" (.int z) := by
    obtain ⟨cfS, iS, kS, fS, st, cS, t1, t2, t3, t4, t5, t6, t7⟩ := S
    exact StaticIs.there (s := { Z with heap := P.U.heap }) ⟨cfS, iS, kS, fS, st, cS, t1, t2, t3, t4, t5, (fun q => by rw [q] at t6; cases t6), t7⟩ al rfl
  obtain ⟨v, B, X', ⟨⟨hv, E', V', q1, q2, q3, q4, q5, q6, q7, q8, q9, q10, q11⟩, hl, hc, hs⟩, st⟩ := New1.pays x D fV fC b A z (tab_of (moved hZ hw)) hfr hlo m meth c P g ig mk _ X hg hsize hdg hW hn ⟨r1, r2, rfl, hB, F1, F2, hA, hS, hz, l0, l2, hp⟩
  have al' : Z.vm.Alike B.U.vm := hZ.alike.trans X'.warmed.alike
  have hsz : E'.slots.size = D.slots.size := by
    obtain ⟨-, -, -, kB, w1, w2, w3⟩ := q1
    obtain ⟨kB', y1, y2⟩ := al'.2.2 _ _ e3
    rw [q2.2.1] at w1
    cases w1.symm.trans y1
    rw [w3, e5 i3, y2]
  refine ⟨v, B, X', ⟨_, ⟨hv, ?_, ⟨by omega, fun y cy hy hn' => q10 y cy (by simpa using hn') hy, fun y cy hy => ?_⟩, q11, ⟨E', _, q1.1, by rw [q2.2.1]; exact e2, by rw [q2.2.1]; exact e3, by rw [q2.1]; exact obV, fun _ => by rw [hsz]; exact e5 i3⟩,
    ⟨E', cfV, kV, iV, fV, q1.1, gV, stV, by rw [q2.1]; exact knV, by rw [q2.1]; exact obV, by rw [q2.2.1]; exact asV, q3⟩, ⟨E', cfC, kC, iC, fC, q1.1, gC, stC, by rw [q2.1]; exact knV, by rw [q2.1]; exact obV, by rw [q2.2.1]; exact asC, q4⟩,
    ⟨V', ⟨q5.1, State.isArrayOf_alike al'.symm q5.2.1, q5.2.2.1⟩, q6, by rw [← al'.findClass]; exact q7, q8, fun j hj => by have := q9 j hj; rwa [Nat.zero_add] at this⟩, fun O n d w F n1 n2 => ?_⟩, hl, hc, hs⟩, st⟩
  · intro y hy
    simp only [List.mem_cons, List.not_mem_nil, or_false] at hy
    rcases hy with rfl | rfl <;> rfl
  · by_cases q : y = x
    · subst q
      cases hD.symm.trans hy
      exact ⟨E', q1.1, q2.2.1, q2.1, hsz⟩
    · exact ⟨cy, q10 y cy q hy, rfl, rfl, rfl⟩
  · obtain ⟨D3, cf, k, i, f, g1, g2, g3, g4, g5, g6, g7⟩ := F
    cases hD.symm.trans g1
    simp only [RoadKit.slotOf, g2, gV, gC, Option.map_some, Option.getD_some] at n1 n2
    exact ⟨E', cf, k, i, f, q1.1, g2, g3, by rw [q2.1]; exact g4, by rw [q2.1]; exact g5, by rw [q2.2.1]; exact g6, by rw [q2.2.2 f.slot (by simp [n1, n2])]; exact g7⟩
end StrChars.Road
namespace StrChars.Road
open Jvm Sem ClassFile Op Lib Jvm.Stand Jvm.Free Jvm.Free.XT
/-- WHAT COMES BACK, the byte[] as a list of values -/
def QA (Z : State) (x : Addr) (zn : Int32) (cs : List Int32) (h : Heap) (v : Option Value) (h' : Heap) (L : List Loc) : Prop := v = none ∧ (∀ y ∈ L, y.base = x) ∧ RoadKit.Keep h h' [x] ∧ h'.size = h.size + 1 ∧ RoadKit.Exa Z h' x ST ∧ RoadKit.Fld Z h' x ST "value" "[B" (.ref h.size) ∧ RoadKit.Fld Z h' x ST "coder" "B" (.int 0) ∧
  (∃ kb, Z.vm.findClass "[B" = some kb ∧ RoadKit.Arv Z h' h.size kb .byte zn (cs.map fun c => .int (lo8 c)) (.int 0)) ∧
  ∀ (O n d : String) (w : Value), RoadKit.Fld Z h x O n d w → RoadKit.slotOf Z O n d ≠ RoadKit.slotOf Z ST "value" "[B" → RoadKit.slotOf Z O n d ≠ RoadKit.slotOf Z ST "coder" "B" → RoadKit.Fld Z h' x O n d w
/-- **new String(chars) AT A CALL, THE ARRAYS AS LISTS**: the char[] at b holds cs, not empty, no char above 255 -/
theorem backArv {p : Program} {l : Launch} {e : Env} {R : Room} {s : State} {args : Array Value} {below : List Frame} {len W : Nat} {Z : State} {a0 : Array Value} {h : Heap} (hZ : Z.Warmed39 s.vm) (hw : ∀ d ∈ words, d.before a0 Z = true) {kI : Nat} (wi : (Jvm.Cond.instantiable ST kI).before a0 Z = true)
    {x b : Addr} {k : ClassId} {zn z : Int32} {cs : List Int32} {dv v0 c0 : Value} (E : RoadKit.Exa Z h x ST) (V : RoadKit.Fld Z h x ST "value" "[B" v0) (C : RoadKit.Fld Z h x ST "coder" "B" c0) (K : RoadKit.Arv Z h b k .char zn (cs.map Value.int) dv) (S : RoadKit.Sta Z h ST "COMPACT_STRINGS" "Z" (.int z)) (hz : ¬ z = 0)
    (hlen : zn.toNatClampNeg = cs.length) (h0 : 0 < cs.length) (hbig : cs.length ≤ 536870912) (hall : ∀ c ∈ cs, ¬ 255 < c) (hfr : 4 ≤ R.frames) (hlo : W + 65 ≤ R.locals) :
    Back l R p e below s args New1.yN len W (fun P a => a = #[.ref x, .ref b] ∧ P.U.heap = h ∧ P.cells + 1 ≤ R.cells ∧ P.slots + cs.length ≤ R.slots)
      (fun P _ v B => ∃ L, QA Z x zn cs h v B.U.heap L ∧ B.locs = P.locs ++ L ∧ B.cells = P.cells + 1 ∧ B.slots = P.slots + cs.length) := by
  obtain ⟨A, K1, K2, K3, K4, K5, K6⟩ := K
  have e : A.slots.size = cs.length := K3.trans hlen
  have hat : ∀ (i : Nat) (hi : i < cs.length), A.slots[i]? = some (.int cs[i]) := fun i hi => by rw [K5 i (by omega)]; simp [List.getD_eq_getElem?_getD, hi]
  have hcv : ∀ (i : Nat) (hi : i < cs.length), cv A i = cs[i] := fun i hi => by unfold cv; rw [hat i hi]
  have hty : Typed .char A := fun i v hv => by
    have hi : i < A.slots.size := (Array.getElem?_eq_some_iff.mp hv).1
    have q := K5 i hi
    rw [hv] at q
    rw [Option.some.inj q]
    exact K6 i hi
  refine Back.mono (back hZ hw wi E V C K1 hty S hz (by omega) (by omega) (fun i hi => by rw [hcv i (by omega)]; exact hall _ (List.getElem_mem _)) hfr hlo) (fun P a hp => ⟨hp.1, hp.2.1, hp.2.2.1, by rw [e]; exact hp.2.2.2⟩) (fun P a v B hp hq => ?_)
  obtain ⟨L, ⟨q1, q2, q3, q4, q5, q6, q7, ⟨V', v1, v2, v3, v4, v5⟩, q9⟩, hl, hc, hs⟩ := hq
  refine ⟨L, ⟨q1, q2, q3, q4, q5, q6, q7, ⟨V'.cls, v3, V', v1, rfl, by rw [v4, e, hlen], K4, fun i hi => ?_, fun i hi => ?_⟩, q9⟩, hl, hc, by rw [hs, e]⟩
  · have hi' : i < cs.length := by omega
    rw [v5 i (by omega), hcv i hi']; simp [List.getD_eq_getElem?_getD, hi']
  · have hi' : i < cs.length := by omega
    simp only [List.getD_eq_getElem?_getD, List.getElem?_map, List.getElem?_eq_getElem hi', Option.map_some, Option.getD_some]
    exact fits_lo8 _
end StrChars.Road
namespace StrChars.Road
open Jvm Sem ClassFile Op Lib Jvm.Stand Jvm.Free Jvm.Free.XT
/-- WHAT COMES BACK, in the writer's own shape -/
def QV (Z : State) (x : Addr) (N : Int32) (bs : List Int32) (h : Heap) (n0 : Nat) (v : Option Value) (h' : Heap) (L : List Loc) : Prop := v = none ∧ RoadKit.Fr n0 L ∧ RoadKit.Keep h h' [x] ∧ RoadKit.Exa Z h' x ST ∧ RoadKit.Fld Z h' x ST "coder" "B" (.int 0) ∧
  ∃ (t : Addr) (kb : ClassId), n0 ≤ t ∧ h.size ≤ t ∧ ¬ t = x ∧ RoadKit.Fld Z h' x ST "value" "[B" (.ref t) ∧ RoadKit.Arv Z h' t kb .byte N (bs.map Value.int) (.int 0)
/-- **new String(chars) AT A CALL, FOR THE WRITER**: a char[] of n known ints, each 0 to 255 -/
theorem backV {p : Program} {l : Launch} {e : Env} {R : Room} {s : State} {args : Array Value} {below : List Frame} {len W : Nat} {Z : State} {a0 : Array Value} {h : Heap} (hZ : Z.Warmed39 s.vm) (hw : ∀ d ∈ words, d.before a0 Z = true) {kI : Nat} (wi : (Jvm.Cond.instantiable ST kI).before a0 Z = true)
    {x b : Addr} {kC : ClassId} {cs bs : List Int32} {d v0 c0 : Value} {z N : Int32} {n n0 : Nat} (hx0 : n0 ≤ x) (hh0 : n0 ≤ h.size) (E : RoadKit.Exa Z h x ST) (V : RoadKit.Fld Z h x ST "value" "[B" v0) (C : RoadKit.Fld Z h x ST "coder" "B" c0) (K : RoadKit.Arv Z h b kC .char N (cs.map Value.int) d) (S : RoadKit.Sta Z h ST "COMPACT_STRINGS" "Z" (.int z)) (hz : ¬ z = 0)
    (hn : cs.length = n) (hN : N = Int32.ofNat n) (l0 : 0 < n) (l2 : n ≤ 4000) (hp : ∀ c ∈ cs, ¬ c < 0 ∧ ¬ (255 : Int32) < c) (hb : bs = cs.map (fun c => c.toInt8.toInt32)) (hfr : 4 ≤ R.frames) (hlo : W + 65 ≤ R.locals) :
    Back l R p e below s args (⟨"java/lang/String", "<init>", "([C)V"⟩ : MethodName) len W (fun P a => a = #[.ref x, .ref b] ∧ P.U.heap = h ∧ P.cells + 1 ≤ R.cells ∧ P.slots + n ≤ R.slots)
      (fun P _ v B => ∃ L, QV Z x N bs h n0 v B.U.heap L ∧ B.locs = P.locs ++ L ∧ B.cells = P.cells + 1 ∧ B.slots = P.slots + n) := by
  subst hn hN hb
  refine Back.mono (backArv hZ hw wi E V C K S hz (n32 (by omega)) l0 (by omega) (fun c hc => (hp c hc).2) hfr hlo) (fun P a hp => hp) (fun P a v B hp hq => ?_)
  obtain ⟨L, ⟨q1, q2, q3, q4, q5, q6, q7, ⟨kb, v1, v2⟩, q9⟩, hl, hc, hs⟩ := hq
  exact ⟨L, ⟨q1, fun y hy => by rw [q2 y hy]; exact hx0, q3, q5, q7, h.size, kb, hh0, Nat.le_refl _, Nat.ne_of_gt E.lt, q6, by rw [List.map_map]; exact v2⟩, hl, hc, hs⟩
end StrChars.Road
namespace StrChars
open Jvm Sem ClassFile Op Lib Jvm.Stand Jvm.Free.XT Jvm.Free.ALB Jvm.Free.JM Jvm.Free
open Jvm.Lib.Cold (StaticIs)
def hi8 (x : Int32) : Int32 := lo8 (x >>> ((8 : Int32) &&& 31))
/-- what StringUTF16.getChar makes of two bytes -/
def pairCh (u v : Int32) : Int32 := (((u &&& 255) <<< ((0 : Int32) &&& 31)) ||| ((v &&& 255) <<< ((8 : Int32) &&& 31))).toUInt32.toUInt16.toUInt32.toInt32
theorem lo8_and (x : Int32) : (lo8 x &&& 255).toBitVec.toNat = x.toBitVec.toNat % 256 := by
  have h : (lo8 x).toBitVec = (x.toBitVec.signExtend 8).signExtend 32 := by rw [lo8, Int8.toBitVec_toInt32, Int32.toBitVec_toInt8]
  rw [Int32.toBitVec_and, BitVec.toNat_and, h]
  have e : ((x.toBitVec.signExtend 8).signExtend 32).toNat % 256 = x.toBitVec.toNat % 256 := by
    rw [BitVec.toNat_signExtend]
    have hlt := x.toBitVec.isLt
    simp only [BitVec.toNat_setWidth, BitVec.toNat_signExtend]
    split <;> split <;> omega
  rw [← e]
  exact Nat.and_two_pow_sub_one_eq_mod _ 8
theorem pair_says {c : Int32} (h0 : ¬ c < 0) (h1 : ¬ 65535 < c) : pairCh (lo8 c) (hi8 c) = c := by
  rw [Int32.lt_iff_toInt_lt] at h0 h1
  have e0 : (0 : Int32).toInt = 0 := rfl
  have e1 : (65535 : Int32).toInt = 65535 := rfl
  have hc : c.toInt = c.toBitVec.toNat := by
    have := c.toBitVec.isLt
    have e : c.toInt = c.toBitVec.toInt := rfl
    rw [e] at h0 h1
    rw [e]
    rw [BitVec.toInt_eq_toNat_cond] at h0 h1 ⊢
    split at h0 <;> split <;> omega
  have hn : c.toBitVec.toNat < 65536 := by omega
  have a1 := lo8_and c
  have a2 : (hi8 c &&& 255).toBitVec.toNat = c.toBitVec.toNat / 256 := by
    rw [hi8, lo8_and]
    have e : ((8 : Int32) &&& 31) = 8 := by decide
    rw [e, Int32.toBitVec_shiftRight]
    have e2 : ((8 : Int32).toBitVec.smod 32) = 8#32 := by decide
    rw [e2, BitVec.sshiftRight_eq', BitVec.toNat_sshiftRight_of_msb_false (by rw [BitVec.msb_eq_false_iff_two_mul_lt]; omega)]
    show c.toBitVec.toNat >>> 8 % 256 = _
    rw [Nat.shiftRight_eq_div_pow]
    omega
  unfold pairCh
  apply Int32.toBitVec_inj.mp
  apply BitVec.eq_of_toNat_eq
  have f0 : ((0 : Int32) &&& 31) = 0 := by decide
  have f8 : ((8 : Int32) &&& 31) = 8 := by decide
  rw [f0, f8]
  have g : (((lo8 c &&& 255) <<< (0 : Int32)) ||| ((hi8 c &&& 255) <<< (8 : Int32))).toBitVec.toNat = c.toBitVec.toNat := by
    rw [Int32.toBitVec_or, Int32.toBitVec_shiftLeft, Int32.toBitVec_shiftLeft]
    have s0 : ((0 : Int32).toBitVec.smod 32) = 0#32 := by decide
    have s8 : ((8 : Int32).toBitVec.smod 32) = 8#32 := by decide
    rw [s0, s8, BitVec.toNat_or]
    simp only [BitVec.shiftLeft_eq', BitVec.toNat_shiftLeft, a1, a2]
    show (c.toBitVec.toNat % 256) <<< 0 % 2 ^ 32 ||| (c.toBitVec.toNat / 256) <<< 8 % 2 ^ 32 = _
    rw [Nat.shiftLeft_zero, Nat.mod_eq_of_lt (show c.toBitVec.toNat % 256 < 2 ^ 32 by omega), Nat.mod_eq_of_lt (show (c.toBitVec.toNat / 256) <<< 8 < 2 ^ 32 by rw [Nat.shiftLeft_eq]; omega), Nat.or_comm, ← Nat.shiftLeft_add_eq_or_of_lt (by omega), Nat.shiftLeft_eq]
    omega
  show BitVec.toNat (((((lo8 c &&& 255) <<< (0 : Int32)) ||| ((hi8 c &&& 255) <<< (8 : Int32))).toBitVec.setWidth 16).setWidth 32) = _
  rw [BitVec.toNat_setWidth, BitVec.toNat_setWidth, g]
  omega
end StrChars
namespace StrChars
open Jvm Sem ClassFile Op Lib Jvm.Stand Jvm.Free.XT Jvm.Free.ALB Jvm.Free.JM Jvm.Free
open Jvm.Lib.Cold (StaticIs)
/-- the array's cell V codes the n chars f 0 .. f (n - 1) by the coder cd, as the JDK does: coder 1 just where some char is above 255 -/
def Cod (cd : Int32) (n : Nat) (f : Nat → Int32) (V : Cell) : Prop := (cd = 0 ∧ V.slots.size = n ∧ ∀ j, j < n → V.slots[j]? = some (.int (lo8 (f j))) ∧ ¬ 255 < f j) ∨ (cd = 1 ∧ V.slots.size = 2 * n ∧ (∀ j, j < n → V.slots[2 * j]? = some (.int (lo8 (f j))) ∧ V.slots[2 * j + 1]? = some (.int (hi8 (f j)))) ∧ ∃ j, j < n ∧ 255 < f j)
/-- **x is a String of the n chars f 0 .. f (n - 1)**, Latin-1 or UTF-16; its array at t has the cell V -/
def Txt (x t : Addr) (V : Cell) (cd : Int32) (n : Nat) (f : Nat → Int32) (U : State) : Prop := Exact "java/lang/String" x U ∧ Has x "java/lang/String" "value" "[B" (.ref t) U ∧ Has x "java/lang/String" "coder" "B" (.int cd) U ∧ XT.Arr .byte t V U ∧ Cod cd n f V ∧ ∀ j, j < n → ¬ f j < 0 ∧ ¬ 65535 < f j
theorem Txt.mv {x t : Addr} {V : Cell} {cd : Int32} {n : Nat} {f : Nat → Int32} {U U' : State} (h : Txt x t V cd n f U) (hal : U.vm.Alike U'.vm) (hh : U'.heap = U.heap) : Txt x t V cd n f U' := ⟨h.1.mv hal hh, h.2.1.mv hal hh, h.2.2.1.mv hal hh, h.2.2.2.1.mv hal hh, h.2.2.2.2⟩
end StrChars
namespace StrChars.Road
open Jvm Sem ClassFile Op Lib Jvm.Stand Jvm.Free Jvm.Free.XT
open Jvm.Lib.Cold (StaticIs)
theorem consq {a : Array Value} {s : State} {c : Jvm.Cond} {L : List Jvm.Cond} (h0 : c.before a s = true) (h : ∀ w ∈ L, w.before a s = true) : ∀ w ∈ c :: L, w.before a s = true := fun w hw => (List.mem_cons.mp hw).elim (fun e => e ▸ h0) (h w)
/-- the bytes of the chars cs, low before high -/
def wideBytes : List Int32 → List Value
  | [] => []
  | c :: cs => .int (lo8 c) :: .int (hi8 c) :: wideBytes cs
theorem wide_lo (d : Value) : ∀ (cs : List Int32) (j : Nat), j < cs.length → (wideBytes cs).getD (2 * j) d = .int (lo8 (cs.getD j 0))
  | [], j, h => absurd h (Nat.not_lt_zero j)
  | c :: cs, 0, _ => rfl
  | c :: cs, j + 1, h => by
    have q := wide_lo d cs j (by simpa using h)
    rw [show 2 * (j + 1) = 2 * j + 1 + 1 from by omega]
    simpa [wideBytes] using q
theorem wide_hi (d : Value) : ∀ (cs : List Int32) (j : Nat), j < cs.length → (wideBytes cs).getD (2 * j + 1) d = .int (hi8 (cs.getD j 0))
  | [], j, h => absurd h (Nat.not_lt_zero j)
  | c :: cs, 0, _ => rfl
  | c :: cs, j + 1, h => by
    have q := wide_hi d cs j (by simpa using h)
    rw [show 2 * (j + 1) + 1 = 2 * j + 1 + 1 + 1 from by omega]
    simpa [wideBytes] using q
theorem low_at (d : Value) (cs : List Int32) (j : Nat) (h : j < cs.length) : (cs.map fun c => Value.int (lo8 c)).getD j d = .int (lo8 (cs.getD j 0)) := by
  simp [List.getD_eq_getElem?_getD, h]
/-- an array of N2 bytes vs codes the chars cs by the coder cd -/
def CodA (cs : List Int32) (cd N2 : Int32) (vs : List Value) : Prop := (cd = 0 ∧ N2 = Int32.ofNat cs.length ∧ vs = (cs.map fun c => Value.int (lo8 c)) ∧ ∀ c ∈ cs, ¬ 255 < c) ∨ (cd = 1 ∧ N2 = Int32.ofNat (2 * cs.length) ∧ vs = wideBytes cs ∧ ∃ c ∈ cs, 255 < c)
theorem CodA.cod {cs : List Int32} {cd N2 : Int32} {vs : List Value} {V : Cell} (h : CodA cs cd N2 vs) (hn : 2 * cs.length < 2 ^ 31) (hs : V.slots.size = N2.toNatClampNeg) (hv : RoadKit.Has V vs (.int 0)) : Cod cd cs.length (fun j => cs.getD j 0) V := by
  rcases h with ⟨rfl, rfl, rfl, h⟩ | ⟨rfl, rfl, rfl, c, hc, hw⟩
  · rw [n32 (by omega)] at hs
    exact Or.inl ⟨rfl, hs, fun j hj => ⟨by rw [hv j (by omega), low_at _ _ _ hj], by
      have e : cs.getD j 0 = cs[j] := by simp [List.getD_eq_getElem?_getD, hj]
      show ¬ 255 < cs.getD j 0
      rw [e]; exact h _ (List.getElem_mem _)⟩⟩
  · rw [n32 (by omega)] at hs
    obtain ⟨j, hj, rfl⟩ := List.getElem_of_mem hc
    exact Or.inr ⟨rfl, hs, fun j hj => ⟨by rw [hv _ (by omega), wide_lo _ _ _ hj], by rw [hv _ (by omega), wide_hi _ _ _ hj]⟩, j, hj, by
      have e : cs.getD j 0 = cs[j] := by simp [List.getD_eq_getElem?_getD, hj]
      show 255 < cs.getD j 0
      rw [e]; exact hw⟩
/-- an object of exactly java/lang/String, its two fields found: as the laws ask it -/
theorem strObj {Z U : State} {a0 : Array Value} {kI : Nat} (wi : (Jvm.Cond.instantiable ST kI).before a0 Z = true) (al : Z.vm.Alike U.vm) {x : Addr} {v0 c0 : Value} (E : RoadKit.Exa Z U.heap x ST) (V : RoadKit.Fld Z U.heap x ST "value" "[B" v0) (C : RoadKit.Fld Z U.heap x ST "coder" "B" c0) :
    ∃ (D : Cell) (fV fC : Field), Blank ST x D U ∧ Found ST "value" "[B" fV U ∧ Found ST "coder" "B" fC U ∧ D.slots[fV.slot]? = some v0 ∧ D.slots[fC.slot]? = some c0 ∧ RoadKit.slotOf Z ST "value" "[B" = fV.slot ∧ RoadKit.slotOf Z ST "coder" "B" = fC.slot := by
  obtain ⟨D, cfV, kV, iV, fV, hD, gV, stV, knV, obV, asV, slV⟩ := V
  obtain ⟨D', cfC, kC, iC, fC, hD', gC, stC, -, -, asC, slC⟩ := C
  cases hD.symm.trans hD'
  obtain ⟨D2, kD, e1, e2, e3, e4, e5⟩ := E
  cases hD.symm.trans e1
  obtain ⟨c2, k2, i1, i2, i3, -⟩ := Cond.instantiable_spec wi
  cases e2.symm.trans i1
  cases e3.symm.trans i2
  obtain ⟨kU, u1, u2⟩ := al.2.2 _ _ e3
  exact ⟨D, fV, fC, ⟨hD, ⟨knV, fun q hq => by rw [hq] at obV; cases obV⟩, by rw [al.findClass]; exact e2, kU, u1, by rw [u2]; exact i3, by rw [u2]; exact e5 i3⟩, ⟨SBG.found_only al ⟨cfV, kV, iV, gV⟩, stV⟩, ⟨SBG.found_only al ⟨cfC, kC, iC, gC⟩, stC⟩, slV, slC, by simp [RoadKit.slotOf, gV], by simp [RoadKit.slotOf, gC]⟩
theorem sta_is {Z U : State} (al : Z.vm.Alike U.vm) {C n d : String} {v : Value} (S : RoadKit.Sta Z U.heap C n d v) : StaticIs U C n d v := by
  obtain ⟨cfS, iS, kS, fS, st, cS, t1, t2, t3, t4, t5, t6, t7⟩ := S
  exact StaticIs.there (s := { Z with heap := U.heap }) ⟨cfS, iS, kS, fS, st, cS, t1, t2, t3, t4, t5, (fun q => by rw [q] at t6; cases t6), t7⟩ al rfl
end StrChars.Road
namespace StrChars
open Jvm Sem ClassFile Op Lib Jvm.Stand Jvm.Free.XT Jvm.Free.ALB Jvm.Free.JM Jvm.Free
open Jvm.Lib.Cold (StaticIs)
/-- what place i of a byte[]'s cell holds -/
def yv (A : Cell) (i : Nat) : Int32 := match A.slots[i]? with | some (.int x) => x | _ => 0
theorem yv_get {a : Addr} {A : Cell} {U : State} (h : XT.Arr .byte a A U) (ht : Typed .byte A) {i : Nat} (hi : i < A.slots.size) : A.slots[i]? = some (.int (yv A i)) := by
  have e := Array.getElem?_eq_getElem hi
  have f := ht i _ e
  unfold yv; rw [e]
  generalize A.slots[i] = v at f
  cases v <;> simp [fits] at f ⊢
/-- the two arrays are equal, place for place -/
def EqC (A B : Cell) : Prop := A.slots.size = B.slots.size ∧ ∀ i, i < A.slots.size → yv A i = yv B i
/-- a boolean that says whether p -/
def Says01 (q : Prop) (r : Option Value) (s u : State) : Prop := ∃ v : Int32, r = some (.int v) ∧ u.heap = s.heap ∧ ((v = 1 ∧ q) ∨ (v = 0 ∧ ¬ q))
theorem Says01.mv {q : Prop} : ∀ r (U U' V V' : State), U'.heap = U.heap → V.vm.Alike V'.vm → V'.heap = V.heap → Says01 q r U V → Says01 q r U' V' :=
  fun r U U' V V' h1 _ h2 ⟨v, a, b, c⟩ => ⟨v, a, by rw [h1, h2]; exact b, c⟩
namespace LEq
def yN : MethodName := ⟨"java/lang/StringLatin1", "equals", "([B[B)Z"⟩
abbrev yB : ByteArray := jdk_43_method_13_code
theorem d0 : decode yB 0 = .ok (.aload_n 0, 1) := by decide +kernel
theorem d1 : decode yB 1 = .ok (.arraylength, 1) := by decide +kernel
theorem d2 : decode yB 2 = .ok (.aload_n 1, 1) := by decide +kernel
theorem d3 : decode yB 3 = .ok (.arraylength, 1) := by decide +kernel
theorem d4 : decode yB 4 = .ok (.if_icmp (.ne) 30, 3) := by decide +kernel
theorem d7 : decode yB 7 = .ok (.iconst 0, 1) := by decide +kernel
theorem d8 : decode yB 8 = .ok (.istore_n 2, 1) := by decide +kernel
theorem d9 : decode yB 9 = .ok (.iload_n 2, 1) := by decide +kernel
theorem d10 : decode yB 10 = .ok (.aload_n 0, 1) := by decide +kernel
theorem d11 : decode yB 11 = .ok (.arraylength, 1) := by decide +kernel
theorem d12 : decode yB 12 = .ok (.if_icmp (.ge) 20, 3) := by decide +kernel
theorem d15 : decode yB 15 = .ok (.aload_n 0, 1) := by decide +kernel
theorem d16 : decode yB 16 = .ok (.iload_n 2, 1) := by decide +kernel
theorem d17 : decode yB 17 = .ok (.baload, 1) := by decide +kernel
theorem d18 : decode yB 18 = .ok (.aload_n 1, 1) := by decide +kernel
theorem d19 : decode yB 19 = .ok (.iload_n 2, 1) := by decide +kernel
theorem d20 : decode yB 20 = .ok (.baload, 1) := by decide +kernel
theorem d21 : decode yB 21 = .ok (.if_icmp (.eq) 5, 3) := by decide +kernel
theorem d24 : decode yB 24 = .ok (.iconst 0, 1) := by decide +kernel
theorem d25 : decode yB 25 = .ok (.ireturn, 1) := by decide +kernel
theorem d26 : decode yB 26 = .ok (.iinc 2 1, 3) := by decide +kernel
theorem d29 : decode yB 29 = .ok (.goto (-20), 3) := by decide +kernel
theorem d32 : decode yB 32 = .ok (.iconst 1, 1) := by decide +kernel
theorem d33 : decode yB 33 = .ok (.ireturn, 1) := by decide +kernel
theorem d34 : decode yB 34 = .ok (.iconst 0, 1) := by decide +kernel
theorem d35 : decode yB 35 = .ok (.ireturn, 1) := by decide +kernel
def site : List Cond := []
def tab : Cond := tabOf yN yB 3 (some .boolean) site
def P (a : Addr) (A : Cell) (b : Addr) (B : Cell) (args : Array Value) (s : State) : Prop := args = #[.ref a, .ref b] ∧ XT.Arr .byte a A s ∧ Typed .byte A ∧ XT.Arr .byte b B s ∧ Typed .byte B
/-- whether two byte[] are equal, place for place -/
theorem law (l : Launch) (a : Addr) (A : Cell) (b : Addr) (B : Cell) : Law l yN 2 2 0 0 yB 3 (some .boolean) site (P a A b B) (Says01 (EqC A B)) [] 0 0 := by
  refine Law.of_walk (plainFor_of_name (by decide +kernel)) (by decide +kernel) (by decide +kernel) (by decide) (fun _ _ h => by rw [h.1]; rfl) (fun _ U U' hal hh h => ⟨h.1, h.2.1.mv hal hh, h.2.2.1, h.2.2.2.1.mv hal hh, h.2.2.2.2⟩) (fun r U U' V V' h1 hal h2 h => Says01.mv r U U' V V' h1 hal h2 h) ?_
  intro p e s m args below meth c s₁ X0 hexec hbytes hml hret hlk hnm hown hh0 W hP
  obtain ⟨rfl, hA, tA, hB, tB⟩ := hP
  have a31 := hA.2.2.2
  have b31 := hB.2.2.2
  have hA0 := hA.mv X0.warmed.alike hh0
  have hB0 := hB.mv X0.warmed.alike hh0
  have c1 : Steps p.tables e below (s₁.setTop (entryFrame m #[.ref a, .ref b] 3)) (s₁.setTop (mkF m 0 #[.val (.ref a), .val (.ref b), .unset] [])) := entry rfl
  have c2 : Steps p.tables e below (s₁.setTop (entryFrame m #[.ref a, .ref b] 3)) (s₁.setTop (mkF m 4 #[.val (.ref a), .val (.ref b), .unset] [.int (Int32.ofNat B.slots.size), .int (Int32.ofNat A.slots.size)])) := c1.trans (by
    refine XS.aloadN X0.here hexec rfl (hb hbytes d0) rfl rfl ?_
    refine X0.alen hexec hA0 rfl rfl (hb hbytes d1) ?_
    refine XS.aloadN X0.here hexec rfl (hb hbytes d2) rfl rfl ?_
    refine X0.alen hexec hB0 rfl rfl (hb hbytes d3) ?_
    exact Steps.refl _)
  by_cases hs : A.slots.size = B.slots.size
  · have c3 : Steps p.tables e below (s₁.setTop (entryFrame m #[.ref a, .ref b] 3)) (s₁.setTop (mkF m 9 #[.val (.ref a), .val (.ref b), .val (.int 0)] [])) := c2.trans (by
      refine XS.icmpNo X0.here hexec rfl (hb hbytes d4) rfl (ii_ne_f (by rw [hs])) ?_
      refine iconstV X0.here hexec rfl 0 (hb hbytes d7) (by decide) ?_
      refine XS.istoreN X0.here hexec rfl (hb hbytes d8) rfl rfl ?_
      exact Steps.refl _)
    have loop : ∀ (r i : Nat), i + r = A.slots.size → (∀ j, j < i → yv A j = yv B j) → Steps p.tables e below (s₁.setTop (entryFrame m #[.ref a, .ref b] 3)) (s₁.setTop (mkF m 9 #[.val (.ref a), .val (.ref b), .val (.int (Int32.ofNat i))] [])) → ∃ (pc : Nat) (Ls : Array Slot) (v : Int32), (pc = 25 ∨ pc = 33) ∧ ((v = 1 ∧ EqC A B) ∨ (v = 0 ∧ ¬ EqC A B)) ∧ Steps p.tables e below (s₁.setTop (entryFrame m #[.ref a, .ref b] 3)) (s₁.setTop (mkF m pc Ls [.int v])) := by
      intro r
      induction r with
      | zero =>
        intro i hi he cl
        exact ⟨33, _, 1, Or.inr rfl, Or.inl ⟨rfl, hs, fun j hj => he j (by omega)⟩, cl.trans (by
          refine XS.iloadN X0.here hexec rfl (hb hbytes d9) rfl ?_
          refine XS.aloadN X0.here hexec rfl (hb hbytes d10) rfl rfl ?_
          refine X0.alen hexec hA0 rfl rfl (hb hbytes d11) ?_
          refine XS.icmpYes X0.here hexec rfl (pc0 := 12) rfl (hb hbytes d12) rfl (ii_ge_t (nlt32 (by omega) (by omega))) (by decide) rfl ?_
          refine iconstV X0.here hexec rfl 1 (hb hbytes d32) (by decide) ?_
          exact Steps.refl _)⟩
      | succ r ih =>
        intro i hi he cl
        have c4 : Steps p.tables e below (s₁.setTop (entryFrame m #[.ref a, .ref b] 3)) (s₁.setTop (mkF m 21 #[.val (.ref a), .val (.ref b), .val (.int (Int32.ofNat i))] [.int (yv B i), .int (yv A i)])) := cl.trans (by
          refine XS.iloadN X0.here hexec rfl (hb hbytes d9) rfl ?_
          refine XS.aloadN X0.here hexec rfl (hb hbytes d10) rfl rfl ?_
          refine X0.alen hexec hA0 rfl rfl (hb hbytes d11) ?_
          refine XS.icmpNo X0.here hexec rfl (hb hbytes d12) rfl (ii_ge_f (lt32 (by omega) (by omega))) ?_
          refine XS.aloadN X0.here hexec rfl (hb hbytes d15) rfl rfl ?_
          refine XS.iloadN X0.here hexec rfl (hb hbytes d16) rfl ?_
          refine X0.aget hexec hA0 rfl (yv_get hA tA (i := i) (by omega)) rfl rfl (hb hbytes d17) ?_
          refine XS.aloadN X0.here hexec rfl (hb hbytes d18) rfl rfl ?_
          refine XS.iloadN X0.here hexec rfl (hb hbytes d19) rfl ?_
          refine X0.aget hexec hB0 rfl (yv_get hB tB (i := i) (by omega)) rfl rfl (hb hbytes d20) ?_
          exact Steps.refl _)
        by_cases hv : yv A i = yv B i
        · have c5 : Steps p.tables e below (s₁.setTop (entryFrame m #[.ref a, .ref b] 3)) (s₁.setTop (mkF m 9 #[.val (.ref a), .val (.ref b), .val (.int (Int32.ofNat i + 1))] [])) := c4.trans (by
            refine XS.icmpYes X0.here hexec rfl (pc0 := 21) rfl (hb hbytes d21) rfl (ii_eq_t hv) (by decide) rfl ?_
            refine iincV X0.here hexec rfl 1 (hb hbytes d26) (by decide) rfl rfl ?_
            refine XS.goto X0.here hexec rfl (pc0 := 29) rfl (hb hbytes d29) (by decide) rfl ?_
            exact Steps.refl _)
          rw [succ32] at c5
          exact ih (i + 1) (by omega) (fun j hj => by
            by_cases e : j = i
            · rw [e]; exact hv
            · exact he j (by omega)) c5
        · exact ⟨25, _, 0, Or.inl rfl, Or.inr ⟨rfl, fun q => hv (q.2 i (by omega))⟩, c4.trans (by
            refine XS.icmpNo X0.here hexec rfl (hb hbytes d21) rfl (ii_eq_f hv) ?_
            refine iconstV X0.here hexec rfl 0 (hb hbytes d24) (by decide) ?_
            exact Steps.refl _)⟩
    obtain ⟨pc, Ls, v, hpc, hv, cz⟩ := loop A.slots.size 0 (by omega) (fun j hj => absurd hj (Nat.not_lt_zero j)) c3
    have nv : narrow .boolean (.int v) = .int v := by rcases hv with ⟨rfl, -⟩ | ⟨rfl, -⟩ <;> rfl
    rcases hpc with rfl | rfl
    · exact ⟨s₁, some (.int v), _, _, _, X0, rfl, rfl, rfl, (fun h => by cases h), ⟨v, rfl, hh0, hv⟩, fun fs hl => cz.trans (X0.ireturnOut hexec hret nv (Or.inr (Or.inl rfl)) (hb hbytes d25) hl)⟩
    · exact ⟨s₁, some (.int v), _, _, _, X0, rfl, rfl, rfl, (fun h => by cases h), ⟨v, rfl, hh0, hv⟩, fun fs hl => cz.trans (X0.ireturnOut hexec hret nv (Or.inr (Or.inl rfl)) (hb hbytes d33) hl)⟩
  · have c3 : Steps p.tables e below (s₁.setTop (entryFrame m #[.ref a, .ref b] 3)) (s₁.setTop (mkF m 35 #[.val (.ref a), .val (.ref b), .unset] [.int 0])) := c2.trans (by
      refine XS.icmpYes X0.here hexec rfl (pc0 := 4) rfl (hb hbytes d4) rfl (ii_ne_t (ne32 a31 b31 hs)) (by decide) rfl ?_
      refine iconstV X0.here hexec rfl 0 (hb hbytes d34) (by decide) ?_
      exact Steps.refl _)
    exact ⟨s₁, some (.int 0), _, _, _, X0, rfl, rfl, rfl, (fun h => by cases h), ⟨0, rfl, hh0, Or.inr ⟨rfl, fun q => hs q.1⟩⟩, fun fs hl => c3.trans (X0.ireturnOut hexec hret rfl (Or.inr (Or.inl rfl)) (hb hbytes d35) hl)⟩
end LEq
theorem Cod.ty {cd : Int32} {n : Nat} {f : Nat → Int32} {V : Cell} (h : Cod cd n f V) : Typed .byte V := fun i v hv => by
  have hi : i < V.slots.size := (Array.getElem?_eq_some_iff.mp hv).1
  rcases h with ⟨-, k1, k2⟩ | ⟨-, k1, k2, -⟩
  · rw [(k2 i (by omega)).1] at hv; cases hv; exact fits_lo8 _
  · rcases Nat.mod_two_eq_zero_or_one i with e | e
    · obtain ⟨j, rfl⟩ : ∃ j, i = 2 * j := ⟨i / 2, by omega⟩
      rw [(k2 j (by omega)).1] at hv; cases hv; exact fits_lo8 _
    · obtain ⟨j, rfl⟩ : ∃ j, i = 2 * j + 1 := ⟨i / 2, by omega⟩
      rw [(k2 j (by omega)).2] at hv; cases hv; exact fits_lo8 _
/-- the same text -/
def SameT (n : Nat) (f : Nat → Int32) (k : Nat) (g : Nat → Int32) : Prop := n = k ∧ ∀ j, j < n → f j = g j
theorem lo8_inj {x y : Int32} (h0 : ¬ x < 0) (h1 : ¬ 255 < x) (k0 : ¬ y < 0) (k1 : ¬ 255 < y) (h : lo8 x = lo8 y) : x = y := by
  rw [← lo8_mask h0 h1, ← lo8_mask k0 k1, h]
/-- arrays coded by one coder are equal just where the texts are -/
theorem Cod.eqv {cd : Int32} {n k : Nat} {f g : Nat → Int32} {V V' : Cell} (h : Cod cd n f V) (h' : Cod cd k g V') (hf : ∀ j, j < n → ¬ f j < 0 ∧ ¬ 65535 < f j) (hg : ∀ j, j < k → ¬ g j < 0 ∧ ¬ 65535 < g j) : EqC V V' ↔ SameT n f k g := by
  have yvv : ∀ {W : Cell} {i : Nat} {x : Int32}, W.slots[i]? = some (.int x) → yv W i = x := fun q => by unfold yv; rw [q]
  rcases h with ⟨rfl, k1, k2⟩ | ⟨rfl, k1, k2, -⟩
  · rcases h' with ⟨-, m1, m2⟩ | ⟨e, -⟩
    · constructor
      · rintro ⟨e1, e2⟩
        refine ⟨by omega, fun j hj => ?_⟩
        have q := e2 j (by omega)
        rw [yvv (k2 j hj).1, yvv (m2 j (by omega)).1] at q
        exact lo8_inj (hf j hj).1 (k2 j hj).2 (hg j (by omega)).1 (m2 j (by omega)).2 q
      · rintro ⟨rfl, e2⟩
        refine ⟨by omega, fun j hj => ?_⟩
        rw [yvv (k2 j (by omega)).1, yvv (m2 j (by omega)).1, e2 j (by omega)]
    · exact absurd e (by decide)
  · rcases h' with ⟨e, -⟩ | ⟨-, m1, m2, -⟩
    · exact absurd e (by decide)
    · constructor
      · rintro ⟨e1, e2⟩
        refine ⟨by omega, fun j hj => ?_⟩
        have q1 := e2 (2 * j) (by omega)
        have q2 := e2 (2 * j + 1) (by omega)
        rw [yvv (k2 j hj).1, yvv (m2 j (by omega)).1] at q1
        rw [yvv (k2 j hj).2, yvv (m2 j (by omega)).2] at q2
        rw [← pair_says (hf j hj).1 (hf j hj).2, ← pair_says (hg j (by omega)).1 (hg j (by omega)).2, q1, q2]
      · rintro ⟨rfl, e2⟩
        refine ⟨by omega, fun i hi => ?_⟩
        rcases Nat.mod_two_eq_zero_or_one i with e | e
        · obtain ⟨j, rfl⟩ : ∃ j, i = 2 * j := ⟨i / 2, by omega⟩
          rw [yvv (k2 j (by omega)).1, yvv (m2 j (by omega)).1, e2 j (by omega)]
        · obtain ⟨j, rfl⟩ : ∃ j, i = 2 * j + 1 := ⟨i / 2, by omega⟩
          rw [yvv (k2 j (by omega)).2, yvv (m2 j (by omega)).2, e2 j (by omega)]
/-- two codings differ: so do the texts -/
theorem Cod.dif {cd cd' : Int32} {n k : Nat} {f g : Nat → Int32} {V V' : Cell} (h : Cod cd n f V) (h' : Cod cd' k g V') (hne : ¬ cd = cd') : ¬ SameT n f k g := by
  rintro ⟨rfl, e⟩
  rcases h with ⟨rfl, -, k2⟩ | ⟨rfl, -, -, j, hj, hw⟩
  · rcases h' with ⟨rfl, -⟩ | ⟨-, -, -, j, hj, hw⟩
    · exact hne rfl
    · exact (k2 j hj).2 (by rw [e j hj]; exact hw)
  · rcases h' with ⟨-, -, m2⟩ | ⟨rfl, -⟩
    · exact (m2 j hj).2 (by rw [← e j hj]; exact hw)
    · exact hne rfl
/-- an object of exactly C is an instance of C -/
theorem cinst {p : Program} {l : Launch} {e : Env} {R : Room} {s : State} {m : MethodId} {args : Array Value} {below : List Frame} {meth : Method} {c : Code} {T : State} {locs : List Loc} {cells slots : Nat} (X : Stand p l e R s m args below meth c T locs cells slots) (hexec : p.tables.exec = Jvm.exec) {own C : String} {index : Nat} (hown : s.vm.findClass own = some m.cls) (hlink : (Cond.classLink own index C).before args s = true) {a : Addr} (hE : Exact C a T)
    {g : JFrame} (hg : g.method = m) {rest : List Value} (hstack : g.stack = .ref a :: rest) (hdg : decode c.code g.pc = .ok (.instanceof index, 3)) :
    ∃ T', Stand p l e R s m args below meth c T' locs cells slots ∧ T'.heap = T.heap ∧ ∀ target, Steps p.tables e below (T'.setTop { g with pc := g.pc + 3, stack := .int 1 :: rest }) target → Steps p.tables e below (T.setTop g) target := by
  obtain ⟨cB, h1, D, h2, h3, h4⟩ := hE
  have h1' : s.vm.findClass C = some cB := by rw [← X.warmed.alike.findClass]; exact h1
  obtain ⟨vm', X', st⟩ := X.instanceofYes hexec hown hlink h2 h4 h1' (by rw [h3]; exact Jvm.Free.SB.assignable_self _ _) hg hstack hdg
  exact ⟨_, X', rfl, st⟩
theorem cself {p : Program} {l : Launch} {e : Env} {R : Room} {s : State} {m : MethodId} {args : Array Value} {below : List Frame} {meth : Method} {c : Code} {T : State} {locs : List Loc} {cells slots : Nat} (X : Stand p l e R s m args below meth c T locs cells slots) (hexec : p.tables.exec = Jvm.exec) {own C : String} {index : Nat} (hown : s.vm.findClass own = some m.cls) (hlink : (Cond.classLink own index C).before args s = true) {a : Addr} (hE : Exact C a T)
    {g : JFrame} (hg : g.method = m) {rest : List Value} (hstack : g.stack = .ref a :: rest) (hdg : decode c.code g.pc = .ok (.checkcast index, 3)) :
    ∃ T', Stand p l e R s m args below meth c T' locs cells slots ∧ T'.heap = T.heap ∧ ∀ target, Steps p.tables e below (T'.setTop { g with pc := g.pc + 3, stack := .ref a :: rest }) target → Steps p.tables e below (T.setTop g) target := by
  obtain ⟨cB, h1, D, h2, h3, h4⟩ := hE
  have h1' : s.vm.findClass C = some cB := by rw [← X.warmed.alike.findClass]; exact h1
  obtain ⟨vm', X', st⟩ := X.checkcastYes hexec hown hlink h2 h4 h1' (by rw [h3]; exact Jvm.Free.SB.assignable_self _ _) hg hstack hdg
  exact ⟨_, X', rfl, fun t h => st t (by rw [← hstack] at h; exact h)⟩
namespace SEq
def yN : MethodName := ⟨"java/lang/String", "equals", "(Ljava/lang/Object;)Z"⟩
abbrev yB : ByteArray := jdk_42_method_66_code
theorem d0 : decode yB 0 = .ok (.aload_n 0, 1) := by decide +kernel
theorem d1 : decode yB 1 = .ok (.aload_n 1, 1) := by decide +kernel
theorem d2 : decode yB 2 = .ok (.if_acmp (.ne) 5, 3) := by decide +kernel
theorem d5 : decode yB 5 = .ok (.iconst 1, 1) := by decide +kernel
theorem d6 : decode yB 6 = .ok (.ireturn, 1) := by decide +kernel
theorem d7 : decode yB 7 = .ok (.aload_n 1, 1) := by decide +kernel
theorem d8 : decode yB 8 = .ok (.instanceof 10, 3) := by decide +kernel
theorem d11 : decode yB 11 = .ok (.ifCond (.eq) 43, 3) := by decide +kernel
theorem d14 : decode yB 14 = .ok (.aload_n 1, 1) := by decide +kernel
theorem d15 : decode yB 15 = .ok (.checkcast 10, 3) := by decide +kernel
theorem d18 : decode yB 18 = .ok (.astore_n 2, 1) := by decide +kernel
theorem d19 : decode yB 19 = .ok (.getstatic 38, 3) := by decide +kernel
theorem d22 : decode yB 22 = .ok (.ifCond (.eq) 14, 3) := by decide +kernel
theorem d25 : decode yB 25 = .ok (.aload_n 0, 1) := by decide +kernel
theorem d26 : decode yB 26 = .ok (.getfield 15, 3) := by decide +kernel
theorem d29 : decode yB 29 = .ok (.aload_n 2, 1) := by decide +kernel
theorem d30 : decode yB 30 = .ok (.getfield 15, 3) := by decide +kernel
theorem d33 : decode yB 33 = .ok (.if_icmp (.ne) 21, 3) := by decide +kernel
theorem d36 : decode yB 36 = .ok (.aload_n 0, 1) := by decide +kernel
theorem d37 : decode yB 37 = .ok (.getfield 9, 3) := by decide +kernel
theorem d40 : decode yB 40 = .ok (.aload_n 2, 1) := by decide +kernel
theorem d41 : decode yB 41 = .ok (.getfield 9, 3) := by decide +kernel
theorem d44 : decode yB 44 = .ok (.invokestatic 541, 3) := by decide +kernel
theorem d47 : decode yB 47 = .ok (.ifCond (.eq) 7, 3) := by decide +kernel
theorem d50 : decode yB 50 = .ok (.iconst 1, 1) := by decide +kernel
theorem d51 : decode yB 51 = .ok (.goto 4, 3) := by decide +kernel
theorem d54 : decode yB 54 = .ok (.iconst 0, 1) := by decide +kernel
theorem d55 : decode yB 55 = .ok (.ireturn, 1) := by decide +kernel
def site : List Cond := [.classLink "java/lang/String" 10 "java/lang/String", .fieldLink "java/lang/String" 38 "java/lang/String" "COMPACT_STRINGS" "Z", .fieldLink "java/lang/String" 15 "java/lang/String" "coder" "B", .fieldLink "java/lang/String" 9 "java/lang/String" "value" "[B", LEq.tab] ++ staticW "java/lang/String" 541 LEq.yN
def tab : Cond := tabOf yN yB 3 (some .boolean) site
def P (x t : Addr) (V : Cell) (cd : Int32) (n : Nat) (f : Nat → Int32) (y t' : Addr) (V' : Cell) (cd' : Int32) (k : Nat) (g : Nat → Int32) (z : Int32) (args : Array Value) (s : State) : Prop := args = #[.ref x, .ref y] ∧ Txt x t V cd n f s ∧ Txt y t' V' cd' k g s ∧ StaticIs s "java/lang/String" "COMPACT_STRINGS" "Z" (.int z) ∧ ¬ z = 0
/-- equals(Object) of two Strings: whether the texts are the same -/
theorem law (l : Launch) (x t : Addr) (V : Cell) (cd : Int32) (n : Nat) (f : Nat → Int32) (y t' : Addr) (V' : Cell) (cd' : Int32) (k : Nat) (g : Nat → Int32) (z : Int32) : Law l yN 2 1 1 14 yB 3 (some .boolean) site (P x t V cd n f y t' V' cd' k g z) (Says01 (SameT n f k g)) [] 0 0 := by
  refine Law.of_walk (plainFor_of_name (by decide +kernel)) (by decide +kernel) (by decide +kernel) (by decide) (fun _ _ h => by rw [h.1]; rfl) (fun _ U U' hal hh h => ⟨h.1, h.2.1.mv hal hh, h.2.2.1.mv hal hh, h.2.2.2.1.there hal hh, h.2.2.2.2⟩) (fun r U U' V V' h1 hal h2 h => Says01.mv r U U' V V' h1 hal h2 h) ?_
  intro p e s m args below meth c s₁ X0 hexec hbytes hml hret hlk hnm hown hh0 W hP
  obtain ⟨rfl, hx, hy, s1, hz⟩ := hP
  have c1 : Steps p.tables e below (s₁.setTop (entryFrame m #[.ref x, .ref y] 3)) (s₁.setTop (mkF m 2 #[.val (.ref x), .val (.ref y), .unset] [.ref y, .ref x])) := Steps.trans (entry rfl) (by
    show Steps p.tables e below (s₁.setTop (mkF m 0 #[.val (.ref x), .val (.ref y), .unset] [])) _
    refine XS.aloadN X0.here hexec rfl (hb hbytes d0) rfl rfl ?_
    refine XS.aloadN X0.here hexec rfl (hb hbytes d1) rfl rfl ?_
    exact Steps.refl _)
  by_cases hxy : x = y
  · have c2 : Steps p.tables e below (s₁.setTop (entryFrame m #[.ref x, .ref y] 3)) (s₁.setTop (mkF m 6 #[.val (.ref x), .val (.ref y), .unset] [.int 1])) := c1.trans (by
      refine acmpNo X0.here hexec rfl (hb hbytes d2) rfl rfl rfl (by simp [acmp, hxy]) ?_
      refine iconstV X0.here hexec rfl 1 (hb hbytes d5) (by decide) ?_
      exact Steps.refl _)
    subst hxy
    have ec : cd = cd' := by
      obtain ⟨D, fd, a1, a2, a3⟩ := hx.2.2.1
      obtain ⟨D', fd', b1, b2, b3⟩ := hy.2.2.1
      cases a1.symm.trans b1
      obtain ⟨q1, q2, q3, q4⟩ := a2.1
      obtain ⟨r1, r2, r3, r4⟩ := b2.1
      cases q4.symm.trans r4
      cases a3.symm.trans b3; rfl
    have et : t = t' := by
      obtain ⟨D, fd, a1, a2, a3⟩ := hx.2.1
      obtain ⟨D', fd', b1, b2, b3⟩ := hy.2.1
      cases a1.symm.trans b1
      obtain ⟨q1, q2, q3, q4⟩ := a2.1
      obtain ⟨r1, r2, r3, r4⟩ := b2.1
      cases q4.symm.trans r4
      cases a3.symm.trans b3; rfl
    subst ec et
    have ev : V = V' := by cases hx.2.2.2.1.1.symm.trans hy.2.2.2.1.1; rfl
    subst ev
    have hs : SameT n f k g := (Cod.eqv hx.2.2.2.2.1 hy.2.2.2.2.1 hx.2.2.2.2.2 hy.2.2.2.2.2).mp ⟨rfl, fun _ _ => rfl⟩
    exact ⟨s₁, some (.int 1), _, _, _, X0, rfl, rfl, rfl, (fun h => by cases h), ⟨1, rfl, hh0, Or.inl ⟨rfl, hs⟩⟩, fun fs hl => c2.trans (X0.ireturnOut hexec hret rfl (Or.inr (Or.inl rfl)) (hb hbytes d6) hl)⟩
  · have c2 : Steps p.tables e below (s₁.setTop (entryFrame m #[.ref x, .ref y] 3)) (s₁.setTop (mkF m 8 #[.val (.ref x), .val (.ref y), .unset] [.ref y])) := c1.trans (by
      refine acmpYes X0.here hexec rfl (pc0 := 2) rfl (hb hbytes d2) rfl rfl rfl (by simp [acmp, hxy]) (by decide) rfl ?_
      refine XS.aloadN X0.here hexec rfl (hb hbytes d7) rfl rfl ?_
      exact Steps.refl _)
    obtain ⟨T3, X3, q3, st3⟩ := cinst X0 hexec hown (wk W (.classLink "java/lang/String" 10 "java/lang/String")) (hy.mv X0.warmed.alike hh0).1 (g := (mkF m 8 #[.val (.ref x), .val (.ref y), .unset] [.ref y])) rfl (rest := []) rfl (hb hbytes d8)
    have hh3 := q3.trans hh0
    have c4 : Steps p.tables e below (s₁.setTop (entryFrame m #[.ref x, .ref y] 3)) (T3.setTop (mkF m 15 #[.val (.ref x), .val (.ref y), .unset] [.ref y])) := (c2.trans (st3 _ (Steps.refl _))).trans (by
      refine XS.ifNo X3.here hexec rfl (hb hbytes d11) rfl (i0_eq_f (by decide)) ?_
      refine XS.aloadN X3.here hexec rfl (hb hbytes d14) rfl rfl ?_
      exact Steps.refl _)
    obtain ⟨T5, X5, q5, st5⟩ := cself X3 hexec hown (wk W (.classLink "java/lang/String" 10 "java/lang/String")) (hy.mv X3.warmed.alike hh3).1 (g := (mkF m 15 #[.val (.ref x), .val (.ref y), .unset] [.ref y])) rfl (rest := []) rfl (hb hbytes d15)
    have hh5 := q5.trans hh3
    have c6 : Steps p.tables e below (s₁.setTop (entryFrame m #[.ref x, .ref y] 3)) (T5.setTop (mkF m 19 #[.val (.ref x), .val (.ref y), .val (.ref y)] [])) := (c4.trans (st5 _ (Steps.refl _))).trans (by
      refine XS.astoreN X5.here hexec rfl (hb hbytes d18) rfl rfl rfl ?_
      exact Steps.refl _)
    obtain ⟨T7, X7, q7, st7⟩ := X5.sget hexec hown (wk W (.fieldLink "java/lang/String" 38 "java/lang/String" "COMPACT_STRINGS" "Z")) s1 (fun _ _ h => by rw [hh5]; exact h) (g := (mkF m 19 #[.val (.ref x), .val (.ref y), .val (.ref y)] [])) rfl (hb hbytes d19)
    have hh7 := q7.trans hh5
    have c8 : Steps p.tables e below (s₁.setTop (entryFrame m #[.ref x, .ref y] 3)) (T7.setTop (mkF m 26 #[.val (.ref x), .val (.ref y), .val (.ref y)] [.ref x])) := (c6.trans (st7 _ (Steps.refl _))).trans (by
      refine XS.ifNo X7.here hexec rfl (hb hbytes d22) rfl (i0_eq_f hz) ?_
      refine XS.aloadN X7.here hexec rfl (hb hbytes d25) rfl rfl ?_
      exact Steps.refl _)
    obtain ⟨T9, X9, q9, st9⟩ := X7.hget hexec hown (wk W (.fieldLink "java/lang/String" 15 "java/lang/String" "coder" "B")) (hx.mv X7.warmed.alike hh7).2.2.1 (g := (mkF m 26 #[.val (.ref x), .val (.ref y), .val (.ref y)] [.ref x])) rfl (rest := []) rfl (hb hbytes d26)
    have hh9 := q9.trans hh7
    have c10 : Steps p.tables e below (s₁.setTop (entryFrame m #[.ref x, .ref y] 3)) (T9.setTop (mkF m 30 #[.val (.ref x), .val (.ref y), .val (.ref y)] [.ref y, .int cd])) := (c8.trans (st9 _ (Steps.refl _))).trans (by
      refine XS.aloadN X9.here hexec rfl (hb hbytes d29) rfl rfl ?_
      exact Steps.refl _)
    obtain ⟨T11, X11, q11, st11⟩ := X9.hget hexec hown (wk W (.fieldLink "java/lang/String" 15 "java/lang/String" "coder" "B")) (hy.mv X9.warmed.alike hh9).2.2.1 (g := (mkF m 30 #[.val (.ref x), .val (.ref y), .val (.ref y)] [.ref y, .int cd])) rfl (rest := [.int cd]) rfl (hb hbytes d30)
    have hh11 := q11.trans hh9
    have c12 : Steps p.tables e below (s₁.setTop (entryFrame m #[.ref x, .ref y] 3)) (T11.setTop (mkF m 33 #[.val (.ref x), .val (.ref y), .val (.ref y)] [.int cd', .int cd])) := c10.trans (st11 _ (Steps.refl _))
    by_cases hcd : cd = cd'
    · subst hcd
      have c13 : Steps p.tables e below (s₁.setTop (entryFrame m #[.ref x, .ref y] 3)) (T11.setTop (mkF m 37 #[.val (.ref x), .val (.ref y), .val (.ref y)] [.ref x])) := c12.trans (by
        refine XS.icmpNo X11.here hexec rfl (hb hbytes d33) rfl (ii_ne_f rfl) ?_
        refine XS.aloadN X11.here hexec rfl (hb hbytes d36) rfl rfl ?_
        exact Steps.refl _)
      obtain ⟨T14, X14, q14, st14⟩ := X11.hget hexec hown (wk W (.fieldLink "java/lang/String" 9 "java/lang/String" "value" "[B")) (hx.mv X11.warmed.alike hh11).2.1 (g := (mkF m 37 #[.val (.ref x), .val (.ref y), .val (.ref y)] [.ref x])) rfl (rest := []) rfl (hb hbytes d37)
      have hh14 := q14.trans hh11
      have c15 : Steps p.tables e below (s₁.setTop (entryFrame m #[.ref x, .ref y] 3)) (T14.setTop (mkF m 41 #[.val (.ref x), .val (.ref y), .val (.ref y)] [.ref y, .ref t])) := (c13.trans (st14 _ (Steps.refl _))).trans (by
        refine XS.aloadN X14.here hexec rfl (hb hbytes d40) rfl rfl ?_
        exact Steps.refl _)
      obtain ⟨T16, X16, q16, st16⟩ := X14.hget hexec hown (wk W (.fieldLink "java/lang/String" 9 "java/lang/String" "value" "[B")) (hy.mv X14.warmed.alike hh14).2.1 (g := (mkF m 41 #[.val (.ref x), .val (.ref y), .val (.ref y)] [.ref y, .ref t])) rfl (rest := [.ref t]) rfl (hb hbytes d41)
      have hh16 := q16.trans hh14
      have c17 : Steps p.tables e below (s₁.setTop (entryFrame m #[.ref x, .ref y] 3)) (T16.setTop (mkF m 44 #[.val (.ref x), .val (.ref y), .val (.ref y)] [.ref t', .ref t])) := c15.trans (st16 _ (Steps.refl _))
      obtain ⟨v18, T18, X18, E18, g18⟩ := X16.callS hexec (LEq.law l t V t' V') hown (wks W (staticW "java/lang/String" 541 LEq.yN)) (wk W LEq.tab) (W := 0) (Nat.le_of_ble_eq_true rfl) (Nat.le_of_ble_eq_true rfl) (Nat.le_refl _) (Nat.le_refl _) (g := (mkF m 44 #[.val (.ref x), .val (.ref y), .val (.ref y)] [.ref t', .ref t])) rfl (by rw [hml]; rfl) c17 (argsL := [.ref t, .ref t']) (rest := []) rfl rfl (by show 2 * 0 + 0 ≤ _; decide) (hb hbytes d44) (⟨rfl, hx.2.2.2.1.mv X16.warmed.alike hh16, hx.2.2.2.2.1.ty, hy.2.2.2.1.mv X16.warmed.alike hh16, hy.2.2.2.2.1.ty⟩)
      obtain ⟨v, rfl, q18, hv⟩ := E18
      have iff := Cod.eqv hx.2.2.2.2.1 hy.2.2.2.2.1 hx.2.2.2.2.2 hy.2.2.2.2.2
      rcases hv with ⟨rfl, he⟩ | ⟨rfl, he⟩
      · have c19 : Steps p.tables e below (s₁.setTop (entryFrame m #[.ref x, .ref y] 3)) (T18.setTop (mkF m 55 #[.val (.ref x), .val (.ref y), .val (.ref y)] [.int 1])) := Steps.trans g18 (by
          refine XS.ifNo X18.here hexec rfl (hb hbytes d47) rfl (i0_eq_f (by decide)) ?_
          refine iconstV X18.here hexec rfl 1 (hb hbytes d50) (by decide) ?_
          refine XS.goto X18.here hexec rfl (pc0 := 51) rfl (hb hbytes d51) (by decide) rfl ?_
          exact Steps.refl _)
        exact ⟨T18, some (.int 1), _, _, _, X18, rfl, rfl, rfl, (fun h => by cases h), ⟨1, rfl, q18.trans hh16, Or.inl ⟨rfl, iff.mp he⟩⟩, fun fs hl => c19.trans (X18.ireturnOut hexec hret rfl (Or.inr (Or.inl rfl)) (hb hbytes d55) hl)⟩
      · have c19 : Steps p.tables e below (s₁.setTop (entryFrame m #[.ref x, .ref y] 3)) (T18.setTop (mkF m 55 #[.val (.ref x), .val (.ref y), .val (.ref y)] [.int 0])) := Steps.trans g18 (by
          refine XS.ifYes X18.here hexec rfl (pc0 := 47) rfl (hb hbytes d47) rfl (i0_eq_t rfl) (by decide) rfl ?_
          refine iconstV X18.here hexec rfl 0 (hb hbytes d54) (by decide) ?_
          exact Steps.refl _)
        exact ⟨T18, some (.int 0), _, _, _, X18, rfl, rfl, rfl, (fun h => by cases h), ⟨0, rfl, q18.trans hh16, Or.inr ⟨rfl, fun q => he (iff.mpr q)⟩⟩, fun fs hl => c19.trans (X18.ireturnOut hexec hret rfl (Or.inr (Or.inl rfl)) (hb hbytes d55) hl)⟩
    · have c13 : Steps p.tables e below (s₁.setTop (entryFrame m #[.ref x, .ref y] 3)) (T11.setTop (mkF m 55 #[.val (.ref x), .val (.ref y), .val (.ref y)] [.int 0])) := c12.trans (by
        refine XS.icmpYes X11.here hexec rfl (pc0 := 33) rfl (hb hbytes d33) rfl (ii_ne_t hcd) (by decide) rfl ?_
        refine iconstV X11.here hexec rfl 0 (hb hbytes d54) (by decide) ?_
        exact Steps.refl _)
      exact ⟨T11, some (.int 0), _, _, _, X11, rfl, rfl, rfl, (fun h => by cases h), ⟨0, rfl, hh11, Or.inr ⟨rfl, Cod.dif hx.2.2.2.2.1 hy.2.2.2.2.1 hcd⟩⟩, fun fs hl => c13.trans (X11.ireturnOut hexec hret rfl (Or.inr (Or.inl rfl)) (hb hbytes d55) hl)⟩
theorem pays {l : Launch} {R : Room} {p : Program} {e : Env} {below : List Frame} {s : State} {sargs : Array Value} {len W : Nat} (x t : Addr) (V : Cell) (cd : Int32) (n : Nat) (f : Nat → Int32) (y t' : Addr) (V' : Cell) (cd' : Int32) (k : Nat) (g : Nat → Int32) (z : Int32) (htab : tab.before sargs s = true) (hfr : 2 ≤ R.frames) (hlo : W + 28 ≤ R.locals) :
    Back l R p e below s sargs yN len W (fun A₁ a₁ => A₁.cells + 0 ≤ R.cells ∧ A₁.slots + 0 ≤ R.slots ∧ P x t V cd n f y t' V' cd' k g z a₁ A₁.U) (fun A₁ _ v₁ B₁ => Says01 (SameT n f k g) v₁ A₁.U B₁.U ∧ B₁.locs = A₁.locs ++ [] ∧ B₁.cells = A₁.cells + 0 ∧ B₁.slots = A₁.slots + 0) :=
  (law l x t V cd n f y t' V' cd' k g z).pays htab hfr (by omega)
end SEq
end StrChars
namespace StrChars.Road
open Jvm Sem ClassFile Op Lib Jvm.Stand Jvm.Free Jvm.Free.XT
open Jvm.Lib.Cold (StaticIs)
/-- the words of String.equals(Object) -/
abbrev wordsEq : List Jvm.Cond := [.code SEq.yN SEq.yB 3 (some .boolean), .initialized ST, .classLink ST 10 ST, .fieldLink ST 38 ST "COMPACT_STRINGS" "Z", .fieldLink ST 15 ST "coder" "B", .fieldLink ST 9 ST "value" "[B", .methodLink ST 541 LEq.yN, .static LEq.yN, .code LEq.yN LEq.yB 3 (some .boolean), .initialized "java/lang/StringLatin1"]
theorem tabEq_of {a : Array Value} {s : State} (h : ∀ w ∈ wordsEq, w.before a s = true) : SEq.tab.before a s = true := by
  have hl : LEq.tab.before a s = true := unparts (wk h (.code LEq.yN LEq.yB 3 (some .boolean))) (wks h (.initialized LEq.yN.cls :: LEq.site))
  have q := consq hl h
  exact unparts (wk q (.code SEq.yN SEq.yB 3 (some .boolean))) (wks q (.initialized SEq.yN.cls :: SEq.site))
theorem movedEq {Z s : State} {a0 args : Array Value} (hZ : Z.Warmed39 s.vm) (hw : ∀ d ∈ wordsEq, d.before a0 Z = true) : ∀ d ∈ wordsEq, d.before args s = true := fun d hd => by
  have t : ∀ d ∈ wordsEq, (d.onTables && d.keepsFace) = true := by decide +kernel
  exact RoadKit.mv hZ (hw d hd) (t d hd)
/-- the road's facts of a String, as the laws ask it -/
theorem txt_of {Z U : State} {a0 : Array Value} {kI : Nat} (wi : (Jvm.Cond.instantiable ST kI).before a0 Z = true) (al : Z.vm.Alike U.vm) {x t : Addr} {kb : ClassId} {cs : List Int32} {cd N2 : Int32} {vs : List Value} (E : RoadKit.Exa Z U.heap x ST) (V : RoadKit.Fld Z U.heap x ST "value" "[B" (.ref t)) (C : RoadKit.Fld Z U.heap x ST "coder" "B" (.int cd)) (K : RoadKit.Arv Z U.heap t kb .byte N2 vs (.int 0)) (hc : CodA cs cd N2 vs) (hb : ∀ c ∈ cs, ¬ c < 0 ∧ ¬ (65535 : Int32) < c) (l2 : cs.length ≤ 4000) :
    ∃ A, Txt x t A cd cs.length (fun j => cs.getD j 0) U := by
  obtain ⟨A, K1, K2, K3, K4, K5, K6⟩ := K
  have hcod := hc.cod (by omega) K3 K5
  obtain ⟨D, fV, fC, hB, F1, F2, g1, g2, -, -⟩ := strObj wi al E V C
  exact ⟨A, ⟨_, hB.2.2.1, D, hB.1, rfl, by cases q : D.vm <;> first | rfl | exact absurd q (hB.2.1.2 _)⟩, Has.of hB F1 g1, Has.of hB F2 g2, ⟨K1.1, State.isArrayOf_alike al K1.2.1, K1.2.2, by rcases hcod with ⟨-, q, -⟩ | ⟨-, q, -⟩ <;> omega⟩, hcod, fun j hj => by
    have e : cs.getD j 0 = cs[j] := by simp [List.getD_eq_getElem?_getD, hj]
    show ¬ cs.getD j 0 < 0 ∧ ¬ 65535 < cs.getD j 0
    rw [e]; exact hb _ (List.getElem_mem _)⟩
theorem same_list (cs ds : List Int32) : SameT cs.length (fun j => cs.getD j 0) ds.length (fun j => ds.getD j 0) ↔ cs = ds := by
  constructor
  · rintro ⟨e, q⟩
    refine List.ext_getElem e fun j h1 h2 => ?_
    have := q j h1
    simpa [List.getD_eq_getElem?_getD, h1, h2] using this
  · rintro rfl
    exact ⟨rfl, fun _ _ => rfl⟩
/-- **equals(Object) OF TWO SUCH STRINGS**: 1 just where the chars are the same -/
theorem eqW {p : Program} {l : Launch} {e : Env} {R : Room} {s : State} {args : Array Value} {below : List Frame} {len W : Nat} {Z : State} {a0 : Array Value} {h : Heap} (hZ : Z.Warmed39 s.vm) (hw : ∀ d ∈ wordsEq, d.before a0 Z = true) {kI : Nat} (wi : (Jvm.Cond.instantiable ST kI).before a0 Z = true)
    {x t : Addr} {kb : ClassId} {cs : List Int32} {cd N2 : Int32} {vs : List Value} (E : RoadKit.Exa Z h x ST) (V : RoadKit.Fld Z h x ST "value" "[B" (.ref t)) (C : RoadKit.Fld Z h x ST "coder" "B" (.int cd)) (K : RoadKit.Arv Z h t kb .byte N2 vs (.int 0)) (hc : CodA cs cd N2 vs) (hb : ∀ c ∈ cs, ¬ c < 0 ∧ ¬ (65535 : Int32) < c) (l2 : cs.length ≤ 4000)
    {y t' : Addr} {kb' : ClassId} {ds : List Int32} {cd' N2' : Int32} {vs' : List Value} (E' : RoadKit.Exa Z h y ST) (V' : RoadKit.Fld Z h y ST "value" "[B" (.ref t')) (C' : RoadKit.Fld Z h y ST "coder" "B" (.int cd')) (K' : RoadKit.Arv Z h t' kb' .byte N2' vs' (.int 0)) (hc' : CodA ds cd' N2' vs') (hb' : ∀ c ∈ ds, ¬ c < 0 ∧ ¬ (65535 : Int32) < c) (l2' : ds.length ≤ 4000)
    {z : Int32} (S : RoadKit.Sta Z h ST "COMPACT_STRINGS" "Z" (.int z)) (hz : ¬ z = 0) (hfr : 2 ≤ R.frames) (hlo : W + 28 ≤ R.locals) :
    Back l R p e below s args (⟨"java/lang/String", "equals", "(Ljava/lang/Object;)Z"⟩ : MethodName) len W (fun P a => a = #[.ref x, .ref y] ∧ P.U.heap = h ∧ P.cells + 0 ≤ R.cells ∧ P.slots + 0 ≤ R.slots)
      (fun P _ v B => ∃ L, (((v = some (.int 1) ∧ cs = ds) ∨ (v = some (.int 0) ∧ ¬ cs = ds)) ∧ L = [] ∧ B.U.heap = h) ∧ B.locs = P.locs ++ L ∧ B.cells = P.cells + 0 ∧ B.slots = P.slots + 0) := by
  intro m meth c P g ig mk a X hg hsize hdg hW hn hp'
  obtain ⟨rfl, rfl, r1, r2⟩ := hp'
  have al : Z.vm.Alike P.U.vm := hZ.alike.trans X.warmed.alike
  obtain ⟨A, hx⟩ := txt_of wi al E V C K hc hb l2
  obtain ⟨A', hy⟩ := txt_of wi al E' V' C' K' hc' hb' l2'
  obtain ⟨v, B, X', ⟨⟨w, hv, hh, hq⟩, hl, hk, hs⟩, st⟩ := SEq.pays x t A cd cs.length (fun j => cs.getD j 0) y t' A' cd' ds.length (fun j => ds.getD j 0) z (tabEq_of (movedEq hZ hw)) hfr hlo m meth c P g ig mk _ X hg hsize hdg hW hn ⟨r1, r2, rfl, hx, hy, sta_is al S, hz⟩
  refine ⟨v, B, X', ⟨[], ⟨?_, rfl, hh⟩, hl, hk, hs⟩, st⟩
  rcases hq with ⟨rfl, q⟩ | ⟨rfl, q⟩
  · exact Or.inl ⟨hv, (same_list cs ds).mp q⟩
  · exact Or.inr ⟨hv, fun e => q ((same_list cs ds).mpr e)⟩
end StrChars.Road
end Jvm.Pilot.@@N@@
namespace Jvm.RoadKit
open Sem ClassFile Op Lib Jvm.Stand Jvm.Free Jvm.LawKit
section New
variable {p : Program} {l : Launch} {e : Env} {R : Room} {s : State} {m : MethodId} {args : Array Value} {below : List Frame} {meth : Method} {c : Code} {T : State} {locs : List Loc} {cells slots : Nat}
theorem retI (X : Stand p l e R s m args below meth c T locs cells slots) (hx : p.tables.exec = Jvm.exec) {pc : Nat} {Ls : Array Slot} {z : Int32} {rest : List Value} (hret : meth.sig.returnType = some .int) (hd : decode c.code pc = .ok (.ireturn, 1)) {fs : List Frame}
    (hl : ∀ (f : JFrame) (acts : List Action), f.method = m → f.locked = none → f.entered = [] → (doReturn e (T.setTop f) acts (some (.int z))).1 = T.setFrames fs) : Steps p.tables e below (T.setTop (mkF m pc Ls (.int z :: rest))) (T.setFrames fs) := by
  have hm' : T.vm.method? m = some meth := X.method'
  have hn : narrow .int (.int z) = .int z := rfl
  show Steps p.tables e below (T.setTop { method := m, pc := pc, locals := Ls, stack := _ :: rest, locked := none }) _
  jvm_step X.here [X.here.top, hx, hd, hm', hret, hn]
  first | (intro acts; rw [hl _ acts rfl rfl rfl]) | rw [hl _ _ rfl rfl rfl]
  exact Steps.refl _
end New
end Jvm.RoadKit
namespace Jvm.Pilot.@@N@@
open Jvm Jvm.ClassFile Sem Op Lib Jvm.Free Jvm.Stand Jvm.LawKit Jvm.RoadKit Bundle Jvm.Pilot.@@N@@.Jvm.D
abbrev vU : Slot := .unset
abbrev vS : Slot := .second
abbrev vI (x : Int32) : Slot := .val (.int x)
abbrev vJ (x : Int64) : Slot := .val (.long x)
abbrev vR (x : Addr) : Slot := .val (.ref x)
theorem own_wi {Z : State} {a0 : Array Value} {d : Jvm.Cond} (hw : ∀ d ∈ tables_1, d.before a0 Z = true) (i : Nat) (h : tables_1[i]? = some d) : d.before a0 Z = true := hw _ (List.mem_of_getElem? h)
theorem own_sa {Z : State} {a0 : Array Value} (hw : ∀ d ∈ tables_1, d.before a0 Z = true) : ∀ a ∈ Bundle.stringAtoms, a.before a0 Z = true := by
  intro d hd
  simp only [Bundle.stringAtoms, List.mem_cons, List.not_mem_nil, or_false] at hd
  rcases hd with rfl | rfl | rfl | rfl | rfl | rfl | rfl
  · exact (own_wi hw 10 rfl)
  · exact (own_wi hw 9 rfl)
  · exact (own_wi hw 26 rfl)
  · exact (own_wi hw 36 rfl)
  · exact (own_wi hw 34 rfl)
  · exact (own_wi hw 79 rfl)
  · exact (own_wi hw 80 rfl)
theorem own_StaKeep {Z : State} {h h' : Heap} {C n d : String} {v : Value} {ws : List Addr} (F : Sta Z h C n d v) (K : Keep h h' ws) (q : ∀ x ∈ ws, ∃ D, Exa Z h x D) : Sta Z h' C n d v := by
  obtain ⟨cf, i, k, f, st, cell, h1, h2, h3, h4, h5, h6, h7⟩ := F
  refine ⟨cf, i, k, f, st, cell, h1, h2, h3, h4, K.2.1 st cell h5 (fun hm => ?_), h6, h7⟩
  obtain ⟨D, c', k', e1, -, -, e4, -⟩ := q st hm
  cases h5.symm.trans e1
  rw [e4] at h6; cases h6
theorem own_sw {Z : State} {a0 : Array Value} (hw : ∀ d ∈ tables_1, d.before a0 Z = true) : ∀ d ∈ StrChars.Road.words, d.before a0 Z = true := fun d hd => hw d ((by decide +kernel : ∀ d ∈ StrChars.Road.words, d ∈ tables_1) d hd)
theorem own_selq {s : State} {args args' : Array Value} {C : String} {x y w : MethodName} (hsel : (Jvm.Cond.selects C x w).before args' s = true) (e : w.cls = y.cls) (hp : s.PrivateAt y) (hinst : (Jvm.Cond.instanceMethod y).before args s = true) (hy : y.cls ≠ "java/lang/invoke/MethodHandle" ∧ y.cls ≠ "java/lang/invoke/VarHandle") : (Jvm.Cond.selects y.cls y y).before args s = true := by
  obtain ⟨c2, r2, m2, q1, q2, q3, q4, kP, hkP, hkPi⟩ := Cond.selects_spec hsel
  have hc := findClass_of_methodNamed q3
  rw [e] at hc
  exact Stand.selects_self_of_private hc hkP hkPi hp hinst hy
theorem own_nface {s : State} {args : Array Value} {C : String} {x y w : MethodName} (hsel : (Jvm.Cond.selects C x w).before args s = true) (e : w.cls = y.cls) : NotFace s y := fun r0 h0 => by
  obtain ⟨c2, r2, m2, q1, q2, q3, q4, kP, hkP, hkPi⟩ := Cond.selects_spec hsel
  have hc := findClass_of_methodNamed q3
  have hd := findClass_of_methodNamed h0
  rw [e] at hc
  rw [Option.some.inj (hd.symm.trans hc)]
  exact ⟨kP, hkP, hkPi⟩
theorem own_same {s : State} {args : Array Value} {C : String} {x y w : MethodName} (hsel : (Jvm.Cond.selects C x w).before args s = true) (e : w.cls = y.cls) (hinst : (Jvm.Cond.instanceMethod y).before args s = true) (hy : y.cls ≠ "java/lang/invoke/MethodHandle" ∧ y.cls ≠ "java/lang/invoke/VarHandle") : (Jvm.Cond.sameMethod y.cls y.cls y.name y.desc).before args s = true := by
  obtain ⟨c2, r2, m2, q1, q2, q3, q4, kP, hkP, hkPi⟩ := Cond.selects_spec hsel
  have hc := findClass_of_methodNamed q3
  rw [e] at hc
  obtain ⟨mk, methM, hnamed, -⟩ := Cond.instanceMethod_spec hinst
  have hf := State.methodFound?_of_named hnamed hy
  simp [Cond.before, Cond.holds, Cond.value, hc, hf, hnamed, hkP, hkPi]
/-- a String of these chars, each 0 to 255 -/
def own_Str (Z : State) (h : Heap) (b : Addr) (cs : List Int32) : Prop := ∃ (t : Addr) (k : ClassId), Exa Z h b "java/lang/String" ∧ Fld Z h b "java/lang/String" "coder" "B" (.int (0 : Int32)) ∧ Fld Z h b "java/lang/String" "value" "[B" (.ref t) ∧ Arv Z h t k .byte (Int32.ofNat cs.length) (cs.map fun c => Value.int (StrChars.lo8 c)) (.int (0 : Int32)) ∧ (∀ c ∈ cs, ¬ c < 0 ∧ ¬ (255 : Int32) < c) ∧ cs.length ≤ 4000
section Str
variable {Z : State} {h h' : Heap} {b x t : Addr} {cs : List Int32} {sl : Nat} {v : Value} {C : String} {n : Nat} {a0 : Array Value} {ws : List Addr} {k : ClassId}
theorem own_Str.lt (F : own_Str Z h b cs) : b < h.size := by obtain ⟨t, k, e, -⟩ := F; exact e.lt
theorem own_Str.exa (F : own_Str Z h b cs) : Exa Z h b "java/lang/String" := by obtain ⟨t, k, e, -⟩ := F; exact e
theorem own_Str.ext (F : own_Str Z h b cs) (E : Ext h h') : own_Str Z h' b cs := by
  obtain ⟨t, k, e, c, v, a, r⟩ := F; exact ⟨t, k, e.ext E, c.ext E, v.ext E, a.ext E, r⟩
theorem own_Str.wr (F : own_Str Z h b cs) (W : Wr h h' x sl v) (E : Exa Z h x C) (hC : C ≠ "java/lang/String") (wi : (Jvm.Cond.instantiable C n).before a0 Z = true) : own_Str Z h' b cs := by
  obtain ⟨t, k, e, c, v, a, r⟩ := F
  have n1 : b ≠ x := Ne.symm (Exa.ne E e hC)
  have n2 : t ≠ x := Ne.symm (Exa.neArv E a wi)
  exact ⟨t, k, e.wr W, c.other W (Or.inl n1), v.other W (Or.inl n1), a.other W n2, r⟩
theorem own_Str.keep (F : own_Str Z h b cs) (K : Keep h h' ws) (q : ∀ x ∈ ws, ∃ C n, Exa Z h x C ∧ C ≠ "java/lang/String" ∧ (Jvm.Cond.instantiable C n).before a0 Z = true) : own_Str Z h' b cs := by
  obtain ⟨t, k, e, c, v, a, r⟩ := F
  have n1 : b ∉ ws := fun hm => by obtain ⟨C, n, E, hC, -⟩ := q b hm; exact Exa.ne E e hC rfl
  have n2 : t ∉ ws := fun hm => by obtain ⟨C, n, E, -, wi⟩ := q t hm; exact Exa.neArv E a wi rfl
  exact ⟨t, k, e.keep K, c.keep K n1, v.keep K n1, a.keep K n2, r⟩
theorem own_mkStr {N : Int32} {bs : List Value} (e : Exa Z h b "java/lang/String") (c : Fld Z h b "java/lang/String" "coder" "B" (.int (0 : Int32))) (v : Fld Z h b "java/lang/String" "value" "[B" (.ref t)) (a : Arv Z h t k .byte N bs (.int (0 : Int32))) (hN : N = Int32.ofNat cs.length) (hb : bs = cs.map fun c => Value.int (StrChars.lo8 c)) (hp : ∀ c ∈ cs, ¬ c < 0 ∧ ¬ (255 : Int32) < c) (hl : cs.length ≤ 4000) : own_Str Z h b cs := by
  subst hN hb; exact ⟨t, k, e, c, v, a, hp, hl⟩
end Str
def own_eq (cs ds : List Int32) : Int32 := if cs = ds then 1 else 0
theorem own_eqv {v : Option Value} {cs ds : List Int32} (h : (v = some (.int 1) ∧ cs = ds) ∨ (v = some (.int 0) ∧ ¬ cs = ds)) : v = some (.int (own_eq cs ds)) := by
  rcases h with ⟨rfl, h⟩ | ⟨rfl, h⟩ <;> simp [own_eq, h]
theorem own_up {cs : List Int32} (h : ∀ c ∈ cs, ¬ c < 0 ∧ ¬ (255 : Int32) < c) : ∀ c ∈ cs, ¬ c < 0 ∧ ¬ (65535 : Int32) < c := fun c hc => ⟨(h c hc).1, fun q => (h c hc).2 (by rw [Int32.lt_iff_toInt_lt] at q ⊢; have e1 : (65535 : Int32).toInt = 65535 := rfl; have e2 : (255 : Int32).toInt = 255 := rfl; omega)⟩
theorem own_we {Z : State} {a0 : Array Value} (hw : ∀ d ∈ tables_1, d.before a0 Z = true) : ∀ d ∈ StrChars.Road.wordsEq, d.before a0 Z = true := fun d hd => hw d ((by decide +kernel : ∀ d ∈ StrChars.Road.wordsEq, d ∈ tables_1) d hd)
theorem own_shl0 (x : Int32) : x <<< ((0 : Int32) &&& 31) = x := by
  have e : ((0 : Int32) &&& 31) = 0 := by decide
  rw [e]; simp
theorem own_shr0 (x : Int32) : x >>> ((0 : Int32) &&& 31) = x := by
  have e : ((0 : Int32) &&& 31) = 0 := by decide
  rw [e]; simp
theorem own_nat (x : Int32) : (x.toNatClampNeg : Int) = max x.toInt 0 := by simp only [Int32.toNatClampNeg]; omega
theorem own_z0 : (0 : Int32).toInt = 0 := rfl
section Cp
variable {p : Program} {l : Launch} {e : Env} {R : Room} {s : State} {m : MethodId} {args : Array Value} {below : List Frame} {meth : Method} {c : Code} {T : State} {locs : List Loc} {cells slots : Nat} {Z : State} {a0 : Array Value} {h : Heap}
theorem own_cp (X : Stand p l e R s m args below meth c T locs cells slots) (hx : p.tables.exec = Jvm.exec) (hZ : Z.Warmed39 s.vm) {own : String} {index : Nat} (hown : s.vm.findClass own = some m.cls)
    (w1 : (Jvm.Cond.methodLink own index Jvm.Stand.acN).before a0 Z = true) (w2 : (Jvm.Cond.native Jvm.Stand.acN).before a0 Z = true) (w3 : (Jvm.Cond.static Jvm.Stand.acN).before a0 Z = true) (w4 : (Jvm.Cond.initialized "java/lang/System").before a0 Z = true) (eT : T.heap = h)
    {ks kd : ClassId} {z z' sp dp nn : Int32} {vs vd us : List Value} {a b : Addr} (A : Arv Z h a ks .byte z vs (.int (0 : Int32))) (B : Arv Z h b kd .byte z' vd (.int (0 : Int32))) (h1 : sp = (0 : Int32)) (h2 : dp.toInt = vd.length) (h3 : 0 ≤ nn.toInt) (h4 : nn.toInt ≤ z.toInt) (h5 : vd.length + nn.toInt ≤ z'.toInt)
    (hus : ∀ i : Nat, us.getD i (.int (0 : Int32)) = if i < nn.toNatClampNeg then vs.getD i (.int (0 : Int32)) else .int (0 : Int32)) {n0 : Nat} (N : Fr n0 locs) (ge : n0 ≤ b)
    {g : JFrame} (hg : g.method = m) (hsize : g.locals.size = c.maxLocals) {rest : List Value} (hs : g.stack = .int nn :: .int dp :: .ref b :: .int sp :: .ref a :: rest) (hd : decode c.code g.pc = .ok (.invokestatic index, 3))
    (hf : 1 ≤ R.frames) {W : Nat} (hW : 2 * g.monitorRoom + (rest.map fun v => v.category).sum ≤ W) (hlo : W + 18 ≤ R.locals) :
    ∃ T' h' L, Stand p l e R s m args below meth c T' L cells slots ∧ T'.heap = h' ∧ Fr n0 L ∧ Keep h h' [b] ∧ Arv Z h' b kd .byte z' (vd ++ us) (.int (0 : Int32)) ∧
      ∀ target, Steps p.tables e below (T'.setTop { g with pc := g.pc + 3, stack := rest }) target → Steps p.tables e below (T.setTop g) target := by
  subst h1
  have nd := own_nat dp
  have nn' := own_nat nn
  have nz := own_nat z
  have nz' := own_nat z'
  have ed : dp.toNatClampNeg = vd.length := by omega
  have B' := B.pad (pad_rep vd (.int (0 : Int32)) nn.toNatClampNeg)
  obtain ⟨T', h', L, X', e', N', K', A', st⟩ := cpA X hx hZ hown w1 w2 w3 w4 eT A B' (Or.inl ⟨rfl, rfl⟩) (sp := (0 : Int32)) (dp := dp) (nn := nn) (by decide) (by rw [Int32.lt_iff_toInt_lt, own_z0]; omega) (by rw [Int32.lt_iff_toInt_lt, own_z0]; omega) (by show 0 + _ ≤ _; omega) (by omega) rfl (by rw [List.length_append, List.length_replicate]; omega) N ge hg hsize hs hd hf hW (by show W + 18 ≤ _; exact hlo)
  refine ⟨T', h', L, X', e', N', K', A'.pad fun i => ?_, st⟩
  rw [ed, List.take_left, List.drop_of_length_le (by rw [List.length_append, List.length_replicate]; omega), List.append_nil]
  by_cases q : i < vd.length
  · simp only [List.getD_eq_getElem?_getD, List.getElem?_append_left q]
  · simp only [List.getD_eq_getElem?_getD] at hus ⊢
    rw [List.getElem?_append_right (by omega), List.getElem?_append_right (by omega), hus (i - vd.length)]
    split
    · rename_i r
      have e0 : (0 : Int32).toNatClampNeg = 0 := rfl
      simp [r, e0]
    · rename_i r
      rw [List.getElem?_eq_none (by simp; omega)]; rfl
theorem own_putc (X : Stand p l e R s m args below meth c T locs cells slots) (hx : p.tables.exec = Jvm.exec) (hZ : Z.Warmed39 s.vm) (eT : T.heap = h) {k : ClassId} {z : Int32} {vs : List Value} {a : Addr} (A : Arv Z h a k .char z vs (.int (0 : Int32))) {j : Int32} {k0 : Nat} (hl : vs.length = k0) (hj : j.toNatClampNeg = k0) (hj0 : ¬ j < 0) (hlt : k0 < z.toNatClampNeg)
    {v v' : Int32} (hv : nar .char v = v') (hfit : fits .char (.int v') = true) {g : JFrame} (hg : g.method = m) {rest : List Value} (hs : g.stack = .int v :: .int j :: .ref a :: rest) (hd : decode c.code g.pc = .ok (.castore, 1)) {n0 : Nat} (N : Fr n0 locs) (ge : n0 ≤ a) :
    ∃ T' h' L, Stand p l e R s m args below meth c T' L cells slots ∧ T'.heap = h' ∧ Fr n0 L ∧ Wr h h' a j.toNatClampNeg (.int v') ∧ Arv Z h' a k .char z (vs ++ [.int v']) (.int (0 : Int32)) ∧
      ∀ target, Steps p.tables e below (T'.setTop { g with pc := g.pc + 1, stack := rest }) target → Steps p.tables e below (T.setTop g) target := by
  subst hv
  obtain ⟨cl, Ar, qq, S, NN, HH, GG⟩ := A
  have hin : ¬ (j < 0 ∨ cl.slots.size ≤ j.toNatClampNeg) := fun q => q.elim hj0 fun q => by omega
  obtain ⟨T', h', X', e', W, st⟩ := stC X hx hZ eT Ar (j := j) hin hg hs hd
  obtain ⟨c', A', r1, r2, r3, H, G⟩ := Arh.push (hs := []) (vs := vs) (dv := .int (0 : Int32)) Ar qq S NN HH GG hfit W hin
  have key : ∀ i : Nat, getH [(j, Value.int (nar .char v))] vs (Value.int (0 : Int32)) i = (vs ++ [Value.int (nar .char v)]).getD i (Value.int (0 : Int32)) := fun i => by
    have nj := own_nat j
    have jj : j.toInt = (j.toNatClampNeg : Int) := nat_of hj0
    simp only [getH, List.getD_eq_getElem?_getD]
    split
    · rename_i q
      have : i = vs.length := by omega
      subst this; simp
    · rename_i q
      by_cases r : i < vs.length
      · rw [List.getElem?_append_left r]
      · rw [List.getElem?_eq_none (by omega), List.getElem?_eq_none (by simp; omega)]
  exact ⟨T', h', _, X', e', Fr.snoc X' N ge, W, ⟨c', A', r1, r2, r3, fun i hi => by rw [← key]; exact H i hi, fun i hi => by rw [← key]; exact G i hi⟩, st⟩
end Cp
def own_b94 (x : Int32) : Prop := 0 ≤ x.toInt ∧ x.toInt ≤ 97
def own_b188 (x : Int32) : Prop := 0 ≤ x.toInt ∧ x.toInt ≤ 194
def own_fit (n : Int32) (vs : List Value) : Prop := (vs.length : Int) ≤ n.toInt
def own_len (n : Int32) (vs : List Value) : Prop := n.toInt = vs.length
theorem own_either {x y : Addr} {ws : List Addr} {m : Nat} (p : x = y ∨ m ≤ x) (q : y ∈ ws ∨ m ≤ y) : x ∈ ws ∨ m ≤ x := by
  rcases p with rfl | p
  · exact q
  · exact Or.inr p
theorem own_eitherG {x y : Addr} {n m : Nat} (p : x = y ∨ m ≤ x) (q : n ≤ y) (r : n ≤ m) : n ≤ x := by
  rcases p with rfl | p
  · exact q
  · exact Nat.le_trans r p
theorem own_eitherN {x y o : Addr} {m : Nat} (p : x = y ∨ m ≤ x) (q : o ≠ y) (r : o < m) : o ≠ x := by
  rcases p with rfl | p
  · exact q
  · exact Nat.ne_of_lt (Nat.lt_of_lt_of_le r p)
theorem d17_0 : decode jdk_42_method_152_code 0 = .ok (.getstatic 38, 3) := by decide +kernel
theorem d17_3 : decode jdk_42_method_152_code 3 = .ok (.ifCond .eq 10, 3) := by decide +kernel
theorem d17_6 : decode jdk_42_method_152_code 6 = .ok (.aload_n 0, 1) := by decide +kernel
theorem d17_7 : decode jdk_42_method_152_code 7 = .ok (.getfield 15, 3) := by decide +kernel
theorem d17_10 : decode jdk_42_method_152_code 10 = .ok (.goto 4, 3) := by decide +kernel
theorem d17_14 : decode jdk_42_method_152_code 14 = .ok (.ireturn, 1) := by decide +kernel
theorem pn_0 : plainName "java/lang/String" = true := by first | (simp [plainName, overriddenIn]; done) | decide +kernel
theorem ef_17 (m : MethodId) (a1 : Addr) : entryFrame m #[(.ref a1)] 1 = mkF m 0 #[vR a1] [] := by first | (simp [entryFrame, mkF, argsToLocals, Value.category]; done) | rfl
def Q17 (Z : State) (a1 : Addr) (st_COMPACT_STRINGS : Int32) (h0 : Heap) (n0 : Nat) (v : Option Value) (h : Heap) (L : List Loc) : Prop := v = some (.int (0 : Int32)) ∧ Fr n0 L ∧ h = h0
set_option maxRecDepth 65536 in
set_option maxHeartbeats 40000000 in
theorem rm17 (l : Launch) (Z : State) (a0 : Array Value) (hw : ∀ d ∈ tables_1, d.before a0 Z = true) (ws : List Jvm.Cond) (a1 : Addr) (st_COMPACT_STRINGS : Int32) (h0 : Heap) (n0 : Nat) (Z0 : n0 ≤ h0.size) (S_COMPACT_STRINGS : Sta Z h0 "java/lang/String" "COMPACT_STRINGS" "Z" (.int st_COMPACT_STRINGS)) (hc3 : ¬ (st_COMPACT_STRINGS = (0 : Int32))) (F_coder_a1 : Fld Z h0 a1 "java/lang/String" "coder" "B" (.int (0 : Int32))) :
    MetFree l (⟨"java/lang/String", "coder", "()B"⟩ : MethodName) (head1 (Jvm.Cond.code (⟨"java/lang/String", "coder", "()B"⟩ : MethodName) jdk_42_method_152_code 1 (some .byte) :: ws) ({ frames := 0, cells := 0, slots := 0, locals := 0 } : Room)) (fun a U => a = #[(.ref a1)] ∧ Z.Warmed39 U.vm ∧ U.heap = h0) (fun _ _ _ _ _ => True) (fun _ U o U' => ∃ v L, o = .returned v ∧ Q17 Z a1 st_COMPACT_STRINGS h0 n0 v U'.heap L ∧ FrameEnd U o U' L ({ frames := 0, cells := 0, slots := 0, locals := 0 } : Room).cells ({ frames := 0, cells := 0, slots := 0, locals := 0 } : Room).slots) := by
  refine MetFree.of_bodySF (plainFor_of_name pn_0) hisR ?_
  intro p e s m args below meth c s₁ Bd hml0 hP hK
  obtain ⟨rfl, hZ, hh⟩ := hP
  have hx := Bd.exec
  have hby := Bd.bytes
  have hml : c.maxLocals = 1 := hml0
  have hown : s.vm.findClass "java/lang/String" = some m.cls := findClass_of_methodNamed Bd.named
  have hnm := (name_of_methodNamed Bd.named Bd.method).1
  have X0 : Stand p l e ({ frames := 0, cells := 0, slots := 0, locals := 0 } : Room) s m #[(.ref a1)] below meth c s₁ [] 0 0 := Stand.of_body Bd
  have e0 : s₁.heap = h0 := by rw [← hh, Bd.state]; rfl
  have N0 := Fr.nil n0
  have pre0 : ∀ t, Steps p.tables e below (s₁.setTop (mkF m 0 #[vR a1] [])) t → Steps p.tables e below (s₁.setTop (entryFrame m #[(.ref a1)] 1)) t := fun t k => castTop (ef_17 m a1) k
  obtain ⟨T2, X2, e2, st2⟩ := getS2 X0 hx hZ hown (host := "") (Or.inl (own_wi hw 21 rfl)) Via.refl e0 S_COMPACT_STRINGS (g := (mkF m 0 #[vR a1] [])) rfl (hb hby d17_0)
  obtain ⟨T3, X3, e3, st3⟩ := getF X2 hx hZ hown (host := "") (Or.inl (own_wi hw 33 rfl)) Via.refl e2 F_coder_a1 (g := (mkF m 7 #[vR a1] [(.ref a1)])) rfl rfl (hb hby d17_7)
  obtain ⟨fs, hr, hrun, hended, hW, hsame⟩ := X3.leave (v := some (.int (0 : Int32))) (fun h => by rw [Bd.returns] at h; cases h)
  refine ⟨_, _, pre0 _ ?_, hrun, hended, _, _, rfl, ?_, ⟨_, rfl⟩, hW, hsame.mono (by decide) (by decide)⟩
  · show Steps p.tables e below (s₁.setTop (mkF m 0 #[vR a1] [])) _
    refine st2 _ ?_
    show Steps p.tables e below (T2.setTop (mkF m 3 #[vR a1] [(.int st_COMPACT_STRINGS)])) _
    refine XS.ifNo X2.here hx rfl (hb hby d17_3) rfl ((if0 _ _).trans (feq hc3).1) ?_
    refine XS.aloadN X2.here hx rfl (hb hby d17_6) rfl rfl ?_
    show Steps p.tables e below (T2.setTop (mkF m 7 #[vR a1] [(.ref a1)])) _
    refine st3 _ ?_
    show Steps p.tables e below (T3.setTop (mkF m 10 #[vR a1] [(.int (0 : Int32))])) _
    refine XS.goto X3.here hx rfl (pc0 := 10) (pc' := 14) rfl (hb hby d17_10) (by decide) (by decide) ?_
    show Steps p.tables e below (T3.setTop (mkF m 14 #[vR a1] [(.int (0 : Int32))])) _
    exact retN X3 hx (t := .byte) Bd.returns (by simp) (hb hby d17_14) hr
  · show Q17 Z a1 st_COMPACT_STRINGS h0 n0 _ T3.heap _
    rw [e3]
    exact ⟨rfl, N0, rfl⟩
theorem pd_0 : parseMethodDescriptor "()B" = some ⟨[], some .byte⟩ := by decide +kernel
theorem d16_0 : decode jdk_42_method_54_code 0 = .ok (.aload_n 0, 1) := by decide +kernel
theorem d16_1 : decode jdk_42_method_54_code 1 = .ok (.getfield 9, 3) := by decide +kernel
theorem d16_4 : decode jdk_42_method_54_code 4 = .ok (.arraylength, 1) := by decide +kernel
theorem d16_5 : decode jdk_42_method_54_code 5 = .ok (.aload_n 0, 1) := by decide +kernel
theorem d16_6 : decode jdk_42_method_54_code 6 = .ok (.invokevirtual 335, 3) := by decide +kernel
theorem d16_9 : decode jdk_42_method_54_code 9 = .ok (.ishr, 1) := by decide +kernel
theorem d16_10 : decode jdk_42_method_54_code 10 = .ok (.ireturn, 1) := by decide +kernel
theorem ef_16 (m : MethodId) (a1 : Addr) : entryFrame m #[(.ref a1)] 1 = mkF m 0 #[vR a1] [] := by first | (simp [entryFrame, mkF, argsToLocals, Value.category]; done) | rfl
def Q16 (Z : State) (a1 : Addr) (w_value_a1 : Addr) (k_w_value_a1 : ClassId) (n_w_value_a1 : Int32) (vs_w_value_a1 : List Value) (st_COMPACT_STRINGS : Int32) (h0 : Heap) (n0 : Nat) (v : Option Value) (h : Heap) (L : List Loc) : Prop := v = some (.int n_w_value_a1) ∧ Fr n0 L ∧ h = h0
set_option maxRecDepth 65536 in
set_option maxHeartbeats 40000000 in
theorem rm16 (l : Launch) (Z : State) (a0 : Array Value) (hw : ∀ d ∈ tables_1, d.before a0 Z = true) (ws : List Jvm.Cond) (a1 : Addr) (w_value_a1 : Addr) (k_w_value_a1 : ClassId) (n_w_value_a1 : Int32) (vs_w_value_a1 : List Value) (st_COMPACT_STRINGS : Int32) (h0 : Heap) (n0 : Nat) (Z0 : n0 ≤ h0.size) (E_a1 : Exa Z h0 a1 "java/lang/String") (F_value_a1 : Fld Z h0 a1 "java/lang/String" "value" "[B" (.ref w_value_a1)) (V_w_value_a1 : Arv Z h0 w_value_a1 k_w_value_a1 .byte n_w_value_a1 vs_w_value_a1 (.int (0 : Int32))) (S_COMPACT_STRINGS : Sta Z h0 "java/lang/String" "COMPACT_STRINGS" "Z" (.int st_COMPACT_STRINGS)) (F_coder_a1 : Fld Z h0 a1 "java/lang/String" "coder" "B" (.int (0 : Int32))) (hq6_5 : ¬ (st_COMPACT_STRINGS = (0 : Int32))) :
    MetFree l (⟨"java/lang/String", "length", "()I"⟩ : MethodName) (head1 (Jvm.Cond.code (⟨"java/lang/String", "length", "()I"⟩ : MethodName) jdk_42_method_54_code 1 (some .int) :: ws) ({ frames := 1, cells := 0, slots := 0, locals := 13 } : Room)) (fun a U => a = #[(.ref a1)] ∧ Z.Warmed39 U.vm ∧ U.heap = h0) (fun _ _ _ _ _ => True) (fun _ U o U' => ∃ v L, o = .returned v ∧ Q16 Z a1 w_value_a1 k_w_value_a1 n_w_value_a1 vs_w_value_a1 st_COMPACT_STRINGS h0 n0 v U'.heap L ∧ FrameEnd U o U' L ({ frames := 1, cells := 0, slots := 0, locals := 13 } : Room).cells ({ frames := 1, cells := 0, slots := 0, locals := 13 } : Room).slots) := by
  refine MetFree.of_bodySF (plainFor_of_name pn_0) hisR ?_
  intro p e s m args below meth c s₁ Bd hml0 hP hK
  obtain ⟨rfl, hZ, hh⟩ := hP
  have hx := Bd.exec
  have hby := Bd.bytes
  have hml : c.maxLocals = 1 := hml0
  have hown : s.vm.findClass "java/lang/String" = some m.cls := findClass_of_methodNamed Bd.named
  have hnm := (name_of_methodNamed Bd.named Bd.method).1
  have X0 : Stand p l e ({ frames := 1, cells := 0, slots := 0, locals := 13 } : Room) s m #[(.ref a1)] below meth c s₁ [] 0 0 := Stand.of_body Bd
  have e0 : s₁.heap = h0 := by rw [← hh, Bd.state]; rfl
  have N0 := Fr.nil n0
  have pre0 : ∀ t, Steps p.tables e below (s₁.setTop (mkF m 0 #[vR a1] [])) t → Steps p.tables e below (s₁.setTop (entryFrame m #[(.ref a1)] 1)) t := fun t k => castTop (ef_16 m a1) k
  obtain ⟨T2, X2, e2, st2⟩ := getF X0 hx hZ hown (host := "") (Or.inl (own_wi hw 35 rfl)) Via.refl e0 F_value_a1 (g := (mkF m 1 #[vR a1] [(.ref a1)])) rfl rfl (hb hby d16_1)
  obtain ⟨cl3, Ar3, qq3, S3, NN3, -, -⟩ := id V_w_value_a1
  obtain ⟨cq4, kq4, q4a, q4b, q4c⟩ := isOf hZ e2 E_a1
  obtain ⟨_, _, ⟨T4, L4, k4, n4⟩, -, X4, ⟨Lc4, hQ4, l4, y4, z4⟩, st4⟩ := X2.virtualBack hx (y := (⟨"java/lang/String", "coder", "()B"⟩ : MethodName)) (z := (⟨"java/lang/String", "coder", "()B"⟩ : MethodName)) hown (mvT hZ (own_wi hw 96 rfl)) (mvT hZ (own_wi hw 97 rfl)) (notFace_of_selects (args := #[]) (mvT hZ (own_wi hw 99 rfl))) (mvT hZ (own_wi hw 99 rfl)) (mvT hZ (own_wi hw 98 rfl)) (by decide) (backOf (W := 1) (rm17 l Z a0 hw [] a1 st_COMPACT_STRINGS h0 n0 Z0 S_COMPACT_STRINGS hq6_5 F_coder_a1) hZ (own_wi hw 100 rfl) (own_wi hw 10 rfl) (by decide) (by decide)) q4a q4c (g := (mkF m 6 #[vR a1] [(.ref a1), (.int n_w_value_a1)])) rfl (by rw [hml]; rfl) (Steps.refl _) (argsL := []) (rest := [(.int n_w_value_a1)]) (lenOf pd_0 rfl) rfl (by show 2 * 0 + _ ≤ _; exact Nat.le_of_eq rfl) (hb hby d16_6) (fun _ _ => ⟨rfl, e2, (by decide : 0 + 0 ≤ _), (by decide : 0 + 0 ≤ _)⟩)
  dsimp only [Pt.U, Pt.locs, Pt.cells, Pt.slots] at X4 l4 y4 z4 st4 hQ4
  subst l4 y4 z4
  obtain ⟨rfl, N4q, e4⟩ := hQ4
  have N4 := Fr.app N0 N4q
  obtain ⟨fs, hr, hrun, hended, hW, hsame⟩ := X4.leave (v := some (.int (n_w_value_a1 >>> ((0 : Int32) &&& 31)))) (fun h => by rw [Bd.returns] at h; cases h)
  refine ⟨_, _, pre0 _ ?_, hrun, hended, _, _, rfl, ?_, ⟨_, rfl⟩, hW, hsame.mono (by decide) (by decide)⟩
  · show Steps p.tables e below (s₁.setTop (mkF m 0 #[vR a1] [])) _
    refine XS.aloadN X0.here hx rfl (hb hby d16_0) rfl rfl ?_
    show Steps p.tables e below (s₁.setTop (mkF m 1 #[vR a1] [(.ref a1)])) _
    refine st2 _ ?_
    show Steps p.tables e below (T2.setTop (mkF m 4 #[vR a1] [(.ref w_value_a1)])) _
    refine X2.arraylength hx (by rw [e2]; exact Ar3.1) (State.isArrayOf_alike hZ.alike Ar3.2.1) (g := (mkF m 4 #[vR a1] [(.ref w_value_a1)])) rfl rfl (hb hby d16_4) _ ?_
    rw [len_of S3 NN3]
    show Steps p.tables e below (T2.setTop (mkF m 5 #[vR a1] [(.int n_w_value_a1)])) _
    refine XS.aloadN X2.here hx rfl (hb hby d16_5) rfl rfl ?_
    show Steps p.tables e below (T2.setTop (mkF m 6 #[vR a1] [(.ref a1), (.int n_w_value_a1)])) _
    refine st4.trans ?_
    show Steps p.tables e below (T4.setTop (mkF m 9 #[vR a1] [(.int (0 : Int32)), (.int n_w_value_a1)])) _
    refine XS.ishr X4.here hx rfl (hb hby d16_9) rfl ?_
    show Steps p.tables e below (T4.setTop (mkF m 10 #[vR a1] [(.int (n_w_value_a1 >>> ((0 : Int32) &&& 31)))])) _
    exact retI X4 hx Bd.returns (hb hby d16_10) hr
  · show Q16 Z a1 w_value_a1 k_w_value_a1 n_w_value_a1 vs_w_value_a1 st_COMPACT_STRINGS h0 n0 _ T4.heap _
    rw [e4]
    exact ⟨by rw [own_shr0], N4, rfl⟩
theorem d29_0 : decode jdk_29_method_65_code 0 = .ok (.iload_n 0, 1) := by decide +kernel
theorem d29_1 : decode jdk_29_method_65_code 1 = .ok (.iload_n 1, 1) := by decide +kernel
theorem d29_2 : decode jdk_29_method_65_code 2 = .ok (.if_icmp .lt 7, 3) := by decide +kernel
theorem d29_5 : decode jdk_29_method_65_code 5 = .ok (.iload_n 0, 1) := by decide +kernel
theorem d29_6 : decode jdk_29_method_65_code 6 = .ok (.goto 4, 3) := by decide +kernel
theorem d29_9 : decode jdk_29_method_65_code 9 = .ok (.iload_n 1, 1) := by decide +kernel
theorem d29_10 : decode jdk_29_method_65_code 10 = .ok (.ireturn, 1) := by decide +kernel
theorem ef_29 (m : MethodId) (p1 : Int32) (p2 : Int32) : entryFrame m #[(.int p1), (.int p2)] 2 = mkF m 0 #[vI p1, vI p2] [] := by first | (simp [entryFrame, mkF, argsToLocals, Value.category]; done) | rfl
def F29 (p1 : Int32) (p2 : Int32) : Int32 := (if p1 < p2 then p2 else p1)
def Q29 (Z : State) (p1 : Int32) (p2 : Int32) (h0 : Heap) (n0 : Nat) (v : Option Value) (h : Heap) (L : List Loc) : Prop := v = some (.int (F29 p1 p2)) ∧ Fr n0 L ∧ h = h0
set_option maxRecDepth 65536 in
set_option maxHeartbeats 40000000 in
theorem rm29 (l : Launch) (Z : State) (a0 : Array Value) (hw : ∀ d ∈ tables_1, d.before a0 Z = true) (ws : List Jvm.Cond) (p1 : Int32) (p2 : Int32) (h0 : Heap) (n0 : Nat) (Z0 : n0 ≤ h0.size) :
    MetFree l (⟨"java/lang/Math", "max", "(II)I"⟩ : MethodName) (head1 (Jvm.Cond.code (⟨"java/lang/Math", "max", "(II)I"⟩ : MethodName) jdk_29_method_65_code 2 (some .int) :: ws) ({ frames := 0, cells := 0, slots := 0, locals := 0 } : Room)) (fun a U => a = #[(.int p1), (.int p2)] ∧ Z.Warmed39 U.vm ∧ U.heap = h0) (fun _ _ _ _ _ => True) (fun _ U o U' => ∃ v L, o = .returned v ∧ Q29 Z p1 p2 h0 n0 v U'.heap L ∧ FrameEnd U o U' L ({ frames := 0, cells := 0, slots := 0, locals := 0 } : Room).cells ({ frames := 0, cells := 0, slots := 0, locals := 0 } : Room).slots) := by
  refine MetFree.of_bodySF (Jvm.Free.JP.mathPlain rfl (by decide +kernel)) hisR ?_
  intro p e s m args below meth c s₁ Bd hml0 hP hK
  obtain ⟨rfl, hZ, hh⟩ := hP
  have hx := Bd.exec
  have hby := Bd.bytes
  have hml : c.maxLocals = 2 := hml0
  have hown : s.vm.findClass "java/lang/Math" = some m.cls := findClass_of_methodNamed Bd.named
  have hnm := (name_of_methodNamed Bd.named Bd.method).1
  have X0 : Stand p l e ({ frames := 0, cells := 0, slots := 0, locals := 0 } : Room) s m #[(.int p1), (.int p2)] below meth c s₁ [] 0 0 := Stand.of_body Bd
  have e0 : s₁.heap = h0 := by rw [← hh, Bd.state]; rfl
  have N0 := Fr.nil n0
  have pre0 : ∀ t, Steps p.tables e below (s₁.setTop (mkF m 0 #[vI p1, vI p2] [])) t → Steps p.tables e below (s₁.setTop (entryFrame m #[(.int p1), (.int p2)] 2)) t := fun t k => castTop (ef_29 m p1 p2) k
  have pre4 : ∀ t, Steps p.tables e below (s₁.setTop (mkF m 2 #[vI p1, vI p2] [(.int p2), (.int p1)])) t → Steps p.tables e below (s₁.setTop (entryFrame m #[(.int p1), (.int p2)] 2)) t := fun t kt => pre0 t (by
    show Steps p.tables e below (s₁.setTop (mkF m 0 #[vI p1, vI p2] [])) _
    refine XS.iloadN X0.here hx rfl (hb hby d29_0) rfl ?_
    refine XS.iloadN X0.here hx rfl (hb hby d29_1) rfl ?_
    show Steps p.tables e below (s₁.setTop (mkF m 2 #[vI p1, vI p2] [(.int p2), (.int p1)])) _
    exact kt)
  by_cases hc2_3 : p1 < p2
  · obtain ⟨fs, hr, hrun, hended, hW, hsame⟩ := X0.leave (v := some (.int p2)) (fun h => by rw [Bd.returns] at h; cases h)
    refine ⟨_, _, pre4 _ ?_, hrun, hended, _, _, rfl, ?_, ⟨_, rfl⟩, hW, hsame.mono (by decide) (by decide)⟩
    · show Steps p.tables e below (s₁.setTop (mkF m 2 #[vI p1, vI p2] [(.int p2), (.int p1)])) _
      refine XS.icmpYes X0.here hx rfl (pc0 := 2) (pc' := 9) rfl (hb hby d29_2) rfl (tlt hc2_3).1 (by decide) (by decide) ?_
      refine XS.iloadN X0.here hx rfl (hb hby d29_9) rfl ?_
      show Steps p.tables e below (s₁.setTop (mkF m 10 #[vI p1, vI p2] [(.int p2)])) _
      exact retI X0 hx Bd.returns (hb hby d29_10) hr
    · show Q29 Z p1 p2 h0 n0 _ s₁.heap _
      rw [e0]
      have qr : F29 p1 p2 = p2 := by unfold F29; rw [if_pos hc2_3]
      exact ⟨(by rw [qr]), N0, rfl⟩
  · obtain ⟨fs, hr, hrun, hended, hW, hsame⟩ := X0.leave (v := some (.int p1)) (fun h => by rw [Bd.returns] at h; cases h)
    refine ⟨_, _, pre4 _ ?_, hrun, hended, _, _, rfl, ?_, ⟨_, rfl⟩, hW, hsame.mono (by decide) (by decide)⟩
    · show Steps p.tables e below (s₁.setTop (mkF m 2 #[vI p1, vI p2] [(.int p2), (.int p1)])) _
      refine XS.icmpNo X0.here hx rfl (hb hby d29_2) rfl (flt hc2_3).1 ?_
      refine XS.iloadN X0.here hx rfl (hb hby d29_5) rfl ?_
      refine XS.goto X0.here hx rfl (pc0 := 6) (pc' := 10) rfl (hb hby d29_6) (by decide) (by decide) ?_
      show Steps p.tables e below (s₁.setTop (mkF m 10 #[vI p1, vI p2] [(.int p1)])) _
      exact retI X0 hx Bd.returns (hb hby d29_10) hr
    · show Q29 Z p1 p2 h0 n0 _ s₁.heap _
      rw [e0]
      have qr : F29 p1 p2 = p1 := by unfold F29; rw [if_neg hc2_3]
      exact ⟨(by rw [qr]), N0, rfl⟩
theorem d31_0 : decode jdk_29_method_69_code 0 = .ok (.iload_n 0, 1) := by decide +kernel
theorem d31_1 : decode jdk_29_method_69_code 1 = .ok (.iload_n 1, 1) := by decide +kernel
theorem d31_2 : decode jdk_29_method_69_code 2 = .ok (.if_icmp .gt 7, 3) := by decide +kernel
theorem d31_5 : decode jdk_29_method_69_code 5 = .ok (.iload_n 0, 1) := by decide +kernel
theorem d31_6 : decode jdk_29_method_69_code 6 = .ok (.goto 4, 3) := by decide +kernel
theorem d31_9 : decode jdk_29_method_69_code 9 = .ok (.iload_n 1, 1) := by decide +kernel
theorem d31_10 : decode jdk_29_method_69_code 10 = .ok (.ireturn, 1) := by decide +kernel
theorem ef_31 (m : MethodId) (p1 : Int32) (p2 : Int32) : entryFrame m #[(.int p1), (.int p2)] 2 = mkF m 0 #[vI p1, vI p2] [] := by first | (simp [entryFrame, mkF, argsToLocals, Value.category]; done) | rfl
def F31 (p1 : Int32) (p2 : Int32) : Int32 := (if p2 < p1 then p2 else p1)
def Q31 (Z : State) (p1 : Int32) (p2 : Int32) (h0 : Heap) (n0 : Nat) (v : Option Value) (h : Heap) (L : List Loc) : Prop := v = some (.int (F31 p1 p2)) ∧ Fr n0 L ∧ h = h0
set_option maxRecDepth 65536 in
set_option maxHeartbeats 40000000 in
theorem rm31 (l : Launch) (Z : State) (a0 : Array Value) (hw : ∀ d ∈ tables_1, d.before a0 Z = true) (ws : List Jvm.Cond) (p1 : Int32) (p2 : Int32) (h0 : Heap) (n0 : Nat) (Z0 : n0 ≤ h0.size) :
    MetFree l (⟨"java/lang/Math", "min", "(II)I"⟩ : MethodName) (head1 (Jvm.Cond.code (⟨"java/lang/Math", "min", "(II)I"⟩ : MethodName) jdk_29_method_69_code 2 (some .int) :: ws) ({ frames := 0, cells := 0, slots := 0, locals := 0 } : Room)) (fun a U => a = #[(.int p1), (.int p2)] ∧ Z.Warmed39 U.vm ∧ U.heap = h0) (fun _ _ _ _ _ => True) (fun _ U o U' => ∃ v L, o = .returned v ∧ Q31 Z p1 p2 h0 n0 v U'.heap L ∧ FrameEnd U o U' L ({ frames := 0, cells := 0, slots := 0, locals := 0 } : Room).cells ({ frames := 0, cells := 0, slots := 0, locals := 0 } : Room).slots) := by
  refine MetFree.of_bodySF (Jvm.Free.JP.mathPlain rfl (by decide +kernel)) hisR ?_
  intro p e s m args below meth c s₁ Bd hml0 hP hK
  obtain ⟨rfl, hZ, hh⟩ := hP
  have hx := Bd.exec
  have hby := Bd.bytes
  have hml : c.maxLocals = 2 := hml0
  have hown : s.vm.findClass "java/lang/Math" = some m.cls := findClass_of_methodNamed Bd.named
  have hnm := (name_of_methodNamed Bd.named Bd.method).1
  have X0 : Stand p l e ({ frames := 0, cells := 0, slots := 0, locals := 0 } : Room) s m #[(.int p1), (.int p2)] below meth c s₁ [] 0 0 := Stand.of_body Bd
  have e0 : s₁.heap = h0 := by rw [← hh, Bd.state]; rfl
  have N0 := Fr.nil n0
  have pre0 : ∀ t, Steps p.tables e below (s₁.setTop (mkF m 0 #[vI p1, vI p2] [])) t → Steps p.tables e below (s₁.setTop (entryFrame m #[(.int p1), (.int p2)] 2)) t := fun t k => castTop (ef_31 m p1 p2) k
  have pre4 : ∀ t, Steps p.tables e below (s₁.setTop (mkF m 2 #[vI p1, vI p2] [(.int p2), (.int p1)])) t → Steps p.tables e below (s₁.setTop (entryFrame m #[(.int p1), (.int p2)] 2)) t := fun t kt => pre0 t (by
    show Steps p.tables e below (s₁.setTop (mkF m 0 #[vI p1, vI p2] [])) _
    refine XS.iloadN X0.here hx rfl (hb hby d31_0) rfl ?_
    refine XS.iloadN X0.here hx rfl (hb hby d31_1) rfl ?_
    show Steps p.tables e below (s₁.setTop (mkF m 2 #[vI p1, vI p2] [(.int p2), (.int p1)])) _
    exact kt)
  by_cases hc2_3 : p2 < p1
  · obtain ⟨fs, hr, hrun, hended, hW, hsame⟩ := X0.leave (v := some (.int p2)) (fun h => by rw [Bd.returns] at h; cases h)
    refine ⟨_, _, pre4 _ ?_, hrun, hended, _, _, rfl, ?_, ⟨_, rfl⟩, hW, hsame.mono (by decide) (by decide)⟩
    · show Steps p.tables e below (s₁.setTop (mkF m 2 #[vI p1, vI p2] [(.int p2), (.int p1)])) _
      refine XS.icmpYes X0.here hx rfl (pc0 := 2) (pc' := 9) rfl (hb hby d31_2) rfl (tlt hc2_3).2.2.1 (by decide) (by decide) ?_
      refine XS.iloadN X0.here hx rfl (hb hby d31_9) rfl ?_
      show Steps p.tables e below (s₁.setTop (mkF m 10 #[vI p1, vI p2] [(.int p2)])) _
      exact retI X0 hx Bd.returns (hb hby d31_10) hr
    · show Q31 Z p1 p2 h0 n0 _ s₁.heap _
      rw [e0]
      have qr : F31 p1 p2 = p2 := by unfold F31; rw [if_pos hc2_3]
      exact ⟨(by rw [qr]), N0, rfl⟩
  · obtain ⟨fs, hr, hrun, hended, hW, hsame⟩ := X0.leave (v := some (.int p1)) (fun h => by rw [Bd.returns] at h; cases h)
    refine ⟨_, _, pre4 _ ?_, hrun, hended, _, _, rfl, ?_, ⟨_, rfl⟩, hW, hsame.mono (by decide) (by decide)⟩
    · show Steps p.tables e below (s₁.setTop (mkF m 2 #[vI p1, vI p2] [(.int p2), (.int p1)])) _
      refine XS.icmpNo X0.here hx rfl (hb hby d31_2) rfl (flt hc2_3).2.2.1 ?_
      refine XS.iloadN X0.here hx rfl (hb hby d31_5) rfl ?_
      refine XS.goto X0.here hx rfl (pc0 := 6) (pc' := 10) rfl (hb hby d31_6) (by decide) (by decide) ?_
      show Steps p.tables e below (s₁.setTop (mkF m 10 #[vI p1, vI p2] [(.int p1)])) _
      exact retI X0 hx Bd.returns (hb hby d31_10) hr
    · show Q31 Z p1 p2 h0 n0 _ s₁.heap _
      rw [e0]
      have qr : F31 p1 p2 = p1 := by unfold F31; rw [if_neg hc2_3]
      exact ⟨(by rw [qr]), N0, rfl⟩
theorem pd_1 : parseMethodDescriptor "(II)I" = some ⟨[.int, .int], some .int⟩ := by decide +kernel
theorem d28_0 : decode jdk_48_method_27_code 0 = .ok (.iload_n 0, 1) := by decide +kernel
theorem d28_1 : decode jdk_48_method_27_code 1 = .ok (.iload_n 1, 1) := by decide +kernel
theorem d28_2 : decode jdk_48_method_27_code 2 = .ok (.iload_n 2, 1) := by decide +kernel
theorem d28_3 : decode jdk_48_method_27_code 3 = .ok (.invokestatic 194, 3) := by decide +kernel
theorem d28_6 : decode jdk_48_method_27_code 6 = .ok (.iadd, 1) := by decide +kernel
theorem d28_7 : decode jdk_48_method_27_code 7 = .ok (.istore_n 3, 1) := by decide +kernel
theorem d28_8 : decode jdk_48_method_27_code 8 = .ok (.iconst 0, 1) := by decide +kernel
theorem d28_9 : decode jdk_48_method_27_code 9 = .ok (.iload_n 3, 1) := by decide +kernel
theorem d28_10 : decode jdk_48_method_27_code 10 = .ok (.if_icmp .ge 11, 3) := by decide +kernel
theorem d28_13 : decode jdk_48_method_27_code 13 = .ok (.iload_n 3, 1) := by decide +kernel
theorem d28_14 : decode jdk_48_method_27_code 14 = .ok (.ldc 200, 2) := by decide +kernel
theorem d28_16 : decode jdk_48_method_27_code 16 = .ok (.if_icmp .gt 5, 3) := by decide +kernel
theorem d28_19 : decode jdk_48_method_27_code 19 = .ok (.iload_n 3, 1) := by decide +kernel
theorem d28_20 : decode jdk_48_method_27_code 20 = .ok (.ireturn, 1) := by decide +kernel
theorem pn_1 : plainName "jdk/internal/util/ArraysSupport" = true := by first | (simp [plainName, overriddenIn]; done) | decide +kernel
theorem ef_28 (m : MethodId) (p1 : Int32) (p2 : Int32) (p3 : Int32) : entryFrame m #[(.int p1), (.int p2), (.int p3)] 4 = mkF m 0 #[vI p1, vI p2, vI p3, vU] [] := by first | (simp [entryFrame, mkF, argsToLocals, Value.category]; done) | rfl
def Q28 (Z : State) (p1 : Int32) (p2 : Int32) (p3 : Int32) (h0 : Heap) (n0 : Nat) (v : Option Value) (h : Heap) (L : List Loc) : Prop := v = some (.int (p1 + (F29 p2 p3))) ∧ Fr n0 L ∧ h = h0
set_option maxRecDepth 65536 in
set_option maxHeartbeats 40000000 in
theorem rm28 (l : Launch) (Z : State) (a0 : Array Value) (hw : ∀ d ∈ tables_1, d.before a0 Z = true) (ws : List Jvm.Cond) (p1 : Int32) (p2 : Int32) (p3 : Int32) (h0 : Heap) (n0 : Nat) (Z0 : n0 ≤ h0.size) (hc10 : (0 : Int32) < (p1 + (F29 p2 p3))) (hc16 : ¬ ((2147483639 : Int32) < (p1 + (F29 p2 p3)))) :
    MetFree l (⟨"jdk/internal/util/ArraysSupport", "newLength", "(III)I"⟩ : MethodName) (head1 (Jvm.Cond.code (⟨"jdk/internal/util/ArraysSupport", "newLength", "(III)I"⟩ : MethodName) jdk_48_method_27_code 4 (some .int) :: ws) ({ frames := 1, cells := 0, slots := 0, locals := 14 } : Room)) (fun a U => a = #[(.int p1), (.int p2), (.int p3)] ∧ Z.Warmed39 U.vm ∧ U.heap = h0) (fun _ _ _ _ _ => True) (fun _ U o U' => ∃ v L, o = .returned v ∧ Q28 Z p1 p2 p3 h0 n0 v U'.heap L ∧ FrameEnd U o U' L ({ frames := 1, cells := 0, slots := 0, locals := 14 } : Room).cells ({ frames := 1, cells := 0, slots := 0, locals := 14 } : Room).slots) := by
  refine MetFree.of_bodySF (plainFor_of_name pn_1) hisR ?_
  intro p e s m args below meth c s₁ Bd hml0 hP hK
  obtain ⟨rfl, hZ, hh⟩ := hP
  have hx := Bd.exec
  have hby := Bd.bytes
  have hml : c.maxLocals = 4 := hml0
  have hown : s.vm.findClass "jdk/internal/util/ArraysSupport" = some m.cls := findClass_of_methodNamed Bd.named
  have hnm := (name_of_methodNamed Bd.named Bd.method).1
  have X0 : Stand p l e ({ frames := 1, cells := 0, slots := 0, locals := 14 } : Room) s m #[(.int p1), (.int p2), (.int p3)] below meth c s₁ [] 0 0 := Stand.of_body Bd
  have e0 : s₁.heap = h0 := by rw [← hh, Bd.state]; rfl
  have N0 := Fr.nil n0
  have pre0 : ∀ t, Steps p.tables e below (s₁.setTop (mkF m 0 #[vI p1, vI p2, vI p3, vU] [])) t → Steps p.tables e below (s₁.setTop (entryFrame m #[(.int p1), (.int p2), (.int p3)] 4)) t := fun t k => castTop (ef_28 m p1 p2 p3) k
  obtain ⟨_, _, ⟨T4, L4, k4, n4⟩, -, X4, ⟨Lc4, hQ4, l4, y4, z4⟩, st4⟩ := Jvm.LawKit.callS X0 hx (y := (⟨"java/lang/Math", "max", "(II)I"⟩ : MethodName)) hown (mvT hZ (own_wi hw 163 rfl)) (mvT hZ (own_wi hw 164 rfl)) (mvT hZ (own_wi hw 165 rfl)) (mvT hZ (own_wi hw 166 rfl)) (by decide) (backOf (W := 1) (rm29 l Z a0 hw [] p2 p3 h0 n0 Z0 ) hZ (own_wi hw 166 rfl) (own_wi hw 165 rfl) (by decide) (by decide)) (g := (mkF m 3 #[vI p1, vI p2, vI p3, vU] [(.int p3), (.int p2), (.int p1)])) rfl (by rw [hml]; rfl) (argsL := [(.int p2), (.int p3)]) (rest := [(.int p1)]) (lenOf pd_1 rfl) rfl (by show 2 * 0 + _ ≤ _; exact Nat.le_of_eq rfl) (hb hby d28_3) (fun _ _ => ⟨rfl, e0, (by decide : 0 + 0 ≤ _), (by decide : 0 + 0 ≤ _)⟩)
  dsimp only [Pt.U, Pt.locs, Pt.cells, Pt.slots] at X4 l4 y4 z4 st4 hQ4
  subst l4 y4 z4
  obtain ⟨rfl, N4q, e4⟩ := hQ4
  have N4 := Fr.app N0 N4q
  obtain ⟨fs, hr, hrun, hended, hW, hsame⟩ := X4.leave (v := some (.int (p1 + (F29 p2 p3)))) (fun h => by rw [Bd.returns] at h; cases h)
  refine ⟨_, _, pre0 _ ?_, hrun, hended, _, _, rfl, ?_, ⟨_, rfl⟩, hW, hsame.mono (by decide) (by decide)⟩
  · show Steps p.tables e below (s₁.setTop (mkF m 0 #[vI p1, vI p2, vI p3, vU] [])) _
    refine XS.iloadN X0.here hx rfl (hb hby d28_0) rfl ?_
    refine XS.iloadN X0.here hx rfl (hb hby d28_1) rfl ?_
    refine XS.iloadN X0.here hx rfl (hb hby d28_2) rfl ?_
    show Steps p.tables e below (s₁.setTop (mkF m 3 #[vI p1, vI p2, vI p3, vU] [(.int p3), (.int p2), (.int p1)])) _
    refine st4 _ ?_
    show Steps p.tables e below (T4.setTop (mkF m 6 #[vI p1, vI p2, vI p3, vU] [(.int (F29 p2 p3)), (.int p1)])) _
    refine XS.iadd X4.here hx rfl (hb hby d28_6) rfl ?_
    refine XS.istoreN X4.here hx rfl (hb hby d28_7) rfl (l' := #[vI p1, vI p2, vI p3, vI (p1 + (F29 p2 p3))]) rfl ?_
    refine XS.iconst X4.here hx rfl (hb hby d28_8) ?_
    refine XS.iloadN X4.here hx rfl (hb hby d28_9) rfl ?_
    show Steps p.tables e below (T4.setTop (mkF m 10 #[vI p1, vI p2, vI p3, vI (p1 + (F29 p2 p3))] [(.int (p1 + (F29 p2 p3))), (.int (0 : Int32))])) _
    refine XS.icmpNo X4.here hx rfl (hb hby d28_10) rfl (tlt hc10).2.1 ?_
    refine XS.iloadN X4.here hx rfl (hb hby d28_13) rfl ?_
    show Steps p.tables e below (T4.setTop (mkF m 14 #[vI p1, vI p2, vI p3, vI (p1 + (F29 p2 p3))] [(.int (p1 + (F29 p2 p3)))])) _
    refine X4.ldcInt hx hown (mvT hZ (own_wi hw 167 rfl)) (g := (mkF m 14 #[vI p1, vI p2, vI p3, vI (p1 + (F29 p2 p3))] [(.int (p1 + (F29 p2 p3)))])) rfl (hb hby d28_14) _ ?_
    show Steps p.tables e below (T4.setTop (mkF m 16 #[vI p1, vI p2, vI p3, vI (p1 + (F29 p2 p3))] [(.int (2147483639 : Int32)), (.int (p1 + (F29 p2 p3)))])) _
    refine XS.icmpNo X4.here hx rfl (hb hby d28_16) rfl (flt hc16).2.2.1 ?_
    refine XS.iloadN X4.here hx rfl (hb hby d28_19) rfl ?_
    show Steps p.tables e below (T4.setTop (mkF m 20 #[vI p1, vI p2, vI p3, vI (p1 + (F29 p2 p3))] [(.int (p1 + (F29 p2 p3)))])) _
    exact retI X4 hx Bd.returns (hb hby d28_20) hr
  · show Q28 Z p1 p2 p3 h0 n0 _ T4.heap _
    rw [e4]
    exact ⟨rfl, N4, rfl⟩
theorem own_max (a b : Int32) : (F29 a b).toInt = max a.toInt b.toInt := by
  unfold F29; split <;> rename_i q <;> rw [Int32.lt_iff_toInt_lt] at q <;> omega
theorem own_min (a b : Int32) : (F31 a b).toInt = min a.toInt b.toInt := by
  unfold F31; split <;> rename_i q <;> rw [Int32.lt_iff_toInt_lt] at q <;> omega
/-- the new capacity -/
def own_newcap (z mn : Int32) : Int32 := z + F29 ((mn <<< ((0 : Int32) &&& 31)) - z) (z + ((2 : Int32) <<< ((0 : Int32) &&& 31)))
theorem own_grow {z mn : Int32} (h1 : z < mn) (h2 : own_b94 mn) (h0 : own_b188 z) : mn.toInt ≤ (own_newcap z mn).toInt ∧ z.toInt < (own_newcap z mn).toInt ∧ (own_newcap z mn).toInt ≤ 194 := by
  unfold own_newcap
  rw [own_shl0, own_shl0]
  rw [Int32.lt_iff_toInt_lt] at h1
  unfold own_b94 at h2; unfold own_b188 at h0
  have e2 : (2 : Int32).toInt = 2 := rfl
  have q1 := c_isub mn z
  have r1 := rng32 (mn - z)
  have q2 := c_iadd z (2 : Int32)
  have r2 := rng32 (z + (2 : Int32))
  have q3 := c_iadd z (F29 (mn - z) (z + (2 : Int32)))
  have r3 := rng32 (z + F29 (mn - z) (z + (2 : Int32)))
  have m := own_max (mn - z) (z + (2 : Int32))
  omega
theorem own_grow_a {z mn : Int32} (h1 : z < mn) (h2 : own_b94 mn) (h0 : own_b188 z) : (0 : Int32) < own_newcap z mn := by
  have q := own_grow h1 h2 h0; unfold own_b188 at h0; rw [Int32.lt_iff_toInt_lt, own_z0]; omega
theorem own_grow_b {z mn : Int32} (h1 : z < mn) (h2 : own_b94 mn) (h0 : own_b188 z) : ¬ ((2147483639 : Int32) < own_newcap z mn) := by
  have q := own_grow h1 h2 h0; rw [Int32.lt_iff_toInt_lt]; have e : (2147483639 : Int32).toInt = 2147483639 := rfl; omega
theorem own_grow_c {z mn : Int32} (h1 : z < mn) (h2 : own_b94 mn) (h0 : own_b188 z) : ¬ (own_newcap z mn = (2147483647 : Int32)) := by
  have q := own_grow h1 h2 h0; rw [← Int32.toInt_inj]; have e : (2147483647 : Int32).toInt = 2147483647 := rfl; omega
theorem own_lt_ne {a b : Int32} (h : a < b) : ¬ (b = a) := fun e => by rw [e, Int32.lt_iff_toInt_lt] at h; omega
theorem own_cap {x : Int32} (h : own_b188 x) : ¬ x < 0 ∧ x.toNatClampNeg ≤ 194 := by
  unfold own_b188 at h; have n := own_nat x; rw [Int32.lt_iff_toInt_lt, own_z0]; omega
theorem own_us_all {vs : List Value} {nn : Int32} (h : (vs.length : Int) ≤ nn.toInt) : ∀ i : Nat, vs.getD i (.int (0 : Int32)) = if i < nn.toNatClampNeg then vs.getD i (.int (0 : Int32)) else .int (0 : Int32) := fun i => by
  have n := own_nat nn
  split
  · rfl
  · rw [List.getD_eq_getElem?_getD, List.getElem?_eq_none (by omega)]; rfl
theorem own_lt_sub {z mn : Int32} (h : (0 : Int32) < (mn - (z >>> ((0 : Int32) &&& 31)))) (h2 : own_b94 mn) (h0 : own_b188 z) : z < mn := by
  rw [own_shr0] at h
  rw [Int32.lt_iff_toInt_lt] at h ⊢
  unfold own_b94 at h2; unfold own_b188 at h0
  have q1 := c_isub mn z
  have r1 := rng32 (mn - z)
  rw [own_z0] at h
  omega
theorem own_le_sub {z mn : Int32} (h : ¬ ((0 : Int32) < (mn - (z >>> ((0 : Int32) &&& 31))))) (h2 : own_b94 mn) (h0 : own_b188 z) : mn.toInt ≤ z.toInt ∧ z.toInt ≤ 194 := by
  rw [own_shr0] at h
  rw [Int32.lt_iff_toInt_lt] at h
  unfold own_b94 at h2; unfold own_b188 at h0
  have q1 := c_isub mn z
  have r1 := rng32 (mn - z)
  rw [own_z0] at h
  omega
theorem own_grow_d {z mn : Int32} (h1 : z < mn) (h2 : own_b94 mn) (h0 : own_b188 z) : z < (own_newcap z mn <<< ((0 : Int32) &&& 31)) ∧ own_b188 (own_newcap z mn <<< ((0 : Int32) &&& 31)) ∧ mn.toInt ≤ (own_newcap z mn <<< ((0 : Int32) &&& 31)).toInt := by
  rw [own_shl0]; have q := own_grow h1 h2 h0; unfold own_b188 at h0 ⊢; rw [Int32.lt_iff_toInt_lt]; omega
def own_room (n : Int32) (vs us : List Value) : Prop := (vs.length : Int) + us.length ≤ n.toInt
theorem own_len_le {n : Int32} {vs : List Value} (h : own_len n vs) : 0 ≤ n.toInt ∧ (vs.length : Int) ≤ n.toInt := by unfold own_len at h; omega
theorem own_room_of {x a b : Int32} {vs us : List Value} (ha : own_len a vs) (hb : own_len b us) (h : own_b94 (a + b)) (hz : (a + b).toInt ≤ x.toInt) (hs : own_b94 a) (ht : own_b94 b) : own_room x vs us := by
  unfold own_len at ha hb; unfold own_b94 at h hs ht; unfold own_room
  have q := c_iadd a b
  omega
theorem pd_2 : parseMethodDescriptor "(III)I" = some ⟨[.int, .int, .int], some .int⟩ := by decide +kernel
theorem d27_0 : decode jdk_68_method_10_code 0 = .ok (.aload_n 0, 1) := by decide +kernel
theorem d27_1 : decode jdk_68_method_10_code 1 = .ok (.getfield 15, 3) := by decide +kernel
theorem d27_4 : decode jdk_68_method_10_code 4 = .ok (.arraylength, 1) := by decide +kernel
theorem d27_5 : decode jdk_68_method_10_code 5 = .ok (.istore_n 2, 1) := by decide +kernel
theorem d27_6 : decode jdk_68_method_10_code 6 = .ok (.iload_n 1, 1) := by decide +kernel
theorem d27_7 : decode jdk_68_method_10_code 7 = .ok (.aload_n 0, 1) := by decide +kernel
theorem d27_8 : decode jdk_68_method_10_code 8 = .ok (.getfield 22, 3) := by decide +kernel
theorem d27_11 : decode jdk_68_method_10_code 11 = .ok (.ishl, 1) := by decide +kernel
theorem d27_12 : decode jdk_68_method_10_code 12 = .ok (.istore_n 3, 1) := by decide +kernel
theorem d27_13 : decode jdk_68_method_10_code 13 = .ok (.iload_n 3, 1) := by decide +kernel
theorem d27_14 : decode jdk_68_method_10_code 14 = .ok (.iload_n 2, 1) := by decide +kernel
theorem d27_15 : decode jdk_68_method_10_code 15 = .ok (.isub, 1) := by decide +kernel
theorem d27_16 : decode jdk_68_method_10_code 16 = .ok (.istore 4, 2) := by decide +kernel
theorem d27_18 : decode jdk_68_method_10_code 18 = .ok (.iload_n 2, 1) := by decide +kernel
theorem d27_19 : decode jdk_68_method_10_code 19 = .ok (.iload 4, 2) := by decide +kernel
theorem d27_21 : decode jdk_68_method_10_code 21 = .ok (.iload_n 2, 1) := by decide +kernel
theorem d27_22 : decode jdk_68_method_10_code 22 = .ok (.iconst 2, 1) := by decide +kernel
theorem d27_23 : decode jdk_68_method_10_code 23 = .ok (.aload_n 0, 1) := by decide +kernel
theorem d27_24 : decode jdk_68_method_10_code 24 = .ok (.getfield 22, 3) := by decide +kernel
theorem d27_27 : decode jdk_68_method_10_code 27 = .ok (.ishl, 1) := by decide +kernel
theorem d27_28 : decode jdk_68_method_10_code 28 = .ok (.iadd, 1) := by decide +kernel
theorem d27_29 : decode jdk_68_method_10_code 29 = .ok (.invokestatic 114, 3) := by decide +kernel
theorem d27_32 : decode jdk_68_method_10_code 32 = .ok (.istore 5, 2) := by decide +kernel
theorem d27_34 : decode jdk_68_method_10_code 34 = .ok (.iload 5, 2) := by decide +kernel
theorem d27_36 : decode jdk_68_method_10_code 36 = .ok (.ldc 39, 2) := by decide +kernel
theorem d27_38 : decode jdk_68_method_10_code 38 = .ok (.if_icmp .ne 13, 3) := by decide +kernel
theorem d27_51 : decode jdk_68_method_10_code 51 = .ok (.iload 5, 2) := by decide +kernel
theorem d27_53 : decode jdk_68_method_10_code 53 = .ok (.aload_n 0, 1) := by decide +kernel
theorem d27_54 : decode jdk_68_method_10_code 54 = .ok (.getfield 22, 3) := by decide +kernel
theorem d27_57 : decode jdk_68_method_10_code 57 = .ok (.ishr, 1) := by decide +kernel
theorem d27_58 : decode jdk_68_method_10_code 58 = .ok (.ireturn, 1) := by decide +kernel
theorem pn_2 : plainName "java/lang/AbstractStringBuilder" = true := by first | (simp [plainName, overriddenIn]; done) | decide +kernel
theorem ef_27 (m : MethodId) (a1 : Addr) (p2 : Int32) : entryFrame m #[(.ref a1), (.int p2)] 6 = mkF m 0 #[vR a1, vI p2, vU, vU, vU, vU] [] := by first | (simp [entryFrame, mkF, argsToLocals, Value.category]; done) | rfl
def Q27 (Z : State) (a1 : Addr) (p2 : Int32) (w_value_a1 : Addr) (w_count_a1 : Int32) (k_w_value_a1 : ClassId) (n_w_value_a1 : Int32) (vs_w_value_a1 : List Value) (h0 : Heap) (n0 : Nat) (v : Option Value) (h : Heap) (L : List Loc) : Prop := v = some (.int (own_newcap n_w_value_a1 p2)) ∧ Fr n0 L ∧ h = h0
set_option maxRecDepth 65536 in
set_option maxHeartbeats 40000000 in
theorem rm27 (l : Launch) (Z : State) (a0 : Array Value) (hw : ∀ d ∈ tables_1, d.before a0 Z = true) (ws : List Jvm.Cond) (a1 : Addr) (p2 : Int32) (w_value_a1 : Addr) (w_count_a1 : Int32) (k_w_value_a1 : ClassId) (n_w_value_a1 : Int32) (vs_w_value_a1 : List Value) (h0 : Heap) (n0 : Nat) (Z0 : n0 ≤ h0.size) (E_a1 : Exa Z h0 a1 "java/lang/StringBuilder") (F_value_a1 : Fld Z h0 a1 "java/lang/AbstractStringBuilder" "value" "[B" (.ref w_value_a1)) (F_coder_a1 : Fld Z h0 a1 "java/lang/AbstractStringBuilder" "coder" "B" (.int (0 : Int32))) (F_count_a1 : Fld Z h0 a1 "java/lang/AbstractStringBuilder" "count" "I" (.int w_count_a1)) (V_w_value_a1 : Arv Z h0 w_value_a1 k_w_value_a1 .byte n_w_value_a1 vs_w_value_a1 (.int (0 : Int32))) (hq0_5 : n_w_value_a1 < p2) (hq0_6 : own_b94 p2) (hq0_7 : own_b188 n_w_value_a1) :
    MetFree l (⟨"java/lang/AbstractStringBuilder", "newCapacity", "(I)I"⟩ : MethodName) (head1 (Jvm.Cond.code (⟨"java/lang/AbstractStringBuilder", "newCapacity", "(I)I"⟩ : MethodName) jdk_68_method_10_code 6 (some .int) :: ws) ({ frames := 2, cells := 0, slots := 0, locals := 29 } : Room)) (fun a U => a = #[(.ref a1), (.int p2)] ∧ Z.Warmed39 U.vm ∧ U.heap = h0) (fun _ _ _ _ _ => True) (fun _ U o U' => ∃ v L, o = .returned v ∧ Q27 Z a1 p2 w_value_a1 w_count_a1 k_w_value_a1 n_w_value_a1 vs_w_value_a1 h0 n0 v U'.heap L ∧ FrameEnd U o U' L ({ frames := 2, cells := 0, slots := 0, locals := 29 } : Room).cells ({ frames := 2, cells := 0, slots := 0, locals := 29 } : Room).slots) := by
  refine MetFree.of_bodySF (plainFor_of_name pn_2) hisR ?_
  intro p e s m args below meth c s₁ Bd hml0 hP hK
  obtain ⟨rfl, hZ, hh⟩ := hP
  have hx := Bd.exec
  have hby := Bd.bytes
  have hml : c.maxLocals = 6 := hml0
  have hown : s.vm.findClass "java/lang/AbstractStringBuilder" = some m.cls := findClass_of_methodNamed Bd.named
  have hnm := (name_of_methodNamed Bd.named Bd.method).1
  have X0 : Stand p l e ({ frames := 2, cells := 0, slots := 0, locals := 29 } : Room) s m #[(.ref a1), (.int p2)] below meth c s₁ [] 0 0 := Stand.of_body Bd
  have e0 : s₁.heap = h0 := by rw [← hh, Bd.state]; rfl
  have N0 := Fr.nil n0
  have pre0 : ∀ t, Steps p.tables e below (s₁.setTop (mkF m 0 #[vR a1, vI p2, vU, vU, vU, vU] [])) t → Steps p.tables e below (s₁.setTop (entryFrame m #[(.ref a1), (.int p2)] 6)) t := fun t k => castTop (ef_27 m a1 p2) k
  obtain ⟨T3, X3, e3, st3⟩ := getF X0 hx hZ hown (host := "") (Or.inl (own_wi hw 74 rfl)) Via.refl e0 F_value_a1 (g := (mkF m 1 #[vR a1, vI p2, vU, vU, vU, vU] [(.ref a1)])) rfl rfl (hb hby d27_1)
  obtain ⟨cl4, Ar4, qq4, S4, NN4, -, -⟩ := id V_w_value_a1
  obtain ⟨T5, X5, e5, st5⟩ := getF X3 hx hZ hown (host := "") (Or.inl (own_wi hw 76 rfl)) Via.refl e3 F_coder_a1 (g := (mkF m 8 #[vR a1, vI p2, vI n_w_value_a1, vU, vU, vU] [(.ref a1), (.int p2)])) rfl rfl (hb hby d27_8)
  obtain ⟨T6, X6, e6, st6⟩ := getF X5 hx hZ hown (host := "") (Or.inl (own_wi hw 76 rfl)) Via.refl e5 F_coder_a1 (g := (mkF m 24 #[vR a1, vI p2, vI n_w_value_a1, vI (p2 <<< ((0 : Int32) &&& 31)), vI ((p2 <<< ((0 : Int32) &&& 31)) - n_w_value_a1), vU] [(.ref a1), (.int (2 : Int32)), (.int n_w_value_a1), (.int ((p2 <<< ((0 : Int32) &&& 31)) - n_w_value_a1)), (.int n_w_value_a1)])) rfl rfl (hb hby d27_24)
  obtain ⟨_, _, ⟨T7, L7, k7, n7⟩, -, X7, ⟨Lc7, hQ7, l7, y7, z7⟩, st7⟩ := Jvm.LawKit.callS X6 hx (y := (⟨"jdk/internal/util/ArraysSupport", "newLength", "(III)I"⟩ : MethodName)) hown (mvT hZ (own_wi hw 159 rfl)) (mvT hZ (own_wi hw 160 rfl)) (mvT hZ (own_wi hw 161 rfl)) (mvT hZ (own_wi hw 162 rfl)) (by decide) (backOf (W := 0) (rm28 l Z a0 hw [] n_w_value_a1 ((p2 <<< ((0 : Int32) &&& 31)) - n_w_value_a1) (n_w_value_a1 + ((2 : Int32) <<< ((0 : Int32) &&& 31))) h0 n0 Z0 (show (0 : Int32) < (n_w_value_a1 + (F29 ((p2 <<< ((0 : Int32) &&& 31)) - n_w_value_a1) (n_w_value_a1 + ((2 : Int32) <<< ((0 : Int32) &&& 31))))) from own_grow_a hq0_5 hq0_6 hq0_7) (show ¬ ((2147483639 : Int32) < (n_w_value_a1 + (F29 ((p2 <<< ((0 : Int32) &&& 31)) - n_w_value_a1) (n_w_value_a1 + ((2 : Int32) <<< ((0 : Int32) &&& 31)))))) from own_grow_b hq0_5 hq0_6 hq0_7)) hZ (own_wi hw 162 rfl) (own_wi hw 161 rfl) (by decide) (by decide)) (g := (mkF m 29 #[vR a1, vI p2, vI n_w_value_a1, vI (p2 <<< ((0 : Int32) &&& 31)), vI ((p2 <<< ((0 : Int32) &&& 31)) - n_w_value_a1), vU] [(.int (n_w_value_a1 + ((2 : Int32) <<< ((0 : Int32) &&& 31)))), (.int ((p2 <<< ((0 : Int32) &&& 31)) - n_w_value_a1)), (.int n_w_value_a1)])) rfl (by rw [hml]; rfl) (argsL := [(.int n_w_value_a1), (.int ((p2 <<< ((0 : Int32) &&& 31)) - n_w_value_a1)), (.int (n_w_value_a1 + ((2 : Int32) <<< ((0 : Int32) &&& 31))))]) (rest := []) (lenOf pd_2 rfl) rfl (by show 2 * 0 + _ ≤ _; exact Nat.le_of_eq rfl) (hb hby d27_29) (fun _ _ => ⟨rfl, e6, (by decide : 0 + 0 ≤ _), (by decide : 0 + 0 ≤ _)⟩)
  dsimp only [Pt.U, Pt.locs, Pt.cells, Pt.slots] at X7 l7 y7 z7 st7 hQ7
  subst l7 y7 z7
  obtain ⟨rfl, N7q, e7⟩ := hQ7
  have N7 := Fr.app N0 N7q
  have hc38_8 : ¬ ((n_w_value_a1 + (F29 ((p2 <<< ((0 : Int32) &&& 31)) - n_w_value_a1) (n_w_value_a1 + ((2 : Int32) <<< ((0 : Int32) &&& 31))))) = (2147483647 : Int32)) := own_grow_c hq0_5 hq0_6 hq0_7
  obtain ⟨T9, X9, e9, st9⟩ := getF X7 hx hZ hown (host := "") (Or.inl (own_wi hw 76 rfl)) Via.refl e7 F_coder_a1 (g := (mkF m 54 #[vR a1, vI p2, vI n_w_value_a1, vI (p2 <<< ((0 : Int32) &&& 31)), vI ((p2 <<< ((0 : Int32) &&& 31)) - n_w_value_a1), vI (n_w_value_a1 + (F29 ((p2 <<< ((0 : Int32) &&& 31)) - n_w_value_a1) (n_w_value_a1 + ((2 : Int32) <<< ((0 : Int32) &&& 31)))))] [(.ref a1), (.int (n_w_value_a1 + (F29 ((p2 <<< ((0 : Int32) &&& 31)) - n_w_value_a1) (n_w_value_a1 + ((2 : Int32) <<< ((0 : Int32) &&& 31))))))])) rfl rfl (hb hby d27_54)
  obtain ⟨fs, hr, hrun, hended, hW, hsame⟩ := X9.leave (v := some (.int ((n_w_value_a1 + (F29 ((p2 <<< ((0 : Int32) &&& 31)) - n_w_value_a1) (n_w_value_a1 + ((2 : Int32) <<< ((0 : Int32) &&& 31))))) >>> ((0 : Int32) &&& 31)))) (fun h => by rw [Bd.returns] at h; cases h)
  refine ⟨_, _, pre0 _ ?_, hrun, hended, _, _, rfl, ?_, ⟨_, rfl⟩, hW, hsame.mono (by decide) (by decide)⟩
  · show Steps p.tables e below (s₁.setTop (mkF m 0 #[vR a1, vI p2, vU, vU, vU, vU] [])) _
    refine XS.aloadN X0.here hx rfl (hb hby d27_0) rfl rfl ?_
    show Steps p.tables e below (s₁.setTop (mkF m 1 #[vR a1, vI p2, vU, vU, vU, vU] [(.ref a1)])) _
    refine st3 _ ?_
    show Steps p.tables e below (T3.setTop (mkF m 4 #[vR a1, vI p2, vU, vU, vU, vU] [(.ref w_value_a1)])) _
    refine X3.arraylength hx (by rw [e3]; exact Ar4.1) (State.isArrayOf_alike hZ.alike Ar4.2.1) (g := (mkF m 4 #[vR a1, vI p2, vU, vU, vU, vU] [(.ref w_value_a1)])) rfl rfl (hb hby d27_4) _ ?_
    rw [len_of S4 NN4]
    show Steps p.tables e below (T3.setTop (mkF m 5 #[vR a1, vI p2, vU, vU, vU, vU] [(.int n_w_value_a1)])) _
    refine XS.istoreN X3.here hx rfl (hb hby d27_5) rfl (l' := #[vR a1, vI p2, vI n_w_value_a1, vU, vU, vU]) rfl ?_
    refine XS.iloadN X3.here hx rfl (hb hby d27_6) rfl ?_
    refine XS.aloadN X3.here hx rfl (hb hby d27_7) rfl rfl ?_
    show Steps p.tables e below (T3.setTop (mkF m 8 #[vR a1, vI p2, vI n_w_value_a1, vU, vU, vU] [(.ref a1), (.int p2)])) _
    refine st5 _ ?_
    show Steps p.tables e below (T5.setTop (mkF m 11 #[vR a1, vI p2, vI n_w_value_a1, vU, vU, vU] [(.int (0 : Int32)), (.int p2)])) _
    refine XS.ishl X5.here hx rfl (hb hby d27_11) rfl ?_
    refine XS.istoreN X5.here hx rfl (hb hby d27_12) rfl (l' := #[vR a1, vI p2, vI n_w_value_a1, vI (p2 <<< ((0 : Int32) &&& 31)), vU, vU]) rfl ?_
    refine XS.iloadN X5.here hx rfl (hb hby d27_13) rfl ?_
    refine XS.iloadN X5.here hx rfl (hb hby d27_14) rfl ?_
    refine XS.isub X5.here hx rfl (hb hby d27_15) rfl ?_
    show Steps p.tables e below (T5.setTop (mkF m 16 #[vR a1, vI p2, vI n_w_value_a1, vI (p2 <<< ((0 : Int32) &&& 31)), vU, vU] [(.int ((p2 <<< ((0 : Int32) &&& 31)) - n_w_value_a1))])) _
    refine XS.istore X5.here hx rfl (hb hby d27_16) rfl (l' := #[vR a1, vI p2, vI n_w_value_a1, vI (p2 <<< ((0 : Int32) &&& 31)), vI ((p2 <<< ((0 : Int32) &&& 31)) - n_w_value_a1), vU]) rfl ?_
    refine XS.iloadN X5.here hx rfl (hb hby d27_18) rfl ?_
    refine XS.iload X5.here hx rfl (hb hby d27_19) rfl ?_
    refine XS.iloadN X5.here hx rfl (hb hby d27_21) rfl ?_
    refine XS.iconst X5.here hx rfl (hb hby d27_22) ?_
    show Steps p.tables e below (T5.setTop (mkF m 23 #[vR a1, vI p2, vI n_w_value_a1, vI (p2 <<< ((0 : Int32) &&& 31)), vI ((p2 <<< ((0 : Int32) &&& 31)) - n_w_value_a1), vU] [(.int (2 : Int32)), (.int n_w_value_a1), (.int ((p2 <<< ((0 : Int32) &&& 31)) - n_w_value_a1)), (.int n_w_value_a1)])) _
    refine XS.aloadN X5.here hx rfl (hb hby d27_23) rfl rfl ?_
    show Steps p.tables e below (T5.setTop (mkF m 24 #[vR a1, vI p2, vI n_w_value_a1, vI (p2 <<< ((0 : Int32) &&& 31)), vI ((p2 <<< ((0 : Int32) &&& 31)) - n_w_value_a1), vU] [(.ref a1), (.int (2 : Int32)), (.int n_w_value_a1), (.int ((p2 <<< ((0 : Int32) &&& 31)) - n_w_value_a1)), (.int n_w_value_a1)])) _
    refine st6 _ ?_
    show Steps p.tables e below (T6.setTop (mkF m 27 #[vR a1, vI p2, vI n_w_value_a1, vI (p2 <<< ((0 : Int32) &&& 31)), vI ((p2 <<< ((0 : Int32) &&& 31)) - n_w_value_a1), vU] [(.int (0 : Int32)), (.int (2 : Int32)), (.int n_w_value_a1), (.int ((p2 <<< ((0 : Int32) &&& 31)) - n_w_value_a1)), (.int n_w_value_a1)])) _
    refine XS.ishl X6.here hx rfl (hb hby d27_27) rfl ?_
    refine XS.iadd X6.here hx rfl (hb hby d27_28) rfl ?_
    show Steps p.tables e below (T6.setTop (mkF m 29 #[vR a1, vI p2, vI n_w_value_a1, vI (p2 <<< ((0 : Int32) &&& 31)), vI ((p2 <<< ((0 : Int32) &&& 31)) - n_w_value_a1), vU] [(.int (n_w_value_a1 + ((2 : Int32) <<< ((0 : Int32) &&& 31)))), (.int ((p2 <<< ((0 : Int32) &&& 31)) - n_w_value_a1)), (.int n_w_value_a1)])) _
    refine st7 _ ?_
    show Steps p.tables e below (T7.setTop (mkF m 32 #[vR a1, vI p2, vI n_w_value_a1, vI (p2 <<< ((0 : Int32) &&& 31)), vI ((p2 <<< ((0 : Int32) &&& 31)) - n_w_value_a1), vU] [(.int (n_w_value_a1 + (F29 ((p2 <<< ((0 : Int32) &&& 31)) - n_w_value_a1) (n_w_value_a1 + ((2 : Int32) <<< ((0 : Int32) &&& 31))))))])) _
    refine XS.istore X7.here hx rfl (hb hby d27_32) rfl (l' := #[vR a1, vI p2, vI n_w_value_a1, vI (p2 <<< ((0 : Int32) &&& 31)), vI ((p2 <<< ((0 : Int32) &&& 31)) - n_w_value_a1), vI (n_w_value_a1 + (F29 ((p2 <<< ((0 : Int32) &&& 31)) - n_w_value_a1) (n_w_value_a1 + ((2 : Int32) <<< ((0 : Int32) &&& 31)))))]) rfl ?_
    refine XS.iload X7.here hx rfl (hb hby d27_34) rfl ?_
    show Steps p.tables e below (T7.setTop (mkF m 36 #[vR a1, vI p2, vI n_w_value_a1, vI (p2 <<< ((0 : Int32) &&& 31)), vI ((p2 <<< ((0 : Int32) &&& 31)) - n_w_value_a1), vI (n_w_value_a1 + (F29 ((p2 <<< ((0 : Int32) &&& 31)) - n_w_value_a1) (n_w_value_a1 + ((2 : Int32) <<< ((0 : Int32) &&& 31)))))] [(.int (n_w_value_a1 + (F29 ((p2 <<< ((0 : Int32) &&& 31)) - n_w_value_a1) (n_w_value_a1 + ((2 : Int32) <<< ((0 : Int32) &&& 31))))))])) _
    refine X7.ldcInt hx hown (mvT hZ (own_wi hw 168 rfl)) (g := (mkF m 36 #[vR a1, vI p2, vI n_w_value_a1, vI (p2 <<< ((0 : Int32) &&& 31)), vI ((p2 <<< ((0 : Int32) &&& 31)) - n_w_value_a1), vI (n_w_value_a1 + (F29 ((p2 <<< ((0 : Int32) &&& 31)) - n_w_value_a1) (n_w_value_a1 + ((2 : Int32) <<< ((0 : Int32) &&& 31)))))] [(.int (n_w_value_a1 + (F29 ((p2 <<< ((0 : Int32) &&& 31)) - n_w_value_a1) (n_w_value_a1 + ((2 : Int32) <<< ((0 : Int32) &&& 31))))))])) rfl (hb hby d27_36) _ ?_
    show Steps p.tables e below (T7.setTop (mkF m 38 #[vR a1, vI p2, vI n_w_value_a1, vI (p2 <<< ((0 : Int32) &&& 31)), vI ((p2 <<< ((0 : Int32) &&& 31)) - n_w_value_a1), vI (n_w_value_a1 + (F29 ((p2 <<< ((0 : Int32) &&& 31)) - n_w_value_a1) (n_w_value_a1 + ((2 : Int32) <<< ((0 : Int32) &&& 31)))))] [(.int (2147483647 : Int32)), (.int (n_w_value_a1 + (F29 ((p2 <<< ((0 : Int32) &&& 31)) - n_w_value_a1) (n_w_value_a1 + ((2 : Int32) <<< ((0 : Int32) &&& 31))))))])) _
    refine XS.icmpYes X7.here hx rfl (pc0 := 38) (pc' := 51) rfl (hb hby d27_38) rfl (feq hc38_8).2 (by decide) (by decide) ?_
    refine XS.iload X7.here hx rfl (hb hby d27_51) rfl ?_
    refine XS.aloadN X7.here hx rfl (hb hby d27_53) rfl rfl ?_
    show Steps p.tables e below (T7.setTop (mkF m 54 #[vR a1, vI p2, vI n_w_value_a1, vI (p2 <<< ((0 : Int32) &&& 31)), vI ((p2 <<< ((0 : Int32) &&& 31)) - n_w_value_a1), vI (n_w_value_a1 + (F29 ((p2 <<< ((0 : Int32) &&& 31)) - n_w_value_a1) (n_w_value_a1 + ((2 : Int32) <<< ((0 : Int32) &&& 31)))))] [(.ref a1), (.int (n_w_value_a1 + (F29 ((p2 <<< ((0 : Int32) &&& 31)) - n_w_value_a1) (n_w_value_a1 + ((2 : Int32) <<< ((0 : Int32) &&& 31))))))])) _
    refine st9 _ ?_
    show Steps p.tables e below (T9.setTop (mkF m 57 #[vR a1, vI p2, vI n_w_value_a1, vI (p2 <<< ((0 : Int32) &&& 31)), vI ((p2 <<< ((0 : Int32) &&& 31)) - n_w_value_a1), vI (n_w_value_a1 + (F29 ((p2 <<< ((0 : Int32) &&& 31)) - n_w_value_a1) (n_w_value_a1 + ((2 : Int32) <<< ((0 : Int32) &&& 31)))))] [(.int (0 : Int32)), (.int (n_w_value_a1 + (F29 ((p2 <<< ((0 : Int32) &&& 31)) - n_w_value_a1) (n_w_value_a1 + ((2 : Int32) <<< ((0 : Int32) &&& 31))))))])) _
    refine XS.ishr X9.here hx rfl (hb hby d27_57) rfl ?_
    show Steps p.tables e below (T9.setTop (mkF m 58 #[vR a1, vI p2, vI n_w_value_a1, vI (p2 <<< ((0 : Int32) &&& 31)), vI ((p2 <<< ((0 : Int32) &&& 31)) - n_w_value_a1), vI (n_w_value_a1 + (F29 ((p2 <<< ((0 : Int32) &&& 31)) - n_w_value_a1) (n_w_value_a1 + ((2 : Int32) <<< ((0 : Int32) &&& 31)))))] [(.int ((n_w_value_a1 + (F29 ((p2 <<< ((0 : Int32) &&& 31)) - n_w_value_a1) (n_w_value_a1 + ((2 : Int32) <<< ((0 : Int32) &&& 31))))) >>> ((0 : Int32) &&& 31)))])) _
    exact retI X9 hx Bd.returns (hb hby d27_58) hr
  · show Q27 Z a1 p2 w_value_a1 w_count_a1 k_w_value_a1 n_w_value_a1 vs_w_value_a1 h0 n0 _ T9.heap _
    rw [e9]
    exact ⟨by rw [own_shr0]; rfl, N7, rfl⟩
theorem d30_0 : decode jdk_65_method_121_code 0 = .ok (.iload_n 1, 1) := by decide +kernel
theorem d30_1 : decode jdk_65_method_121_code 1 = .ok (.aload_n 0, 1) := by decide +kernel
theorem d30_2 : decode jdk_65_method_121_code 2 = .ok (.arraylength, 1) := by decide +kernel
theorem d30_3 : decode jdk_65_method_121_code 3 = .ok (.if_icmp .ne 11, 3) := by decide +kernel
theorem d30_14 : decode jdk_65_method_121_code 14 = .ok (.iload_n 1, 1) := by decide +kernel
theorem d30_15 : decode jdk_65_method_121_code 15 = .ok (.newarray .byte, 2) := by decide +kernel
theorem d30_17 : decode jdk_65_method_121_code 17 = .ok (.astore_n 2, 1) := by decide +kernel
theorem d30_18 : decode jdk_65_method_121_code 18 = .ok (.aload_n 0, 1) := by decide +kernel
theorem d30_19 : decode jdk_65_method_121_code 19 = .ok (.iconst 0, 1) := by decide +kernel
theorem d30_20 : decode jdk_65_method_121_code 20 = .ok (.aload_n 2, 1) := by decide +kernel
theorem d30_21 : decode jdk_65_method_121_code 21 = .ok (.iconst 0, 1) := by decide +kernel
theorem d30_22 : decode jdk_65_method_121_code 22 = .ok (.aload_n 0, 1) := by decide +kernel
theorem d30_23 : decode jdk_65_method_121_code 23 = .ok (.arraylength, 1) := by decide +kernel
theorem d30_24 : decode jdk_65_method_121_code 24 = .ok (.iload_n 1, 1) := by decide +kernel
theorem d30_25 : decode jdk_65_method_121_code 25 = .ok (.invokestatic 304, 3) := by decide +kernel
theorem d30_28 : decode jdk_65_method_121_code 28 = .ok (.invokestatic 150, 3) := by decide +kernel
theorem d30_31 : decode jdk_65_method_121_code 31 = .ok (.aload_n 2, 1) := by decide +kernel
theorem d30_32 : decode jdk_65_method_121_code 32 = .ok (.areturn, 1) := by decide +kernel
theorem pn_3 : plainName "java/util/Arrays" = true := by first | (simp [plainName, overriddenIn]; done) | decide +kernel
theorem ef_30 (m : MethodId) (a1 : Addr) (p2 : Int32) : entryFrame m #[(.ref a1), (.int p2)] 3 = mkF m 0 #[vR a1, vI p2, vU] [] := by first | (simp [entryFrame, mkF, argsToLocals, Value.category]; done) | rfl
def Q30 (Z : State) (a1 : Addr) (p2 : Int32) (k_a1 : ClassId) (n_a1 : Int32) (vs_a1 : List Value) (h0 : Heap) (n0 : Nat) (v : Option Value) (h : Heap) (L : List Loc) : Prop := ∃ (xk : ClassId) (xd : Addr), v = some (.ref xd) ∧ Fr n0 L ∧ Keep h0 h [] ∧ h0.size ≤ xd ∧ Exa Z h xd "[B" ∧ Arv Z h xd xk .byte p2 vs_a1 (.int (0 : Int32))
set_option maxRecDepth 65536 in
set_option maxHeartbeats 40000000 in
theorem rm30 (l : Launch) (Z : State) (a0 : Array Value) (hw : ∀ d ∈ tables_1, d.before a0 Z = true) (ws : List Jvm.Cond) (a1 : Addr) (p2 : Int32) (k_a1 : ClassId) (n_a1 : Int32) (vs_a1 : List Value) (h0 : Heap) (n0 : Nat) (Z0 : n0 ≤ h0.size) (V_a1 : Arv Z h0 a1 k_a1 .byte n_a1 vs_a1 (.int (0 : Int32))) (hq0_1 : n_a1 < p2) (hq0_2 : own_b188 p2) (hq0_3 : own_b188 n_a1) (hq0_4 : own_fit n_a1 vs_a1) :
    MetFree l (⟨"java/util/Arrays", "copyOf", "([BI)[B"⟩ : MethodName) (head1 (Jvm.Cond.code (⟨"java/util/Arrays", "copyOf", "([BI)[B"⟩ : MethodName) jdk_65_method_121_code 3 (some (.array .byte)) :: ws) ({ frames := 1, cells := 1, slots := 194, locals := 18 } : Room)) (fun a U => a = #[(.ref a1), (.int p2)] ∧ Z.Warmed39 U.vm ∧ U.heap = h0) (fun _ _ _ _ _ => True) (fun _ U o U' => ∃ v L, o = .returned v ∧ Q30 Z a1 p2 k_a1 n_a1 vs_a1 h0 n0 v U'.heap L ∧ FrameEnd U o U' L ({ frames := 1, cells := 1, slots := 194, locals := 18 } : Room).cells ({ frames := 1, cells := 1, slots := 194, locals := 18 } : Room).slots) := by
  refine MetFree.of_bodySF (plainFor_of_name pn_3) hisR ?_
  intro p e s m args below meth c s₁ Bd hml0 hP hK
  obtain ⟨rfl, hZ, hh⟩ := hP
  have hx := Bd.exec
  have hby := Bd.bytes
  have hml : c.maxLocals = 3 := hml0
  have hown : s.vm.findClass "java/util/Arrays" = some m.cls := findClass_of_methodNamed Bd.named
  have hnm := (name_of_methodNamed Bd.named Bd.method).1
  have X0 : Stand p l e ({ frames := 1, cells := 1, slots := 194, locals := 18 } : Room) s m #[(.ref a1), (.int p2)] below meth c s₁ [] 0 0 := Stand.of_body Bd
  have e0 : s₁.heap = h0 := by rw [← hh, Bd.state]; rfl
  have N0 := Fr.nil n0
  have pre0 : ∀ t, Steps p.tables e below (s₁.setTop (mkF m 0 #[vR a1, vI p2, vU] [])) t → Steps p.tables e below (s₁.setTop (entryFrame m #[(.ref a1), (.int p2)] 3)) t := fun t k => castTop (ef_30 m a1 p2) k
  obtain ⟨cl3, Ar3, qq3, S3, NN3, -, -⟩ := id V_a1
  have hc3_4 : ¬ (p2 = n_a1) := own_lt_ne hq0_1
  obtain ⟨T5, h5, k5, X5, e5, E5, A5, O5, st5⟩ := newPE X0 hx hZ (own_wi hw 26 rfl) e0 (g := (mkF m 15 #[vR a1, vI p2, vU] [(.int p2)])) rfl (hb hby d30_15) rfl ((own_cap hq0_2).1) (cap := 194) ((own_cap hq0_2).2) (by decide) (by decide) (by decide) (ad := "[B") (by decide)
  obtain ⟨b5, g5⟩ : ∃ z, z = h0.size := ⟨_, rfl⟩
  rw [← g5] at A5 O5 st5
  have ne_a1_b5 : a1 ≠ b5 := Nat.ne_of_lt (Nat.lt_of_lt_of_le V_a1.lt (Nat.le_of_eq g5.symm))
  have g_b5 : n0 ≤ b5 := Nat.le_trans Z0 (Nat.le_of_eq g5.symm)
  have sz_b5 : h0.size ≤ b5 := Nat.le_trans ((Keep.refl h0 [])).1 (Nat.le_of_eq g5.symm)
  have K5 : Keep h0 h5 [] := ((Keep.refl h0 [])).ext E5
  have Z5 : n0 ≤ h5.size := Nat.le_trans Z0 E5.1
  have V_b5 : Arv Z h5 b5 k5 .byte p2 [] (.int (0 : Int32)) := (Arv.new A5 ((own_cap hq0_2).1))
  obtain ⟨cl6, Ar6, qq6, S6, NN6, -, -⟩ := id (V_a1.ext E5)
  obtain ⟨_, _, ⟨T7, L7, k7, n7⟩, -, X7, ⟨Lc7, hQ7, l7, y7, z7⟩, st7⟩ := Jvm.LawKit.callS X5 hx (y := (⟨"java/lang/Math", "min", "(II)I"⟩ : MethodName)) hown (mvT hZ (own_wi hw 173 rfl)) (mvT hZ (own_wi hw 174 rfl)) (mvT hZ (own_wi hw 165 rfl)) (mvT hZ (own_wi hw 175 rfl)) (by decide) (backOf (W := 4) (rm31 l Z a0 hw [] n_a1 p2 h5 n0 Z5 ) hZ (own_wi hw 175 rfl) (own_wi hw 165 rfl) (by decide) (by decide)) (g := (mkF m 25 #[vR a1, vI p2, vR b5] [(.int p2), (.int n_a1), (.int (0 : Int32)), (.ref b5), (.int (0 : Int32)), (.ref a1)])) rfl (by rw [hml]; rfl) (argsL := [(.int n_a1), (.int p2)]) (rest := [(.int (0 : Int32)), (.ref b5), (.int (0 : Int32)), (.ref a1)]) (lenOf pd_1 rfl) rfl (by show 2 * 0 + _ ≤ _; exact Nat.le_of_eq rfl) (hb hby d30_25) (fun _ _ => ⟨rfl, e5, (by decide : 1 + 0 ≤ _), (by decide : 194 + 0 ≤ _)⟩)
  dsimp only [Pt.U, Pt.locs, Pt.cells, Pt.slots] at X7 l7 y7 z7 st7 hQ7
  subst l7 y7 z7
  obtain ⟨rfl, N7q, e7⟩ := hQ7
  have N7 := Fr.app N0 N7q
  obtain ⟨T8, h8, L8, X8, e8, N8, K8q, A8, st8⟩ := own_cp X7 hx hZ hown (own_wi hw 176 rfl) (own_wi hw 127 rfl) (own_wi hw 125 rfl) (own_wi hw 126 rfl) e7 (V_a1.ext E5) V_b5 (us := vs_a1) rfl (rfl) (by have q := own_min n_a1 p2; have r1 := hq0_2; have r2 := hq0_3; unfold own_b188 at r1 r2; omega) (by have q := own_min n_a1 p2; omega) (by have q := own_min n_a1 p2; show ((0 : Nat) : Int) + _ ≤ _; omega) (own_us_all (by have q := own_min n_a1 p2; have r1 := hq0_4; have r2 := hq0_1; unfold own_fit at r1; rw [Int32.lt_iff_toInt_lt] at r2; omega)) N7 g_b5 (g := (mkF m 28 #[vR a1, vI p2, vR b5] [(.int (F31 n_a1 p2)), (.int (0 : Int32)), (.ref b5), (.int (0 : Int32)), (.ref a1)])) rfl (by rw [hml]; rfl) rfl (hb hby d30_28) (by decide) (W := 0) (by show 2 * 0 + _ ≤ _; exact Nat.le_of_eq rfl) (by decide)
  have y9 := ((V_a1.ext E5).keep K8q (ninS ne_a1_b5 nin0))
  have K8 : Keep h0 h8 [] := (K5).trans K8q (allS (P := fun x => x ∈ [] ∨ h0.size ≤ x) (Or.inr sz_b5) all0)
  have Z8 : n0 ≤ h8.size := Nat.le_trans Z5 K8q.1
  obtain ⟨fs, hr, hrun, hended, hW, hsame⟩ := X8.leave (v := some (.ref b5)) (fun h => by rw [Bd.returns] at h; cases h)
  refine ⟨_, _, pre0 _ ?_, hrun, hended, _, _, rfl, ?_, ⟨_, rfl⟩, hW, hsame.mono (by decide) (by decide)⟩
  · show Steps p.tables e below (s₁.setTop (mkF m 0 #[vR a1, vI p2, vU] [])) _
    refine XS.iloadN X0.here hx rfl (hb hby d30_0) rfl ?_
    refine XS.aloadN X0.here hx rfl (hb hby d30_1) rfl rfl ?_
    show Steps p.tables e below (s₁.setTop (mkF m 2 #[vR a1, vI p2, vU] [(.ref a1), (.int p2)])) _
    refine X0.arraylength hx (by rw [e0]; exact Ar3.1) (State.isArrayOf_alike hZ.alike Ar3.2.1) (g := (mkF m 2 #[vR a1, vI p2, vU] [(.ref a1), (.int p2)])) rfl rfl (hb hby d30_2) _ ?_
    rw [len_of S3 NN3]
    show Steps p.tables e below (s₁.setTop (mkF m 3 #[vR a1, vI p2, vU] [(.int n_a1), (.int p2)])) _
    refine XS.icmpYes X0.here hx rfl (pc0 := 3) (pc' := 14) rfl (hb hby d30_3) rfl (feq hc3_4).2 (by decide) (by decide) ?_
    refine XS.iloadN X0.here hx rfl (hb hby d30_14) rfl ?_
    show Steps p.tables e below (s₁.setTop (mkF m 15 #[vR a1, vI p2, vU] [(.int p2)])) _
    refine st5 _ ?_
    show Steps p.tables e below (T5.setTop (mkF m 17 #[vR a1, vI p2, vU] [(.ref b5)])) _
    refine XS.astoreN X5.here hx rfl (hb hby d30_17) rfl rfl (l' := #[vR a1, vI p2, vR b5]) rfl ?_
    refine XS.aloadN X5.here hx rfl (hb hby d30_18) rfl rfl ?_
    refine XS.iconst X5.here hx rfl (hb hby d30_19) ?_
    refine XS.aloadN X5.here hx rfl (hb hby d30_20) rfl rfl ?_
    refine XS.iconst X5.here hx rfl (hb hby d30_21) ?_
    show Steps p.tables e below (T5.setTop (mkF m 22 #[vR a1, vI p2, vR b5] [(.int (0 : Int32)), (.ref b5), (.int (0 : Int32)), (.ref a1)])) _
    refine XS.aloadN X5.here hx rfl (hb hby d30_22) rfl rfl ?_
    show Steps p.tables e below (T5.setTop (mkF m 23 #[vR a1, vI p2, vR b5] [(.ref a1), (.int (0 : Int32)), (.ref b5), (.int (0 : Int32)), (.ref a1)])) _
    refine X5.arraylength hx (by rw [e5]; exact Ar6.1) (State.isArrayOf_alike hZ.alike Ar6.2.1) (g := (mkF m 23 #[vR a1, vI p2, vR b5] [(.ref a1), (.int (0 : Int32)), (.ref b5), (.int (0 : Int32)), (.ref a1)])) rfl rfl (hb hby d30_23) _ ?_
    rw [len_of S6 NN6]
    show Steps p.tables e below (T5.setTop (mkF m 24 #[vR a1, vI p2, vR b5] [(.int n_a1), (.int (0 : Int32)), (.ref b5), (.int (0 : Int32)), (.ref a1)])) _
    refine XS.iloadN X5.here hx rfl (hb hby d30_24) rfl ?_
    show Steps p.tables e below (T5.setTop (mkF m 25 #[vR a1, vI p2, vR b5] [(.int p2), (.int n_a1), (.int (0 : Int32)), (.ref b5), (.int (0 : Int32)), (.ref a1)])) _
    refine st7 _ ?_
    show Steps p.tables e below (T7.setTop (mkF m 28 #[vR a1, vI p2, vR b5] [(.int (F31 n_a1 p2)), (.int (0 : Int32)), (.ref b5), (.int (0 : Int32)), (.ref a1)])) _
    refine st8 _ ?_
    show Steps p.tables e below (T8.setTop (mkF m 31 #[vR a1, vI p2, vR b5] [])) _
    refine XS.aloadN X8.here hx rfl (hb hby d30_31) rfl rfl ?_
    show Steps p.tables e below (T8.setTop (mkF m 32 #[vR a1, vI p2, vR b5] [(.ref b5)])) _
    exact retOut X8 hx Bd.returns rfl (Or.inr (Or.inr (Or.inr (Or.inr ⟨rfl, rfl, rfl⟩)))) (hb hby d30_32) hr
  · show Q30 Z a1 p2 k_a1 n_a1 vs_a1 h0 n0 _ T8.heap _
    rw [e8]
    exact ⟨k5, b5, rfl, N8, (K8), sz_b5, (O5.keep K8q), A8⟩
theorem pd_3 : parseMethodDescriptor "(I)I" = some ⟨[.int], some .int⟩ := by decide +kernel
theorem pd_4 : parseMethodDescriptor "([BI)[B" = some ⟨[(.array .byte), .int], some (.array .byte)⟩ := by decide +kernel
theorem d18_0 : decode jdk_68_method_9_code 0 = .ok (.aload_n 0, 1) := by decide +kernel
theorem d18_1 : decode jdk_68_method_9_code 1 = .ok (.getfield 15, 3) := by decide +kernel
theorem d18_4 : decode jdk_68_method_9_code 4 = .ok (.arraylength, 1) := by decide +kernel
theorem d18_5 : decode jdk_68_method_9_code 5 = .ok (.aload_n 0, 1) := by decide +kernel
theorem d18_6 : decode jdk_68_method_9_code 6 = .ok (.getfield 22, 3) := by decide +kernel
theorem d18_9 : decode jdk_68_method_9_code 9 = .ok (.ishr, 1) := by decide +kernel
theorem d18_10 : decode jdk_68_method_9_code 10 = .ok (.istore_n 2, 1) := by decide +kernel
theorem d18_11 : decode jdk_68_method_9_code 11 = .ok (.iload_n 1, 1) := by decide +kernel
theorem d18_12 : decode jdk_68_method_9_code 12 = .ok (.iload_n 2, 1) := by decide +kernel
theorem d18_13 : decode jdk_68_method_9_code 13 = .ok (.isub, 1) := by decide +kernel
theorem d18_14 : decode jdk_68_method_9_code 14 = .ok (.ifCond .le 24, 3) := by decide +kernel
theorem d18_17 : decode jdk_68_method_9_code 17 = .ok (.aload_n 0, 1) := by decide +kernel
theorem d18_18 : decode jdk_68_method_9_code 18 = .ok (.aload_n 0, 1) := by decide +kernel
theorem d18_19 : decode jdk_68_method_9_code 19 = .ok (.getfield 15, 3) := by decide +kernel
theorem d18_22 : decode jdk_68_method_9_code 22 = .ok (.aload_n 0, 1) := by decide +kernel
theorem d18_23 : decode jdk_68_method_9_code 23 = .ok (.iload_n 1, 1) := by decide +kernel
theorem d18_24 : decode jdk_68_method_9_code 24 = .ok (.invokevirtual 104, 3) := by decide +kernel
theorem d18_27 : decode jdk_68_method_9_code 27 = .ok (.aload_n 0, 1) := by decide +kernel
theorem d18_28 : decode jdk_68_method_9_code 28 = .ok (.getfield 22, 3) := by decide +kernel
theorem d18_31 : decode jdk_68_method_9_code 31 = .ok (.ishl, 1) := by decide +kernel
theorem d18_32 : decode jdk_68_method_9_code 32 = .ok (.invokestatic 108, 3) := by decide +kernel
theorem d18_35 : decode jdk_68_method_9_code 35 = .ok (.putfield 15, 3) := by decide +kernel
theorem d18_38 : decode jdk_68_method_9_code 38 = .ok (.return_, 1) := by decide +kernel
theorem ef_18 (m : MethodId) (a1 : Addr) (p2 : Int32) : entryFrame m #[(.ref a1), (.int p2)] 3 = mkF m 0 #[vR a1, vI p2, vU] [] := by first | (simp [entryFrame, mkF, argsToLocals, Value.category]; done) | rfl
def Q18 (Z : State) (a1 : Addr) (p2 : Int32) (w_value_a1 : Addr) (w_count_a1 : Int32) (k_w_value_a1 : ClassId) (n_w_value_a1 : Int32) (vs_w_value_a1 : List Value) (h0 : Heap) (n0 : Nat) (v : Option Value) (h : Heap) (L : List Loc) : Prop := ∃ (xd : Addr) (xk : ClassId) (xz : Int32), v = none ∧ Fr n0 L ∧ Keep h0 h [a1] ∧ Exa Z h a1 "java/lang/StringBuilder" ∧ Fld Z h a1 "java/lang/AbstractStringBuilder" "value" "[B" (.ref xd) ∧ Fld Z h a1 "java/lang/AbstractStringBuilder" "coder" "B" (.int (0 : Int32)) ∧ Fld Z h a1 "java/lang/AbstractStringBuilder" "count" "I" (.int w_count_a1) ∧ Exa Z h xd "[B" ∧ Arv Z h xd xk .byte xz vs_w_value_a1 (.int (0 : Int32)) ∧ (xd = w_value_a1 ∨ h0.size ≤ xd) ∧ (p2.toInt ≤ xz.toInt ∧ xz.toInt ≤ 194)
set_option maxRecDepth 65536 in
set_option maxHeartbeats 40000000 in
theorem rm18 (l : Launch) (Z : State) (a0 : Array Value) (hw : ∀ d ∈ tables_1, d.before a0 Z = true) (ws : List Jvm.Cond) (a1 : Addr) (p2 : Int32) (w_value_a1 : Addr) (w_count_a1 : Int32) (k_w_value_a1 : ClassId) (n_w_value_a1 : Int32) (vs_w_value_a1 : List Value) (h0 : Heap) (n0 : Nat) (Z0 : n0 ≤ h0.size) (E_a1 : Exa Z h0 a1 "java/lang/StringBuilder") (F_value_a1 : Fld Z h0 a1 "java/lang/AbstractStringBuilder" "value" "[B" (.ref w_value_a1)) (F_coder_a1 : Fld Z h0 a1 "java/lang/AbstractStringBuilder" "coder" "B" (.int (0 : Int32))) (F_count_a1 : Fld Z h0 a1 "java/lang/AbstractStringBuilder" "count" "I" (.int w_count_a1)) (V_w_value_a1 : Arv Z h0 w_value_a1 k_w_value_a1 .byte n_w_value_a1 vs_w_value_a1 (.int (0 : Int32))) (E_w_value_a1 : Exa Z h0 w_value_a1 "[B") (hq0_6 : own_b94 p2) (hq0_7 : own_b188 n_w_value_a1) (hq0_8 : own_fit n_w_value_a1 vs_w_value_a1) (g_a1 : n0 ≤ a1) (ne_w_value_a1_a1 : w_value_a1 ≠ a1) :
    MetFree l (⟨"java/lang/AbstractStringBuilder", "ensureCapacityInternal", "(I)V"⟩ : MethodName) (head1 (Jvm.Cond.code (⟨"java/lang/AbstractStringBuilder", "ensureCapacityInternal", "(I)V"⟩ : MethodName) jdk_68_method_9_code 3 none :: ws) ({ frames := 3, cells := 1, slots := 194, locals := 48 } : Room)) (fun a U => a = #[(.ref a1), (.int p2)] ∧ Z.Warmed39 U.vm ∧ U.heap = h0) (fun _ _ _ _ _ => True) (fun _ U o U' => ∃ v L, o = .returned v ∧ Q18 Z a1 p2 w_value_a1 w_count_a1 k_w_value_a1 n_w_value_a1 vs_w_value_a1 h0 n0 v U'.heap L ∧ FrameEnd U o U' L ({ frames := 3, cells := 1, slots := 194, locals := 48 } : Room).cells ({ frames := 3, cells := 1, slots := 194, locals := 48 } : Room).slots) := by
  refine MetFree.of_bodySF (plainFor_of_name pn_2) hisR ?_
  intro p e s m args below meth c s₁ Bd hml0 hP hK
  obtain ⟨rfl, hZ, hh⟩ := hP
  have hx := Bd.exec
  have hby := Bd.bytes
  have hml : c.maxLocals = 3 := hml0
  have hown : s.vm.findClass "java/lang/AbstractStringBuilder" = some m.cls := findClass_of_methodNamed Bd.named
  have hnm := (name_of_methodNamed Bd.named Bd.method).1
  have X0 : Stand p l e ({ frames := 3, cells := 1, slots := 194, locals := 48 } : Room) s m #[(.ref a1), (.int p2)] below meth c s₁ [] 0 0 := Stand.of_body Bd
  have e0 : s₁.heap = h0 := by rw [← hh, Bd.state]; rfl
  have N0 := Fr.nil n0
  have pre0 : ∀ t, Steps p.tables e below (s₁.setTop (mkF m 0 #[vR a1, vI p2, vU] [])) t → Steps p.tables e below (s₁.setTop (entryFrame m #[(.ref a1), (.int p2)] 3)) t := fun t k => castTop (ef_18 m a1 p2) k
  obtain ⟨T3, X3, e3, st3⟩ := getF X0 hx hZ hown (host := "") (Or.inl (own_wi hw 74 rfl)) Via.refl e0 F_value_a1 (g := (mkF m 1 #[vR a1, vI p2, vU] [(.ref a1)])) rfl rfl (hb hby d18_1)
  obtain ⟨cl4, Ar4, qq4, S4, NN4, -, -⟩ := id V_w_value_a1
  obtain ⟨T5, X5, e5, st5⟩ := getF X3 hx hZ hown (host := "") (Or.inl (own_wi hw 76 rfl)) Via.refl e3 F_coder_a1 (g := (mkF m 6 #[vR a1, vI p2, vU] [(.ref a1), (.int n_w_value_a1)])) rfl rfl (hb hby d18_6)
  have pre7 : ∀ t, Steps p.tables e below (T5.setTop (mkF m 14 #[vR a1, vI p2, vI (n_w_value_a1 >>> ((0 : Int32) &&& 31))] [(.int (p2 - (n_w_value_a1 >>> ((0 : Int32) &&& 31))))])) t → Steps p.tables e below (s₁.setTop (entryFrame m #[(.ref a1), (.int p2)] 3)) t := fun t kt => pre0 t (by
    show Steps p.tables e below (s₁.setTop (mkF m 0 #[vR a1, vI p2, vU] [])) _
    refine XS.aloadN X0.here hx rfl (hb hby d18_0) rfl rfl ?_
    show Steps p.tables e below (s₁.setTop (mkF m 1 #[vR a1, vI p2, vU] [(.ref a1)])) _
    refine st3 _ ?_
    show Steps p.tables e below (T3.setTop (mkF m 4 #[vR a1, vI p2, vU] [(.ref w_value_a1)])) _
    refine X3.arraylength hx (by rw [e3]; exact Ar4.1) (State.isArrayOf_alike hZ.alike Ar4.2.1) (g := (mkF m 4 #[vR a1, vI p2, vU] [(.ref w_value_a1)])) rfl rfl (hb hby d18_4) _ ?_
    rw [len_of S4 NN4]
    show Steps p.tables e below (T3.setTop (mkF m 5 #[vR a1, vI p2, vU] [(.int n_w_value_a1)])) _
    refine XS.aloadN X3.here hx rfl (hb hby d18_5) rfl rfl ?_
    show Steps p.tables e below (T3.setTop (mkF m 6 #[vR a1, vI p2, vU] [(.ref a1), (.int n_w_value_a1)])) _
    refine st5 _ ?_
    show Steps p.tables e below (T5.setTop (mkF m 9 #[vR a1, vI p2, vU] [(.int (0 : Int32)), (.int n_w_value_a1)])) _
    refine XS.ishr X5.here hx rfl (hb hby d18_9) rfl ?_
    refine XS.istoreN X5.here hx rfl (hb hby d18_10) rfl (l' := #[vR a1, vI p2, vI (n_w_value_a1 >>> ((0 : Int32) &&& 31))]) rfl ?_
    refine XS.iloadN X5.here hx rfl (hb hby d18_11) rfl ?_
    refine XS.iloadN X5.here hx rfl (hb hby d18_12) rfl ?_
    refine XS.isub X5.here hx rfl (hb hby d18_13) rfl ?_
    show Steps p.tables e below (T5.setTop (mkF m 14 #[vR a1, vI p2, vI (n_w_value_a1 >>> ((0 : Int32) &&& 31))] [(.int (p2 - (n_w_value_a1 >>> ((0 : Int32) &&& 31))))])) _
    exact kt)
  by_cases hc14_6 : (0 : Int32) < (p2 - (n_w_value_a1 >>> ((0 : Int32) &&& 31)))
  · obtain ⟨T8, X8, e8, st8⟩ := getF X5 hx hZ hown (host := "") (Or.inl (own_wi hw 74 rfl)) Via.refl e5 F_value_a1 (g := (mkF m 19 #[vR a1, vI p2, vI (n_w_value_a1 >>> ((0 : Int32) &&& 31))] [(.ref a1), (.ref a1)])) rfl rfl (hb hby d18_19)
    obtain ⟨cq9, q9, q9'⟩ := E_a1.cell
    obtain ⟨_, _, ⟨T9, L9, k9, n9⟩, -, X9, ⟨Lc9, hQ9, l9, y9, z9⟩, st9⟩ := X8.privateBack hx (y := (⟨"java/lang/AbstractStringBuilder", "newCapacity", "(I)I"⟩ : MethodName)) hown (mvT hZ (own_wi hw 154 rfl)) (mvT hZ (own_wi hw 155 rfl)) (own_selq (args' := #[]) (w := (⟨"java/lang/AbstractStringBuilder", "ensureCapacityInternal", "(I)V"⟩ : MethodName)) (mvT hZ (own_wi hw 106 rfl)) rfl (Cond.privateMethod_at (mvP hZ (own_wi hw 156 rfl) (args := #[]))) (mvT hZ (own_wi hw 155 rfl)) (by decide)) (Cond.privateMethod_at (mvP hZ (own_wi hw 156 rfl) (args := #[]))) (mvT hZ (own_wi hw 158 rfl)) (by decide) (backOf (W := 2) (rm27 l Z a0 hw [] a1 p2 w_value_a1 w_count_a1 k_w_value_a1 n_w_value_a1 vs_w_value_a1 h0 n0 Z0 E_a1 F_value_a1 F_coder_a1 F_count_a1 V_w_value_a1 (show n_w_value_a1 < p2 from own_lt_sub hc14_6 hq0_6 hq0_7) hq0_6 hq0_7) hZ (own_wi hw 158 rfl) (own_wi hw 70 rfl) (by decide) (by decide)) (g := (mkF m 24 #[vR a1, vI p2, vI (n_w_value_a1 >>> ((0 : Int32) &&& 31))] [(.int p2), (.ref a1), (.ref w_value_a1), (.ref a1)])) rfl (by rw [hml]; rfl) (Steps.refl _) (a := a1) (by rw [e8]; exact q9) q9' (argsL := [(.int p2)]) (rest := [(.ref w_value_a1), (.ref a1)]) (lenOf pd_3 rfl) rfl (by show 2 * 0 + _ ≤ _; exact Nat.le_of_eq rfl) (hb hby d18_24) (fun _ _ => ⟨rfl, e8, (by decide : 0 + 0 ≤ _), (by decide : 0 + 0 ≤ _)⟩)
    dsimp only [Pt.U, Pt.locs, Pt.cells, Pt.slots] at X9 l9 y9 z9 st9 hQ9
    subst l9 y9 z9
    obtain ⟨rfl, N9q, e9⟩ := hQ9
    have N9 := Fr.app N0 N9q
    obtain ⟨T10, X10, e10, st10⟩ := getF X9 hx hZ hown (host := "") (Or.inl (own_wi hw 76 rfl)) Via.refl e9 F_coder_a1 (g := (mkF m 28 #[vR a1, vI p2, vI (n_w_value_a1 >>> ((0 : Int32) &&& 31))] [(.ref a1), (.int (own_newcap n_w_value_a1 p2)), (.ref w_value_a1), (.ref a1)])) rfl rfl (hb hby d18_28)
    obtain ⟨_, _, ⟨T11, L11, k11, n11⟩, -, X11, ⟨Lc11, hQ11, l11, y11, z11⟩, st11⟩ := Jvm.LawKit.callS X10 hx (y := (⟨"java/util/Arrays", "copyOf", "([BI)[B"⟩ : MethodName)) hown (mvT hZ (own_wi hw 169 rfl)) (mvT hZ (own_wi hw 170 rfl)) (mvT hZ (own_wi hw 171 rfl)) (mvT hZ (own_wi hw 172 rfl)) (by decide) (backOf (W := 1) (rm30 l Z a0 hw [] w_value_a1 ((own_newcap n_w_value_a1 p2) <<< ((0 : Int32) &&& 31)) k_w_value_a1 n_w_value_a1 vs_w_value_a1 h0 n0 Z0 V_w_value_a1 (show n_w_value_a1 < ((own_newcap n_w_value_a1 p2) <<< ((0 : Int32) &&& 31)) from (own_grow_d (own_lt_sub hc14_6 hq0_6 hq0_7) hq0_6 hq0_7).1) (show own_b188 ((own_newcap n_w_value_a1 p2) <<< ((0 : Int32) &&& 31)) from (own_grow_d (own_lt_sub hc14_6 hq0_6 hq0_7) hq0_6 hq0_7).2.1) hq0_7 hq0_8) hZ (own_wi hw 172 rfl) (own_wi hw 171 rfl) (by decide) (by decide)) (g := (mkF m 32 #[vR a1, vI p2, vI (n_w_value_a1 >>> ((0 : Int32) &&& 31))] [(.int ((own_newcap n_w_value_a1 p2) <<< ((0 : Int32) &&& 31))), (.ref w_value_a1), (.ref a1)])) rfl (by rw [hml]; rfl) (argsL := [(.ref w_value_a1), (.int ((own_newcap n_w_value_a1 p2) <<< ((0 : Int32) &&& 31)))]) (rest := [(.ref a1)]) (lenOf pd_4 rfl) rfl (by show 2 * 0 + _ ≤ _; exact Nat.le_of_eq rfl) (hb hby d18_32) (fun _ _ => ⟨rfl, e10, (by decide : 0 + 1 ≤ _), (by decide : 0 + 194 ≤ _)⟩)
    dsimp only [Pt.U, Pt.locs, Pt.cells, Pt.slots] at X11 l11 y11 z11 st11 hQ11
    subst l11 y11 z11
    obtain ⟨x11_0, z11_0, rfl, N11q, K11q, f11_0, f11_1, f11_2⟩ := hQ11
    have ne_a1_z11_0 : a1 ≠ z11_0 := Nat.ne_of_lt (Nat.lt_of_lt_of_le E_a1.lt f11_0)
    have ne_w_value_a1_z11_0 : w_value_a1 ≠ z11_0 := Nat.ne_of_lt (Nat.lt_of_lt_of_le V_w_value_a1.lt f11_0)
    have g_z11_0 : n0 ≤ z11_0 := Nat.le_trans Z0 f11_0
    have sz_z11_0 : h0.size ≤ z11_0 := Nat.le_trans ((Keep.refl h0 [a1])).1 f11_0
    have K11 : Keep h0 T11.heap [a1] := ((Keep.refl h0 [a1])).trans K11q all0
    have Z11 : n0 ≤ T11.heap.size := Nat.le_trans Z0 K11q.1
    have N11 := Fr.app N9 N11q
    obtain ⟨T12, h12, X12, e12, W12, st12⟩ := putF X11 hx hZ hown (host := "") (Or.inl (own_wi hw 74 rfl)) Via.refl rfl (F_value_a1.keep K11q nin0) (E_a1.keep K11q) (Or.inl (own_wi hw 75 rfl)) (own_wi hw 61 rfl) (ty := (.array .byte)) (by decide) rfl rfl (g := (mkF m 35 #[vR a1, vI p2, vI (n_w_value_a1 >>> ((0 : Int32) &&& 31))] [(.ref z11_0), (.ref a1)])) rfl rfl (hb hby d18_35)
    have N12 := Fr.snoc X12 N11 g_a1
    have y13 := ((F_coder_a1.keep K11q nin0).other W12 (Or.inr (slot_ne (Or.inl (own_wi hw 77 rfl)) (Or.inl (own_wi hw 75 rfl)) (by decide) (t := .byte) (t' := (.array .byte)) (by decide) (by decide))))
    have y14 := ((F_count_a1.keep K11q nin0).other W12 (Or.inr (slot_ne (Or.inl (own_wi hw 102 rfl)) (Or.inl (own_wi hw 75 rfl)) (by decide) (t := .int) (t' := (.array .byte)) (by decide) (by decide))))
    have y15 := ((V_w_value_a1.keep K11q nin0).other W12 ne_w_value_a1_a1)
    have K12 : Keep h0 h12 [a1] := (K11).wr W12 (Or.inl (List.mem_of_getElem? (i := 0) rfl))
    have Z12 : n0 ≤ h12.size := Nat.le_trans Z11 (Keep.of_wr W12).1
    obtain ⟨fs, hr, hrun, hended, hW, hsame⟩ := X12.leave (v := none) (fun _ => rfl)
    refine ⟨_, _, pre7 _ ?_, hrun, hended, _, _, rfl, ?_, ⟨_, rfl⟩, hW, hsame.mono (by decide) (by decide)⟩
    · show Steps p.tables e below (T5.setTop (mkF m 14 #[vR a1, vI p2, vI (n_w_value_a1 >>> ((0 : Int32) &&& 31))] [(.int (p2 - (n_w_value_a1 >>> ((0 : Int32) &&& 31))))])) _
      refine XS.ifNo X5.here hx rfl (hb hby d18_14) rfl ((if0 _ _).trans (tlt hc14_6).2.2.2) ?_
      refine XS.aloadN X5.here hx rfl (hb hby d18_17) rfl rfl ?_
      refine XS.aloadN X5.here hx rfl (hb hby d18_18) rfl rfl ?_
      show Steps p.tables e below (T5.setTop (mkF m 19 #[vR a1, vI p2, vI (n_w_value_a1 >>> ((0 : Int32) &&& 31))] [(.ref a1), (.ref a1)])) _
      refine st8 _ ?_
      show Steps p.tables e below (T8.setTop (mkF m 22 #[vR a1, vI p2, vI (n_w_value_a1 >>> ((0 : Int32) &&& 31))] [(.ref w_value_a1), (.ref a1)])) _
      refine XS.aloadN X8.here hx rfl (hb hby d18_22) rfl rfl ?_
      refine XS.iloadN X8.here hx rfl (hb hby d18_23) rfl ?_
      show Steps p.tables e below (T8.setTop (mkF m 24 #[vR a1, vI p2, vI (n_w_value_a1 >>> ((0 : Int32) &&& 31))] [(.int p2), (.ref a1), (.ref w_value_a1), (.ref a1)])) _
      refine st9.trans ?_
      show Steps p.tables e below (T9.setTop (mkF m 27 #[vR a1, vI p2, vI (n_w_value_a1 >>> ((0 : Int32) &&& 31))] [(.int (own_newcap n_w_value_a1 p2)), (.ref w_value_a1), (.ref a1)])) _
      refine XS.aloadN X9.here hx rfl (hb hby d18_27) rfl rfl ?_
      show Steps p.tables e below (T9.setTop (mkF m 28 #[vR a1, vI p2, vI (n_w_value_a1 >>> ((0 : Int32) &&& 31))] [(.ref a1), (.int (own_newcap n_w_value_a1 p2)), (.ref w_value_a1), (.ref a1)])) _
      refine st10 _ ?_
      show Steps p.tables e below (T10.setTop (mkF m 31 #[vR a1, vI p2, vI (n_w_value_a1 >>> ((0 : Int32) &&& 31))] [(.int (0 : Int32)), (.int (own_newcap n_w_value_a1 p2)), (.ref w_value_a1), (.ref a1)])) _
      refine XS.ishl X10.here hx rfl (hb hby d18_31) rfl ?_
      show Steps p.tables e below (T10.setTop (mkF m 32 #[vR a1, vI p2, vI (n_w_value_a1 >>> ((0 : Int32) &&& 31))] [(.int ((own_newcap n_w_value_a1 p2) <<< ((0 : Int32) &&& 31))), (.ref w_value_a1), (.ref a1)])) _
      refine st11 _ ?_
      show Steps p.tables e below (T11.setTop (mkF m 35 #[vR a1, vI p2, vI (n_w_value_a1 >>> ((0 : Int32) &&& 31))] [(.ref z11_0), (.ref a1)])) _
      refine st12 _ ?_
      show Steps p.tables e below (T12.setTop (mkF m 38 #[vR a1, vI p2, vI (n_w_value_a1 >>> ((0 : Int32) &&& 31))] [])) _
      exact X12.returnOut hx Bd.returns (hb hby d18_38) hr
    · show Q18 Z a1 p2 w_value_a1 w_count_a1 k_w_value_a1 n_w_value_a1 vs_w_value_a1 h0 n0 _ T12.heap _
      rw [e12]
      exact ⟨z11_0, x11_0, ((own_newcap n_w_value_a1 p2) <<< ((0 : Int32) &&& 31)), rfl, N12, (K12), ((E_a1.keep K11q).wr W12), ((F_value_a1.keep K11q nin0).same W12), y13, y14, (f11_1.wr W12), (f11_2.other W12 (Ne.symm ne_a1_z11_0)), Or.inr sz_z11_0, ⟨(own_grow_d (own_lt_sub hc14_6 hq0_6 hq0_7) hq0_6 hq0_7).2.2, (own_grow_d (own_lt_sub hc14_6 hq0_6 hq0_7) hq0_6 hq0_7).2.1.2⟩⟩
  · obtain ⟨fs, hr, hrun, hended, hW, hsame⟩ := X5.leave (v := none) (fun _ => rfl)
    refine ⟨_, _, pre7 _ ?_, hrun, hended, _, _, rfl, ?_, ⟨_, rfl⟩, hW, hsame.mono (by decide) (by decide)⟩
    · show Steps p.tables e below (T5.setTop (mkF m 14 #[vR a1, vI p2, vI (n_w_value_a1 >>> ((0 : Int32) &&& 31))] [(.int (p2 - (n_w_value_a1 >>> ((0 : Int32) &&& 31))))])) _
      refine XS.ifYes X5.here hx rfl (pc0 := 14) (pc' := 38) rfl (hb hby d18_14) rfl ((if0 _ _).trans (flt hc14_6).2.2.2) (by decide) (by decide) ?_
      show Steps p.tables e below (T5.setTop (mkF m 38 #[vR a1, vI p2, vI (n_w_value_a1 >>> ((0 : Int32) &&& 31))] [])) _
      exact X5.returnOut hx Bd.returns (hb hby d18_38) hr
    · show Q18 Z a1 p2 w_value_a1 w_count_a1 k_w_value_a1 n_w_value_a1 vs_w_value_a1 h0 n0 _ T5.heap _
      rw [e5]
      exact ⟨w_value_a1, k_w_value_a1, n_w_value_a1, rfl, N0, ((Keep.refl h0 [a1])), E_a1, F_value_a1, F_coder_a1, F_count_a1, E_w_value_a1, V_w_value_a1, Or.inl rfl, own_le_sub hc14_6 hq0_6 hq0_7⟩
theorem d20_0 : decode jdk_68_method_71_code 0 = .ok (.getstatic 18, 3) := by decide +kernel
theorem d20_3 : decode jdk_68_method_71_code 3 = .ok (.ifCond .eq 18, 3) := by decide +kernel
theorem d20_6 : decode jdk_68_method_71_code 6 = .ok (.aload_n 0, 1) := by decide +kernel
theorem d20_7 : decode jdk_68_method_71_code 7 = .ok (.getfield 22, 3) := by decide +kernel
theorem d20_10 : decode jdk_68_method_71_code 10 = .ok (.aload_n 1, 1) := by decide +kernel
theorem d20_11 : decode jdk_68_method_71_code 11 = .ok (.invokevirtual 40, 3) := by decide +kernel
theorem d20_14 : decode jdk_68_method_71_code 14 = .ok (.if_icmp .eq 7, 3) := by decide +kernel
theorem d20_21 : decode jdk_68_method_71_code 21 = .ok (.return_, 1) := by decide +kernel
theorem ef_20 (m : MethodId) (a1 : Addr) (a2 : Addr) : entryFrame m #[(.ref a1), (.ref a2)] 2 = mkF m 0 #[vR a1, vR a2] [] := by first | (simp [entryFrame, mkF, argsToLocals, Value.category]; done) | rfl
def Q20 (Z : State) (a1 : Addr) (a2 : Addr) (st_COMPACT_STRINGS : Int32) (h0 : Heap) (n0 : Nat) (v : Option Value) (h : Heap) (L : List Loc) : Prop := v = none ∧ Fr n0 L ∧ h = h0
set_option maxRecDepth 65536 in
set_option maxHeartbeats 40000000 in
theorem rm20 (l : Launch) (Z : State) (a0 : Array Value) (hw : ∀ d ∈ tables_1, d.before a0 Z = true) (ws : List Jvm.Cond) (a1 : Addr) (a2 : Addr) (st_COMPACT_STRINGS : Int32) (h0 : Heap) (n0 : Nat) (Z0 : n0 ≤ h0.size) (E_a1 : Exa Z h0 a1 "java/lang/StringBuilder") (F_coder_a1 : Fld Z h0 a1 "java/lang/AbstractStringBuilder" "coder" "B" (.int (0 : Int32))) (E_a2 : Exa Z h0 a2 "java/lang/String") (F_coder_a2 : Fld Z h0 a2 "java/lang/String" "coder" "B" (.int (0 : Int32))) (S_COMPACT_STRINGS : Sta Z h0 "java/lang/String" "COMPACT_STRINGS" "Z" (.int st_COMPACT_STRINGS)) (hc3 : ¬ (st_COMPACT_STRINGS = (0 : Int32))) :
    MetFree l (⟨"java/lang/AbstractStringBuilder", "inflateIfNeededFor", "(Ljava/lang/String;)V"⟩ : MethodName) (head1 (Jvm.Cond.code (⟨"java/lang/AbstractStringBuilder", "inflateIfNeededFor", "(Ljava/lang/String;)V"⟩ : MethodName) jdk_68_method_71_code 2 none :: ws) ({ frames := 1, cells := 0, slots := 0, locals := 13 } : Room)) (fun a U => a = #[(.ref a1), (.ref a2)] ∧ Z.Warmed39 U.vm ∧ U.heap = h0) (fun _ _ _ _ _ => True) (fun _ U o U' => ∃ v L, o = .returned v ∧ Q20 Z a1 a2 st_COMPACT_STRINGS h0 n0 v U'.heap L ∧ FrameEnd U o U' L ({ frames := 1, cells := 0, slots := 0, locals := 13 } : Room).cells ({ frames := 1, cells := 0, slots := 0, locals := 13 } : Room).slots) := by
  refine MetFree.of_bodySF (plainFor_of_name pn_2) hisR ?_
  intro p e s m args below meth c s₁ Bd hml0 hP hK
  obtain ⟨rfl, hZ, hh⟩ := hP
  have hx := Bd.exec
  have hby := Bd.bytes
  have hml : c.maxLocals = 2 := hml0
  have hown : s.vm.findClass "java/lang/AbstractStringBuilder" = some m.cls := findClass_of_methodNamed Bd.named
  have hnm := (name_of_methodNamed Bd.named Bd.method).1
  have X0 : Stand p l e ({ frames := 1, cells := 0, slots := 0, locals := 13 } : Room) s m #[(.ref a1), (.ref a2)] below meth c s₁ [] 0 0 := Stand.of_body Bd
  have e0 : s₁.heap = h0 := by rw [← hh, Bd.state]; rfl
  have N0 := Fr.nil n0
  have pre0 : ∀ t, Steps p.tables e below (s₁.setTop (mkF m 0 #[vR a1, vR a2] [])) t → Steps p.tables e below (s₁.setTop (entryFrame m #[(.ref a1), (.ref a2)] 2)) t := fun t k => castTop (ef_20 m a1 a2) k
  obtain ⟨T3, X3, e3, st3⟩ := getS2 X0 hx hZ hown (host := "") (Or.inl (own_wi hw 73 rfl)) Via.refl e0 S_COMPACT_STRINGS (g := (mkF m 0 #[vR a1, vR a2] [])) rfl (hb hby d20_0)
  obtain ⟨T4, X4, e4, st4⟩ := getF X3 hx hZ hown (host := "") (Or.inl (own_wi hw 76 rfl)) Via.refl e3 F_coder_a1 (g := (mkF m 7 #[vR a1, vR a2] [(.ref a1)])) rfl rfl (hb hby d20_7)
  obtain ⟨cq5, kq5, q5a, q5b, q5c⟩ := isOf hZ e4 E_a2
  obtain ⟨_, _, ⟨T5, L5, k5, n5⟩, -, X5, ⟨Lc5, hQ5, l5, y5, z5⟩, st5⟩ := X4.virtualBack hx (y := (⟨"java/lang/String", "coder", "()B"⟩ : MethodName)) (z := (⟨"java/lang/String", "coder", "()B"⟩ : MethodName)) hown (mvT hZ (own_wi hw 118 rfl)) (mvT hZ (own_wi hw 97 rfl)) (notFace_of_selects (args := #[]) (mvT hZ (own_wi hw 99 rfl))) (mvT hZ (own_wi hw 99 rfl)) (mvT hZ (own_wi hw 98 rfl)) (by decide) (backOf (W := 1) (rm17 l Z a0 hw [] a2 st_COMPACT_STRINGS h0 n0 Z0 S_COMPACT_STRINGS hc3 F_coder_a2) hZ (own_wi hw 100 rfl) (own_wi hw 10 rfl) (by decide) (by decide)) q5a q5c (g := (mkF m 11 #[vR a1, vR a2] [(.ref a2), (.int (0 : Int32))])) rfl (by rw [hml]; rfl) (Steps.refl _) (argsL := []) (rest := [(.int (0 : Int32))]) (lenOf pd_0 rfl) rfl (by show 2 * 0 + _ ≤ _; exact Nat.le_of_eq rfl) (hb hby d20_11) (fun _ _ => ⟨rfl, e4, (by decide : 0 + 0 ≤ _), (by decide : 0 + 0 ≤ _)⟩)
  dsimp only [Pt.U, Pt.locs, Pt.cells, Pt.slots] at X5 l5 y5 z5 st5 hQ5
  subst l5 y5 z5
  obtain ⟨rfl, N5q, e5⟩ := hQ5
  have N5 := Fr.app N0 N5q
  obtain ⟨fs, hr, hrun, hended, hW, hsame⟩ := X5.leave (v := none) (fun _ => rfl)
  refine ⟨_, _, pre0 _ ?_, hrun, hended, _, _, rfl, ?_, ⟨_, rfl⟩, hW, hsame.mono (by decide) (by decide)⟩
  · show Steps p.tables e below (s₁.setTop (mkF m 0 #[vR a1, vR a2] [])) _
    refine st3 _ ?_
    show Steps p.tables e below (T3.setTop (mkF m 3 #[vR a1, vR a2] [(.int st_COMPACT_STRINGS)])) _
    refine XS.ifNo X3.here hx rfl (hb hby d20_3) rfl ((if0 _ _).trans (feq hc3).1) ?_
    refine XS.aloadN X3.here hx rfl (hb hby d20_6) rfl rfl ?_
    show Steps p.tables e below (T3.setTop (mkF m 7 #[vR a1, vR a2] [(.ref a1)])) _
    refine st4 _ ?_
    show Steps p.tables e below (T4.setTop (mkF m 10 #[vR a1, vR a2] [(.int (0 : Int32))])) _
    refine XS.aloadN X4.here hx rfl (hb hby d20_10) rfl rfl ?_
    show Steps p.tables e below (T4.setTop (mkF m 11 #[vR a1, vR a2] [(.ref a2), (.int (0 : Int32))])) _
    refine st5.trans ?_
    show Steps p.tables e below (T5.setTop (mkF m 14 #[vR a1, vR a2] [(.int (0 : Int32)), (.int (0 : Int32))])) _
    refine XS.icmpYes X5.here hx rfl (pc0 := 14) (pc' := 21) rfl (hb hby d20_14) rfl (teq (by decide : (0 : Int32) = (0 : Int32))).1 (by decide) (by decide) ?_
    show Steps p.tables e below (T5.setTop (mkF m 21 #[vR a1, vR a2] [])) _
    exact X5.returnOut hx Bd.returns (hb hby d20_21) hr
  · show Q20 Z a1 a2 st_COMPACT_STRINGS h0 n0 _ T5.heap _
    rw [e5]
    exact ⟨rfl, N5, rfl⟩
theorem d21_0 : decode jdk_42_method_147_code 0 = .ok (.aload_n 0, 1) := by decide +kernel
theorem d21_1 : decode jdk_42_method_147_code 1 = .ok (.invokevirtual 335, 3) := by decide +kernel
theorem d21_4 : decode jdk_42_method_147_code 4 = .ok (.iload_n 3, 1) := by decide +kernel
theorem d21_5 : decode jdk_42_method_147_code 5 = .ok (.if_icmp .ne 23, 3) := by decide +kernel
theorem d21_8 : decode jdk_42_method_147_code 8 = .ok (.aload_n 0, 1) := by decide +kernel
theorem d21_9 : decode jdk_42_method_147_code 9 = .ok (.getfield 9, 3) := by decide +kernel
theorem d21_12 : decode jdk_42_method_147_code 12 = .ok (.iconst 0, 1) := by decide +kernel
theorem d21_13 : decode jdk_42_method_147_code 13 = .ok (.aload_n 1, 1) := by decide +kernel
theorem d21_14 : decode jdk_42_method_147_code 14 = .ok (.iload_n 2, 1) := by decide +kernel
theorem d21_15 : decode jdk_42_method_147_code 15 = .ok (.iload_n 3, 1) := by decide +kernel
theorem d21_16 : decode jdk_42_method_147_code 16 = .ok (.ishl, 1) := by decide +kernel
theorem d21_17 : decode jdk_42_method_147_code 17 = .ok (.aload_n 0, 1) := by decide +kernel
theorem d21_18 : decode jdk_42_method_147_code 18 = .ok (.getfield 9, 3) := by decide +kernel
theorem d21_21 : decode jdk_42_method_147_code 21 = .ok (.arraylength, 1) := by decide +kernel
theorem d21_22 : decode jdk_42_method_147_code 22 = .ok (.invokestatic 212, 3) := by decide +kernel
theorem d21_25 : decode jdk_42_method_147_code 25 = .ok (.goto 18, 3) := by decide +kernel
theorem d21_43 : decode jdk_42_method_147_code 43 = .ok (.return_, 1) := by decide +kernel
theorem ef_21 (m : MethodId) (a1 : Addr) (a2 : Addr) (p3 : Int32) : entryFrame m #[(.ref a1), (.ref a2), (.int p3), (.int (0 : Int32))] 4 = mkF m 0 #[vR a1, vR a2, vI p3, vI (0 : Int32)] [] := by first | (simp [entryFrame, mkF, argsToLocals, Value.category]; done) | rfl
def Q21 (Z : State) (a1 : Addr) (a2 : Addr) (p3 : Int32) (w_value_a1 : Addr) (k_w_value_a1 : ClassId) (n_w_value_a1 : Int32) (vs_w_value_a1 : List Value) (k_a2 : ClassId) (n_a2 : Int32) (vs_a2 : List Value) (st_COMPACT_STRINGS : Int32) (h0 : Heap) (n0 : Nat) (v : Option Value) (h : Heap) (L : List Loc) : Prop := v = none ∧ Fr n0 L ∧ Keep h0 h [a2] ∧ Exa Z h a2 "[B" ∧ Arv Z h a2 k_a2 .byte n_a2 (vs_a2 ++ vs_w_value_a1) (.int (0 : Int32))
set_option maxRecDepth 65536 in
set_option maxHeartbeats 40000000 in
theorem rm21 (l : Launch) (Z : State) (a0 : Array Value) (hw : ∀ d ∈ tables_1, d.before a0 Z = true) (ws : List Jvm.Cond) (a1 : Addr) (a2 : Addr) (p3 : Int32) (w_value_a1 : Addr) (k_w_value_a1 : ClassId) (n_w_value_a1 : Int32) (vs_w_value_a1 : List Value) (k_a2 : ClassId) (n_a2 : Int32) (vs_a2 : List Value) (st_COMPACT_STRINGS : Int32) (h0 : Heap) (n0 : Nat) (Z0 : n0 ≤ h0.size) (E_a1 : Exa Z h0 a1 "java/lang/String") (F_value_a1 : Fld Z h0 a1 "java/lang/String" "value" "[B" (.ref w_value_a1)) (F_coder_a1 : Fld Z h0 a1 "java/lang/String" "coder" "B" (.int (0 : Int32))) (V_w_value_a1 : Arv Z h0 w_value_a1 k_w_value_a1 .byte n_w_value_a1 vs_w_value_a1 (.int (0 : Int32))) (V_a2 : Arv Z h0 a2 k_a2 .byte n_a2 vs_a2 (.int (0 : Int32))) (E_a2 : Exa Z h0 a2 "[B") (S_COMPACT_STRINGS : Sta Z h0 "java/lang/String" "COMPACT_STRINGS" "Z" (.int st_COMPACT_STRINGS)) (hq0_7 : own_len p3 vs_a2) (hq0_8 : own_len n_w_value_a1 vs_w_value_a1) (hq0_9 : own_room n_a2 vs_a2 vs_w_value_a1) (hq1_10 : ¬ (st_COMPACT_STRINGS = (0 : Int32))) (g_a2 : n0 ≤ a2) (ne_a1_a2 : a1 ≠ a2) (ne_w_value_a1_a2 : w_value_a1 ≠ a2) :
    MetFree l (⟨"java/lang/String", "getBytes", "([BIB)V"⟩ : MethodName) (head1 (Jvm.Cond.code (⟨"java/lang/String", "getBytes", "([BIB)V"⟩ : MethodName) jdk_42_method_147_code 4 none :: ws) ({ frames := 1, cells := 0, slots := 0, locals := 18 } : Room)) (fun a U => a = #[(.ref a1), (.ref a2), (.int p3), (.int (0 : Int32))] ∧ Z.Warmed39 U.vm ∧ U.heap = h0) (fun _ _ _ _ _ => True) (fun _ U o U' => ∃ v L, o = .returned v ∧ Q21 Z a1 a2 p3 w_value_a1 k_w_value_a1 n_w_value_a1 vs_w_value_a1 k_a2 n_a2 vs_a2 st_COMPACT_STRINGS h0 n0 v U'.heap L ∧ FrameEnd U o U' L ({ frames := 1, cells := 0, slots := 0, locals := 18 } : Room).cells ({ frames := 1, cells := 0, slots := 0, locals := 18 } : Room).slots) := by
  refine MetFree.of_bodySF (plainFor_of_name pn_0) hisR ?_
  intro p e s m args below meth c s₁ Bd hml0 hP hK
  obtain ⟨rfl, hZ, hh⟩ := hP
  have hx := Bd.exec
  have hby := Bd.bytes
  have hml : c.maxLocals = 4 := hml0
  have hown : s.vm.findClass "java/lang/String" = some m.cls := findClass_of_methodNamed Bd.named
  have hnm := (name_of_methodNamed Bd.named Bd.method).1
  have X0 : Stand p l e ({ frames := 1, cells := 0, slots := 0, locals := 18 } : Room) s m #[(.ref a1), (.ref a2), (.int p3), (.int (0 : Int32))] below meth c s₁ [] 0 0 := Stand.of_body Bd
  have e0 : s₁.heap = h0 := by rw [← hh, Bd.state]; rfl
  have N0 := Fr.nil n0
  have pre0 : ∀ t, Steps p.tables e below (s₁.setTop (mkF m 0 #[vR a1, vR a2, vI p3, vI (0 : Int32)] [])) t → Steps p.tables e below (s₁.setTop (entryFrame m #[(.ref a1), (.ref a2), (.int p3), (.int (0 : Int32))] 4)) t := fun t k => castTop (ef_21 m a1 a2 p3) k
  obtain ⟨cq4, kq4, q4a, q4b, q4c⟩ := isOf hZ e0 E_a1
  obtain ⟨_, _, ⟨T4, L4, k4, n4⟩, -, X4, ⟨Lc4, hQ4, l4, y4, z4⟩, st4⟩ := X0.virtualBack hx (y := (⟨"java/lang/String", "coder", "()B"⟩ : MethodName)) (z := (⟨"java/lang/String", "coder", "()B"⟩ : MethodName)) hown (mvT hZ (own_wi hw 96 rfl)) (mvT hZ (own_wi hw 97 rfl)) (notFace_of_selects (args := #[]) (mvT hZ (own_wi hw 99 rfl))) (mvT hZ (own_wi hw 99 rfl)) (mvT hZ (own_wi hw 98 rfl)) (by decide) (backOf (W := 0) (rm17 l Z a0 hw [] a1 st_COMPACT_STRINGS h0 n0 Z0 S_COMPACT_STRINGS hq1_10 F_coder_a1) hZ (own_wi hw 100 rfl) (own_wi hw 10 rfl) (by decide) (by decide)) q4a q4c (g := (mkF m 1 #[vR a1, vR a2, vI p3, vI (0 : Int32)] [(.ref a1)])) rfl (by rw [hml]; rfl) (Steps.refl _) (argsL := []) (rest := []) (lenOf pd_0 rfl) rfl (by show 2 * 0 + _ ≤ _; exact Nat.le_of_eq rfl) (hb hby d21_1) (fun _ _ => ⟨rfl, e0, (by decide : 0 + 0 ≤ _), (by decide : 0 + 0 ≤ _)⟩)
  dsimp only [Pt.U, Pt.locs, Pt.cells, Pt.slots] at X4 l4 y4 z4 st4 hQ4
  subst l4 y4 z4
  obtain ⟨rfl, N4q, e4⟩ := hQ4
  have N4 := Fr.app N0 N4q
  obtain ⟨T5, X5, e5, st5⟩ := getF X4 hx hZ hown (host := "") (Or.inl (own_wi hw 35 rfl)) Via.refl e4 F_value_a1 (g := (mkF m 9 #[vR a1, vR a2, vI p3, vI (0 : Int32)] [(.ref a1)])) rfl rfl (hb hby d21_9)
  obtain ⟨T6, X6, e6, st6⟩ := getF X5 hx hZ hown (host := "") (Or.inl (own_wi hw 35 rfl)) Via.refl e5 F_value_a1 (g := (mkF m 18 #[vR a1, vR a2, vI p3, vI (0 : Int32)] [(.ref a1), (.int (p3 <<< ((0 : Int32) &&& 31))), (.ref a2), (.int (0 : Int32)), (.ref w_value_a1)])) rfl rfl (hb hby d21_18)
  obtain ⟨cl7, Ar7, qq7, S7, NN7, -, -⟩ := id V_w_value_a1
  obtain ⟨T8, h8, L8, X8, e8, N8, K8q, A8, st8⟩ := own_cp X6 hx hZ hown (own_wi hw 124 rfl) (own_wi hw 127 rfl) (own_wi hw 125 rfl) (own_wi hw 126 rfl) e6 V_w_value_a1 V_a2 (us := vs_w_value_a1) rfl (by rw [own_shl0]; exact hq0_7) ((own_len_le hq0_8).1) (Int.le_refl _) (by have r1 := hq0_8; have r2 := hq0_9; unfold own_len at r1; unfold own_room at r2; omega) (own_us_all (own_len_le hq0_8).2) N4 g_a2 (g := (mkF m 22 #[vR a1, vR a2, vI p3, vI (0 : Int32)] [(.int n_w_value_a1), (.int (p3 <<< ((0 : Int32) &&& 31))), (.ref a2), (.int (0 : Int32)), (.ref w_value_a1)])) rfl (by rw [hml]; rfl) rfl (hb hby d21_22) (by decide) (W := 0) (by show 2 * 0 + _ ≤ _; exact Nat.le_of_eq rfl) (by decide)
  have y9 := (F_value_a1.keep K8q (ninS ne_a1_a2 nin0))
  have y10 := (F_coder_a1.keep K8q (ninS ne_a1_a2 nin0))
  have y11 := (V_w_value_a1.keep K8q (ninS ne_w_value_a1_a2 nin0))
  have y12 := (own_StaKeep S_COMPACT_STRINGS K8q (allS (P := fun x => ∃ D, Exa Z h0 x D) ⟨_, E_a2⟩ all0))
  have K8 : Keep h0 h8 [a2] := ((Keep.refl h0 [a2])).trans K8q (allS (P := fun x => x ∈ [a2] ∨ h0.size ≤ x) (Or.inl (List.mem_of_getElem? (i := 0) rfl)) all0)
  have Z8 : n0 ≤ h8.size := Nat.le_trans Z0 K8q.1
  obtain ⟨fs, hr, hrun, hended, hW, hsame⟩ := X8.leave (v := none) (fun _ => rfl)
  refine ⟨_, _, pre0 _ ?_, hrun, hended, _, _, rfl, ?_, ⟨_, rfl⟩, hW, hsame.mono (by decide) (by decide)⟩
  · show Steps p.tables e below (s₁.setTop (mkF m 0 #[vR a1, vR a2, vI p3, vI (0 : Int32)] [])) _
    refine XS.aloadN X0.here hx rfl (hb hby d21_0) rfl rfl ?_
    show Steps p.tables e below (s₁.setTop (mkF m 1 #[vR a1, vR a2, vI p3, vI (0 : Int32)] [(.ref a1)])) _
    refine st4.trans ?_
    show Steps p.tables e below (T4.setTop (mkF m 4 #[vR a1, vR a2, vI p3, vI (0 : Int32)] [(.int (0 : Int32))])) _
    refine XS.iloadN X4.here hx rfl (hb hby d21_4) rfl ?_
    show Steps p.tables e below (T4.setTop (mkF m 5 #[vR a1, vR a2, vI p3, vI (0 : Int32)] [(.int (0 : Int32)), (.int (0 : Int32))])) _
    refine XS.icmpNo X4.here hx rfl (hb hby d21_5) rfl (teq (by decide : (0 : Int32) = (0 : Int32))).2 ?_
    refine XS.aloadN X4.here hx rfl (hb hby d21_8) rfl rfl ?_
    show Steps p.tables e below (T4.setTop (mkF m 9 #[vR a1, vR a2, vI p3, vI (0 : Int32)] [(.ref a1)])) _
    refine st5 _ ?_
    show Steps p.tables e below (T5.setTop (mkF m 12 #[vR a1, vR a2, vI p3, vI (0 : Int32)] [(.ref w_value_a1)])) _
    refine XS.iconst X5.here hx rfl (hb hby d21_12) ?_
    refine XS.aloadN X5.here hx rfl (hb hby d21_13) rfl rfl ?_
    refine XS.iloadN X5.here hx rfl (hb hby d21_14) rfl ?_
    refine XS.iloadN X5.here hx rfl (hb hby d21_15) rfl ?_
    refine XS.ishl X5.here hx rfl (hb hby d21_16) rfl ?_
    show Steps p.tables e below (T5.setTop (mkF m 17 #[vR a1, vR a2, vI p3, vI (0 : Int32)] [(.int (p3 <<< ((0 : Int32) &&& 31))), (.ref a2), (.int (0 : Int32)), (.ref w_value_a1)])) _
    refine XS.aloadN X5.here hx rfl (hb hby d21_17) rfl rfl ?_
    show Steps p.tables e below (T5.setTop (mkF m 18 #[vR a1, vR a2, vI p3, vI (0 : Int32)] [(.ref a1), (.int (p3 <<< ((0 : Int32) &&& 31))), (.ref a2), (.int (0 : Int32)), (.ref w_value_a1)])) _
    refine st6 _ ?_
    show Steps p.tables e below (T6.setTop (mkF m 21 #[vR a1, vR a2, vI p3, vI (0 : Int32)] [(.ref w_value_a1), (.int (p3 <<< ((0 : Int32) &&& 31))), (.ref a2), (.int (0 : Int32)), (.ref w_value_a1)])) _
    refine X6.arraylength hx (by rw [e6]; exact Ar7.1) (State.isArrayOf_alike hZ.alike Ar7.2.1) (g := (mkF m 21 #[vR a1, vR a2, vI p3, vI (0 : Int32)] [(.ref w_value_a1), (.int (p3 <<< ((0 : Int32) &&& 31))), (.ref a2), (.int (0 : Int32)), (.ref w_value_a1)])) rfl rfl (hb hby d21_21) _ ?_
    rw [len_of S7 NN7]
    show Steps p.tables e below (T6.setTop (mkF m 22 #[vR a1, vR a2, vI p3, vI (0 : Int32)] [(.int n_w_value_a1), (.int (p3 <<< ((0 : Int32) &&& 31))), (.ref a2), (.int (0 : Int32)), (.ref w_value_a1)])) _
    refine st8 _ ?_
    show Steps p.tables e below (T8.setTop (mkF m 25 #[vR a1, vR a2, vI p3, vI (0 : Int32)] [])) _
    refine XS.goto X8.here hx rfl (pc0 := 25) (pc' := 43) rfl (hb hby d21_25) (by decide) (by decide) ?_
    show Steps p.tables e below (T8.setTop (mkF m 43 #[vR a1, vR a2, vI p3, vI (0 : Int32)] [])) _
    exact X8.returnOut hx Bd.returns (hb hby d21_43) hr
  · show Q21 Z a1 a2 p3 w_value_a1 k_w_value_a1 n_w_value_a1 vs_w_value_a1 k_a2 n_a2 vs_a2 st_COMPACT_STRINGS h0 n0 _ T8.heap _
    rw [e8]
    exact ⟨rfl, N8, (K8), (E_a2.keep K8q), A8⟩
theorem pd_5 : parseMethodDescriptor "(Ljava/lang/String;)V" = some ⟨[(.object "java/lang/String")], none⟩ := by decide +kernel
theorem pd_6 : parseMethodDescriptor "([BIB)V" = some ⟨[(.array .byte), .int, .byte], none⟩ := by decide +kernel
theorem d19_0 : decode jdk_68_method_73_code 0 = .ok (.aload_n 0, 1) := by decide +kernel
theorem d19_1 : decode jdk_68_method_73_code 1 = .ok (.aload_n 2, 1) := by decide +kernel
theorem d19_2 : decode jdk_68_method_73_code 2 = .ok (.invokevirtual 397, 3) := by decide +kernel
theorem d19_5 : decode jdk_68_method_73_code 5 = .ok (.aload_n 2, 1) := by decide +kernel
theorem d19_6 : decode jdk_68_method_73_code 6 = .ok (.aload_n 0, 1) := by decide +kernel
theorem d19_7 : decode jdk_68_method_73_code 7 = .ok (.getfield 15, 3) := by decide +kernel
theorem d19_10 : decode jdk_68_method_73_code 10 = .ok (.iload_n 1, 1) := by decide +kernel
theorem d19_11 : decode jdk_68_method_73_code 11 = .ok (.aload_n 0, 1) := by decide +kernel
theorem d19_12 : decode jdk_68_method_73_code 12 = .ok (.getfield 22, 3) := by decide +kernel
theorem d19_15 : decode jdk_68_method_73_code 15 = .ok (.invokevirtual 399, 3) := by decide +kernel
theorem d19_18 : decode jdk_68_method_73_code 18 = .ok (.return_, 1) := by decide +kernel
theorem ef_19 (m : MethodId) (a1 : Addr) (p2 : Int32) (a3 : Addr) : entryFrame m #[(.ref a1), (.int p2), (.ref a3)] 3 = mkF m 0 #[vR a1, vI p2, vR a3] [] := by first | (simp [entryFrame, mkF, argsToLocals, Value.category]; done) | rfl
def Q19 (Z : State) (a1 : Addr) (p2 : Int32) (a3 : Addr) (w_value_a1 : Addr) (k_w_value_a1 : ClassId) (n_w_value_a1 : Int32) (vs_w_value_a1 : List Value) (w_value_a3 : Addr) (k_w_value_a3 : ClassId) (n_w_value_a3 : Int32) (vs_w_value_a3 : List Value) (st_COMPACT_STRINGS : Int32) (h0 : Heap) (n0 : Nat) (v : Option Value) (h : Heap) (L : List Loc) : Prop := v = none ∧ Fr n0 L ∧ Keep h0 h [w_value_a1] ∧ Exa Z h w_value_a1 "[B" ∧ Arv Z h w_value_a1 k_w_value_a1 .byte n_w_value_a1 (vs_w_value_a1 ++ vs_w_value_a3) (.int (0 : Int32))
set_option maxRecDepth 65536 in
set_option maxHeartbeats 40000000 in
theorem rm19 (l : Launch) (Z : State) (a0 : Array Value) (hw : ∀ d ∈ tables_1, d.before a0 Z = true) (ws : List Jvm.Cond) (a1 : Addr) (p2 : Int32) (a3 : Addr) (w_value_a1 : Addr) (k_w_value_a1 : ClassId) (n_w_value_a1 : Int32) (vs_w_value_a1 : List Value) (w_value_a3 : Addr) (k_w_value_a3 : ClassId) (n_w_value_a3 : Int32) (vs_w_value_a3 : List Value) (st_COMPACT_STRINGS : Int32) (h0 : Heap) (n0 : Nat) (Z0 : n0 ≤ h0.size) (E_a1 : Exa Z h0 a1 "java/lang/StringBuilder") (F_value_a1 : Fld Z h0 a1 "java/lang/AbstractStringBuilder" "value" "[B" (.ref w_value_a1)) (F_coder_a1 : Fld Z h0 a1 "java/lang/AbstractStringBuilder" "coder" "B" (.int (0 : Int32))) (V_w_value_a1 : Arv Z h0 w_value_a1 k_w_value_a1 .byte n_w_value_a1 vs_w_value_a1 (.int (0 : Int32))) (E_w_value_a1 : Exa Z h0 w_value_a1 "[B") (E_a3 : Exa Z h0 a3 "java/lang/String") (F_value_a3 : Fld Z h0 a3 "java/lang/String" "value" "[B" (.ref w_value_a3)) (F_coder_a3 : Fld Z h0 a3 "java/lang/String" "coder" "B" (.int (0 : Int32))) (V_w_value_a3 : Arv Z h0 w_value_a3 k_w_value_a3 .byte n_w_value_a3 vs_w_value_a3 (.int (0 : Int32))) (S_COMPACT_STRINGS : Sta Z h0 "java/lang/String" "COMPACT_STRINGS" "Z" (.int st_COMPACT_STRINGS)) (hq2_10 : ¬ (st_COMPACT_STRINGS = (0 : Int32))) (g_w_value_a1 : n0 ≤ w_value_a1) (ne_a3_w_value_a1 : a3 ≠ w_value_a1) (ne_w_value_a3_w_value_a1 : w_value_a3 ≠ w_value_a1) (hq15_14 : own_len p2 vs_w_value_a1) (hq15_15 : own_len n_w_value_a3 vs_w_value_a3) (hq15_16 : own_room n_w_value_a1 vs_w_value_a1 vs_w_value_a3) (ne_a1_w_value_a1 : a1 ≠ w_value_a1) :
    MetFree l (⟨"java/lang/AbstractStringBuilder", "putStringAt", "(ILjava/lang/String;)V"⟩ : MethodName) (head1 (Jvm.Cond.code (⟨"java/lang/AbstractStringBuilder", "putStringAt", "(ILjava/lang/String;)V"⟩ : MethodName) jdk_68_method_73_code 3 none :: ws) ({ frames := 2, cells := 0, slots := 0, locals := 33 } : Room)) (fun a U => a = #[(.ref a1), (.int p2), (.ref a3)] ∧ Z.Warmed39 U.vm ∧ U.heap = h0) (fun _ _ _ _ _ => True) (fun _ U o U' => ∃ v L, o = .returned v ∧ Q19 Z a1 p2 a3 w_value_a1 k_w_value_a1 n_w_value_a1 vs_w_value_a1 w_value_a3 k_w_value_a3 n_w_value_a3 vs_w_value_a3 st_COMPACT_STRINGS h0 n0 v U'.heap L ∧ FrameEnd U o U' L ({ frames := 2, cells := 0, slots := 0, locals := 33 } : Room).cells ({ frames := 2, cells := 0, slots := 0, locals := 33 } : Room).slots) := by
  refine MetFree.of_bodySF (plainFor_of_name pn_2) hisR ?_
  intro p e s m args below meth c s₁ Bd hml0 hP hK
  obtain ⟨rfl, hZ, hh⟩ := hP
  have hx := Bd.exec
  have hby := Bd.bytes
  have hml : c.maxLocals = 3 := hml0
  have hown : s.vm.findClass "java/lang/AbstractStringBuilder" = some m.cls := findClass_of_methodNamed Bd.named
  have hnm := (name_of_methodNamed Bd.named Bd.method).1
  have X0 : Stand p l e ({ frames := 2, cells := 0, slots := 0, locals := 33 } : Room) s m #[(.ref a1), (.int p2), (.ref a3)] below meth c s₁ [] 0 0 := Stand.of_body Bd
  have e0 : s₁.heap = h0 := by rw [← hh, Bd.state]; rfl
  have N0 := Fr.nil n0
  have pre0 : ∀ t, Steps p.tables e below (s₁.setTop (mkF m 0 #[vR a1, vI p2, vR a3] [])) t → Steps p.tables e below (s₁.setTop (entryFrame m #[(.ref a1), (.int p2), (.ref a3)] 3)) t := fun t k => castTop (ef_19 m a1 p2 a3) k
  obtain ⟨cq4, q4, q4'⟩ := E_a1.cell
  obtain ⟨_, _, ⟨T4, L4, k4, n4⟩, -, X4, ⟨Lc4, hQ4, l4, y4, z4⟩, st4⟩ := X0.privateBack hx (y := (⟨"java/lang/AbstractStringBuilder", "inflateIfNeededFor", "(Ljava/lang/String;)V"⟩ : MethodName)) hown (mvT hZ (own_wi hw 113 rfl)) (mvT hZ (own_wi hw 114 rfl)) (own_selq (args' := #[]) (w := (⟨"java/lang/AbstractStringBuilder", "ensureCapacityInternal", "(I)V"⟩ : MethodName)) (mvT hZ (own_wi hw 106 rfl)) rfl (Cond.privateMethod_at (mvP hZ (own_wi hw 115 rfl) (args := #[]))) (mvT hZ (own_wi hw 114 rfl)) (by decide)) (Cond.privateMethod_at (mvP hZ (own_wi hw 115 rfl) (args := #[]))) (mvT hZ (own_wi hw 117 rfl)) (by decide) (backOf (W := 0) (rm20 l Z a0 hw [] a1 a3 st_COMPACT_STRINGS h0 n0 Z0 E_a1 F_coder_a1 E_a3 F_coder_a3 S_COMPACT_STRINGS hq2_10) hZ (own_wi hw 117 rfl) (own_wi hw 70 rfl) (by decide) (by decide)) (g := (mkF m 2 #[vR a1, vI p2, vR a3] [(.ref a3), (.ref a1)])) rfl (by rw [hml]; rfl) (Steps.refl _) (a := a1) (by rw [e0]; exact q4) q4' (argsL := [(.ref a3)]) (rest := []) (lenOf pd_5 rfl) rfl (by show 2 * 0 + _ ≤ _; exact Nat.le_of_eq rfl) (hb hby d19_2) (fun _ _ => ⟨rfl, e0, (by decide : 0 + 0 ≤ _), (by decide : 0 + 0 ≤ _)⟩)
  dsimp only [Pt.U, Pt.locs, Pt.cells, Pt.slots] at X4 l4 y4 z4 st4 hQ4
  subst l4 y4 z4
  obtain ⟨rfl, N4q, e4⟩ := hQ4
  have N4 := Fr.app N0 N4q
  obtain ⟨T5, X5, e5, st5⟩ := getF X4 hx hZ hown (host := "") (Or.inl (own_wi hw 74 rfl)) Via.refl e4 F_value_a1 (g := (mkF m 7 #[vR a1, vI p2, vR a3] [(.ref a1), (.ref a3)])) rfl rfl (hb hby d19_7)
  obtain ⟨T6, X6, e6, st6⟩ := getF X5 hx hZ hown (host := "") (Or.inl (own_wi hw 76 rfl)) Via.refl e5 F_coder_a1 (g := (mkF m 12 #[vR a1, vI p2, vR a3] [(.ref a1), (.int p2), (.ref w_value_a1), (.ref a3)])) rfl rfl (hb hby d19_12)
  obtain ⟨cq7, kq7, q7a, q7b, q7c⟩ := isOf hZ e6 E_a3
  obtain ⟨_, _, ⟨T7, L7, k7, n7⟩, -, X7, ⟨Lc7, hQ7, l7, y7, z7⟩, st7⟩ := X6.virtualBack hx (y := (⟨"java/lang/String", "getBytes", "([BIB)V"⟩ : MethodName)) (z := (⟨"java/lang/String", "getBytes", "([BIB)V"⟩ : MethodName)) hown (mvT hZ (own_wi hw 119 rfl)) (mvT hZ (own_wi hw 120 rfl)) (notFace_of_selects (args := #[]) (mvT hZ (own_wi hw 122 rfl))) (mvT hZ (own_wi hw 122 rfl)) (mvT hZ (own_wi hw 121 rfl)) (by decide) (backOf (W := 0) (rm21 l Z a0 hw [] a3 w_value_a1 p2 w_value_a3 k_w_value_a3 n_w_value_a3 vs_w_value_a3 k_w_value_a1 n_w_value_a1 vs_w_value_a1 st_COMPACT_STRINGS h0 n0 Z0 E_a3 F_value_a3 F_coder_a3 V_w_value_a3 V_w_value_a1 E_w_value_a1 S_COMPACT_STRINGS hq15_14 hq15_15 hq15_16 hq2_10 g_w_value_a1 ne_a3_w_value_a1 ne_w_value_a3_w_value_a1) hZ (own_wi hw 123 rfl) (own_wi hw 10 rfl) (by decide) (by decide)) q7a q7c (g := (mkF m 15 #[vR a1, vI p2, vR a3] [(.int (0 : Int32)), (.int p2), (.ref w_value_a1), (.ref a3)])) rfl (by rw [hml]; rfl) (Steps.refl _) (argsL := [(.ref w_value_a1), (.int p2), (.int (0 : Int32))]) (rest := []) (lenOf pd_6 rfl) rfl (by show 2 * 0 + _ ≤ _; exact Nat.le_of_eq rfl) (hb hby d19_15) (fun _ _ => ⟨rfl, e6, (by decide : 0 + 0 ≤ _), (by decide : 0 + 0 ≤ _)⟩)
  dsimp only [Pt.U, Pt.locs, Pt.cells, Pt.slots] at X7 l7 y7 z7 st7 hQ7
  subst l7 y7 z7
  obtain ⟨rfl, N7q, K7q, f7_0, f7_1⟩ := hQ7
  have y8 := (F_value_a1.keep K7q (ninS ne_a1_w_value_a1 nin0))
  have y9 := (F_coder_a1.keep K7q (ninS ne_a1_w_value_a1 nin0))
  have y10 := (F_value_a3.keep K7q (ninS ne_a3_w_value_a1 nin0))
  have y11 := (F_coder_a3.keep K7q (ninS ne_a3_w_value_a1 nin0))
  have y12 := (V_w_value_a3.keep K7q (ninS ne_w_value_a3_w_value_a1 nin0))
  have y13 := (own_StaKeep S_COMPACT_STRINGS K7q (allS (P := fun x => ∃ D, Exa Z h0 x D) ⟨_, E_w_value_a1⟩ all0))
  have K7 : Keep h0 T7.heap [w_value_a1] := ((Keep.refl h0 [w_value_a1])).trans K7q (allS (P := fun x => x ∈ [w_value_a1] ∨ h0.size ≤ x) (Or.inl (List.mem_of_getElem? (i := 0) rfl)) all0)
  have Z7 : n0 ≤ T7.heap.size := Nat.le_trans Z0 K7q.1
  have N7 := Fr.app N4 N7q
  obtain ⟨fs, hr, hrun, hended, hW, hsame⟩ := X7.leave (v := none) (fun _ => rfl)
  refine ⟨_, _, pre0 _ ?_, hrun, hended, _, _, rfl, ?_, ⟨_, rfl⟩, hW, hsame.mono (by decide) (by decide)⟩
  · show Steps p.tables e below (s₁.setTop (mkF m 0 #[vR a1, vI p2, vR a3] [])) _
    refine XS.aloadN X0.here hx rfl (hb hby d19_0) rfl rfl ?_
    refine XS.aloadN X0.here hx rfl (hb hby d19_1) rfl rfl ?_
    show Steps p.tables e below (s₁.setTop (mkF m 2 #[vR a1, vI p2, vR a3] [(.ref a3), (.ref a1)])) _
    refine st4.trans ?_
    show Steps p.tables e below (T4.setTop (mkF m 5 #[vR a1, vI p2, vR a3] [])) _
    refine XS.aloadN X4.here hx rfl (hb hby d19_5) rfl rfl ?_
    refine XS.aloadN X4.here hx rfl (hb hby d19_6) rfl rfl ?_
    show Steps p.tables e below (T4.setTop (mkF m 7 #[vR a1, vI p2, vR a3] [(.ref a1), (.ref a3)])) _
    refine st5 _ ?_
    show Steps p.tables e below (T5.setTop (mkF m 10 #[vR a1, vI p2, vR a3] [(.ref w_value_a1), (.ref a3)])) _
    refine XS.iloadN X5.here hx rfl (hb hby d19_10) rfl ?_
    refine XS.aloadN X5.here hx rfl (hb hby d19_11) rfl rfl ?_
    show Steps p.tables e below (T5.setTop (mkF m 12 #[vR a1, vI p2, vR a3] [(.ref a1), (.int p2), (.ref w_value_a1), (.ref a3)])) _
    refine st6 _ ?_
    show Steps p.tables e below (T6.setTop (mkF m 15 #[vR a1, vI p2, vR a3] [(.int (0 : Int32)), (.int p2), (.ref w_value_a1), (.ref a3)])) _
    refine st7.trans ?_
    show Steps p.tables e below (T7.setTop (mkF m 18 #[vR a1, vI p2, vR a3] [])) _
    exact X7.returnOut hx Bd.returns (hb hby d19_18) hr
  · show Q19 Z a1 p2 a3 w_value_a1 k_w_value_a1 n_w_value_a1 vs_w_value_a1 w_value_a3 k_w_value_a3 n_w_value_a3 vs_w_value_a3 st_COMPACT_STRINGS h0 n0 _ T7.heap _
    exact ⟨rfl, N7, (K7), f7_0, f7_1⟩
theorem pd_7 : parseMethodDescriptor "()I" = some ⟨[], some .int⟩ := by decide +kernel
theorem pd_8 : parseMethodDescriptor "(I)V" = some ⟨[.int], none⟩ := by decide +kernel
theorem pd_9 : parseMethodDescriptor "(ILjava/lang/String;)V" = some ⟨[.int, (.object "java/lang/String")], none⟩ := by decide +kernel
theorem d15_0 : decode jdk_68_method_22_code 0 = .ok (.aload_n 1, 1) := by decide +kernel
theorem d15_1 : decode jdk_68_method_22_code 1 = .ok (.ifnonnull 8, 3) := by decide +kernel
theorem d15_9 : decode jdk_68_method_22_code 9 = .ok (.aload_n 1, 1) := by decide +kernel
theorem d15_10 : decode jdk_68_method_22_code 10 = .ok (.invokevirtual 32, 3) := by decide +kernel
theorem d15_13 : decode jdk_68_method_22_code 13 = .ok (.istore_n 2, 1) := by decide +kernel
theorem d15_14 : decode jdk_68_method_22_code 14 = .ok (.aload_n 0, 1) := by decide +kernel
theorem d15_15 : decode jdk_68_method_22_code 15 = .ok (.aload_n 0, 1) := by decide +kernel
theorem d15_16 : decode jdk_68_method_22_code 16 = .ok (.getfield 79, 3) := by decide +kernel
theorem d15_19 : decode jdk_68_method_22_code 19 = .ok (.iload_n 2, 1) := by decide +kernel
theorem d15_20 : decode jdk_68_method_22_code 20 = .ok (.iadd, 1) := by decide +kernel
theorem d15_21 : decode jdk_68_method_22_code 21 = .ok (.invokevirtual 100, 3) := by decide +kernel
theorem d15_24 : decode jdk_68_method_22_code 24 = .ok (.aload_n 0, 1) := by decide +kernel
theorem d15_25 : decode jdk_68_method_22_code 25 = .ok (.aload_n 0, 1) := by decide +kernel
theorem d15_26 : decode jdk_68_method_22_code 26 = .ok (.getfield 79, 3) := by decide +kernel
theorem d15_29 : decode jdk_68_method_22_code 29 = .ok (.aload_n 1, 1) := by decide +kernel
theorem d15_30 : decode jdk_68_method_22_code 30 = .ok (.invokevirtual 208, 3) := by decide +kernel
theorem d15_33 : decode jdk_68_method_22_code 33 = .ok (.aload_n 0, 1) := by decide +kernel
theorem d15_34 : decode jdk_68_method_22_code 34 = .ok (.dup, 1) := by decide +kernel
theorem d15_35 : decode jdk_68_method_22_code 35 = .ok (.getfield 79, 3) := by decide +kernel
theorem d15_38 : decode jdk_68_method_22_code 38 = .ok (.iload_n 2, 1) := by decide +kernel
theorem d15_39 : decode jdk_68_method_22_code 39 = .ok (.iadd, 1) := by decide +kernel
theorem d15_40 : decode jdk_68_method_22_code 40 = .ok (.putfield 79, 3) := by decide +kernel
theorem d15_43 : decode jdk_68_method_22_code 43 = .ok (.aload_n 0, 1) := by decide +kernel
theorem d15_44 : decode jdk_68_method_22_code 44 = .ok (.areturn, 1) := by decide +kernel
theorem ef_15 (m : MethodId) (a1 : Addr) (a2 : Addr) : entryFrame m #[(.ref a1), (.ref a2)] 3 = mkF m 0 #[vR a1, vR a2, vU] [] := by first | (simp [entryFrame, mkF, argsToLocals, Value.category]; done) | rfl
def Q15 (Z : State) (a1 : Addr) (a2 : Addr) (w_value_a1 : Addr) (w_count_a1 : Int32) (k_w_value_a1 : ClassId) (n_w_value_a1 : Int32) (vs_w_value_a1 : List Value) (w_value_a2 : Addr) (k_w_value_a2 : ClassId) (n_w_value_a2 : Int32) (vs_w_value_a2 : List Value) (st_COMPACT_STRINGS : Int32) (h0 : Heap) (n0 : Nat) (v : Option Value) (h : Heap) (L : List Loc) : Prop := ∃ (xd : Addr) (xk : ClassId) (xz : Int32), v = some (.ref a1) ∧ Fr n0 L ∧ Keep h0 h [a1, w_value_a1] ∧ Exa Z h a1 "java/lang/StringBuilder" ∧ Fld Z h a1 "java/lang/AbstractStringBuilder" "value" "[B" (.ref xd) ∧ Fld Z h a1 "java/lang/AbstractStringBuilder" "coder" "B" (.int (0 : Int32)) ∧ Fld Z h a1 "java/lang/AbstractStringBuilder" "count" "I" (.int (w_count_a1 + n_w_value_a2)) ∧ Exa Z h xd "[B" ∧ Arv Z h xd xk .byte xz (vs_w_value_a1 ++ vs_w_value_a2) (.int (0 : Int32)) ∧ (xd = w_value_a1 ∨ h0.size ≤ xd) ∧ ((w_count_a1 + n_w_value_a2).toInt ≤ xz.toInt ∧ xz.toInt ≤ 194)
set_option maxRecDepth 65536 in
set_option maxHeartbeats 40000000 in
theorem rm15 (l : Launch) (Z : State) (a0 : Array Value) (hw : ∀ d ∈ tables_1, d.before a0 Z = true) (ws : List Jvm.Cond) (a1 : Addr) (a2 : Addr) (w_value_a1 : Addr) (w_count_a1 : Int32) (k_w_value_a1 : ClassId) (n_w_value_a1 : Int32) (vs_w_value_a1 : List Value) (w_value_a2 : Addr) (k_w_value_a2 : ClassId) (n_w_value_a2 : Int32) (vs_w_value_a2 : List Value) (st_COMPACT_STRINGS : Int32) (h0 : Heap) (n0 : Nat) (Z0 : n0 ≤ h0.size) (E_a1 : Exa Z h0 a1 "java/lang/StringBuilder") (F_value_a1 : Fld Z h0 a1 "java/lang/AbstractStringBuilder" "value" "[B" (.ref w_value_a1)) (F_coder_a1 : Fld Z h0 a1 "java/lang/AbstractStringBuilder" "coder" "B" (.int (0 : Int32))) (F_count_a1 : Fld Z h0 a1 "java/lang/AbstractStringBuilder" "count" "I" (.int w_count_a1)) (V_w_value_a1 : Arv Z h0 w_value_a1 k_w_value_a1 .byte n_w_value_a1 vs_w_value_a1 (.int (0 : Int32))) (E_w_value_a1 : Exa Z h0 w_value_a1 "[B") (E_a2 : Exa Z h0 a2 "java/lang/String") (F_value_a2 : Fld Z h0 a2 "java/lang/String" "value" "[B" (.ref w_value_a2)) (F_coder_a2 : Fld Z h0 a2 "java/lang/String" "coder" "B" (.int (0 : Int32))) (V_w_value_a2 : Arv Z h0 w_value_a2 k_w_value_a2 .byte n_w_value_a2 vs_w_value_a2 (.int (0 : Int32))) (S_COMPACT_STRINGS : Sta Z h0 "java/lang/String" "COMPACT_STRINGS" "Z" (.int st_COMPACT_STRINGS)) (hq0_11 : own_b94 (w_count_a1 + n_w_value_a2)) (hq0_12 : own_b188 n_w_value_a1) (hq0_13 : own_fit n_w_value_a1 vs_w_value_a1) (hq0_14 : own_len w_count_a1 vs_w_value_a1) (hq0_15 : own_len n_w_value_a2 vs_w_value_a2) (hq0_16 : own_b94 w_count_a1) (hq0_17 : own_b94 n_w_value_a2) (hq10_18 : ¬ (st_COMPACT_STRINGS = (0 : Int32))) (g_a1 : n0 ≤ a1) (ne_w_value_a1_a1 : w_value_a1 ≠ a1) (ne_a1_w_value_a1 : a1 ≠ w_value_a1) (ne_a2_w_value_a1 : a2 ≠ w_value_a1) (ne_w_value_a2_w_value_a1 : w_value_a2 ≠ w_value_a1) (ne_a2_a1 : a2 ≠ a1) (ne_w_value_a2_a1 : w_value_a2 ≠ a1) (g_w_value_a1 : n0 ≤ w_value_a1) :
    MetFree l (⟨"java/lang/AbstractStringBuilder", "append", "(Ljava/lang/String;)Ljava/lang/AbstractStringBuilder;"⟩ : MethodName) (head1 (Jvm.Cond.code (⟨"java/lang/AbstractStringBuilder", "append", "(Ljava/lang/String;)Ljava/lang/AbstractStringBuilder;"⟩ : MethodName) jdk_68_method_22_code 3 (some (.object "java/lang/AbstractStringBuilder")) :: ws) ({ frames := 4, cells := 1, slots := 194, locals := 62 } : Room)) (fun a U => a = #[(.ref a1), (.ref a2)] ∧ Z.Warmed39 U.vm ∧ U.heap = h0) (fun _ _ _ _ _ => True) (fun _ U o U' => ∃ v L, o = .returned v ∧ Q15 Z a1 a2 w_value_a1 w_count_a1 k_w_value_a1 n_w_value_a1 vs_w_value_a1 w_value_a2 k_w_value_a2 n_w_value_a2 vs_w_value_a2 st_COMPACT_STRINGS h0 n0 v U'.heap L ∧ FrameEnd U o U' L ({ frames := 4, cells := 1, slots := 194, locals := 62 } : Room).cells ({ frames := 4, cells := 1, slots := 194, locals := 62 } : Room).slots) := by
  refine MetFree.of_bodySF (plainFor_of_name pn_2) hisR ?_
  intro p e s m args below meth c s₁ Bd hml0 hP hK
  obtain ⟨rfl, hZ, hh⟩ := hP
  have hx := Bd.exec
  have hby := Bd.bytes
  have hml : c.maxLocals = 3 := hml0
  have hown : s.vm.findClass "java/lang/AbstractStringBuilder" = some m.cls := findClass_of_methodNamed Bd.named
  have hnm := (name_of_methodNamed Bd.named Bd.method).1
  have X0 : Stand p l e ({ frames := 4, cells := 1, slots := 194, locals := 62 } : Room) s m #[(.ref a1), (.ref a2)] below meth c s₁ [] 0 0 := Stand.of_body Bd
  have e0 : s₁.heap = h0 := by rw [← hh, Bd.state]; rfl
  have N0 := Fr.nil n0
  have pre0 : ∀ t, Steps p.tables e below (s₁.setTop (mkF m 0 #[vR a1, vR a2, vU] [])) t → Steps p.tables e below (s₁.setTop (entryFrame m #[(.ref a1), (.ref a2)] 3)) t := fun t k => castTop (ef_15 m a1 a2) k
  obtain ⟨cq3, kq3, q3a, q3b, q3c⟩ := isOf hZ e0 E_a2
  obtain ⟨_, _, ⟨T3, L3, k3, n3⟩, -, X3, ⟨Lc3, hQ3, l3, y3, z3⟩, st3⟩ := X0.virtualBack hx (y := (⟨"java/lang/String", "length", "()I"⟩ : MethodName)) (z := (⟨"java/lang/String", "length", "()I"⟩ : MethodName)) hown (mvT hZ (own_wi hw 91 rfl)) (mvT hZ (own_wi hw 92 rfl)) (notFace_of_selects (args := #[]) (mvT hZ (own_wi hw 94 rfl))) (mvT hZ (own_wi hw 94 rfl)) (mvT hZ (own_wi hw 93 rfl)) (by decide) (backOf (W := 0) (rm16 l Z a0 hw [] a2 w_value_a2 k_w_value_a2 n_w_value_a2 vs_w_value_a2 st_COMPACT_STRINGS h0 n0 Z0 E_a2 F_value_a2 V_w_value_a2 S_COMPACT_STRINGS F_coder_a2 hq10_18) hZ (own_wi hw 95 rfl) (own_wi hw 10 rfl) (by decide) (by decide)) q3a q3c (g := (mkF m 10 #[vR a1, vR a2, vU] [(.ref a2)])) rfl (by rw [hml]; rfl) (Steps.refl _) (argsL := []) (rest := []) (lenOf pd_7 rfl) rfl (by show 2 * 0 + _ ≤ _; exact Nat.le_of_eq rfl) (hb hby d15_10) (fun _ _ => ⟨rfl, e0, (by decide : 0 + 0 ≤ _), (by decide : 0 + 0 ≤ _)⟩)
  dsimp only [Pt.U, Pt.locs, Pt.cells, Pt.slots] at X3 l3 y3 z3 st3 hQ3
  subst l3 y3 z3
  obtain ⟨rfl, N3q, e3⟩ := hQ3
  have N3 := Fr.app N0 N3q
  obtain ⟨T4, X4, e4, st4⟩ := getF X3 hx hZ hown (host := "") (Or.inl (own_wi hw 101 rfl)) Via.refl e3 F_count_a1 (g := (mkF m 16 #[vR a1, vR a2, vI n_w_value_a2] [(.ref a1), (.ref a1)])) rfl rfl (hb hby d15_16)
  obtain ⟨cq5, q5, q5'⟩ := E_a1.cell
  obtain ⟨_, _, ⟨T5, L5, k5, n5⟩, -, X5, ⟨Lc5, hQ5, l5, y5, z5⟩, st5⟩ := X4.privateBack hx (y := (⟨"java/lang/AbstractStringBuilder", "ensureCapacityInternal", "(I)V"⟩ : MethodName)) hown (mvT hZ (own_wi hw 103 rfl)) (mvT hZ (own_wi hw 104 rfl)) (own_selq (args' := #[]) (w := (⟨"java/lang/AbstractStringBuilder", "ensureCapacityInternal", "(I)V"⟩ : MethodName)) (mvT hZ (own_wi hw 106 rfl)) rfl (Cond.privateMethod_at (mvP hZ (own_wi hw 105 rfl) (args := #[]))) (mvT hZ (own_wi hw 104 rfl)) (by decide)) (Cond.privateMethod_at (mvP hZ (own_wi hw 105 rfl) (args := #[]))) (mvT hZ (own_wi hw 107 rfl)) (by decide) (backOf (W := 0) (rm18 l Z a0 hw [] a1 (w_count_a1 + n_w_value_a2) w_value_a1 w_count_a1 k_w_value_a1 n_w_value_a1 vs_w_value_a1 h0 n0 Z0 E_a1 F_value_a1 F_coder_a1 F_count_a1 V_w_value_a1 E_w_value_a1 hq0_11 hq0_12 hq0_13 g_a1 ne_w_value_a1_a1) hZ (own_wi hw 107 rfl) (own_wi hw 70 rfl) (by decide) (by decide)) (g := (mkF m 21 #[vR a1, vR a2, vI n_w_value_a2] [(.int (w_count_a1 + n_w_value_a2)), (.ref a1)])) rfl (by rw [hml]; rfl) (Steps.refl _) (a := a1) (by rw [e4]; exact q5) q5' (argsL := [(.int (w_count_a1 + n_w_value_a2))]) (rest := []) (lenOf pd_8 rfl) rfl (by show 2 * 0 + _ ≤ _; exact Nat.le_of_eq rfl) (hb hby d15_21) (fun _ _ => ⟨rfl, e4, (by decide : 0 + 1 ≤ _), (by decide : 0 + 194 ≤ _)⟩)
  dsimp only [Pt.U, Pt.locs, Pt.cells, Pt.slots] at X5 l5 y5 z5 st5 hQ5
  subst l5 y5 z5
  obtain ⟨x5_0, x5_1, x5_2, rfl, N5q, K5q, f5_0, f5_1, f5_2, f5_3, f5_4, f5_5, p5_0, p5_1⟩ := hQ5
  have ne_a1_x5_0 : a1 ≠ x5_0 := own_eitherN p5_0 ne_a1_w_value_a1 E_a1.lt
  have ne_a2_x5_0 : a2 ≠ x5_0 := own_eitherN p5_0 ne_a2_w_value_a1 E_a2.lt
  have ne_w_value_a2_x5_0 : w_value_a2 ≠ x5_0 := own_eitherN p5_0 ne_w_value_a2_w_value_a1 V_w_value_a2.lt
  have y6 := (F_value_a2.keep K5q (ninS ne_a2_a1 nin0))
  have y7 := (F_coder_a2.keep K5q (ninS ne_a2_a1 nin0))
  have y8 := (V_w_value_a2.keep K5q (ninS ne_w_value_a2_a1 nin0))
  have y9 := (own_StaKeep S_COMPACT_STRINGS K5q (allS (P := fun x => ∃ D, Exa Z h0 x D) ⟨_, E_a1⟩ all0))
  have K5 : Keep h0 T5.heap [a1, w_value_a1] := ((Keep.refl h0 [a1, w_value_a1])).trans K5q (allS (P := fun x => x ∈ [a1, w_value_a1] ∨ h0.size ≤ x) (Or.inl (List.mem_of_getElem? (i := 0) rfl)) all0)
  have Z5 : n0 ≤ T5.heap.size := Nat.le_trans Z0 K5q.1
  have N5 := Fr.app N3 N5q
  obtain ⟨T10, X10, e10, st10⟩ := getF X5 hx hZ hown (host := "") (Or.inl (own_wi hw 101 rfl)) Via.refl rfl f5_3 (g := (mkF m 26 #[vR a1, vR a2, vI n_w_value_a2] [(.ref a1), (.ref a1)])) rfl rfl (hb hby d15_26)
  obtain ⟨cq11, q11, q11'⟩ := f5_0.cell
  obtain ⟨_, _, ⟨T11, L11, k11, n11⟩, -, X11, ⟨Lc11, hQ11, l11, y11, z11⟩, st11⟩ := X10.privateBack hx (y := (⟨"java/lang/AbstractStringBuilder", "putStringAt", "(ILjava/lang/String;)V"⟩ : MethodName)) hown (mvT hZ (own_wi hw 108 rfl)) (mvT hZ (own_wi hw 109 rfl)) (own_selq (args' := #[]) (w := (⟨"java/lang/AbstractStringBuilder", "ensureCapacityInternal", "(I)V"⟩ : MethodName)) (mvT hZ (own_wi hw 106 rfl)) rfl (Cond.privateMethod_at (mvP hZ (own_wi hw 110 rfl) (args := #[]))) (mvT hZ (own_wi hw 109 rfl)) (by decide)) (Cond.privateMethod_at (mvP hZ (own_wi hw 110 rfl) (args := #[]))) (mvT hZ (own_wi hw 112 rfl)) (by decide) (backOf (W := 0) (rm19 l Z a0 hw [] a1 w_count_a1 a2 x5_0 x5_1 x5_2 vs_w_value_a1 w_value_a2 k_w_value_a2 n_w_value_a2 vs_w_value_a2 st_COMPACT_STRINGS T5.heap n0 Z5 f5_0 f5_1 f5_2 f5_5 f5_4 (E_a2.keep K5q) y6 y7 y8 y9 hq10_18 (own_eitherG (p5_0.imp id (Nat.le_trans ((Keep.refl h0 [a1, w_value_a1])).1)) g_w_value_a1 Z0) ne_a2_x5_0 ne_w_value_a2_x5_0 hq0_14 hq0_15 (show own_room x5_2 vs_w_value_a1 vs_w_value_a2 from own_room_of hq0_14 hq0_15 hq0_11 p5_1.1 hq0_16 hq0_17) ne_a1_x5_0) hZ (own_wi hw 112 rfl) (own_wi hw 70 rfl) (by decide) (by decide)) (g := (mkF m 30 #[vR a1, vR a2, vI n_w_value_a2] [(.ref a2), (.int w_count_a1), (.ref a1)])) rfl (by rw [hml]; rfl) (Steps.refl _) (a := a1) (by rw [e10]; exact q11) q11' (argsL := [(.int w_count_a1), (.ref a2)]) (rest := []) (lenOf pd_9 rfl) rfl (by show 2 * 0 + _ ≤ _; exact Nat.le_of_eq rfl) (hb hby d15_30) (fun _ _ => ⟨rfl, e10, (by decide : 1 + 0 ≤ _), (by decide : 194 + 0 ≤ _)⟩)
  dsimp only [Pt.U, Pt.locs, Pt.cells, Pt.slots] at X11 l11 y11 z11 st11 hQ11
  subst l11 y11 z11
  obtain ⟨rfl, N11q, K11q, f11_0, f11_1⟩ := hQ11
  have y12 := (y8.keep K11q (ninS ne_w_value_a2_x5_0 nin0))
  have y13 := (own_StaKeep y9 K11q (allS (P := fun x => ∃ D, Exa Z T5.heap x D) ⟨_, f5_4⟩ all0))
  have K11 : Keep h0 T11.heap [a1, w_value_a1] := (K5).trans K11q (allS (P := fun x => x ∈ [a1, w_value_a1] ∨ h0.size ≤ x) (own_either (p5_0.imp id (Nat.le_trans ((Keep.refl h0 [a1, w_value_a1])).1)) (Or.inl (List.mem_of_getElem? (i := 1) rfl))) all0)
  have Z11 : n0 ≤ T11.heap.size := Nat.le_trans Z5 K11q.1
  have N11 := Fr.app N5 N11q
  obtain ⟨T14, X14, e14, st14⟩ := getF X11 hx hZ hown (host := "") (Or.inl (own_wi hw 101 rfl)) Via.refl rfl (f5_3.keep K11q (ninS ne_a1_x5_0 nin0)) (g := (mkF m 35 #[vR a1, vR a2, vI n_w_value_a2] [(.ref a1), (.ref a1)])) rfl rfl (hb hby d15_35)
  obtain ⟨T15, h15, X15, e15, W15, st15⟩ := putF X14 hx hZ hown (host := "") (Or.inl (own_wi hw 101 rfl)) Via.refl e14 (f5_3.keep K11q (ninS ne_a1_x5_0 nin0)) (f5_0.keep K11q) (Or.inl (own_wi hw 102 rfl)) (own_wi hw 61 rfl) (ty := .int) (by decide) rfl rfl (g := (mkF m 40 #[vR a1, vR a2, vI n_w_value_a2] [(.int (w_count_a1 + n_w_value_a2)), (.ref a1)])) rfl rfl (hb hby d15_40)
  have N15 := Fr.snoc X15 N11 g_a1
  have y16 := ((y6.keep K11q (ninS ne_a2_x5_0 nin0)).other W15 (Or.inl ne_a2_a1))
  have y17 := ((y7.keep K11q (ninS ne_a2_x5_0 nin0)).other W15 (Or.inl ne_a2_a1))
  have y18 := ((f5_1.keep K11q (ninS ne_a1_x5_0 nin0)).other W15 (Or.inr (slot_ne (Or.inl (own_wi hw 75 rfl)) (Or.inl (own_wi hw 102 rfl)) (by decide) (t := (.array .byte)) (t' := .int) (by decide) (by decide))))
  have y19 := ((f5_2.keep K11q (ninS ne_a1_x5_0 nin0)).other W15 (Or.inr (slot_ne (Or.inl (own_wi hw 77 rfl)) (Or.inl (own_wi hw 102 rfl)) (by decide) (t := .byte) (t' := .int) (by decide) (by decide))))
  have y20 := ((f5_3.keep K11q (ninS ne_a1_x5_0 nin0)).same W15)
  have K15 : Keep h0 h15 [a1, w_value_a1] := (K11).wr W15 (Or.inl (List.mem_of_getElem? (i := 0) rfl))
  have Z15 : n0 ≤ h15.size := Nat.le_trans Z11 (Keep.of_wr W15).1
  obtain ⟨fs, hr, hrun, hended, hW, hsame⟩ := X15.leave (v := some (.ref a1)) (fun h => by rw [Bd.returns] at h; cases h)
  refine ⟨_, _, pre0 _ ?_, hrun, hended, _, _, rfl, ?_, ⟨_, rfl⟩, hW, hsame.mono (by decide) (by decide)⟩
  · show Steps p.tables e below (s₁.setTop (mkF m 0 #[vR a1, vR a2, vU] [])) _
    refine XS.aloadN X0.here hx rfl (hb hby d15_0) rfl rfl ?_
    refine XS.ifnonnullYes X0.here hx rfl (pc0 := 1) (pc' := 9) rfl (hb hby d15_1) rfl (by decide) (by decide) ?_
    refine XS.aloadN X0.here hx rfl (hb hby d15_9) rfl rfl ?_
    show Steps p.tables e below (s₁.setTop (mkF m 10 #[vR a1, vR a2, vU] [(.ref a2)])) _
    refine st3.trans ?_
    show Steps p.tables e below (T3.setTop (mkF m 13 #[vR a1, vR a2, vU] [(.int n_w_value_a2)])) _
    refine XS.istoreN X3.here hx rfl (hb hby d15_13) rfl (l' := #[vR a1, vR a2, vI n_w_value_a2]) rfl ?_
    refine XS.aloadN X3.here hx rfl (hb hby d15_14) rfl rfl ?_
    refine XS.aloadN X3.here hx rfl (hb hby d15_15) rfl rfl ?_
    show Steps p.tables e below (T3.setTop (mkF m 16 #[vR a1, vR a2, vI n_w_value_a2] [(.ref a1), (.ref a1)])) _
    refine st4 _ ?_
    show Steps p.tables e below (T4.setTop (mkF m 19 #[vR a1, vR a2, vI n_w_value_a2] [(.int w_count_a1), (.ref a1)])) _
    refine XS.iloadN X4.here hx rfl (hb hby d15_19) rfl ?_
    refine XS.iadd X4.here hx rfl (hb hby d15_20) rfl ?_
    show Steps p.tables e below (T4.setTop (mkF m 21 #[vR a1, vR a2, vI n_w_value_a2] [(.int (w_count_a1 + n_w_value_a2)), (.ref a1)])) _
    refine st5.trans ?_
    show Steps p.tables e below (T5.setTop (mkF m 24 #[vR a1, vR a2, vI n_w_value_a2] [])) _
    refine XS.aloadN X5.here hx rfl (hb hby d15_24) rfl rfl ?_
    refine XS.aloadN X5.here hx rfl (hb hby d15_25) rfl rfl ?_
    show Steps p.tables e below (T5.setTop (mkF m 26 #[vR a1, vR a2, vI n_w_value_a2] [(.ref a1), (.ref a1)])) _
    refine st10 _ ?_
    show Steps p.tables e below (T10.setTop (mkF m 29 #[vR a1, vR a2, vI n_w_value_a2] [(.int w_count_a1), (.ref a1)])) _
    refine XS.aloadN X10.here hx rfl (hb hby d15_29) rfl rfl ?_
    show Steps p.tables e below (T10.setTop (mkF m 30 #[vR a1, vR a2, vI n_w_value_a2] [(.ref a2), (.int w_count_a1), (.ref a1)])) _
    refine st11.trans ?_
    show Steps p.tables e below (T11.setTop (mkF m 33 #[vR a1, vR a2, vI n_w_value_a2] [])) _
    refine XS.aloadN X11.here hx rfl (hb hby d15_33) rfl rfl ?_
    refine XS.dup X11.here hx rfl (hb hby d15_34) rfl rfl ?_
    show Steps p.tables e below (T11.setTop (mkF m 35 #[vR a1, vR a2, vI n_w_value_a2] [(.ref a1), (.ref a1)])) _
    refine st14 _ ?_
    show Steps p.tables e below (T14.setTop (mkF m 38 #[vR a1, vR a2, vI n_w_value_a2] [(.int w_count_a1), (.ref a1)])) _
    refine XS.iloadN X14.here hx rfl (hb hby d15_38) rfl ?_
    refine XS.iadd X14.here hx rfl (hb hby d15_39) rfl ?_
    show Steps p.tables e below (T14.setTop (mkF m 40 #[vR a1, vR a2, vI n_w_value_a2] [(.int (w_count_a1 + n_w_value_a2)), (.ref a1)])) _
    refine st15 _ ?_
    show Steps p.tables e below (T15.setTop (mkF m 43 #[vR a1, vR a2, vI n_w_value_a2] [])) _
    refine XS.aloadN X15.here hx rfl (hb hby d15_43) rfl rfl ?_
    show Steps p.tables e below (T15.setTop (mkF m 44 #[vR a1, vR a2, vI n_w_value_a2] [(.ref a1)])) _
    exact retOut X15 hx Bd.returns rfl (Or.inr (Or.inr (Or.inr (Or.inr ⟨rfl, rfl, rfl⟩)))) (hb hby d15_44) hr
  · show Q15 Z a1 a2 w_value_a1 w_count_a1 k_w_value_a1 n_w_value_a1 vs_w_value_a1 w_value_a2 k_w_value_a2 n_w_value_a2 vs_w_value_a2 st_COMPACT_STRINGS h0 n0 _ T15.heap _
    rw [e15]
    exact ⟨x5_0, x5_1, x5_2, rfl, N15, (K15), ((f5_0.keep K11q).wr W15), y18, y19, y20, (f11_0.wr W15), (f11_1.other W15 (Ne.symm ne_a1_x5_0)), (p5_0.imp id (Nat.le_trans ((Keep.refl h0 [a1, w_value_a1])).1)), p5_1⟩
theorem pd_10 : parseMethodDescriptor "(Ljava/lang/String;)Ljava/lang/AbstractStringBuilder;" = some ⟨[(.object "java/lang/String")], some (.object "java/lang/AbstractStringBuilder")⟩ := by decide +kernel
theorem d14_0 : decode jdk_67_method_7_code 0 = .ok (.aload_n 0, 1) := by decide +kernel
theorem d14_1 : decode jdk_67_method_7_code 1 = .ok (.aload_n 1, 1) := by decide +kernel
theorem d14_2 : decode jdk_67_method_7_code 2 = .ok (.invokespecial 29, 3) := by decide +kernel
theorem d14_5 : decode jdk_67_method_7_code 5 = .ok (.pop, 1) := by decide +kernel
theorem d14_6 : decode jdk_67_method_7_code 6 = .ok (.aload_n 0, 1) := by decide +kernel
theorem d14_7 : decode jdk_67_method_7_code 7 = .ok (.areturn, 1) := by decide +kernel
theorem pn_4 : plainName "java/lang/StringBuilder" = true := by first | (simp [plainName, overriddenIn]; done) | decide +kernel
theorem ef_14 (m : MethodId) (a1 : Addr) (a2 : Addr) : entryFrame m #[(.ref a1), (.ref a2)] 2 = mkF m 0 #[vR a1, vR a2] [] := by first | (simp [entryFrame, mkF, argsToLocals, Value.category]; done) | rfl
def Q14 (Z : State) (a1 : Addr) (a2 : Addr) (w_value_a1 : Addr) (w_count_a1 : Int32) (k_w_value_a1 : ClassId) (n_w_value_a1 : Int32) (vs_w_value_a1 : List Value) (w_value_a2 : Addr) (k_w_value_a2 : ClassId) (n_w_value_a2 : Int32) (vs_w_value_a2 : List Value) (st_COMPACT_STRINGS : Int32) (h0 : Heap) (n0 : Nat) (v : Option Value) (h : Heap) (L : List Loc) : Prop := ∃ (xd : Addr) (xk : ClassId) (xz : Int32), v = some (.ref a1) ∧ Fr n0 L ∧ Keep h0 h [w_value_a1, a1] ∧ Exa Z h a1 "java/lang/StringBuilder" ∧ Fld Z h a1 "java/lang/AbstractStringBuilder" "value" "[B" (.ref xd) ∧ Fld Z h a1 "java/lang/AbstractStringBuilder" "coder" "B" (.int (0 : Int32)) ∧ Fld Z h a1 "java/lang/AbstractStringBuilder" "count" "I" (.int (w_count_a1 + n_w_value_a2)) ∧ Exa Z h xd "[B" ∧ Arv Z h xd xk .byte xz (vs_w_value_a1 ++ vs_w_value_a2) (.int (0 : Int32)) ∧ (xd = w_value_a1 ∨ h0.size ≤ xd) ∧ ((w_count_a1 + n_w_value_a2).toInt ≤ xz.toInt ∧ xz.toInt ≤ 194)
set_option maxRecDepth 65536 in
set_option maxHeartbeats 40000000 in
theorem rm14 (l : Launch) (Z : State) (a0 : Array Value) (hw : ∀ d ∈ tables_1, d.before a0 Z = true) (ws : List Jvm.Cond) (a1 : Addr) (a2 : Addr) (w_value_a1 : Addr) (w_count_a1 : Int32) (k_w_value_a1 : ClassId) (n_w_value_a1 : Int32) (vs_w_value_a1 : List Value) (w_value_a2 : Addr) (k_w_value_a2 : ClassId) (n_w_value_a2 : Int32) (vs_w_value_a2 : List Value) (st_COMPACT_STRINGS : Int32) (h0 : Heap) (n0 : Nat) (Z0 : n0 ≤ h0.size) (E_a1 : Exa Z h0 a1 "java/lang/StringBuilder") (F_value_a1 : Fld Z h0 a1 "java/lang/AbstractStringBuilder" "value" "[B" (.ref w_value_a1)) (F_coder_a1 : Fld Z h0 a1 "java/lang/AbstractStringBuilder" "coder" "B" (.int (0 : Int32))) (F_count_a1 : Fld Z h0 a1 "java/lang/AbstractStringBuilder" "count" "I" (.int w_count_a1)) (V_w_value_a1 : Arv Z h0 w_value_a1 k_w_value_a1 .byte n_w_value_a1 vs_w_value_a1 (.int (0 : Int32))) (E_w_value_a1 : Exa Z h0 w_value_a1 "[B") (E_a2 : Exa Z h0 a2 "java/lang/String") (F_value_a2 : Fld Z h0 a2 "java/lang/String" "value" "[B" (.ref w_value_a2)) (F_coder_a2 : Fld Z h0 a2 "java/lang/String" "coder" "B" (.int (0 : Int32))) (V_w_value_a2 : Arv Z h0 w_value_a2 k_w_value_a2 .byte n_w_value_a2 vs_w_value_a2 (.int (0 : Int32))) (S_COMPACT_STRINGS : Sta Z h0 "java/lang/String" "COMPACT_STRINGS" "Z" (.int st_COMPACT_STRINGS)) (hq0_11 : own_b94 (w_count_a1 + n_w_value_a2)) (hq0_12 : own_b188 n_w_value_a1) (hq0_13 : own_fit n_w_value_a1 vs_w_value_a1) (hq0_14 : own_len w_count_a1 vs_w_value_a1) (hq0_15 : own_len n_w_value_a2 vs_w_value_a2) (hq0_16 : own_b94 w_count_a1) (hq0_17 : own_b94 n_w_value_a2) (g_a1 : n0 ≤ a1) (ne_w_value_a1_a1 : w_value_a1 ≠ a1) (ne_a1_w_value_a1 : a1 ≠ w_value_a1) (ne_a2_w_value_a1 : a2 ≠ w_value_a1) (ne_w_value_a2_w_value_a1 : w_value_a2 ≠ w_value_a1) (ne_a2_a1 : a2 ≠ a1) (ne_w_value_a2_a1 : w_value_a2 ≠ a1) (g_w_value_a1 : n0 ≤ w_value_a1) (hq2_26 : ¬ (st_COMPACT_STRINGS = (0 : Int32))) :
    MetFree l (⟨"java/lang/StringBuilder", "append", "(Ljava/lang/String;)Ljava/lang/StringBuilder;"⟩ : MethodName) (head1 (Jvm.Cond.code (⟨"java/lang/StringBuilder", "append", "(Ljava/lang/String;)Ljava/lang/StringBuilder;"⟩ : MethodName) jdk_67_method_7_code 2 (some (.object "java/lang/StringBuilder")) :: ws) ({ frames := 5, cells := 1, slots := 194, locals := 76 } : Room)) (fun a U => a = #[(.ref a1), (.ref a2)] ∧ Z.Warmed39 U.vm ∧ U.heap = h0) (fun _ _ _ _ _ => True) (fun _ U o U' => ∃ v L, o = .returned v ∧ Q14 Z a1 a2 w_value_a1 w_count_a1 k_w_value_a1 n_w_value_a1 vs_w_value_a1 w_value_a2 k_w_value_a2 n_w_value_a2 vs_w_value_a2 st_COMPACT_STRINGS h0 n0 v U'.heap L ∧ FrameEnd U o U' L ({ frames := 5, cells := 1, slots := 194, locals := 76 } : Room).cells ({ frames := 5, cells := 1, slots := 194, locals := 76 } : Room).slots) := by
  refine MetFree.of_bodySF (plainFor_of_name pn_4) hisR ?_
  intro p e s m args below meth c s₁ Bd hml0 hP hK
  obtain ⟨rfl, hZ, hh⟩ := hP
  have hx := Bd.exec
  have hby := Bd.bytes
  have hml : c.maxLocals = 2 := hml0
  have hown : s.vm.findClass "java/lang/StringBuilder" = some m.cls := findClass_of_methodNamed Bd.named
  have hnm := (name_of_methodNamed Bd.named Bd.method).1
  have X0 : Stand p l e ({ frames := 5, cells := 1, slots := 194, locals := 76 } : Room) s m #[(.ref a1), (.ref a2)] below meth c s₁ [] 0 0 := Stand.of_body Bd
  have e0 : s₁.heap = h0 := by rw [← hh, Bd.state]; rfl
  have N0 := Fr.nil n0
  have pre0 : ∀ t, Steps p.tables e below (s₁.setTop (mkF m 0 #[vR a1, vR a2] [])) t → Steps p.tables e below (s₁.setTop (entryFrame m #[(.ref a1), (.ref a2)] 2)) t := fun t k => castTop (ef_14 m a1 a2) k
  obtain ⟨_, _, ⟨T3, L3, k3, n3⟩, -, X3, ⟨Lc3, hQ3, l3, y3, z3⟩, st3⟩ := superBack X0 hx hZ (y := (⟨"java/lang/AbstractStringBuilder", "append", "(Ljava/lang/String;)Ljava/lang/AbstractStringBuilder;"⟩ : MethodName)) hown (own_wi hw 86 rfl) (own_same (w := (⟨"java/lang/AbstractStringBuilder", "ensureCapacityInternal", "(I)V"⟩ : MethodName)) (own_wi hw 106 rfl) rfl (own_wi hw 87 rfl) (by decide)) (own_wi hw 87 rfl) (own_wi hw 88 rfl) (by decide) (backOf (W := 0) (rm15 l Z a0 hw [] a1 a2 w_value_a1 w_count_a1 k_w_value_a1 n_w_value_a1 vs_w_value_a1 w_value_a2 k_w_value_a2 n_w_value_a2 vs_w_value_a2 st_COMPACT_STRINGS h0 n0 Z0 E_a1 F_value_a1 F_coder_a1 F_count_a1 V_w_value_a1 E_w_value_a1 E_a2 F_value_a2 F_coder_a2 V_w_value_a2 S_COMPACT_STRINGS hq0_11 hq0_12 hq0_13 hq0_14 hq0_15 hq0_16 hq0_17 hq2_26 g_a1 ne_w_value_a1_a1 ne_a1_w_value_a1 ne_a2_w_value_a1 ne_w_value_a2_w_value_a1 ne_a2_a1 ne_w_value_a2_a1 g_w_value_a1) hZ (own_wi hw 90 rfl) (own_wi hw 70 rfl) (by decide) (by decide)) e0 (Ins.self E_a1) (g := (mkF m 2 #[vR a1, vR a2] [(.ref a2), (.ref a1)])) rfl (by rw [hml]; rfl) (own_wi hw 90 rfl) (argsL := [(.ref a2)]) (rest := []) (lenOf pd_10 rfl) rfl (by show 2 * 0 + _ ≤ _; exact Nat.le_of_eq rfl) (hb hby d14_2) (fun _ _ => ⟨rfl, e0, (by decide : 0 + 1 ≤ _), (by decide : 0 + 194 ≤ _)⟩)
  dsimp only [Pt.U, Pt.locs, Pt.cells, Pt.slots] at X3 l3 y3 z3 st3 hQ3
  subst l3 y3 z3
  obtain ⟨x3_0, x3_1, x3_2, rfl, N3q, K3q, f3_0, f3_1, f3_2, f3_3, f3_4, f3_5, p3_0, p3_1⟩ := hQ3
  have ne_a1_x3_0 : a1 ≠ x3_0 := own_eitherN p3_0 ne_a1_w_value_a1 E_a1.lt
  have ne_a2_x3_0 : a2 ≠ x3_0 := own_eitherN p3_0 ne_a2_w_value_a1 E_a2.lt
  have ne_w_value_a2_x3_0 : w_value_a2 ≠ x3_0 := own_eitherN p3_0 ne_w_value_a2_w_value_a1 V_w_value_a2.lt
  have y4 := (F_value_a2.keep K3q (ninS ne_a2_a1 (ninS ne_a2_w_value_a1 nin0)))
  have y5 := (F_coder_a2.keep K3q (ninS ne_a2_a1 (ninS ne_a2_w_value_a1 nin0)))
  have y6 := (V_w_value_a2.keep K3q (ninS ne_w_value_a2_a1 (ninS ne_w_value_a2_w_value_a1 nin0)))
  have y7 := (own_StaKeep S_COMPACT_STRINGS K3q (allS (P := fun x => ∃ D, Exa Z h0 x D) ⟨_, E_a1⟩ (allS (P := fun x => ∃ D, Exa Z h0 x D) ⟨_, E_w_value_a1⟩ all0)))
  have K3 : Keep h0 T3.heap [w_value_a1, a1] := ((Keep.refl h0 [w_value_a1, a1])).trans K3q (allS (P := fun x => x ∈ [w_value_a1, a1] ∨ h0.size ≤ x) (Or.inl (List.mem_of_getElem? (i := 1) rfl)) (allS (P := fun x => x ∈ [w_value_a1, a1] ∨ h0.size ≤ x) (Or.inl (List.mem_of_getElem? (i := 0) rfl)) all0))
  have Z3 : n0 ≤ T3.heap.size := Nat.le_trans Z0 K3q.1
  have N3 := Fr.app N0 N3q
  obtain ⟨fs, hr, hrun, hended, hW, hsame⟩ := X3.leave (v := some (.ref a1)) (fun h => by rw [Bd.returns] at h; cases h)
  refine ⟨_, _, pre0 _ ?_, hrun, hended, _, _, rfl, ?_, ⟨_, rfl⟩, hW, hsame.mono (by decide) (by decide)⟩
  · show Steps p.tables e below (s₁.setTop (mkF m 0 #[vR a1, vR a2] [])) _
    refine XS.aloadN X0.here hx rfl (hb hby d14_0) rfl rfl ?_
    refine XS.aloadN X0.here hx rfl (hb hby d14_1) rfl rfl ?_
    show Steps p.tables e below (s₁.setTop (mkF m 2 #[vR a1, vR a2] [(.ref a2), (.ref a1)])) _
    refine st3.trans ?_
    show Steps p.tables e below (T3.setTop (mkF m 5 #[vR a1, vR a2] [(.ref a1)])) _
    refine XS.pop X3.here hx rfl (hb hby d14_5) rfl rfl ?_
    refine XS.aloadN X3.here hx rfl (hb hby d14_6) rfl rfl ?_
    show Steps p.tables e below (T3.setTop (mkF m 7 #[vR a1, vR a2] [(.ref a1)])) _
    exact retOut X3 hx Bd.returns rfl (Or.inr (Or.inr (Or.inr (Or.inr ⟨rfl, rfl, rfl⟩)))) (hb hby d14_7) hr
  · show Q14 Z a1 a2 w_value_a1 w_count_a1 k_w_value_a1 n_w_value_a1 vs_w_value_a1 w_value_a2 k_w_value_a2 n_w_value_a2 vs_w_value_a2 st_COMPACT_STRINGS h0 n0 _ T3.heap _
    exact ⟨x3_0, x3_1, x3_2, rfl, N3, (K3), f3_0, f3_1, f3_2, f3_3, f3_4, f3_5, (p3_0.imp id (Nat.le_trans ((Keep.refl h0 [w_value_a1, a1])).1)), p3_1⟩
open Jvm.Free.SB Jvm.Free.SBG in
/-- the JDK's two tables of digits, at the start -/
def own_Dig (Z : State) : Prop := ∃ (st d1 d2 : Addr) (D1 D2 : Cell), Tbl Z "DigitOnes" st d1 D1 ∧ Tbl Z "DigitTens" st d2 D2 ∧ Ones D1 ∧ Tens D2
def own_abs (v : Int64) : Nat := v.toInt.natAbs
theorem own_abs_le (v : Int64) : own_abs v ≤ 2 ^ 63 := by have := rng64 v; unfold own_abs; omega
theorem own_abs_neg (v : Int64) : (if v < 0 then v else -v) = Jvm.Free.SBG.negL (own_abs v) := by
  have r := rng64 v
  have e := Jvm.Free.SBG.negL_toInt (own_abs_le v)
  have z : (0 : Int64).toInt = 0 := rfl
  rw [← Int64.toInt_inj, e]
  split
  · rename_i q; rw [Int64.lt_iff_toInt_lt, z] at q; unfold own_abs; omega
  · rename_i q; rw [Int64.lt_iff_toInt_lt, z] at q
    have q1 := c_lneg v
    have r1 := rng64 (-v)
    unfold own_abs; omega
/-- how many signs the number has -/
def own_dn (v : Int64) : Nat := Jvm.Free.SBG.digitsL (own_abs v) + Jvm.Free.SBG.GetCharsL.sgnL v
theorem own_dn_le (v : Int64) : 1 ≤ own_dn v ∧ own_dn v ≤ 21 := by
  have := Jvm.Free.SBG.digitsL_pos (own_abs v)
  unfold own_dn Jvm.Free.SBG.GetCharsL.sgnL; split <;> omega
/-- sign number i of the number, from the left -/
def own_dig (v : Int64) (i : Nat) : Value := if v < 0 ∧ i = 0 then .int 45 else .int (Int32.ofNat (48 + own_abs v / 10 ^ (own_dn v - 1 - i) % 10))
/-- the number in decimal -/
def own_dec (v : Int64) : List Value := (List.range (own_dn v)).map (own_dig v)
theorem own_dec_len (v : Int64) : (own_dec v).length = own_dn v := by simp [own_dec]
def own_size (v : Int64) : Int32 := Jvm.Free.SBG.strSizeOfL v
theorem own_size_eq (v : Int64) : own_size v = Int32.ofNat (own_dn v) := Jvm.Free.SBG.strSizeOfL_eq (own_abs_le v) (own_abs_neg v)
theorem own_ofNat {n : Nat} (h : n < 2147483648) : (Int32.ofNat n).toInt = n := Int32.toInt_ofNat_of_lt (by omega)
theorem own_size_int (v : Int64) : (own_size v).toInt = own_dn v := by rw [own_size_eq, own_ofNat (by have := own_dn_le v; omega)]
theorem own_size_len (v : Int64) : own_len (own_size v) (own_dec v) := by unfold own_len; rw [own_size_int, own_dec_len]
section Gc
open Jvm.Free.SB Jvm.Free.SBG
variable {p : Program} {l : Launch} {e : Env} {R : Room} {s : State} {m : MethodId} {args : Array Value} {below : List Frame} {meth : Method} {c : Code} {T : State} {locs : List Loc} {cells slots : Nat} {Z : State} {a0 : Array Value} {h : Heap}
theorem own_ss (X : Stand p l e R s m args below meth c T locs cells slots) (hx : p.tables.exec = Jvm.exec) (hZ : Z.Warmed39 s.vm) {own : String} {index : Nat} (hown : s.vm.findClass own = some m.cls)
    (w1 : (Jvm.Cond.methodLink own index StrSizeL.ssN).before a0 Z = true) (w2 : (Jvm.Cond.static StrSizeL.ssN).before a0 Z = true) (w3 : (Jvm.Cond.initialized "java/lang/Long").before a0 Z = true) (w4 : (Jvm.Cond.code StrSizeL.ssN StrSizeL.ssB 6 (some .int)).before a0 Z = true)
    (w5 : (Jvm.Cond.constantLong "java/lang/Long" 140 (-10)).before a0 Z = true) (w6 : (Jvm.Cond.constantLong "java/lang/Long" 53 10).before a0 Z = true) (eT : T.heap = h) {v : Int64}
    {g : JFrame} (hg : g.method = m) (hsize : g.locals.size = c.maxLocals) {rest : List Value} (hs : g.stack = .long v :: rest) (hd : decode c.code g.pc = .ok (.invokestatic index, 3))
    (hf : 2 ≤ R.frames) {W : Nat} (hW : 2 * g.monitorRoom + (rest.map fun v => v.category).sum ≤ W) (hlo : W + 57 ≤ R.locals) (hc : cells ≤ R.cells) (hl : slots ≤ R.slots) :
    ∃ T', Stand p l e R s m args below meth c T' locs cells slots ∧ T'.heap = h ∧
      ∀ target, Steps p.tables e below (T'.setTop { g with pc := g.pc + 3, stack := .int (own_size v) :: rest }) target → Steps p.tables e below (T.setTop g) target := by
  have htab : StrSizeL.tab.before args s = true := by
    simp only [StrSizeL.tab, Cond.before_and, Bool.and_eq_true]
    exact ⟨mvT hZ w4, mvT hZ w5, mvT hZ w6⟩
  obtain ⟨r, vm1, ⟨T1, L1, c1, s1⟩, -, X1, ⟨⟨u1, u2, u3, u4⟩, rel⟩, st⟩ := Jvm.LawKit.callS X hx (y := StrSizeL.ssN) hown (mvT hZ w1) (mvT hZ w2) (mvT hZ w3) (mvT hZ w4) (by decide) (StrSizeL.pays (W := W) hf hlo htab (mvT hZ w3)) hg hsize (argsL := [.long v]) (rest := rest)
    (fun sig q => by rw [show parseMethodDescriptor StrSizeL.ssN.desc = some ⟨[.long], some .int⟩ from by decide +kernel] at q; rw [← Option.some.inj q]; rfl) hs hW hd (fun _ _ => ⟨hc, hl, v, rfl⟩)
  dsimp only [Pt.U, Pt.locs, Pt.cells, Pt.slots] at X1 u1 u2 u3 u4 rel st
  subst u2 u3 u4
  obtain rfl := rel v rfl
  exact ⟨T1, X1, u1.trans eT, st⟩
theorem own_gc (X : Stand p l e R s m args below meth c T locs cells slots) (hx : p.tables.exec = Jvm.exec) (hZ : Z.Warmed39 s.vm) {own : String} {index : Nat} (hown : s.vm.findClass own = some m.cls)
    (w1 : (Jvm.Cond.methodLink own index GetCharsL.gcN).before a0 Z = true) (w2 : (Jvm.Cond.static GetCharsL.gcN).before a0 Z = true) (w3 : (Jvm.Cond.initialized "java/lang/Long").before a0 Z = true) (w4 : (Jvm.Cond.code GetCharsL.gcN GetCharsL.gcB 11 (some .int)).before a0 Z = true)
    (w5 : (Jvm.Cond.fieldLink "java/lang/Long" 133 "java/lang/Integer" "DigitOnes" "[B").before a0 Z = true) (w6 : (Jvm.Cond.fieldLink "java/lang/Long" 137 "java/lang/Integer" "DigitTens" "[B").before a0 Z = true) (w7 : (Jvm.Cond.constantLong "java/lang/Long" 129 (-2147483648)).before a0 Z = true) (w8 : (Jvm.Cond.constantLong "java/lang/Long" 131 100).before a0 Z = true)
    (eT : T.heap = h) {v : Int64} {k : ClassId} {z ix : Int32} {vs : List Value} {b : Addr} (A : Arv Z h b k .byte z vs (.int (0 : Int32))) (hix : ix.toInt = vs.length + own_dn v) (hz : ix.toInt ≤ z.toInt) (hz2 : z.toInt ≤ 194) {n0 : Nat} (O : Old Z n0 h) (hD : own_Dig Z) (N : Fr n0 locs) (ge : n0 ≤ b)
    {g : JFrame} (hg : g.method = m) (hsize : g.locals.size = c.maxLocals) {rest : List Value} (hs : g.stack = .ref b :: .int ix :: .long v :: rest) (hd : decode c.code g.pc = .ok (.invokestatic index, 3))
    (hf : 2 ≤ R.frames) {W : Nat} (hW : 2 * g.monitorRoom + (rest.map fun v => v.category).sum ≤ W) (hlo : W + 102 ≤ R.locals) (hc : cells ≤ R.cells) (hl : slots ≤ R.slots) :
    ∃ T' h' L w, Stand p l e R s m args below meth c T' L cells slots ∧ T'.heap = h' ∧ Fr n0 L ∧ Keep h h' [b] ∧ Arv Z h' b k .byte z (vs ++ own_dec v) (.int (0 : Int32)) ∧
      ∀ target, Steps p.tables e below (T'.setTop { g with pc := g.pc + 3, stack := .int w :: rest }) target → Steps p.tables e below (T.setTop g) target := by
  obtain ⟨cl, Ar, qq, S, NN, HH, GG⟩ := A
  obtain ⟨ist, d1, d2, D1, D2, t1, t2, hO, hT⟩ := hD
  have nz := own_nat z
  have nix := own_nat ix
  have hl0 : vs.length + own_dn v < 2147483648 := by have := own_nat z; omega
  have eix : ix = Int32.ofNat (vs.length + own_dn v) := by
    rw [← Int32.toInt_inj, hix, own_ofNat hl0]; omega
  have htab : GetCharsL.tab.before args s = true := by
    simp only [GetCharsL.tab, Cond.before_and, Bool.and_eq_true]
    exact ⟨mvT hZ w4, mvT hZ w5, mvT hZ w6, mvT hZ w7, mvT hZ w8⟩
  obtain ⟨_, _, _, _, cI1, -, -, -, -, hcI1, -, -, hD1, -⟩ := id t1
  obtain ⟨_, _, _, _, cI2, -, -, -, -, hcI2, -, -, hD2, -⟩ := id t2
  have lt : ∀ {y : Addr} {cy : Cell}, Z.heap[y]? = some cy → y < n0 := fun q => O.1 ▸ (Array.getElem?_eq_some_iff.mp q).1
  have neb : ∀ {y : Addr} {cy : Cell}, Z.heap[y]? = some cy → b ≠ y := fun q => Ne.symm (Nat.ne_of_lt (Nat.lt_of_lt_of_le (lt q) ge))
  have kp : ∀ (y : Addr) (cy : Cell), Z.heap[y]? = some cy → T.heap[y]? = some cy := fun y cy q => by rw [eT]; exact O.2.2 y cy q
  have hby : ∀ i, i < cl.slots.size → fits .byte (cl.slots.getD i .null) = true := fun i hi => by
    have q := GG i hi; rw [Array.getD_eq_getD_getElem?, HH i hi]; exact q
  let G0 : GetCharsL.G := ⟨v, own_abs v, vs.length + own_dn v, b, cl, ist, d1, D1, d2, D2⟩
  have hP : ∀ vm₁, s.WarmedH vm₁ → GetCharsL.P G0 #[.long v, .int (Int32.ofNat (vs.length + own_dn v)), .ref b] (T.setVm vm₁) := fun vm₁ hw => by
    have hal : Z.vm.Alike vm₁ := hZ.alike.trans hw.alike
    refine ⟨rfl, (by show T.heap[b]? = _; rw [eT]; exact Ar.1), State.isArrayOf_alike (s := Z) (T := T.setVm vm₁) hal Ar.2.1, Ar.2.2, (by show cl.slots.size < _; omega), (by show vs.length + own_dn v ≤ cl.slots.size; omega), (by show own_dn v ≤ vs.length + own_dn v; omega), own_abs_le v, own_abs_neg v,
      t1.move (U' := T.setVm vm₁) hal (fun cc q => kp _ cc q) (kp _ _ hD1), t2.move (U' := T.setVm vm₁) hal (fun cc q => kp _ cc q) (kp _ _ hD2), neb hcI1, neb hD1, neb hD2⟩
  obtain ⟨r, vm1, ⟨T1, L1, c1, s1⟩, -, X1, ⟨rfl, hd1, hc1, hs1, hz1, kept, LG, hL1, hLG⟩, st⟩ := Jvm.LawKit.callS X hx (y := GetCharsL.gcN) hown (mvT hZ w1) (mvT hZ w2) (mvT hZ w3) (mvT hZ w4) (by decide) (GetCharsL.pays G0 W htab (mvT hZ w3) hf hlo) hg hsize (argsL := [.long v, .int ix, .ref b]) (rest := rest)
    (fun sig q => by rw [show parseMethodDescriptor GetCharsL.gcN.desc = some ⟨[.long, .int, .array .byte], some .int⟩ from by decide +kernel] at q; rw [← Option.some.inj q]; rfl) hs hW hd (fun vm₁ hw => by rw [eix]; exact ⟨rfl, hc, hl, hP vm₁ hw⟩)
  dsimp only [Pt.U, Pt.locs, Pt.cells, Pt.slots] at X1 hd1 hc1 hs1 hz1 kept hL1 st
  subst hc1 hs1 hL1
  have hh1 : (T.setVm vm1).heap = h := eT
  rw [hh1] at kept hz1
  obtain ⟨o1, o2, o3, o4, o5⟩ := GetCharsL.outCell_facts G0 (own_abs_le v) (by show own_dn v ≤ vs.length + own_dn v; omega) hby
  obtain ⟨f1, f2, f3⟩ := outCellL_fwd G0 hO hT (own_abs_le v) (n0 := vs.length) rfl (by show vs.length + own_dn v ≤ cl.slots.size; omega)
  have o3' : (GetCharsL.outCell G0).slots.size = cl.slots.size := o3
  have key : ∀ i, i < cl.slots.size → (GetCharsL.outCell G0).slots[i]? = some ((vs ++ own_dec v).getD i (.int (0 : Int32))) := fun i hi => by
    by_cases c1 : i < vs.length
    · rw [f3 i c1]; show cl.slots[i]? = _
      rw [HH i hi]; simp only [List.getD_eq_getElem?_getD, List.getElem?_append_left c1]
    · by_cases c2 : i < vs.length + own_dn v
      · have e1 : (vs ++ own_dec v).getD i (.int (0 : Int32)) = own_dig v (i - vs.length) := by
          simp only [List.getD_eq_getElem?_getD]
          rw [List.getElem?_append_right (by omega)]
          simp [own_dec, show i - vs.length < own_dn v by omega]
        rw [e1]
        unfold own_dig
        by_cases hx : v < 0
        · have sg : GetCharsL.sgnL v = 1 := by simp [GetCharsL.sgnL, hx]
          by_cases c3 : i = vs.length
          · subst c3; rw [if_pos ⟨hx, by omega⟩]; exact f1 hx
          · rw [if_neg (by omega)]
            have edn : own_dn v = digitsL (own_abs v) + 1 := by unfold own_dn; rw [sg]
            have q := f2 (i - vs.length - 1) (by show _ < digitsL (own_abs v); omega)
            have e2 : vs.length + GetCharsL.sgnL G0.x + (i - vs.length - 1) = i := by show vs.length + GetCharsL.sgnL v + _ = i; rw [sg]; omega
            rw [e2] at q
            rw [q]
            show some (Value.int (Int32.ofNat (48 + own_abs v / 10 ^ (digitsL (own_abs v) - 1 - (i - vs.length - 1)) % 10))) = _
            rw [show digitsL (own_abs v) - 1 - (i - vs.length - 1) = own_dn v - 1 - (i - vs.length) by omega]
        · have sg : GetCharsL.sgnL v = 0 := by simp [GetCharsL.sgnL, hx]
          rw [if_neg (fun q => hx q.1)]
          have edn : own_dn v = digitsL (own_abs v) := by unfold own_dn; rw [sg]; rfl
          have q := f2 (i - vs.length) (by show _ < digitsL (own_abs v); omega)
          have e2 : vs.length + GetCharsL.sgnL G0.x + (i - vs.length) = i := by show vs.length + GetCharsL.sgnL v + _ = i; rw [sg]; omega
          rw [e2] at q
          rw [q]
          show some (Value.int (Int32.ofNat (48 + own_abs v / 10 ^ (digitsL (own_abs v) - 1 - (i - vs.length)) % 10))) = _
          rw [edn]
      · rw [o5 i (Or.inr (by show vs.length + own_dn v ≤ i; omega))]; show cl.slots[i]? = _
        rw [HH i hi]
        simp only [List.getD_eq_getElem?_getD]
        rw [List.getElem?_eq_none (by omega), List.getElem?_eq_none (by rw [List.length_append, own_dec_len]; omega)]
  refine ⟨T1, T1.heap, locs ++ LG, _, X1, rfl, N.app fun y hy => by rw [hLG y hy]; exact ge, ⟨by rw [hz1]; exact Nat.le_refl _, fun x cx q r => kept x cx (fun e => r (by rw [e]; simp [G0])) q, fun x cx q => ?_⟩, ⟨GetCharsL.outCell G0, ⟨hd1, ?_, ?_⟩, o1.trans qq, o3'.trans S, NN, fun j hj => ?_, fun j hj => ?_⟩, st⟩
  · by_cases u : x = b
    · subst u; cases Ar.1.symm.trans q
      exact ⟨_, hd1, o1, o2, o3⟩
    · exact ⟨cx, kept x cx u q, rfl, rfl, rfl⟩
  · have := Ar.2.1; unfold State.isArrayOf at this ⊢; rw [show (GetCharsL.outCell G0).cls = cl.cls from o1, show (GetCharsL.outCell G0).vm = cl.vm from o2]; exact this
  · rw [show (GetCharsL.outCell G0).vm = cl.vm from o2]; exact Ar.2.2
  · exact key j (o3' ▸ hj)
  · have q := o4 j hj
    rw [Array.getD_eq_getD_getElem?, key j (o3' ▸ hj)] at q
    exact q
end Gc
theorem own_ix {w : Int32} {vs : List Value} {v : Int64} (h : own_len w vs) (h2 : own_b94 (w + (own_size v))) (h1 : own_b94 w) : (w + (own_size v)).toInt = vs.length + own_dn v := by
  have q := c_iadd w (own_size v)
  have d := own_dn_le v
  rw [own_size_int] at q
  unfold own_len at h; unfold own_b94 at h1 h2
  omega
theorem own_sub0 (x : Int32) : x - (0 : Int32) = x := by simp
theorem own_cap97 {x : Int32} (h : own_b94 x) : ¬ x < 0 ∧ x.toNatClampNeg ≤ 97 := by
  unfold own_b94 at h; have n := own_nat x; rw [Int32.lt_iff_toInt_lt, own_z0]; omega
theorem d25_0 : decode jdk_68_method_68_code 0 = .ok (.getstatic 18, 3) := by decide +kernel
theorem d25_3 : decode jdk_68_method_68_code 3 = .ok (.ifCond .eq 14, 3) := by decide +kernel
theorem d25_6 : decode jdk_68_method_68_code 6 = .ok (.aload_n 0, 1) := by decide +kernel
theorem d25_7 : decode jdk_68_method_68_code 7 = .ok (.getfield 22, 3) := by decide +kernel
theorem d25_10 : decode jdk_68_method_68_code 10 = .ok (.ifCond .ne 7, 3) := by decide +kernel
theorem d25_13 : decode jdk_68_method_68_code 13 = .ok (.iconst 1, 1) := by decide +kernel
theorem d25_14 : decode jdk_68_method_68_code 14 = .ok (.goto 4, 3) := by decide +kernel
theorem d25_18 : decode jdk_68_method_68_code 18 = .ok (.ireturn, 1) := by decide +kernel
theorem ef_25 (m : MethodId) (a1 : Addr) : entryFrame m #[(.ref a1)] 1 = mkF m 0 #[vR a1] [] := by first | (simp [entryFrame, mkF, argsToLocals, Value.category]; done) | rfl
def Q25 (Z : State) (a1 : Addr) (st_COMPACT_STRINGS : Int32) (h0 : Heap) (n0 : Nat) (v : Option Value) (h : Heap) (L : List Loc) : Prop := v = some (.int (1 : Int32)) ∧ Fr n0 L ∧ h = h0
set_option maxRecDepth 65536 in
set_option maxHeartbeats 40000000 in
theorem rm25 (l : Launch) (Z : State) (a0 : Array Value) (hw : ∀ d ∈ tables_1, d.before a0 Z = true) (ws : List Jvm.Cond) (a1 : Addr) (st_COMPACT_STRINGS : Int32) (h0 : Heap) (n0 : Nat) (Z0 : n0 ≤ h0.size) (S_COMPACT_STRINGS : Sta Z h0 "java/lang/String" "COMPACT_STRINGS" "Z" (.int st_COMPACT_STRINGS)) (hc3 : ¬ (st_COMPACT_STRINGS = (0 : Int32))) (F_coder_a1 : Fld Z h0 a1 "java/lang/AbstractStringBuilder" "coder" "B" (.int (0 : Int32))) :
    MetFree l (⟨"java/lang/AbstractStringBuilder", "isLatin1", "()Z"⟩ : MethodName) (head1 (Jvm.Cond.code (⟨"java/lang/AbstractStringBuilder", "isLatin1", "()Z"⟩ : MethodName) jdk_68_method_68_code 1 (some .boolean) :: ws) ({ frames := 0, cells := 0, slots := 0, locals := 0 } : Room)) (fun a U => a = #[(.ref a1)] ∧ Z.Warmed39 U.vm ∧ U.heap = h0) (fun _ _ _ _ _ => True) (fun _ U o U' => ∃ v L, o = .returned v ∧ Q25 Z a1 st_COMPACT_STRINGS h0 n0 v U'.heap L ∧ FrameEnd U o U' L ({ frames := 0, cells := 0, slots := 0, locals := 0 } : Room).cells ({ frames := 0, cells := 0, slots := 0, locals := 0 } : Room).slots) := by
  refine MetFree.of_bodySF (plainFor_of_name pn_2) hisR ?_
  intro p e s m args below meth c s₁ Bd hml0 hP hK
  obtain ⟨rfl, hZ, hh⟩ := hP
  have hx := Bd.exec
  have hby := Bd.bytes
  have hml : c.maxLocals = 1 := hml0
  have hown : s.vm.findClass "java/lang/AbstractStringBuilder" = some m.cls := findClass_of_methodNamed Bd.named
  have hnm := (name_of_methodNamed Bd.named Bd.method).1
  have X0 : Stand p l e ({ frames := 0, cells := 0, slots := 0, locals := 0 } : Room) s m #[(.ref a1)] below meth c s₁ [] 0 0 := Stand.of_body Bd
  have e0 : s₁.heap = h0 := by rw [← hh, Bd.state]; rfl
  have N0 := Fr.nil n0
  have pre0 : ∀ t, Steps p.tables e below (s₁.setTop (mkF m 0 #[vR a1] [])) t → Steps p.tables e below (s₁.setTop (entryFrame m #[(.ref a1)] 1)) t := fun t k => castTop (ef_25 m a1) k
  obtain ⟨T2, X2, e2, st2⟩ := getS2 X0 hx hZ hown (host := "") (Or.inl (own_wi hw 73 rfl)) Via.refl e0 S_COMPACT_STRINGS (g := (mkF m 0 #[vR a1] [])) rfl (hb hby d25_0)
  obtain ⟨T3, X3, e3, st3⟩ := getF X2 hx hZ hown (host := "") (Or.inl (own_wi hw 76 rfl)) Via.refl e2 F_coder_a1 (g := (mkF m 7 #[vR a1] [(.ref a1)])) rfl rfl (hb hby d25_7)
  obtain ⟨fs, hr, hrun, hended, hW, hsame⟩ := X3.leave (v := some (.int (1 : Int32))) (fun h => by rw [Bd.returns] at h; cases h)
  refine ⟨_, _, pre0 _ ?_, hrun, hended, _, _, rfl, ?_, ⟨_, rfl⟩, hW, hsame.mono (by decide) (by decide)⟩
  · show Steps p.tables e below (s₁.setTop (mkF m 0 #[vR a1] [])) _
    refine st2 _ ?_
    show Steps p.tables e below (T2.setTop (mkF m 3 #[vR a1] [(.int st_COMPACT_STRINGS)])) _
    refine XS.ifNo X2.here hx rfl (hb hby d25_3) rfl ((if0 _ _).trans (feq hc3).1) ?_
    refine XS.aloadN X2.here hx rfl (hb hby d25_6) rfl rfl ?_
    show Steps p.tables e below (T2.setTop (mkF m 7 #[vR a1] [(.ref a1)])) _
    refine st3 _ ?_
    show Steps p.tables e below (T3.setTop (mkF m 10 #[vR a1] [(.int (0 : Int32))])) _
    refine XS.ifNo X3.here hx rfl (hb hby d25_10) rfl ((if0 _ _).trans (teq (by decide : (0 : Int32) = (0 : Int32))).2) ?_
    refine XS.iconst X3.here hx rfl (hb hby d25_13) ?_
    refine XS.goto X3.here hx rfl (pc0 := 14) (pc' := 18) rfl (hb hby d25_14) (by decide) (by decide) ?_
    show Steps p.tables e below (T3.setTop (mkF m 18 #[vR a1] [(.int (1 : Int32))])) _
    exact retN X3 hx (t := .boolean) Bd.returns (by simp) (hb hby d25_18) hr
  · show Q25 Z a1 st_COMPACT_STRINGS h0 n0 _ T3.heap _
    rw [e3]
    exact ⟨rfl, N0, rfl⟩
theorem pd_11 : parseMethodDescriptor "()Z" = some ⟨[], some .boolean⟩ := by decide +kernel
theorem d23_0 : decode jdk_68_method_33_code 0 = .ok (.aload_n 0, 1) := by decide +kernel
theorem d23_1 : decode jdk_68_method_33_code 1 = .ok (.getfield 79, 3) := by decide +kernel
theorem d23_4 : decode jdk_68_method_33_code 4 = .ok (.istore_n 3, 1) := by decide +kernel
theorem d23_5 : decode jdk_68_method_33_code 5 = .ok (.iload_n 3, 1) := by decide +kernel
theorem d23_6 : decode jdk_68_method_33_code 6 = .ok (.lload_n 1, 1) := by decide +kernel
theorem d23_7 : decode jdk_68_method_33_code 7 = .ok (.invokestatic 254, 3) := by decide +kernel
theorem d23_10 : decode jdk_68_method_33_code 10 = .ok (.iadd, 1) := by decide +kernel
theorem d23_11 : decode jdk_68_method_33_code 11 = .ok (.istore 4, 2) := by decide +kernel
theorem d23_13 : decode jdk_68_method_33_code 13 = .ok (.aload_n 0, 1) := by decide +kernel
theorem d23_14 : decode jdk_68_method_33_code 14 = .ok (.iload 4, 2) := by decide +kernel
theorem d23_16 : decode jdk_68_method_33_code 16 = .ok (.invokevirtual 100, 3) := by decide +kernel
theorem d23_19 : decode jdk_68_method_33_code 19 = .ok (.aload_n 0, 1) := by decide +kernel
theorem d23_20 : decode jdk_68_method_33_code 20 = .ok (.invokevirtual 83, 3) := by decide +kernel
theorem d23_23 : decode jdk_68_method_33_code 23 = .ok (.ifCond .eq 17, 3) := by decide +kernel
theorem d23_26 : decode jdk_68_method_33_code 26 = .ok (.lload_n 1, 1) := by decide +kernel
theorem d23_27 : decode jdk_68_method_33_code 27 = .ok (.iload 4, 2) := by decide +kernel
theorem d23_29 : decode jdk_68_method_33_code 29 = .ok (.aload_n 0, 1) := by decide +kernel
theorem d23_30 : decode jdk_68_method_33_code 30 = .ok (.getfield 15, 3) := by decide +kernel
theorem d23_33 : decode jdk_68_method_33_code 33 = .ok (.invokestatic 259, 3) := by decide +kernel
theorem d23_36 : decode jdk_68_method_33_code 36 = .ok (.pop, 1) := by decide +kernel
theorem d23_37 : decode jdk_68_method_33_code 37 = .ok (.goto 15, 3) := by decide +kernel
theorem d23_52 : decode jdk_68_method_33_code 52 = .ok (.aload_n 0, 1) := by decide +kernel
theorem d23_53 : decode jdk_68_method_33_code 53 = .ok (.iload 4, 2) := by decide +kernel
theorem d23_55 : decode jdk_68_method_33_code 55 = .ok (.putfield 79, 3) := by decide +kernel
theorem d23_58 : decode jdk_68_method_33_code 58 = .ok (.aload_n 0, 1) := by decide +kernel
theorem d23_59 : decode jdk_68_method_33_code 59 = .ok (.areturn, 1) := by decide +kernel
theorem ef_23 (m : MethodId) (a1 : Addr) (q2 : Int64) : entryFrame m #[(.ref a1), (.long q2)] 5 = mkF m 0 #[vR a1, vJ q2, vS, vU, vU] [] := by first | (simp [entryFrame, mkF, argsToLocals, Value.category]; done) | rfl
def Q23 (Z : State) (a1 : Addr) (q2 : Int64) (w_value_a1 : Addr) (w_count_a1 : Int32) (k_w_value_a1 : ClassId) (n_w_value_a1 : Int32) (vs_w_value_a1 : List Value) (st_COMPACT_STRINGS : Int32) (h0 : Heap) (n0 : Nat) (v : Option Value) (h : Heap) (L : List Loc) : Prop := ∃ (xd : Addr) (xk : ClassId) (xz : Int32), v = some (.ref a1) ∧ Fr n0 L ∧ Keep h0 h [a1, w_value_a1] ∧ Exa Z h a1 "java/lang/StringBuilder" ∧ Fld Z h a1 "java/lang/AbstractStringBuilder" "value" "[B" (.ref xd) ∧ Fld Z h a1 "java/lang/AbstractStringBuilder" "coder" "B" (.int (0 : Int32)) ∧ Fld Z h a1 "java/lang/AbstractStringBuilder" "count" "I" (.int (w_count_a1 + (own_size q2))) ∧ Exa Z h xd "[B" ∧ Arv Z h xd xk .byte xz (vs_w_value_a1 ++ own_dec q2) (.int (0 : Int32)) ∧ (xd = w_value_a1 ∨ h0.size ≤ xd) ∧ ((w_count_a1 + (own_size q2)).toInt ≤ xz.toInt ∧ xz.toInt ≤ 194)
set_option maxRecDepth 65536 in
set_option maxHeartbeats 40000000 in
theorem rm23 (l : Launch) (Z : State) (a0 : Array Value) (hw : ∀ d ∈ tables_1, d.before a0 Z = true) (ws : List Jvm.Cond) (a1 : Addr) (q2 : Int64) (w_value_a1 : Addr) (w_count_a1 : Int32) (k_w_value_a1 : ClassId) (n_w_value_a1 : Int32) (vs_w_value_a1 : List Value) (st_COMPACT_STRINGS : Int32) (h0 : Heap) (n0 : Nat) (Z0 : n0 ≤ h0.size) (E_a1 : Exa Z h0 a1 "java/lang/StringBuilder") (F_value_a1 : Fld Z h0 a1 "java/lang/AbstractStringBuilder" "value" "[B" (.ref w_value_a1)) (F_coder_a1 : Fld Z h0 a1 "java/lang/AbstractStringBuilder" "coder" "B" (.int (0 : Int32))) (F_count_a1 : Fld Z h0 a1 "java/lang/AbstractStringBuilder" "count" "I" (.int w_count_a1)) (V_w_value_a1 : Arv Z h0 w_value_a1 k_w_value_a1 .byte n_w_value_a1 vs_w_value_a1 (.int (0 : Int32))) (E_w_value_a1 : Exa Z h0 w_value_a1 "[B") (S_COMPACT_STRINGS : Sta Z h0 "java/lang/String" "COMPACT_STRINGS" "Z" (.int st_COMPACT_STRINGS)) (X00 : Old Z n0 h0) (hDg : own_Dig Z) (hq0_9 : own_b94 (w_count_a1 + (own_size q2))) (hq0_10 : own_b188 n_w_value_a1) (hq0_11 : own_fit n_w_value_a1 vs_w_value_a1) (hq0_12 : own_len w_count_a1 vs_w_value_a1) (hq0_13 : own_b94 w_count_a1) (g_a1 : n0 ≤ a1) (ne_w_value_a1_a1 : w_value_a1 ≠ a1) (ne_a1_w_value_a1 : a1 ≠ w_value_a1) (hq20_17 : ¬ (st_COMPACT_STRINGS = (0 : Int32))) (g_w_value_a1 : n0 ≤ w_value_a1) :
    MetFree l (⟨"java/lang/AbstractStringBuilder", "append", "(J)Ljava/lang/AbstractStringBuilder;"⟩ : MethodName) (head1 (Jvm.Cond.code (⟨"java/lang/AbstractStringBuilder", "append", "(J)Ljava/lang/AbstractStringBuilder;"⟩ : MethodName) jdk_68_method_33_code 5 (some (.object "java/lang/AbstractStringBuilder")) :: ws) ({ frames := 4, cells := 1, slots := 194, locals := 102 } : Room)) (fun a U => a = #[(.ref a1), (.long q2)] ∧ Z.Warmed39 U.vm ∧ U.heap = h0) (fun _ _ _ _ _ => True) (fun _ U o U' => ∃ v L, o = .returned v ∧ Q23 Z a1 q2 w_value_a1 w_count_a1 k_w_value_a1 n_w_value_a1 vs_w_value_a1 st_COMPACT_STRINGS h0 n0 v U'.heap L ∧ FrameEnd U o U' L ({ frames := 4, cells := 1, slots := 194, locals := 102 } : Room).cells ({ frames := 4, cells := 1, slots := 194, locals := 102 } : Room).slots) := by
  refine MetFree.of_bodySF (plainFor_of_name pn_2) hisR ?_
  intro p e s m args below meth c s₁ Bd hml0 hP hK
  obtain ⟨rfl, hZ, hh⟩ := hP
  have hx := Bd.exec
  have hby := Bd.bytes
  have hml : c.maxLocals = 5 := hml0
  have hown : s.vm.findClass "java/lang/AbstractStringBuilder" = some m.cls := findClass_of_methodNamed Bd.named
  have hnm := (name_of_methodNamed Bd.named Bd.method).1
  have X0 : Stand p l e ({ frames := 4, cells := 1, slots := 194, locals := 102 } : Room) s m #[(.ref a1), (.long q2)] below meth c s₁ [] 0 0 := Stand.of_body Bd
  have e0 : s₁.heap = h0 := by rw [← hh, Bd.state]; rfl
  have N0 := Fr.nil n0
  have pre0 : ∀ t, Steps p.tables e below (s₁.setTop (mkF m 0 #[vR a1, vJ q2, vS, vU, vU] [])) t → Steps p.tables e below (s₁.setTop (entryFrame m #[(.ref a1), (.long q2)] 5)) t := fun t k => castTop (ef_23 m a1 q2) k
  obtain ⟨T3, X3, e3, st3⟩ := getF X0 hx hZ hown (host := "") (Or.inl (own_wi hw 101 rfl)) Via.refl e0 F_count_a1 (g := (mkF m 1 #[vR a1, vJ q2, vS, vU, vU] [(.ref a1)])) rfl rfl (hb hby d23_1)
  obtain ⟨T4, X4, e4, st4⟩ := own_ss X3 hx hZ hown (own_wi hw 137 rfl) (own_wi hw 138 rfl) (own_wi hw 139 rfl) (own_wi hw 140 rfl) (own_wi hw 141 rfl) (own_wi hw 223 rfl) e3 (v := q2) (g := (mkF m 7 #[vR a1, vJ q2, vS, vI w_count_a1, vU] [(.long q2), (.int w_count_a1)])) rfl (by rw [hml]; rfl) rfl (hb hby d23_7) (by decide) (W := 1) (by show 2 * 0 + _ ≤ _; exact Nat.le_of_eq rfl) (by decide) (by decide) (by decide)
  obtain ⟨cq5, q5, q5'⟩ := E_a1.cell
  obtain ⟨_, _, ⟨T5, L5, k5, n5⟩, -, X5, ⟨Lc5, hQ5, l5, y5, z5⟩, st5⟩ := X4.privateBack hx (y := (⟨"java/lang/AbstractStringBuilder", "ensureCapacityInternal", "(I)V"⟩ : MethodName)) hown (mvT hZ (own_wi hw 103 rfl)) (mvT hZ (own_wi hw 104 rfl)) (own_selq (args' := #[]) (w := (⟨"java/lang/AbstractStringBuilder", "ensureCapacityInternal", "(I)V"⟩ : MethodName)) (mvT hZ (own_wi hw 106 rfl)) rfl (Cond.privateMethod_at (mvP hZ (own_wi hw 105 rfl) (args := #[]))) (mvT hZ (own_wi hw 104 rfl)) (by decide)) (Cond.privateMethod_at (mvP hZ (own_wi hw 105 rfl) (args := #[]))) (mvT hZ (own_wi hw 107 rfl)) (by decide) (backOf (W := 0) (rm18 l Z a0 hw [] a1 (w_count_a1 + (own_size q2)) w_value_a1 w_count_a1 k_w_value_a1 n_w_value_a1 vs_w_value_a1 h0 n0 Z0 E_a1 F_value_a1 F_coder_a1 F_count_a1 V_w_value_a1 E_w_value_a1 hq0_9 hq0_10 hq0_11 g_a1 ne_w_value_a1_a1) hZ (own_wi hw 107 rfl) (own_wi hw 70 rfl) (by decide) (by decide)) (g := (mkF m 16 #[vR a1, vJ q2, vS, vI w_count_a1, vI (w_count_a1 + (own_size q2))] [(.int (w_count_a1 + (own_size q2))), (.ref a1)])) rfl (by rw [hml]; rfl) (Steps.refl _) (a := a1) (by rw [e4]; exact q5) q5' (argsL := [(.int (w_count_a1 + (own_size q2)))]) (rest := []) (lenOf pd_8 rfl) rfl (by show 2 * 0 + _ ≤ _; exact Nat.le_of_eq rfl) (hb hby d23_16) (fun _ _ => ⟨rfl, e4, (by decide : 0 + 1 ≤ _), (by decide : 0 + 194 ≤ _)⟩)
  dsimp only [Pt.U, Pt.locs, Pt.cells, Pt.slots] at X5 l5 y5 z5 st5 hQ5
  subst l5 y5 z5
  obtain ⟨x5_0, x5_1, x5_2, rfl, N5q, K5q, f5_0, f5_1, f5_2, f5_3, f5_4, f5_5, p5_0, p5_1⟩ := hQ5
  have ne_a1_x5_0 : a1 ≠ x5_0 := own_eitherN p5_0 ne_a1_w_value_a1 E_a1.lt
  have y6 := (own_StaKeep S_COMPACT_STRINGS K5q (allS (P := fun x => ∃ D, Exa Z h0 x D) ⟨_, E_a1⟩ all0))
  have y7 := (X00.keep K5q (allS (P := fun x => n0 ≤ x) g_a1 all0))
  have K5 : Keep h0 T5.heap [a1, w_value_a1] := ((Keep.refl h0 [a1, w_value_a1])).trans K5q (allS (P := fun x => x ∈ [a1, w_value_a1] ∨ h0.size ≤ x) (Or.inl (List.mem_of_getElem? (i := 0) rfl)) all0)
  have Z5 : n0 ≤ T5.heap.size := Nat.le_trans Z0 K5q.1
  have N5 := Fr.app N0 N5q
  obtain ⟨cq8, kq8, q8a, q8b, q8c⟩ := isOf hZ rfl f5_0
  obtain ⟨_, _, ⟨T8, L8, k8, n8⟩, -, X8, ⟨Lc8, hQ8, l8, y8, z8⟩, st8⟩ := X5.virtualBack hx (y := (⟨"java/lang/AbstractStringBuilder", "isLatin1", "()Z"⟩ : MethodName)) (z := (⟨"java/lang/AbstractStringBuilder", "isLatin1", "()Z"⟩ : MethodName)) hown (mvT hZ (own_wi hw 142 rfl)) (mvT hZ (own_wi hw 143 rfl)) (notFace_of_selects (args := #[]) (mvT hZ (own_wi hw 145 rfl))) (mvT hZ (own_wi hw 145 rfl)) (mvT hZ (own_wi hw 144 rfl)) (by decide) (backOf (W := 0) (rm25 l Z a0 hw [] a1 st_COMPACT_STRINGS T5.heap n0 Z5 y6 hq20_17 f5_2) hZ (own_wi hw 146 rfl) (own_wi hw 70 rfl) (by decide) (by decide)) q8a q8c (g := (mkF m 20 #[vR a1, vJ q2, vS, vI w_count_a1, vI (w_count_a1 + (own_size q2))] [(.ref a1)])) rfl (by rw [hml]; rfl) (Steps.refl _) (argsL := []) (rest := []) (lenOf pd_11 rfl) rfl (by show 2 * 0 + _ ≤ _; exact Nat.le_of_eq rfl) (hb hby d23_20) (fun _ _ => ⟨rfl, rfl, (by decide : 1 + 0 ≤ _), (by decide : 194 + 0 ≤ _)⟩)
  dsimp only [Pt.U, Pt.locs, Pt.cells, Pt.slots] at X8 l8 y8 z8 st8 hQ8
  subst l8 y8 z8
  obtain ⟨rfl, N8q, e8⟩ := hQ8
  have N8 := Fr.app N5 N8q
  obtain ⟨T9, X9, e9, st9⟩ := getF X8 hx hZ hown (host := "") (Or.inl (own_wi hw 74 rfl)) Via.refl e8 f5_1 (g := (mkF m 30 #[vR a1, vJ q2, vS, vI w_count_a1, vI (w_count_a1 + (own_size q2))] [(.ref a1), (.int (w_count_a1 + (own_size q2))), (.long q2)])) rfl rfl (hb hby d23_30)
  obtain ⟨T10, h10, L10, w10, X10, e10, N10, K10q, A10, st10⟩ := own_gc X9 hx hZ hown (own_wi hw 147 rfl) (own_wi hw 148 rfl) (own_wi hw 139 rfl) (own_wi hw 149 rfl) (own_wi hw 151 rfl) (own_wi hw 225 rfl) (own_wi hw 150 rfl) (own_wi hw 224 rfl) e9 (v := q2) f5_5 (own_ix hq0_12 hq0_9 hq0_13) p5_1.1 p5_1.2 y7 hDg N8 (own_eitherG (p5_0.imp id (Nat.le_trans ((Keep.refl h0 [a1, w_value_a1])).1)) g_w_value_a1 Z0) (g := (mkF m 33 #[vR a1, vJ q2, vS, vI w_count_a1, vI (w_count_a1 + (own_size q2))] [(.ref x5_0), (.int (w_count_a1 + (own_size q2))), (.long q2)])) rfl (by rw [hml]; rfl) rfl (hb hby d23_33) (by decide) (W := 0) (by show 2 * 0 + _ ≤ _; exact Nat.le_of_eq rfl) (by decide) (by decide) (by decide)
  have y11 := (own_StaKeep y6 K10q (allS (P := fun x => ∃ D, Exa Z T5.heap x D) ⟨_, f5_4⟩ all0))
  have y12 := (y7.keep K10q (allS (P := fun x => n0 ≤ x) (own_eitherG (p5_0.imp id (Nat.le_trans ((Keep.refl h0 [a1, w_value_a1])).1)) g_w_value_a1 Z0) all0))
  have K10 : Keep h0 h10 [a1, w_value_a1] := (K5).trans K10q (allS (P := fun x => x ∈ [a1, w_value_a1] ∨ h0.size ≤ x) (own_either (p5_0.imp id (Nat.le_trans ((Keep.refl h0 [a1, w_value_a1])).1)) (Or.inl (List.mem_of_getElem? (i := 1) rfl))) all0)
  have Z10 : n0 ≤ h10.size := Nat.le_trans Z5 K10q.1
  obtain ⟨T13, h13, X13, e13, W13, st13⟩ := putF X10 hx hZ hown (host := "") (Or.inl (own_wi hw 101 rfl)) Via.refl e10 (f5_3.keep K10q (ninS ne_a1_x5_0 nin0)) (f5_0.keep K10q) (Or.inl (own_wi hw 102 rfl)) (own_wi hw 61 rfl) (ty := .int) (by decide) rfl rfl (g := (mkF m 55 #[vR a1, vJ q2, vS, vI w_count_a1, vI (w_count_a1 + (own_size q2))] [(.int (w_count_a1 + (own_size q2))), (.ref a1)])) rfl rfl (hb hby d23_55)
  have N13 := Fr.snoc X13 N10 g_a1
  have y14 := ((f5_1.keep K10q (ninS ne_a1_x5_0 nin0)).other W13 (Or.inr (slot_ne (Or.inl (own_wi hw 75 rfl)) (Or.inl (own_wi hw 102 rfl)) (by decide) (t := (.array .byte)) (t' := .int) (by decide) (by decide))))
  have y15 := ((f5_2.keep K10q (ninS ne_a1_x5_0 nin0)).other W13 (Or.inr (slot_ne (Or.inl (own_wi hw 77 rfl)) (Or.inl (own_wi hw 102 rfl)) (by decide) (t := .byte) (t' := .int) (by decide) (by decide))))
  have y16 := ((f5_3.keep K10q (ninS ne_a1_x5_0 nin0)).same W13)
  have K13 : Keep h0 h13 [a1, w_value_a1] := (K10).wr W13 (Or.inl (List.mem_of_getElem? (i := 0) rfl))
  have Z13 : n0 ≤ h13.size := Nat.le_trans Z10 (Keep.of_wr W13).1
  obtain ⟨fs, hr, hrun, hended, hW, hsame⟩ := X13.leave (v := some (.ref a1)) (fun h => by rw [Bd.returns] at h; cases h)
  refine ⟨_, _, pre0 _ ?_, hrun, hended, _, _, rfl, ?_, ⟨_, rfl⟩, hW, hsame.mono (by decide) (by decide)⟩
  · show Steps p.tables e below (s₁.setTop (mkF m 0 #[vR a1, vJ q2, vS, vU, vU] [])) _
    refine XS.aloadN X0.here hx rfl (hb hby d23_0) rfl rfl ?_
    show Steps p.tables e below (s₁.setTop (mkF m 1 #[vR a1, vJ q2, vS, vU, vU] [(.ref a1)])) _
    refine st3 _ ?_
    show Steps p.tables e below (T3.setTop (mkF m 4 #[vR a1, vJ q2, vS, vU, vU] [(.int w_count_a1)])) _
    refine XS.istoreN X3.here hx rfl (hb hby d23_4) rfl (l' := #[vR a1, vJ q2, vS, vI w_count_a1, vU]) rfl ?_
    refine XS.iloadN X3.here hx rfl (hb hby d23_5) rfl ?_
    refine XS.lloadN X3.here hx rfl (hb hby d23_6) rfl ?_
    show Steps p.tables e below (T3.setTop (mkF m 7 #[vR a1, vJ q2, vS, vI w_count_a1, vU] [(.long q2), (.int w_count_a1)])) _
    refine st4 _ ?_
    show Steps p.tables e below (T4.setTop (mkF m 10 #[vR a1, vJ q2, vS, vI w_count_a1, vU] [(.int (own_size q2)), (.int w_count_a1)])) _
    refine XS.iadd X4.here hx rfl (hb hby d23_10) rfl ?_
    refine XS.istore X4.here hx rfl (hb hby d23_11) rfl (l' := #[vR a1, vJ q2, vS, vI w_count_a1, vI (w_count_a1 + (own_size q2))]) rfl ?_
    refine XS.aloadN X4.here hx rfl (hb hby d23_13) rfl rfl ?_
    refine XS.iload X4.here hx rfl (hb hby d23_14) rfl ?_
    show Steps p.tables e below (T4.setTop (mkF m 16 #[vR a1, vJ q2, vS, vI w_count_a1, vI (w_count_a1 + (own_size q2))] [(.int (w_count_a1 + (own_size q2))), (.ref a1)])) _
    refine st5.trans ?_
    show Steps p.tables e below (T5.setTop (mkF m 19 #[vR a1, vJ q2, vS, vI w_count_a1, vI (w_count_a1 + (own_size q2))] [])) _
    refine XS.aloadN X5.here hx rfl (hb hby d23_19) rfl rfl ?_
    show Steps p.tables e below (T5.setTop (mkF m 20 #[vR a1, vJ q2, vS, vI w_count_a1, vI (w_count_a1 + (own_size q2))] [(.ref a1)])) _
    refine st8.trans ?_
    show Steps p.tables e below (T8.setTop (mkF m 23 #[vR a1, vJ q2, vS, vI w_count_a1, vI (w_count_a1 + (own_size q2))] [(.int (1 : Int32))])) _
    refine XS.ifNo X8.here hx rfl (hb hby d23_23) rfl ((if0 _ _).trans (feq (by decide : ¬ ((1 : Int32) = (0 : Int32)))).1) ?_
    refine XS.lloadN X8.here hx rfl (hb hby d23_26) rfl ?_
    refine XS.iload X8.here hx rfl (hb hby d23_27) rfl ?_
    refine XS.aloadN X8.here hx rfl (hb hby d23_29) rfl rfl ?_
    show Steps p.tables e below (T8.setTop (mkF m 30 #[vR a1, vJ q2, vS, vI w_count_a1, vI (w_count_a1 + (own_size q2))] [(.ref a1), (.int (w_count_a1 + (own_size q2))), (.long q2)])) _
    refine st9 _ ?_
    show Steps p.tables e below (T9.setTop (mkF m 33 #[vR a1, vJ q2, vS, vI w_count_a1, vI (w_count_a1 + (own_size q2))] [(.ref x5_0), (.int (w_count_a1 + (own_size q2))), (.long q2)])) _
    refine st10 _ ?_
    show Steps p.tables e below (T10.setTop (mkF m 36 #[vR a1, vJ q2, vS, vI w_count_a1, vI (w_count_a1 + (own_size q2))] [(.int w10)])) _
    refine XS.pop X10.here hx rfl (hb hby d23_36) rfl rfl ?_
    refine XS.goto X10.here hx rfl (pc0 := 37) (pc' := 52) rfl (hb hby d23_37) (by decide) (by decide) ?_
    refine XS.aloadN X10.here hx rfl (hb hby d23_52) rfl rfl ?_
    refine XS.iload X10.here hx rfl (hb hby d23_53) rfl ?_
    show Steps p.tables e below (T10.setTop (mkF m 55 #[vR a1, vJ q2, vS, vI w_count_a1, vI (w_count_a1 + (own_size q2))] [(.int (w_count_a1 + (own_size q2))), (.ref a1)])) _
    refine st13 _ ?_
    show Steps p.tables e below (T13.setTop (mkF m 58 #[vR a1, vJ q2, vS, vI w_count_a1, vI (w_count_a1 + (own_size q2))] [])) _
    refine XS.aloadN X13.here hx rfl (hb hby d23_58) rfl rfl ?_
    show Steps p.tables e below (T13.setTop (mkF m 59 #[vR a1, vJ q2, vS, vI w_count_a1, vI (w_count_a1 + (own_size q2))] [(.ref a1)])) _
    exact retOut X13 hx Bd.returns rfl (Or.inr (Or.inr (Or.inr (Or.inr ⟨rfl, rfl, rfl⟩)))) (hb hby d23_59) hr
  · show Q23 Z a1 q2 w_value_a1 w_count_a1 k_w_value_a1 n_w_value_a1 vs_w_value_a1 st_COMPACT_STRINGS h0 n0 _ T13.heap _
    rw [e13]
    exact ⟨x5_0, x5_1, x5_2, rfl, N13, (K13), ((f5_0.keep K10q).wr W13), y14, y15, y16, ((f5_4.keep K10q).wr W13), (A10.other W13 (Ne.symm ne_a1_x5_0)), (p5_0.imp id (Nat.le_trans ((Keep.refl h0 [a1, w_value_a1])).1)), p5_1⟩
theorem pd_12 : parseMethodDescriptor "(J)Ljava/lang/AbstractStringBuilder;" = some ⟨[.long], some (.object "java/lang/AbstractStringBuilder")⟩ := by decide +kernel
theorem d22_0 : decode jdk_67_method_16_code 0 = .ok (.aload_n 0, 1) := by decide +kernel
theorem d22_1 : decode jdk_67_method_16_code 1 = .ok (.lload_n 1, 1) := by decide +kernel
theorem d22_2 : decode jdk_67_method_16_code 2 = .ok (.invokespecial 56, 3) := by decide +kernel
theorem d22_5 : decode jdk_67_method_16_code 5 = .ok (.pop, 1) := by decide +kernel
theorem d22_6 : decode jdk_67_method_16_code 6 = .ok (.aload_n 0, 1) := by decide +kernel
theorem d22_7 : decode jdk_67_method_16_code 7 = .ok (.areturn, 1) := by decide +kernel
theorem ef_22 (m : MethodId) (a1 : Addr) (q2 : Int64) : entryFrame m #[(.ref a1), (.long q2)] 3 = mkF m 0 #[vR a1, vJ q2, vS] [] := by first | (simp [entryFrame, mkF, argsToLocals, Value.category]; done) | rfl
def Q22 (Z : State) (a1 : Addr) (q2 : Int64) (w_value_a1 : Addr) (w_count_a1 : Int32) (k_w_value_a1 : ClassId) (n_w_value_a1 : Int32) (vs_w_value_a1 : List Value) (st_COMPACT_STRINGS : Int32) (h0 : Heap) (n0 : Nat) (v : Option Value) (h : Heap) (L : List Loc) : Prop := ∃ (xd : Addr) (xk : ClassId) (xz : Int32), v = some (.ref a1) ∧ Fr n0 L ∧ Keep h0 h [w_value_a1, a1] ∧ Exa Z h a1 "java/lang/StringBuilder" ∧ Fld Z h a1 "java/lang/AbstractStringBuilder" "value" "[B" (.ref xd) ∧ Fld Z h a1 "java/lang/AbstractStringBuilder" "coder" "B" (.int (0 : Int32)) ∧ Fld Z h a1 "java/lang/AbstractStringBuilder" "count" "I" (.int (w_count_a1 + (own_size q2))) ∧ Exa Z h xd "[B" ∧ Arv Z h xd xk .byte xz (vs_w_value_a1 ++ own_dec q2) (.int (0 : Int32)) ∧ (xd = w_value_a1 ∨ h0.size ≤ xd) ∧ ((w_count_a1 + (own_size q2)).toInt ≤ xz.toInt ∧ xz.toInt ≤ 194)
set_option maxRecDepth 65536 in
set_option maxHeartbeats 40000000 in
theorem rm22 (l : Launch) (Z : State) (a0 : Array Value) (hw : ∀ d ∈ tables_1, d.before a0 Z = true) (ws : List Jvm.Cond) (a1 : Addr) (q2 : Int64) (w_value_a1 : Addr) (w_count_a1 : Int32) (k_w_value_a1 : ClassId) (n_w_value_a1 : Int32) (vs_w_value_a1 : List Value) (st_COMPACT_STRINGS : Int32) (h0 : Heap) (n0 : Nat) (Z0 : n0 ≤ h0.size) (E_a1 : Exa Z h0 a1 "java/lang/StringBuilder") (F_value_a1 : Fld Z h0 a1 "java/lang/AbstractStringBuilder" "value" "[B" (.ref w_value_a1)) (F_coder_a1 : Fld Z h0 a1 "java/lang/AbstractStringBuilder" "coder" "B" (.int (0 : Int32))) (F_count_a1 : Fld Z h0 a1 "java/lang/AbstractStringBuilder" "count" "I" (.int w_count_a1)) (V_w_value_a1 : Arv Z h0 w_value_a1 k_w_value_a1 .byte n_w_value_a1 vs_w_value_a1 (.int (0 : Int32))) (E_w_value_a1 : Exa Z h0 w_value_a1 "[B") (S_COMPACT_STRINGS : Sta Z h0 "java/lang/String" "COMPACT_STRINGS" "Z" (.int st_COMPACT_STRINGS)) (X00 : Old Z n0 h0) (hDg : own_Dig Z) (hq0_9 : own_b94 (w_count_a1 + (own_size q2))) (hq0_10 : own_b188 n_w_value_a1) (hq0_11 : own_fit n_w_value_a1 vs_w_value_a1) (hq0_12 : own_len w_count_a1 vs_w_value_a1) (hq0_13 : own_b94 w_count_a1) (g_a1 : n0 ≤ a1) (ne_w_value_a1_a1 : w_value_a1 ≠ a1) (ne_a1_w_value_a1 : a1 ≠ w_value_a1) (g_w_value_a1 : n0 ≤ w_value_a1) (hq2_18 : ¬ (st_COMPACT_STRINGS = (0 : Int32))) :
    MetFree l (⟨"java/lang/StringBuilder", "append", "(J)Ljava/lang/StringBuilder;"⟩ : MethodName) (head1 (Jvm.Cond.code (⟨"java/lang/StringBuilder", "append", "(J)Ljava/lang/StringBuilder;"⟩ : MethodName) jdk_67_method_16_code 3 (some (.object "java/lang/StringBuilder")) :: ws) ({ frames := 5, cells := 1, slots := 194, locals := 118 } : Room)) (fun a U => a = #[(.ref a1), (.long q2)] ∧ Z.Warmed39 U.vm ∧ U.heap = h0) (fun _ _ _ _ _ => True) (fun _ U o U' => ∃ v L, o = .returned v ∧ Q22 Z a1 q2 w_value_a1 w_count_a1 k_w_value_a1 n_w_value_a1 vs_w_value_a1 st_COMPACT_STRINGS h0 n0 v U'.heap L ∧ FrameEnd U o U' L ({ frames := 5, cells := 1, slots := 194, locals := 118 } : Room).cells ({ frames := 5, cells := 1, slots := 194, locals := 118 } : Room).slots) := by
  refine MetFree.of_bodySF (plainFor_of_name pn_4) hisR ?_
  intro p e s m args below meth c s₁ Bd hml0 hP hK
  obtain ⟨rfl, hZ, hh⟩ := hP
  have hx := Bd.exec
  have hby := Bd.bytes
  have hml : c.maxLocals = 3 := hml0
  have hown : s.vm.findClass "java/lang/StringBuilder" = some m.cls := findClass_of_methodNamed Bd.named
  have hnm := (name_of_methodNamed Bd.named Bd.method).1
  have X0 : Stand p l e ({ frames := 5, cells := 1, slots := 194, locals := 118 } : Room) s m #[(.ref a1), (.long q2)] below meth c s₁ [] 0 0 := Stand.of_body Bd
  have e0 : s₁.heap = h0 := by rw [← hh, Bd.state]; rfl
  have N0 := Fr.nil n0
  have pre0 : ∀ t, Steps p.tables e below (s₁.setTop (mkF m 0 #[vR a1, vJ q2, vS] [])) t → Steps p.tables e below (s₁.setTop (entryFrame m #[(.ref a1), (.long q2)] 3)) t := fun t k => castTop (ef_22 m a1 q2) k
  obtain ⟨_, _, ⟨T3, L3, k3, n3⟩, -, X3, ⟨Lc3, hQ3, l3, y3, z3⟩, st3⟩ := superBack X0 hx hZ (y := (⟨"java/lang/AbstractStringBuilder", "append", "(J)Ljava/lang/AbstractStringBuilder;"⟩ : MethodName)) hown (own_wi hw 133 rfl) (own_same (w := (⟨"java/lang/AbstractStringBuilder", "ensureCapacityInternal", "(I)V"⟩ : MethodName)) (own_wi hw 106 rfl) rfl (own_wi hw 134 rfl) (by decide)) (own_wi hw 134 rfl) (own_wi hw 88 rfl) (by decide) (backOf (W := 0) (rm23 l Z a0 hw [] a1 q2 w_value_a1 w_count_a1 k_w_value_a1 n_w_value_a1 vs_w_value_a1 st_COMPACT_STRINGS h0 n0 Z0 E_a1 F_value_a1 F_coder_a1 F_count_a1 V_w_value_a1 E_w_value_a1 S_COMPACT_STRINGS X00 hDg hq0_9 hq0_10 hq0_11 hq0_12 hq0_13 g_a1 ne_w_value_a1_a1 ne_a1_w_value_a1 hq2_18 g_w_value_a1) hZ (own_wi hw 136 rfl) (own_wi hw 70 rfl) (by decide) (by decide)) e0 (Ins.self E_a1) (g := (mkF m 2 #[vR a1, vJ q2, vS] [(.long q2), (.ref a1)])) rfl (by rw [hml]; rfl) (own_wi hw 136 rfl) (argsL := [(.long q2)]) (rest := []) (lenOf pd_12 rfl) rfl (by show 2 * 0 + _ ≤ _; exact Nat.le_of_eq rfl) (hb hby d22_2) (fun _ _ => ⟨rfl, e0, (by decide : 0 + 1 ≤ _), (by decide : 0 + 194 ≤ _)⟩)
  dsimp only [Pt.U, Pt.locs, Pt.cells, Pt.slots] at X3 l3 y3 z3 st3 hQ3
  subst l3 y3 z3
  obtain ⟨x3_0, x3_1, x3_2, rfl, N3q, K3q, f3_0, f3_1, f3_2, f3_3, f3_4, f3_5, p3_0, p3_1⟩ := hQ3
  have ne_a1_x3_0 : a1 ≠ x3_0 := own_eitherN p3_0 ne_a1_w_value_a1 E_a1.lt
  have y4 := (own_StaKeep S_COMPACT_STRINGS K3q (allS (P := fun x => ∃ D, Exa Z h0 x D) ⟨_, E_a1⟩ (allS (P := fun x => ∃ D, Exa Z h0 x D) ⟨_, E_w_value_a1⟩ all0)))
  have y5 := (X00.keep K3q (allS (P := fun x => n0 ≤ x) g_a1 (allS (P := fun x => n0 ≤ x) g_w_value_a1 all0)))
  have K3 : Keep h0 T3.heap [w_value_a1, a1] := ((Keep.refl h0 [w_value_a1, a1])).trans K3q (allS (P := fun x => x ∈ [w_value_a1, a1] ∨ h0.size ≤ x) (Or.inl (List.mem_of_getElem? (i := 1) rfl)) (allS (P := fun x => x ∈ [w_value_a1, a1] ∨ h0.size ≤ x) (Or.inl (List.mem_of_getElem? (i := 0) rfl)) all0))
  have Z3 : n0 ≤ T3.heap.size := Nat.le_trans Z0 K3q.1
  have N3 := Fr.app N0 N3q
  obtain ⟨fs, hr, hrun, hended, hW, hsame⟩ := X3.leave (v := some (.ref a1)) (fun h => by rw [Bd.returns] at h; cases h)
  refine ⟨_, _, pre0 _ ?_, hrun, hended, _, _, rfl, ?_, ⟨_, rfl⟩, hW, hsame.mono (by decide) (by decide)⟩
  · show Steps p.tables e below (s₁.setTop (mkF m 0 #[vR a1, vJ q2, vS] [])) _
    refine XS.aloadN X0.here hx rfl (hb hby d22_0) rfl rfl ?_
    refine XS.lloadN X0.here hx rfl (hb hby d22_1) rfl ?_
    show Steps p.tables e below (s₁.setTop (mkF m 2 #[vR a1, vJ q2, vS] [(.long q2), (.ref a1)])) _
    refine st3.trans ?_
    show Steps p.tables e below (T3.setTop (mkF m 5 #[vR a1, vJ q2, vS] [(.ref a1)])) _
    refine XS.pop X3.here hx rfl (hb hby d22_5) rfl rfl ?_
    refine XS.aloadN X3.here hx rfl (hb hby d22_6) rfl rfl ?_
    show Steps p.tables e below (T3.setTop (mkF m 7 #[vR a1, vJ q2, vS] [(.ref a1)])) _
    exact retOut X3 hx Bd.returns rfl (Or.inr (Or.inr (Or.inr (Or.inr ⟨rfl, rfl, rfl⟩)))) (hb hby d22_7) hr
  · show Q22 Z a1 q2 w_value_a1 w_count_a1 k_w_value_a1 n_w_value_a1 vs_w_value_a1 st_COMPACT_STRINGS h0 n0 _ T3.heap _
    exact ⟨x3_0, x3_1, x3_2, rfl, N3, (K3), f3_0, f3_1, f3_2, f3_3, f3_4, f3_5, (p3_0.imp id (Nat.le_trans ((Keep.refl h0 [w_value_a1, a1])).1)), p3_1⟩
theorem d35_0 : decode jdk_68_method_64_code 0 = .ok (.aload_n 0, 1) := by decide +kernel
theorem d35_1 : decode jdk_68_method_64_code 1 = .ok (.getfield 15, 3) := by decide +kernel
theorem d35_4 : decode jdk_68_method_64_code 4 = .ok (.areturn, 1) := by decide +kernel
theorem ef_35 (m : MethodId) (a1 : Addr) : entryFrame m #[(.ref a1)] 1 = mkF m 0 #[vR a1] [] := by first | (simp [entryFrame, mkF, argsToLocals, Value.category]; done) | rfl
def Q35 (Z : State) (a1 : Addr) (w_value_a1 : Addr) (h0 : Heap) (n0 : Nat) (v : Option Value) (h : Heap) (L : List Loc) : Prop := v = some (.ref w_value_a1) ∧ Fr n0 L ∧ h = h0
set_option maxRecDepth 65536 in
set_option maxHeartbeats 40000000 in
theorem rm35 (l : Launch) (Z : State) (a0 : Array Value) (hw : ∀ d ∈ tables_1, d.before a0 Z = true) (ws : List Jvm.Cond) (a1 : Addr) (w_value_a1 : Addr) (h0 : Heap) (n0 : Nat) (Z0 : n0 ≤ h0.size) (F_value_a1 : Fld Z h0 a1 "java/lang/AbstractStringBuilder" "value" "[B" (.ref w_value_a1)) :
    MetFree l (⟨"java/lang/AbstractStringBuilder", "getValue", "()[B"⟩ : MethodName) (head1 (Jvm.Cond.code (⟨"java/lang/AbstractStringBuilder", "getValue", "()[B"⟩ : MethodName) jdk_68_method_64_code 1 (some (.array .byte)) :: ws) ({ frames := 0, cells := 0, slots := 0, locals := 0 } : Room)) (fun a U => a = #[(.ref a1)] ∧ Z.Warmed39 U.vm ∧ U.heap = h0) (fun _ _ _ _ _ => True) (fun _ U o U' => ∃ v L, o = .returned v ∧ Q35 Z a1 w_value_a1 h0 n0 v U'.heap L ∧ FrameEnd U o U' L ({ frames := 0, cells := 0, slots := 0, locals := 0 } : Room).cells ({ frames := 0, cells := 0, slots := 0, locals := 0 } : Room).slots) := by
  refine MetFree.of_bodySF (plainFor_of_name pn_2) hisR ?_
  intro p e s m args below meth c s₁ Bd hml0 hP hK
  obtain ⟨rfl, hZ, hh⟩ := hP
  have hx := Bd.exec
  have hby := Bd.bytes
  have hml : c.maxLocals = 1 := hml0
  have hown : s.vm.findClass "java/lang/AbstractStringBuilder" = some m.cls := findClass_of_methodNamed Bd.named
  have hnm := (name_of_methodNamed Bd.named Bd.method).1
  have X0 : Stand p l e ({ frames := 0, cells := 0, slots := 0, locals := 0 } : Room) s m #[(.ref a1)] below meth c s₁ [] 0 0 := Stand.of_body Bd
  have e0 : s₁.heap = h0 := by rw [← hh, Bd.state]; rfl
  have N0 := Fr.nil n0
  have pre0 : ∀ t, Steps p.tables e below (s₁.setTop (mkF m 0 #[vR a1] [])) t → Steps p.tables e below (s₁.setTop (entryFrame m #[(.ref a1)] 1)) t := fun t k => castTop (ef_35 m a1) k
  obtain ⟨T2, X2, e2, st2⟩ := getF X0 hx hZ hown (host := "") (Or.inl (own_wi hw 74 rfl)) Via.refl e0 F_value_a1 (g := (mkF m 1 #[vR a1] [(.ref a1)])) rfl rfl (hb hby d35_1)
  obtain ⟨fs, hr, hrun, hended, hW, hsame⟩ := X2.leave (v := some (.ref w_value_a1)) (fun h => by rw [Bd.returns] at h; cases h)
  refine ⟨_, _, pre0 _ ?_, hrun, hended, _, _, rfl, ?_, ⟨_, rfl⟩, hW, hsame.mono (by decide) (by decide)⟩
  · show Steps p.tables e below (s₁.setTop (mkF m 0 #[vR a1] [])) _
    refine XS.aloadN X0.here hx rfl (hb hby d35_0) rfl rfl ?_
    show Steps p.tables e below (s₁.setTop (mkF m 1 #[vR a1] [(.ref a1)])) _
    refine st2 _ ?_
    show Steps p.tables e below (T2.setTop (mkF m 4 #[vR a1] [(.ref w_value_a1)])) _
    exact retOut X2 hx Bd.returns rfl (Or.inr (Or.inr (Or.inr (Or.inr ⟨rfl, rfl, rfl⟩)))) (hb hby d35_4) hr
  · show Q35 Z a1 w_value_a1 h0 n0 _ T2.heap _
    rw [e2]
    exact ⟨rfl, N0, rfl⟩
theorem d37_0 : decode jdk_68_method_6_code 0 = .ok (.aload_n 0, 1) := by decide +kernel
theorem d37_1 : decode jdk_68_method_6_code 1 = .ok (.getfield 79, 3) := by decide +kernel
theorem d37_4 : decode jdk_68_method_6_code 4 = .ok (.ireturn, 1) := by decide +kernel
theorem ef_37 (m : MethodId) (a1 : Addr) : entryFrame m #[(.ref a1)] 1 = mkF m 0 #[vR a1] [] := by first | (simp [entryFrame, mkF, argsToLocals, Value.category]; done) | rfl
def Q37 (Z : State) (a1 : Addr) (w_count_a1 : Int32) (h0 : Heap) (n0 : Nat) (v : Option Value) (h : Heap) (L : List Loc) : Prop := v = some (.int w_count_a1) ∧ Fr n0 L ∧ h = h0
set_option maxRecDepth 65536 in
set_option maxHeartbeats 40000000 in
theorem rm37 (l : Launch) (Z : State) (a0 : Array Value) (hw : ∀ d ∈ tables_1, d.before a0 Z = true) (ws : List Jvm.Cond) (a1 : Addr) (w_count_a1 : Int32) (h0 : Heap) (n0 : Nat) (Z0 : n0 ≤ h0.size) (F_count_a1 : Fld Z h0 a1 "java/lang/AbstractStringBuilder" "count" "I" (.int w_count_a1)) :
    MetFree l (⟨"java/lang/AbstractStringBuilder", "length", "()I"⟩ : MethodName) (head1 (Jvm.Cond.code (⟨"java/lang/AbstractStringBuilder", "length", "()I"⟩ : MethodName) jdk_68_method_6_code 1 (some .int) :: ws) ({ frames := 0, cells := 0, slots := 0, locals := 0 } : Room)) (fun a U => a = #[(.ref a1)] ∧ Z.Warmed39 U.vm ∧ U.heap = h0) (fun _ _ _ _ _ => True) (fun _ U o U' => ∃ v L, o = .returned v ∧ Q37 Z a1 w_count_a1 h0 n0 v U'.heap L ∧ FrameEnd U o U' L ({ frames := 0, cells := 0, slots := 0, locals := 0 } : Room).cells ({ frames := 0, cells := 0, slots := 0, locals := 0 } : Room).slots) := by
  refine MetFree.of_bodySF (plainFor_of_name pn_2) hisR ?_
  intro p e s m args below meth c s₁ Bd hml0 hP hK
  obtain ⟨rfl, hZ, hh⟩ := hP
  have hx := Bd.exec
  have hby := Bd.bytes
  have hml : c.maxLocals = 1 := hml0
  have hown : s.vm.findClass "java/lang/AbstractStringBuilder" = some m.cls := findClass_of_methodNamed Bd.named
  have hnm := (name_of_methodNamed Bd.named Bd.method).1
  have X0 : Stand p l e ({ frames := 0, cells := 0, slots := 0, locals := 0 } : Room) s m #[(.ref a1)] below meth c s₁ [] 0 0 := Stand.of_body Bd
  have e0 : s₁.heap = h0 := by rw [← hh, Bd.state]; rfl
  have N0 := Fr.nil n0
  have pre0 : ∀ t, Steps p.tables e below (s₁.setTop (mkF m 0 #[vR a1] [])) t → Steps p.tables e below (s₁.setTop (entryFrame m #[(.ref a1)] 1)) t := fun t k => castTop (ef_37 m a1) k
  obtain ⟨T2, X2, e2, st2⟩ := getF X0 hx hZ hown (host := "") (Or.inl (own_wi hw 101 rfl)) Via.refl e0 F_count_a1 (g := (mkF m 1 #[vR a1] [(.ref a1)])) rfl rfl (hb hby d37_1)
  obtain ⟨fs, hr, hrun, hended, hW, hsame⟩ := X2.leave (v := some (.int w_count_a1)) (fun h => by rw [Bd.returns] at h; cases h)
  refine ⟨_, _, pre0 _ ?_, hrun, hended, _, _, rfl, ?_, ⟨_, rfl⟩, hW, hsame.mono (by decide) (by decide)⟩
  · show Steps p.tables e below (s₁.setTop (mkF m 0 #[vR a1] [])) _
    refine XS.aloadN X0.here hx rfl (hb hby d37_0) rfl rfl ?_
    show Steps p.tables e below (s₁.setTop (mkF m 1 #[vR a1] [(.ref a1)])) _
    refine st2 _ ?_
    show Steps p.tables e below (T2.setTop (mkF m 4 #[vR a1] [(.int w_count_a1)])) _
    exact retI X2 hx Bd.returns (hb hby d37_4) hr
  · show Q37 Z a1 w_count_a1 h0 n0 _ T2.heap _
    rw [e2]
    exact ⟨rfl, N0, rfl⟩
theorem d36_0 : decode jdk_67_method_93_code 0 = .ok (.aload_n 0, 1) := by decide +kernel
theorem d36_1 : decode jdk_67_method_93_code 1 = .ok (.invokespecial 343, 3) := by decide +kernel
theorem d36_4 : decode jdk_67_method_93_code 4 = .ok (.ireturn, 1) := by decide +kernel
theorem ef_36 (m : MethodId) (a1 : Addr) : entryFrame m #[(.ref a1)] 1 = mkF m 0 #[vR a1] [] := by first | (simp [entryFrame, mkF, argsToLocals, Value.category]; done) | rfl
def Q36 (Z : State) (a1 : Addr) (w_count_a1 : Int32) (h0 : Heap) (n0 : Nat) (v : Option Value) (h : Heap) (L : List Loc) : Prop := v = some (.int w_count_a1) ∧ Fr n0 L ∧ h = h0
set_option maxRecDepth 65536 in
set_option maxHeartbeats 40000000 in
theorem rm36 (l : Launch) (Z : State) (a0 : Array Value) (hw : ∀ d ∈ tables_1, d.before a0 Z = true) (ws : List Jvm.Cond) (a1 : Addr) (w_count_a1 : Int32) (h0 : Heap) (n0 : Nat) (Z0 : n0 ≤ h0.size) (E_a1 : Exa Z h0 a1 "java/lang/StringBuilder") (F_count_a1 : Fld Z h0 a1 "java/lang/AbstractStringBuilder" "count" "I" (.int w_count_a1)) :
    MetFree l (⟨"java/lang/StringBuilder", "length", "()I"⟩ : MethodName) (head1 (Jvm.Cond.code (⟨"java/lang/StringBuilder", "length", "()I"⟩ : MethodName) jdk_67_method_93_code 1 (some .int) :: ws) ({ frames := 1, cells := 0, slots := 0, locals := 12 } : Room)) (fun a U => a = #[(.ref a1)] ∧ Z.Warmed39 U.vm ∧ U.heap = h0) (fun _ _ _ _ _ => True) (fun _ U o U' => ∃ v L, o = .returned v ∧ Q36 Z a1 w_count_a1 h0 n0 v U'.heap L ∧ FrameEnd U o U' L ({ frames := 1, cells := 0, slots := 0, locals := 12 } : Room).cells ({ frames := 1, cells := 0, slots := 0, locals := 12 } : Room).slots) := by
  refine MetFree.of_bodySF (plainFor_of_name pn_4) hisR ?_
  intro p e s m args below meth c s₁ Bd hml0 hP hK
  obtain ⟨rfl, hZ, hh⟩ := hP
  have hx := Bd.exec
  have hby := Bd.bytes
  have hml : c.maxLocals = 1 := hml0
  have hown : s.vm.findClass "java/lang/StringBuilder" = some m.cls := findClass_of_methodNamed Bd.named
  have hnm := (name_of_methodNamed Bd.named Bd.method).1
  have X0 : Stand p l e ({ frames := 1, cells := 0, slots := 0, locals := 12 } : Room) s m #[(.ref a1)] below meth c s₁ [] 0 0 := Stand.of_body Bd
  have e0 : s₁.heap = h0 := by rw [← hh, Bd.state]; rfl
  have N0 := Fr.nil n0
  have pre0 : ∀ t, Steps p.tables e below (s₁.setTop (mkF m 0 #[vR a1] [])) t → Steps p.tables e below (s₁.setTop (entryFrame m #[(.ref a1)] 1)) t := fun t k => castTop (ef_36 m a1) k
  obtain ⟨_, _, ⟨T2, L2, k2, n2⟩, -, X2, ⟨Lc2, hQ2, l2, y2, z2⟩, st2⟩ := superBack X0 hx hZ (y := (⟨"java/lang/AbstractStringBuilder", "length", "()I"⟩ : MethodName)) hown (own_wi hw 201 rfl) (own_same (w := (⟨"java/lang/AbstractStringBuilder", "ensureCapacityInternal", "(I)V"⟩ : MethodName)) (own_wi hw 106 rfl) rfl (own_wi hw 197 rfl) (by decide)) (own_wi hw 197 rfl) (own_wi hw 88 rfl) (by decide) (backOf (W := 0) (rm37 l Z a0 hw [] a1 w_count_a1 h0 n0 Z0 F_count_a1) hZ (own_wi hw 202 rfl) (own_wi hw 70 rfl) (by decide) (by decide)) e0 (Ins.self E_a1) (g := (mkF m 1 #[vR a1] [(.ref a1)])) rfl (by rw [hml]; rfl) (own_wi hw 202 rfl) (argsL := []) (rest := []) (lenOf pd_7 rfl) rfl (by show 2 * 0 + _ ≤ _; exact Nat.le_of_eq rfl) (hb hby d36_1) (fun _ _ => ⟨rfl, e0, (by decide : 0 + 0 ≤ _), (by decide : 0 + 0 ≤ _)⟩)
  dsimp only [Pt.U, Pt.locs, Pt.cells, Pt.slots] at X2 l2 y2 z2 st2 hQ2
  subst l2 y2 z2
  obtain ⟨rfl, N2q, e2⟩ := hQ2
  have N2 := Fr.app N0 N2q
  obtain ⟨fs, hr, hrun, hended, hW, hsame⟩ := X2.leave (v := some (.int w_count_a1)) (fun h => by rw [Bd.returns] at h; cases h)
  refine ⟨_, _, pre0 _ ?_, hrun, hended, _, _, rfl, ?_, ⟨_, rfl⟩, hW, hsame.mono (by decide) (by decide)⟩
  · show Steps p.tables e below (s₁.setTop (mkF m 0 #[vR a1] [])) _
    refine XS.aloadN X0.here hx rfl (hb hby d36_0) rfl rfl ?_
    show Steps p.tables e below (s₁.setTop (mkF m 1 #[vR a1] [(.ref a1)])) _
    refine st2.trans ?_
    show Steps p.tables e below (T2.setTop (mkF m 4 #[vR a1] [(.int w_count_a1)])) _
    exact retI X2 hx Bd.returns (hb hby d36_4) hr
  · show Q36 Z a1 w_count_a1 h0 n0 _ T2.heap _
    rw [e2]
    exact ⟨rfl, N2, rfl⟩
theorem d40_0 : decode jdk_65_method_131_code 0 = .ok (.iload_n 1, 1) := by decide +kernel
theorem d40_1 : decode jdk_65_method_131_code 1 = .ok (.iload_n 0, 1) := by decide +kernel
theorem d40_2 : decode jdk_65_method_131_code 2 = .ok (.if_icmp .ge 35, 3) := by decide +kernel
theorem d40_37 : decode jdk_65_method_131_code 37 = .ok (.return_, 1) := by decide +kernel
theorem ef_40 (m : MethodId) (p1 : Int32) (p2 : Int32) : entryFrame m #[(.int p1), (.int p2)] 2 = mkF m 0 #[vI p1, vI p2] [] := by first | (simp [entryFrame, mkF, argsToLocals, Value.category]; done) | rfl
def Q40 (Z : State) (p1 : Int32) (p2 : Int32) (h0 : Heap) (n0 : Nat) (v : Option Value) (h : Heap) (L : List Loc) : Prop := v = none ∧ Fr n0 L ∧ h = h0
set_option maxRecDepth 65536 in
set_option maxHeartbeats 40000000 in
theorem rm40 (l : Launch) (Z : State) (a0 : Array Value) (hw : ∀ d ∈ tables_1, d.before a0 Z = true) (ws : List Jvm.Cond) (p1 : Int32) (p2 : Int32) (h0 : Heap) (n0 : Nat) (Z0 : n0 ≤ h0.size) (hc2 : ¬ (p2 < p1)) :
    MetFree l (⟨"java/util/Arrays", "checkLength", "(II)V"⟩ : MethodName) (head1 (Jvm.Cond.code (⟨"java/util/Arrays", "checkLength", "(II)V"⟩ : MethodName) jdk_65_method_131_code 2 none :: ws) ({ frames := 0, cells := 0, slots := 0, locals := 0 } : Room)) (fun a U => a = #[(.int p1), (.int p2)] ∧ Z.Warmed39 U.vm ∧ U.heap = h0) (fun _ _ _ _ _ => True) (fun _ U o U' => ∃ v L, o = .returned v ∧ Q40 Z p1 p2 h0 n0 v U'.heap L ∧ FrameEnd U o U' L ({ frames := 0, cells := 0, slots := 0, locals := 0 } : Room).cells ({ frames := 0, cells := 0, slots := 0, locals := 0 } : Room).slots) := by
  refine MetFree.of_bodySF (plainFor_of_name pn_3) hisR ?_
  intro p e s m args below meth c s₁ Bd hml0 hP hK
  obtain ⟨rfl, hZ, hh⟩ := hP
  have hx := Bd.exec
  have hby := Bd.bytes
  have hml : c.maxLocals = 2 := hml0
  have hown : s.vm.findClass "java/util/Arrays" = some m.cls := findClass_of_methodNamed Bd.named
  have hnm := (name_of_methodNamed Bd.named Bd.method).1
  have X0 : Stand p l e ({ frames := 0, cells := 0, slots := 0, locals := 0 } : Room) s m #[(.int p1), (.int p2)] below meth c s₁ [] 0 0 := Stand.of_body Bd
  have e0 : s₁.heap = h0 := by rw [← hh, Bd.state]; rfl
  have N0 := Fr.nil n0
  have pre0 : ∀ t, Steps p.tables e below (s₁.setTop (mkF m 0 #[vI p1, vI p2] [])) t → Steps p.tables e below (s₁.setTop (entryFrame m #[(.int p1), (.int p2)] 2)) t := fun t k => castTop (ef_40 m p1 p2) k
  obtain ⟨fs, hr, hrun, hended, hW, hsame⟩ := X0.leave (v := none) (fun _ => rfl)
  refine ⟨_, _, pre0 _ ?_, hrun, hended, _, _, rfl, ?_, ⟨_, rfl⟩, hW, hsame.mono (by decide) (by decide)⟩
  · show Steps p.tables e below (s₁.setTop (mkF m 0 #[vI p1, vI p2] [])) _
    refine XS.iloadN X0.here hx rfl (hb hby d40_0) rfl ?_
    refine XS.iloadN X0.here hx rfl (hb hby d40_1) rfl ?_
    show Steps p.tables e below (s₁.setTop (mkF m 2 #[vI p1, vI p2] [(.int p1), (.int p2)])) _
    refine XS.icmpYes X0.here hx rfl (pc0 := 2) (pc' := 37) rfl (hb hby d40_2) rfl (flt hc2).2.1 (by decide) (by decide) ?_
    show Steps p.tables e below (s₁.setTop (mkF m 37 #[vI p1, vI p2] [])) _
    exact X0.returnOut hx Bd.returns (hb hby d40_37) hr
  · show Q40 Z p1 p2 h0 n0 _ s₁.heap _
    rw [e0]
    exact ⟨rfl, N0, rfl⟩
theorem pd_13 : parseMethodDescriptor "(II)V" = some ⟨[.int, .int], none⟩ := by decide +kernel
theorem d39_0 : decode jdk_65_method_133_code 0 = .ok (.iload_n 1, 1) := by decide +kernel
theorem d39_1 : decode jdk_65_method_133_code 1 = .ok (.iload_n 2, 1) := by decide +kernel
theorem d39_2 : decode jdk_65_method_133_code 2 = .ok (.invokestatic 343, 3) := by decide +kernel
theorem d39_5 : decode jdk_65_method_133_code 5 = .ok (.iload_n 2, 1) := by decide +kernel
theorem d39_6 : decode jdk_65_method_133_code 6 = .ok (.iload_n 1, 1) := by decide +kernel
theorem d39_7 : decode jdk_65_method_133_code 7 = .ok (.isub, 1) := by decide +kernel
theorem d39_8 : decode jdk_65_method_133_code 8 = .ok (.istore_n 3, 1) := by decide +kernel
theorem d39_9 : decode jdk_65_method_133_code 9 = .ok (.iload_n 3, 1) := by decide +kernel
theorem d39_10 : decode jdk_65_method_133_code 10 = .ok (.newarray .byte, 2) := by decide +kernel
theorem d39_12 : decode jdk_65_method_133_code 12 = .ok (.astore 4, 2) := by decide +kernel
theorem d39_14 : decode jdk_65_method_133_code 14 = .ok (.aload_n 0, 1) := by decide +kernel
theorem d39_15 : decode jdk_65_method_133_code 15 = .ok (.iload_n 1, 1) := by decide +kernel
theorem d39_16 : decode jdk_65_method_133_code 16 = .ok (.aload 4, 2) := by decide +kernel
theorem d39_18 : decode jdk_65_method_133_code 18 = .ok (.iconst 0, 1) := by decide +kernel
theorem d39_19 : decode jdk_65_method_133_code 19 = .ok (.aload_n 0, 1) := by decide +kernel
theorem d39_20 : decode jdk_65_method_133_code 20 = .ok (.arraylength, 1) := by decide +kernel
theorem d39_21 : decode jdk_65_method_133_code 21 = .ok (.iload_n 1, 1) := by decide +kernel
theorem d39_22 : decode jdk_65_method_133_code 22 = .ok (.isub, 1) := by decide +kernel
theorem d39_23 : decode jdk_65_method_133_code 23 = .ok (.iload_n 3, 1) := by decide +kernel
theorem d39_24 : decode jdk_65_method_133_code 24 = .ok (.invokestatic 304, 3) := by decide +kernel
theorem d39_27 : decode jdk_65_method_133_code 27 = .ok (.invokestatic 150, 3) := by decide +kernel
theorem d39_30 : decode jdk_65_method_133_code 30 = .ok (.aload 4, 2) := by decide +kernel
theorem d39_32 : decode jdk_65_method_133_code 32 = .ok (.areturn, 1) := by decide +kernel
theorem ef_39 (m : MethodId) (a1 : Addr) (p2 : Int32) : entryFrame m #[(.ref a1), (.int (0 : Int32)), (.int p2)] 5 = mkF m 0 #[vR a1, vI (0 : Int32), vI p2, vU, vU] [] := by first | (simp [entryFrame, mkF, argsToLocals, Value.category]; done) | rfl
def Q39 (Z : State) (a1 : Addr) (p2 : Int32) (k_a1 : ClassId) (n_a1 : Int32) (vs_a1 : List Value) (h0 : Heap) (n0 : Nat) (v : Option Value) (h : Heap) (L : List Loc) : Prop := ∃ (xk : ClassId) (xd : Addr), v = some (.ref xd) ∧ Fr n0 L ∧ Keep h0 h [] ∧ h0.size ≤ xd ∧ Exa Z h xd "[B" ∧ Arv Z h xd xk .byte p2 vs_a1 (.int (0 : Int32))
set_option maxRecDepth 65536 in
set_option maxHeartbeats 40000000 in
theorem rm39 (l : Launch) (Z : State) (a0 : Array Value) (hw : ∀ d ∈ tables_1, d.before a0 Z = true) (ws : List Jvm.Cond) (a1 : Addr) (p2 : Int32) (k_a1 : ClassId) (n_a1 : Int32) (vs_a1 : List Value) (h0 : Heap) (n0 : Nat) (Z0 : n0 ≤ h0.size) (V_a1 : Arv Z h0 a1 k_a1 .byte n_a1 vs_a1 (.int (0 : Int32))) (E_a1 : Exa Z h0 a1 "[B") (hq0_2 : own_b94 p2) (hq0_3 : own_b188 n_a1) (hq0_4 : own_len p2 vs_a1) (hq0_5 : own_fit n_a1 vs_a1) :
    MetFree l (⟨"java/util/Arrays", "copyOfRangeByte", "([BII)[B"⟩ : MethodName) (head1 (Jvm.Cond.code (⟨"java/util/Arrays", "copyOfRangeByte", "([BII)[B"⟩ : MethodName) jdk_65_method_133_code 5 (some (.array .byte)) :: ws) ({ frames := 1, cells := 1, slots := 97, locals := 18 } : Room)) (fun a U => a = #[(.ref a1), (.int (0 : Int32)), (.int p2)] ∧ Z.Warmed39 U.vm ∧ U.heap = h0) (fun _ _ _ _ _ => True) (fun _ U o U' => ∃ v L, o = .returned v ∧ Q39 Z a1 p2 k_a1 n_a1 vs_a1 h0 n0 v U'.heap L ∧ FrameEnd U o U' L ({ frames := 1, cells := 1, slots := 97, locals := 18 } : Room).cells ({ frames := 1, cells := 1, slots := 97, locals := 18 } : Room).slots) := by
  refine MetFree.of_bodySF (plainFor_of_name pn_3) hisR ?_
  intro p e s m args below meth c s₁ Bd hml0 hP hK
  obtain ⟨rfl, hZ, hh⟩ := hP
  have hx := Bd.exec
  have hby := Bd.bytes
  have hml : c.maxLocals = 5 := hml0
  have hown : s.vm.findClass "java/util/Arrays" = some m.cls := findClass_of_methodNamed Bd.named
  have hnm := (name_of_methodNamed Bd.named Bd.method).1
  have X0 : Stand p l e ({ frames := 1, cells := 1, slots := 97, locals := 18 } : Room) s m #[(.ref a1), (.int (0 : Int32)), (.int p2)] below meth c s₁ [] 0 0 := Stand.of_body Bd
  have e0 : s₁.heap = h0 := by rw [← hh, Bd.state]; rfl
  have N0 := Fr.nil n0
  have pre0 : ∀ t, Steps p.tables e below (s₁.setTop (mkF m 0 #[vR a1, vI (0 : Int32), vI p2, vU, vU] [])) t → Steps p.tables e below (s₁.setTop (entryFrame m #[(.ref a1), (.int (0 : Int32)), (.int p2)] 5)) t := fun t k => castTop (ef_39 m a1 p2) k
  obtain ⟨_, _, ⟨T3, L3, k3, n3⟩, -, X3, ⟨Lc3, hQ3, l3, y3, z3⟩, st3⟩ := Jvm.LawKit.callS X0 hx (y := (⟨"java/util/Arrays", "checkLength", "(II)V"⟩ : MethodName)) hown (mvT hZ (own_wi hw 210 rfl)) (mvT hZ (own_wi hw 211 rfl)) (mvT hZ (own_wi hw 171 rfl)) (mvT hZ (own_wi hw 212 rfl)) (by decide) (backOf (W := 0) (rm40 l Z a0 hw [] (0 : Int32) p2 h0 n0 Z0 (show ¬ (p2 < (0 : Int32)) from by have r1 := hq0_2; unfold own_b94 at r1; rw [Int32.lt_iff_toInt_lt, own_z0]; omega)) hZ (own_wi hw 212 rfl) (own_wi hw 171 rfl) (by decide) (by decide)) (g := (mkF m 2 #[vR a1, vI (0 : Int32), vI p2, vU, vU] [(.int p2), (.int (0 : Int32))])) rfl (by rw [hml]; rfl) (argsL := [(.int (0 : Int32)), (.int p2)]) (rest := []) (lenOf pd_13 rfl) rfl (by show 2 * 0 + _ ≤ _; exact Nat.le_of_eq rfl) (hb hby d39_2) (fun _ _ => ⟨rfl, e0, (by decide : 0 + 0 ≤ _), (by decide : 0 + 0 ≤ _)⟩)
  dsimp only [Pt.U, Pt.locs, Pt.cells, Pt.slots] at X3 l3 y3 z3 st3 hQ3
  subst l3 y3 z3
  obtain ⟨rfl, N3q, e3⟩ := hQ3
  have N3 := Fr.app N0 N3q
  obtain ⟨T4, h4, k4, X4, e4, E4, A4, O4, st4⟩ := newPE X3 hx hZ (own_wi hw 26 rfl) e3 (g := (mkF m 10 #[vR a1, vI (0 : Int32), vI p2, vI (p2 - (0 : Int32)), vU] [(.int (p2 - (0 : Int32)))])) rfl (hb hby d39_10) rfl (by rw [own_sub0]; exact (own_cap97 hq0_2).1) (cap := 97) (by rw [own_sub0]; exact (own_cap97 hq0_2).2) (by decide) (by decide) (by decide) (ad := "[B") (by decide)
  obtain ⟨b4, g4⟩ : ∃ z, z = h0.size := ⟨_, rfl⟩
  rw [← g4] at A4 O4 st4
  have ne_a1_b4 : a1 ≠ b4 := Nat.ne_of_lt (Nat.lt_of_lt_of_le V_a1.lt (Nat.le_of_eq g4.symm))
  have g_b4 : n0 ≤ b4 := Nat.le_trans Z0 (Nat.le_of_eq g4.symm)
  have sz_b4 : h0.size ≤ b4 := Nat.le_trans ((Keep.refl h0 [])).1 (Nat.le_of_eq g4.symm)
  have K4 : Keep h0 h4 [] := ((Keep.refl h0 [])).ext E4
  have Z4 : n0 ≤ h4.size := Nat.le_trans Z0 E4.1
  have V_b4 : Arv Z h4 b4 k4 .byte (p2 - (0 : Int32)) [] (.int (0 : Int32)) := (Arv.new A4 (by rw [own_sub0]; exact (own_cap97 hq0_2).1))
  obtain ⟨cl5, Ar5, qq5, S5, NN5, -, -⟩ := id (V_a1.ext E4)
  obtain ⟨_, _, ⟨T6, L6, k6, n6⟩, -, X6, ⟨Lc6, hQ6, l6, y6, z6⟩, st6⟩ := Jvm.LawKit.callS X4 hx (y := (⟨"java/lang/Math", "min", "(II)I"⟩ : MethodName)) hown (mvT hZ (own_wi hw 173 rfl)) (mvT hZ (own_wi hw 174 rfl)) (mvT hZ (own_wi hw 165 rfl)) (mvT hZ (own_wi hw 175 rfl)) (by decide) (backOf (W := 4) (rm31 l Z a0 hw [] (n_a1 - (0 : Int32)) (p2 - (0 : Int32)) h4 n0 Z4 ) hZ (own_wi hw 175 rfl) (own_wi hw 165 rfl) (by decide) (by decide)) (g := (mkF m 24 #[vR a1, vI (0 : Int32), vI p2, vI (p2 - (0 : Int32)), vR b4] [(.int (p2 - (0 : Int32))), (.int (n_a1 - (0 : Int32))), (.int (0 : Int32)), (.ref b4), (.int (0 : Int32)), (.ref a1)])) rfl (by rw [hml]; rfl) (argsL := [(.int (n_a1 - (0 : Int32))), (.int (p2 - (0 : Int32)))]) (rest := [(.int (0 : Int32)), (.ref b4), (.int (0 : Int32)), (.ref a1)]) (lenOf pd_1 rfl) rfl (by show 2 * 0 + _ ≤ _; exact Nat.le_of_eq rfl) (hb hby d39_24) (fun _ _ => ⟨rfl, e4, (by decide : 1 + 0 ≤ _), (by decide : 97 + 0 ≤ _)⟩)
  dsimp only [Pt.U, Pt.locs, Pt.cells, Pt.slots] at X6 l6 y6 z6 st6 hQ6
  subst l6 y6 z6
  obtain ⟨rfl, N6q, e6⟩ := hQ6
  have N6 := Fr.app N3 N6q
  obtain ⟨T7, h7, L7, X7, e7, N7, K7q, A7, st7⟩ := own_cp X6 hx hZ hown (own_wi hw 176 rfl) (own_wi hw 127 rfl) (own_wi hw 125 rfl) (own_wi hw 126 rfl) e6 (V_a1.ext E4) V_b4 (us := vs_a1) rfl (rfl) (by have q := own_min (n_a1 - (0 : Int32)) (p2 - (0 : Int32)); rw [own_sub0, own_sub0] at q; rw [own_sub0, own_sub0]; have r1 := hq0_2; have r2 := hq0_3; have r3 := hq0_4; have r4 := hq0_5; unfold own_b94 at r1; unfold own_b188 at r2; unfold own_len at r3; unfold own_fit at r4; omega) (by have q := own_min (n_a1 - (0 : Int32)) (p2 - (0 : Int32)); rw [own_sub0, own_sub0] at q; rw [own_sub0, own_sub0]; have r1 := hq0_2; have r2 := hq0_3; have r3 := hq0_4; have r4 := hq0_5; unfold own_b94 at r1; unfold own_b188 at r2; unfold own_len at r3; unfold own_fit at r4; omega) (by have q := own_min (n_a1 - (0 : Int32)) (p2 - (0 : Int32)); rw [own_sub0, own_sub0] at q; rw [own_sub0, own_sub0]; have r1 := hq0_2; have r2 := hq0_3; have r3 := hq0_4; have r4 := hq0_5; unfold own_b94 at r1; unfold own_b188 at r2; unfold own_len at r3; unfold own_fit at r4; show ((0 : Nat) : Int) + _ ≤ _; omega) (own_us_all (by have q := own_min (n_a1 - (0 : Int32)) (p2 - (0 : Int32)); rw [own_sub0, own_sub0] at q; rw [own_sub0, own_sub0]; have r1 := hq0_2; have r2 := hq0_3; have r3 := hq0_4; have r4 := hq0_5; unfold own_b94 at r1; unfold own_b188 at r2; unfold own_len at r3; unfold own_fit at r4; omega)) N6 g_b4 (g := (mkF m 27 #[vR a1, vI (0 : Int32), vI p2, vI (p2 - (0 : Int32)), vR b4] [(.int (F31 (n_a1 - (0 : Int32)) (p2 - (0 : Int32)))), (.int (0 : Int32)), (.ref b4), (.int (0 : Int32)), (.ref a1)])) rfl (by rw [hml]; rfl) rfl (hb hby d39_27) (by decide) (W := 0) (by show 2 * 0 + _ ≤ _; exact Nat.le_of_eq rfl) (by decide)
  have y8 := ((V_a1.ext E4).keep K7q (ninS ne_a1_b4 nin0))
  have K7 : Keep h0 h7 [] := (K4).trans K7q (allS (P := fun x => x ∈ [] ∨ h0.size ≤ x) (Or.inr sz_b4) all0)
  have Z7 : n0 ≤ h7.size := Nat.le_trans Z4 K7q.1
  obtain ⟨fs, hr, hrun, hended, hW, hsame⟩ := X7.leave (v := some (.ref b4)) (fun h => by rw [Bd.returns] at h; cases h)
  refine ⟨_, _, pre0 _ ?_, hrun, hended, _, _, rfl, ?_, ⟨_, rfl⟩, hW, hsame.mono (by decide) (by decide)⟩
  · show Steps p.tables e below (s₁.setTop (mkF m 0 #[vR a1, vI (0 : Int32), vI p2, vU, vU] [])) _
    refine XS.iloadN X0.here hx rfl (hb hby d39_0) rfl ?_
    refine XS.iloadN X0.here hx rfl (hb hby d39_1) rfl ?_
    show Steps p.tables e below (s₁.setTop (mkF m 2 #[vR a1, vI (0 : Int32), vI p2, vU, vU] [(.int p2), (.int (0 : Int32))])) _
    refine st3 _ ?_
    show Steps p.tables e below (T3.setTop (mkF m 5 #[vR a1, vI (0 : Int32), vI p2, vU, vU] [])) _
    refine XS.iloadN X3.here hx rfl (hb hby d39_5) rfl ?_
    refine XS.iloadN X3.here hx rfl (hb hby d39_6) rfl ?_
    refine XS.isub X3.here hx rfl (hb hby d39_7) rfl ?_
    refine XS.istoreN X3.here hx rfl (hb hby d39_8) rfl (l' := #[vR a1, vI (0 : Int32), vI p2, vI (p2 - (0 : Int32)), vU]) rfl ?_
    refine XS.iloadN X3.here hx rfl (hb hby d39_9) rfl ?_
    show Steps p.tables e below (T3.setTop (mkF m 10 #[vR a1, vI (0 : Int32), vI p2, vI (p2 - (0 : Int32)), vU] [(.int (p2 - (0 : Int32)))])) _
    refine st4 _ ?_
    show Steps p.tables e below (T4.setTop (mkF m 12 #[vR a1, vI (0 : Int32), vI p2, vI (p2 - (0 : Int32)), vU] [(.ref b4)])) _
    refine XS.astore X4.here hx rfl (hb hby d39_12) rfl rfl (l' := #[vR a1, vI (0 : Int32), vI p2, vI (p2 - (0 : Int32)), vR b4]) rfl ?_
    refine XS.aloadN X4.here hx rfl (hb hby d39_14) rfl rfl ?_
    refine XS.iloadN X4.here hx rfl (hb hby d39_15) rfl ?_
    refine XS.aload X4.here hx rfl (hb hby d39_16) rfl rfl ?_
    refine XS.iconst X4.here hx rfl (hb hby d39_18) ?_
    show Steps p.tables e below (T4.setTop (mkF m 19 #[vR a1, vI (0 : Int32), vI p2, vI (p2 - (0 : Int32)), vR b4] [(.int (0 : Int32)), (.ref b4), (.int (0 : Int32)), (.ref a1)])) _
    refine XS.aloadN X4.here hx rfl (hb hby d39_19) rfl rfl ?_
    show Steps p.tables e below (T4.setTop (mkF m 20 #[vR a1, vI (0 : Int32), vI p2, vI (p2 - (0 : Int32)), vR b4] [(.ref a1), (.int (0 : Int32)), (.ref b4), (.int (0 : Int32)), (.ref a1)])) _
    refine X4.arraylength hx (by rw [e4]; exact Ar5.1) (State.isArrayOf_alike hZ.alike Ar5.2.1) (g := (mkF m 20 #[vR a1, vI (0 : Int32), vI p2, vI (p2 - (0 : Int32)), vR b4] [(.ref a1), (.int (0 : Int32)), (.ref b4), (.int (0 : Int32)), (.ref a1)])) rfl rfl (hb hby d39_20) _ ?_
    rw [len_of S5 NN5]
    show Steps p.tables e below (T4.setTop (mkF m 21 #[vR a1, vI (0 : Int32), vI p2, vI (p2 - (0 : Int32)), vR b4] [(.int n_a1), (.int (0 : Int32)), (.ref b4), (.int (0 : Int32)), (.ref a1)])) _
    refine XS.iloadN X4.here hx rfl (hb hby d39_21) rfl ?_
    refine XS.isub X4.here hx rfl (hb hby d39_22) rfl ?_
    refine XS.iloadN X4.here hx rfl (hb hby d39_23) rfl ?_
    show Steps p.tables e below (T4.setTop (mkF m 24 #[vR a1, vI (0 : Int32), vI p2, vI (p2 - (0 : Int32)), vR b4] [(.int (p2 - (0 : Int32))), (.int (n_a1 - (0 : Int32))), (.int (0 : Int32)), (.ref b4), (.int (0 : Int32)), (.ref a1)])) _
    refine st6 _ ?_
    show Steps p.tables e below (T6.setTop (mkF m 27 #[vR a1, vI (0 : Int32), vI p2, vI (p2 - (0 : Int32)), vR b4] [(.int (F31 (n_a1 - (0 : Int32)) (p2 - (0 : Int32)))), (.int (0 : Int32)), (.ref b4), (.int (0 : Int32)), (.ref a1)])) _
    refine st7 _ ?_
    show Steps p.tables e below (T7.setTop (mkF m 30 #[vR a1, vI (0 : Int32), vI p2, vI (p2 - (0 : Int32)), vR b4] [])) _
    refine XS.aload X7.here hx rfl (hb hby d39_30) rfl rfl ?_
    show Steps p.tables e below (T7.setTop (mkF m 32 #[vR a1, vI (0 : Int32), vI p2, vI (p2 - (0 : Int32)), vR b4] [(.ref b4)])) _
    exact retOut X7 hx Bd.returns rfl (Or.inr (Or.inr (Or.inr (Or.inr ⟨rfl, rfl, rfl⟩)))) (hb hby d39_32) hr
  · show Q39 Z a1 p2 k_a1 n_a1 vs_a1 h0 n0 _ T7.heap _
    rw [e7]
    have qv := A7
    rw [own_sub0] at qv
    exact ⟨k4, b4, rfl, N7, (K7), sz_b4, (O4.keep K7q), qv⟩
theorem pd_14 : parseMethodDescriptor "([BII)[B" = some ⟨[(.array .byte), .int, .int], some (.array .byte)⟩ := by decide +kernel
theorem d38_0 : decode jdk_65_method_132_code 0 = .ok (.iload_n 1, 1) := by decide +kernel
theorem d38_1 : decode jdk_65_method_132_code 1 = .ok (.ifCond .ne 9, 3) := by decide +kernel
theorem d38_4 : decode jdk_65_method_132_code 4 = .ok (.iload_n 2, 1) := by decide +kernel
theorem d38_5 : decode jdk_65_method_132_code 5 = .ok (.aload_n 0, 1) := by decide +kernel
theorem d38_6 : decode jdk_65_method_132_code 6 = .ok (.arraylength, 1) := by decide +kernel
theorem d38_7 : decode jdk_65_method_132_code 7 = .ok (.if_icmp .eq 10, 3) := by decide +kernel
theorem d38_10 : decode jdk_65_method_132_code 10 = .ok (.aload_n 0, 1) := by decide +kernel
theorem d38_11 : decode jdk_65_method_132_code 11 = .ok (.iload_n 1, 1) := by decide +kernel
theorem d38_12 : decode jdk_65_method_132_code 12 = .ok (.iload_n 2, 1) := by decide +kernel
theorem d38_13 : decode jdk_65_method_132_code 13 = .ok (.invokestatic 339, 3) := by decide +kernel
theorem d38_16 : decode jdk_65_method_132_code 16 = .ok (.areturn, 1) := by decide +kernel
theorem d38_17 : decode jdk_65_method_132_code 17 = .ok (.aload_n 0, 1) := by decide +kernel
theorem d38_18 : decode jdk_65_method_132_code 18 = .ok (.invokevirtual 310, 3) := by decide +kernel
theorem d38_21 : decode jdk_65_method_132_code 21 = .ok (.checkcast 311, 3) := by decide +kernel
theorem d38_24 : decode jdk_65_method_132_code 24 = .ok (.areturn, 1) := by decide +kernel
theorem ef_38 (m : MethodId) (a1 : Addr) (p2 : Int32) : entryFrame m #[(.ref a1), (.int (0 : Int32)), (.int p2)] 3 = mkF m 0 #[vR a1, vI (0 : Int32), vI p2] [] := by first | (simp [entryFrame, mkF, argsToLocals, Value.category]; done) | rfl
def Q38 (Z : State) (a1 : Addr) (p2 : Int32) (k_a1 : ClassId) (n_a1 : Int32) (vs_a1 : List Value) (h0 : Heap) (n0 : Nat) (v : Option Value) (h : Heap) (L : List Loc) : Prop := ∃ (xk : ClassId) (xd : Addr), v = some (.ref xd) ∧ Fr n0 L ∧ Keep h0 h [] ∧ h0.size ≤ xd ∧ Exa Z h xd "[B" ∧ Arv Z h xd xk .byte p2 vs_a1 (.int (0 : Int32))
set_option maxRecDepth 65536 in
set_option maxHeartbeats 40000000 in
theorem rm38 (l : Launch) (Z : State) (a0 : Array Value) (hw : ∀ d ∈ tables_1, d.before a0 Z = true) (ws : List Jvm.Cond) (a1 : Addr) (p2 : Int32) (k_a1 : ClassId) (n_a1 : Int32) (vs_a1 : List Value) (h0 : Heap) (n0 : Nat) (Z0 : n0 ≤ h0.size) (V_a1 : Arv Z h0 a1 k_a1 .byte n_a1 vs_a1 (.int (0 : Int32))) (E_a1 : Exa Z h0 a1 "[B") (hq0_2 : own_b94 p2) (hq0_3 : own_b188 n_a1) (hq0_4 : own_len p2 vs_a1) (hq0_5 : own_fit n_a1 vs_a1) :
    MetFree l (⟨"java/util/Arrays", "copyOfRange", "([BII)[B"⟩ : MethodName) (head1 (Jvm.Cond.code (⟨"java/util/Arrays", "copyOfRange", "([BII)[B"⟩ : MethodName) jdk_65_method_132_code 3 (some (.array .byte)) :: ws) ({ frames := 2, cells := 1, slots := 97, locals := 34 } : Room)) (fun a U => a = #[(.ref a1), (.int (0 : Int32)), (.int p2)] ∧ Z.Warmed39 U.vm ∧ U.heap = h0) (fun _ _ _ _ _ => True) (fun _ U o U' => ∃ v L, o = .returned v ∧ Q38 Z a1 p2 k_a1 n_a1 vs_a1 h0 n0 v U'.heap L ∧ FrameEnd U o U' L ({ frames := 2, cells := 1, slots := 97, locals := 34 } : Room).cells ({ frames := 2, cells := 1, slots := 97, locals := 34 } : Room).slots) := by
  refine MetFree.of_bodySF (plainFor_of_name pn_3) hisR ?_
  intro p e s m args below meth c s₁ Bd hml0 hP hK
  obtain ⟨rfl, hZ, hh⟩ := hP
  have hx := Bd.exec
  have hby := Bd.bytes
  have hml : c.maxLocals = 3 := hml0
  have hown : s.vm.findClass "java/util/Arrays" = some m.cls := findClass_of_methodNamed Bd.named
  have hnm := (name_of_methodNamed Bd.named Bd.method).1
  have X0 : Stand p l e ({ frames := 2, cells := 1, slots := 97, locals := 34 } : Room) s m #[(.ref a1), (.int (0 : Int32)), (.int p2)] below meth c s₁ [] 0 0 := Stand.of_body Bd
  have e0 : s₁.heap = h0 := by rw [← hh, Bd.state]; rfl
  have N0 := Fr.nil n0
  have pre0 : ∀ t, Steps p.tables e below (s₁.setTop (mkF m 0 #[vR a1, vI (0 : Int32), vI p2] [])) t → Steps p.tables e below (s₁.setTop (entryFrame m #[(.ref a1), (.int (0 : Int32)), (.int p2)] 3)) t := fun t k => castTop (ef_38 m a1 p2) k
  obtain ⟨cl3, Ar3, qq3, S3, NN3, -, -⟩ := id V_a1
  have pre5 : ∀ t, Steps p.tables e below (s₁.setTop (mkF m 7 #[vR a1, vI (0 : Int32), vI p2] [(.int n_a1), (.int p2)])) t → Steps p.tables e below (s₁.setTop (entryFrame m #[(.ref a1), (.int (0 : Int32)), (.int p2)] 3)) t := fun t kt => pre0 t (by
    show Steps p.tables e below (s₁.setTop (mkF m 0 #[vR a1, vI (0 : Int32), vI p2] [])) _
    refine XS.iloadN X0.here hx rfl (hb hby d38_0) rfl ?_
    show Steps p.tables e below (s₁.setTop (mkF m 1 #[vR a1, vI (0 : Int32), vI p2] [(.int (0 : Int32))])) _
    refine XS.ifNo X0.here hx rfl (hb hby d38_1) rfl ((if0 _ _).trans (teq (by decide : (0 : Int32) = (0 : Int32))).2) ?_
    refine XS.iloadN X0.here hx rfl (hb hby d38_4) rfl ?_
    refine XS.aloadN X0.here hx rfl (hb hby d38_5) rfl rfl ?_
    show Steps p.tables e below (s₁.setTop (mkF m 6 #[vR a1, vI (0 : Int32), vI p2] [(.ref a1), (.int p2)])) _
    refine X0.arraylength hx (by rw [e0]; exact Ar3.1) (State.isArrayOf_alike hZ.alike Ar3.2.1) (g := (mkF m 6 #[vR a1, vI (0 : Int32), vI p2] [(.ref a1), (.int p2)])) rfl rfl (hb hby d38_6) _ ?_
    rw [len_of S3 NN3]
    show Steps p.tables e below (s₁.setTop (mkF m 7 #[vR a1, vI (0 : Int32), vI p2] [(.int n_a1), (.int p2)])) _
    exact kt)
  by_cases hc7_4 : p2 = n_a1
  · obtain ⟨T6, h6, X6, e6, E6, A6, O6, st6⟩ := cloneH X0 hx hZ hown (own_wi hw 229 rfl) (own_wi hw 230 rfl) (own_wi hw 234 rfl) (own_wi hw 232 rfl) (own_wi hw 233 rfl) (own_wi hw 235 rfl) e0 (Arv.arh V_a1) E_a1 (g := (mkF m 18 #[vR a1, vI (0 : Int32), vI p2] [(.ref a1)])) rfl (by rw [hml]; rfl) rfl (hb hby d38_18) (by decide) (W := 0) (cap := 97) (by show 2 * 0 + _ ≤ _; exact Nat.le_of_eq rfl) (by decide) (by rw [← hc7_4]; exact (own_cap97 hq0_2).2) (by decide) (by decide)
    obtain ⟨b6, g6⟩ : ∃ z, z = h0.size := ⟨_, rfl⟩
    rw [← g6] at A6 O6 st6
    have ne_a1_b6 : a1 ≠ b6 := Nat.ne_of_lt (Nat.lt_of_lt_of_le V_a1.lt (Nat.le_of_eq g6.symm))
    have g_b6 : n0 ≤ b6 := Nat.le_trans Z0 (Nat.le_of_eq g6.symm)
    have sz_b6 : h0.size ≤ b6 := Nat.le_trans ((Keep.refl h0 [])).1 (Nat.le_of_eq g6.symm)
    have K6 : Keep h0 h6 [] := ((Keep.refl h0 [])).ext E6
    have Z6 : n0 ≤ h6.size := Nat.le_trans Z0 E6.1
    have V_b6 : Arv Z h6 b6 k_a1 .byte n_a1 vs_a1 (.int (0 : Int32)) := A6
    obtain ⟨T7, X7, e7, st7⟩ := castY X6 hx hZ hown (own_wi hw 236 rfl) e6 (Ins.self O6) (g := (mkF m 21 #[vR a1, vI (0 : Int32), vI p2] [(.ref b6)])) rfl rfl (hb hby d38_21)
    obtain ⟨fs, hr, hrun, hended, hW, hsame⟩ := X7.leave (v := some (.ref b6)) (fun h => by rw [Bd.returns] at h; cases h)
    refine ⟨_, _, pre5 _ ?_, hrun, hended, _, _, rfl, ?_, ⟨_, rfl⟩, hW, hsame.mono (by decide) (by decide)⟩
    · show Steps p.tables e below (s₁.setTop (mkF m 7 #[vR a1, vI (0 : Int32), vI p2] [(.int n_a1), (.int p2)])) _
      refine XS.icmpYes X0.here hx rfl (pc0 := 7) (pc' := 17) rfl (hb hby d38_7) rfl (teq hc7_4).1 (by decide) (by decide) ?_
      refine XS.aloadN X0.here hx rfl (hb hby d38_17) rfl rfl ?_
      show Steps p.tables e below (s₁.setTop (mkF m 18 #[vR a1, vI (0 : Int32), vI p2] [(.ref a1)])) _
      refine st6 _ ?_
      show Steps p.tables e below (T6.setTop (mkF m 21 #[vR a1, vI (0 : Int32), vI p2] [(.ref b6)])) _
      refine st7 _ ?_
      show Steps p.tables e below (T7.setTop (mkF m 24 #[vR a1, vI (0 : Int32), vI p2] [(.ref b6)])) _
      exact retOut X7 hx Bd.returns rfl (Or.inr (Or.inr (Or.inr (Or.inr ⟨rfl, rfl, rfl⟩)))) (hb hby d38_24) hr
    · show Q38 Z a1 p2 k_a1 n_a1 vs_a1 h0 n0 _ T7.heap _
      rw [e7]
      have qv := V_b6
      rw [← hc7_4] at qv
      exact ⟨k_a1, b6, rfl, N0, (K6), sz_b6, O6, qv⟩
  · obtain ⟨_, _, ⟨T8, L8, k8, n8⟩, -, X8, ⟨Lc8, hQ8, l8, y8, z8⟩, st8⟩ := Jvm.LawKit.callS X0 hx (y := (⟨"java/util/Arrays", "copyOfRangeByte", "([BII)[B"⟩ : MethodName)) hown (mvT hZ (own_wi hw 207 rfl)) (mvT hZ (own_wi hw 208 rfl)) (mvT hZ (own_wi hw 171 rfl)) (mvT hZ (own_wi hw 209 rfl)) (by decide) (backOf (W := 0) (rm39 l Z a0 hw [] a1 p2 k_a1 n_a1 vs_a1 h0 n0 Z0 V_a1 E_a1 hq0_2 hq0_3 hq0_4 hq0_5) hZ (own_wi hw 209 rfl) (own_wi hw 171 rfl) (by decide) (by decide)) (g := (mkF m 13 #[vR a1, vI (0 : Int32), vI p2] [(.int p2), (.int (0 : Int32)), (.ref a1)])) rfl (by rw [hml]; rfl) (argsL := [(.ref a1), (.int (0 : Int32)), (.int p2)]) (rest := []) (lenOf pd_14 rfl) rfl (by show 2 * 0 + _ ≤ _; exact Nat.le_of_eq rfl) (hb hby d38_13) (fun _ _ => ⟨rfl, e0, (by decide : 0 + 1 ≤ _), (by decide : 0 + 97 ≤ _)⟩)
    dsimp only [Pt.U, Pt.locs, Pt.cells, Pt.slots] at X8 l8 y8 z8 st8 hQ8
    subst l8 y8 z8
    obtain ⟨x8_0, z8_0, rfl, N8q, K8q, f8_0, f8_1, f8_2⟩ := hQ8
    have ne_a1_z8_0 : a1 ≠ z8_0 := Nat.ne_of_lt (Nat.lt_of_lt_of_le V_a1.lt f8_0)
    have g_z8_0 : n0 ≤ z8_0 := Nat.le_trans Z0 f8_0
    have sz_z8_0 : h0.size ≤ z8_0 := Nat.le_trans ((Keep.refl h0 [])).1 f8_0
    have K8 : Keep h0 T8.heap [] := ((Keep.refl h0 [])).trans K8q all0
    have Z8 : n0 ≤ T8.heap.size := Nat.le_trans Z0 K8q.1
    have N8 := Fr.app N0 N8q
    obtain ⟨fs, hr, hrun, hended, hW, hsame⟩ := X8.leave (v := some (.ref z8_0)) (fun h => by rw [Bd.returns] at h; cases h)
    refine ⟨_, _, pre5 _ ?_, hrun, hended, _, _, rfl, ?_, ⟨_, rfl⟩, hW, hsame.mono (by decide) (by decide)⟩
    · show Steps p.tables e below (s₁.setTop (mkF m 7 #[vR a1, vI (0 : Int32), vI p2] [(.int n_a1), (.int p2)])) _
      refine XS.icmpNo X0.here hx rfl (hb hby d38_7) rfl (feq hc7_4).1 ?_
      refine XS.aloadN X0.here hx rfl (hb hby d38_10) rfl rfl ?_
      refine XS.iloadN X0.here hx rfl (hb hby d38_11) rfl ?_
      refine XS.iloadN X0.here hx rfl (hb hby d38_12) rfl ?_
      show Steps p.tables e below (s₁.setTop (mkF m 13 #[vR a1, vI (0 : Int32), vI p2] [(.int p2), (.int (0 : Int32)), (.ref a1)])) _
      refine st8 _ ?_
      show Steps p.tables e below (T8.setTop (mkF m 16 #[vR a1, vI (0 : Int32), vI p2] [(.ref z8_0)])) _
      exact retOut X8 hx Bd.returns rfl (Or.inr (Or.inr (Or.inr (Or.inr ⟨rfl, rfl, rfl⟩)))) (hb hby d38_16) hr
    · show Q38 Z a1 p2 k_a1 n_a1 vs_a1 h0 n0 _ T8.heap _
      have qv := f8_2
      exact ⟨x8_0, z8_0, rfl, N8, (K8), sz_z8_0, f8_1, qv⟩
theorem pd_15 : parseMethodDescriptor "()[B" = some ⟨[], some (.array .byte)⟩ := by decide +kernel
theorem d34_0 : decode jdk_42_method_150_code 0 = .ok (.aload_n 0, 1) := by decide +kernel
theorem d34_1 : decode jdk_42_method_150_code 1 = .ok (.invokespecial 1, 3) := by decide +kernel
theorem d34_4 : decode jdk_42_method_150_code 4 = .ok (.aload_n 1, 1) := by decide +kernel
theorem d34_5 : decode jdk_42_method_150_code 5 = .ok (.invokevirtual 552, 3) := by decide +kernel
theorem d34_8 : decode jdk_42_method_150_code 8 = .ok (.astore_n 3, 1) := by decide +kernel
theorem d34_9 : decode jdk_42_method_150_code 9 = .ok (.aload_n 1, 1) := by decide +kernel
theorem d34_10 : decode jdk_42_method_150_code 10 = .ok (.invokevirtual 549, 3) := by decide +kernel
theorem d34_13 : decode jdk_42_method_150_code 13 = .ok (.istore 4, 2) := by decide +kernel
theorem d34_15 : decode jdk_42_method_150_code 15 = .ok (.aload_n 1, 1) := by decide +kernel
theorem d34_16 : decode jdk_42_method_150_code 16 = .ok (.invokevirtual 1047, 3) := by decide +kernel
theorem d34_19 : decode jdk_42_method_150_code 19 = .ok (.ifCond .eq 22, 3) := by decide +kernel
theorem d34_22 : decode jdk_42_method_150_code 22 = .ok (.aload_n 0, 1) := by decide +kernel
theorem d34_23 : decode jdk_42_method_150_code 23 = .ok (.iconst 0, 1) := by decide +kernel
theorem d34_24 : decode jdk_42_method_150_code 24 = .ok (.putfield 15, 3) := by decide +kernel
theorem d34_27 : decode jdk_42_method_150_code 27 = .ok (.aload_n 0, 1) := by decide +kernel
theorem d34_28 : decode jdk_42_method_150_code 28 = .ok (.aload_n 3, 1) := by decide +kernel
theorem d34_29 : decode jdk_42_method_150_code 29 = .ok (.iconst 0, 1) := by decide +kernel
theorem d34_30 : decode jdk_42_method_150_code 30 = .ok (.iload 4, 2) := by decide +kernel
theorem d34_32 : decode jdk_42_method_150_code 32 = .ok (.invokestatic 54, 3) := by decide +kernel
theorem d34_35 : decode jdk_42_method_150_code 35 = .ok (.putfield 9, 3) := by decide +kernel
theorem d34_38 : decode jdk_42_method_150_code 38 = .ok (.goto 59, 3) := by decide +kernel
theorem d34_97 : decode jdk_42_method_150_code 97 = .ok (.return_, 1) := by decide +kernel
theorem ef_34 (m : MethodId) (a1 : Addr) (a2 : Addr) : entryFrame m #[(.ref a1), (.ref a2), .null] 5 = mkF m 0 #[vR a1, vR a2, .val .null, vU, vU] [] := by first | (simp [entryFrame, mkF, argsToLocals, Value.category]; done) | rfl
def Q34 (Z : State) (a1 : Addr) (a2 : Addr) (w_coder_a1 : Int32) (w_value_a2 : Addr) (w_count_a2 : Int32) (k_w_value_a2 : ClassId) (n_w_value_a2 : Int32) (vs_w_value_a2 : List Value) (st_COMPACT_STRINGS : Int32) (h0 : Heap) (n0 : Nat) (v : Option Value) (h : Heap) (L : List Loc) : Prop := ∃ (xk : ClassId) (xd : Addr), v = none ∧ Fr n0 L ∧ Keep h0 h [a1] ∧ h0.size ≤ xd ∧ Exa Z h a1 "java/lang/String" ∧ Fld Z h a1 "java/lang/String" "coder" "B" (.int (0 : Int32)) ∧ Fld Z h a1 "java/lang/String" "value" "[B" (.ref xd) ∧ Exa Z h xd "[B" ∧ Arv Z h xd xk .byte w_count_a2 vs_w_value_a2 (.int (0 : Int32))
set_option maxRecDepth 65536 in
set_option maxHeartbeats 40000000 in
theorem rm34 (l : Launch) (Z : State) (a0 : Array Value) (hw : ∀ d ∈ tables_1, d.before a0 Z = true) (ws : List Jvm.Cond) (a1 : Addr) (a2 : Addr) (w_coder_a1 : Int32) (w_value_a2 : Addr) (w_count_a2 : Int32) (k_w_value_a2 : ClassId) (n_w_value_a2 : Int32) (vs_w_value_a2 : List Value) (st_COMPACT_STRINGS : Int32) (h0 : Heap) (n0 : Nat) (Z0 : n0 ≤ h0.size) (E_a1 : Exa Z h0 a1 "java/lang/String") (F_value_a1 : Fld Z h0 a1 "java/lang/String" "value" "[B" .null) (F_coder_a1 : Fld Z h0 a1 "java/lang/String" "coder" "B" (.int w_coder_a1)) (E_a2 : Exa Z h0 a2 "java/lang/StringBuilder") (F_value_a2 : Fld Z h0 a2 "java/lang/AbstractStringBuilder" "value" "[B" (.ref w_value_a2)) (F_coder_a2 : Fld Z h0 a2 "java/lang/AbstractStringBuilder" "coder" "B" (.int (0 : Int32))) (F_count_a2 : Fld Z h0 a2 "java/lang/AbstractStringBuilder" "count" "I" (.int w_count_a2)) (V_w_value_a2 : Arv Z h0 w_value_a2 k_w_value_a2 .byte n_w_value_a2 vs_w_value_a2 (.int (0 : Int32))) (E_w_value_a2 : Exa Z h0 w_value_a2 "[B") (S_COMPACT_STRINGS : Sta Z h0 "java/lang/String" "COMPACT_STRINGS" "Z" (.int st_COMPACT_STRINGS)) (hq0_10 : own_b94 w_count_a2) (hq0_11 : own_b188 n_w_value_a2) (hq0_12 : own_len w_count_a2 vs_w_value_a2) (hq0_13 : own_fit n_w_value_a2 vs_w_value_a2) (hq16_14 : ¬ (st_COMPACT_STRINGS = (0 : Int32))) (g_a1 : n0 ≤ a1) (ne_a2_a1 : a2 ≠ a1) (ne_w_value_a2_a1 : w_value_a2 ≠ a1) :
    MetFree l (⟨"java/lang/String", "<init>", "(Ljava/lang/AbstractStringBuilder;Ljava/lang/Void;)V"⟩ : MethodName) (head1 (Jvm.Cond.code (⟨"java/lang/String", "<init>", "(Ljava/lang/AbstractStringBuilder;Ljava/lang/Void;)V"⟩ : MethodName) jdk_42_method_150_code 5 none :: ws) ({ frames := 3, cells := 1, slots := 97, locals := 49 } : Room)) (fun a U => a = #[(.ref a1), (.ref a2), .null] ∧ Z.Warmed39 U.vm ∧ U.heap = h0) (fun _ _ _ _ _ => True) (fun _ U o U' => ∃ v L, o = .returned v ∧ Q34 Z a1 a2 w_coder_a1 w_value_a2 w_count_a2 k_w_value_a2 n_w_value_a2 vs_w_value_a2 st_COMPACT_STRINGS h0 n0 v U'.heap L ∧ FrameEnd U o U' L ({ frames := 3, cells := 1, slots := 97, locals := 49 } : Room).cells ({ frames := 3, cells := 1, slots := 97, locals := 49 } : Room).slots) := by
  refine MetFree.of_bodySF (plainFor_of_name pn_0) hisR ?_
  intro p e s m args below meth c s₁ Bd hml0 hP hK
  obtain ⟨rfl, hZ, hh⟩ := hP
  have hx := Bd.exec
  have hby := Bd.bytes
  have hml : c.maxLocals = 5 := hml0
  have hown : s.vm.findClass "java/lang/String" = some m.cls := findClass_of_methodNamed Bd.named
  have hnm := (name_of_methodNamed Bd.named Bd.method).1
  have X0 : Stand p l e ({ frames := 3, cells := 1, slots := 97, locals := 49 } : Room) s m #[(.ref a1), (.ref a2), .null] below meth c s₁ [] 0 0 := Stand.of_body Bd
  have e0 : s₁.heap = h0 := by rw [← hh, Bd.state]; rfl
  have N0 := Fr.nil n0
  have pre0 : ∀ t, Steps p.tables e below (s₁.setTop (mkF m 0 #[vR a1, vR a2, .val .null, vU, vU] [])) t → Steps p.tables e below (s₁.setTop (entryFrame m #[(.ref a1), (.ref a2), .null] 5)) t := fun t k => castTop (ef_34 m a1 a2) k
  obtain ⟨T3, X3, e3, st3⟩ := initO X0 hx hZ hown (own_wi hw 18 rfl) (own_wi hw 19 rfl) (own_wi hw 20 rfl) e0 (g := (mkF m 1 #[vR a1, vR a2, .val .null, vU, vU] [(.ref a1)])) rfl (by rw [hml]; rfl) rfl (hb hby d34_1) (by decide) (W := 0) (by show 2 * 0 + _ ≤ _; exact Nat.le_of_eq rfl) (by decide)
  obtain ⟨cq4, kq4, q4a, q4b, q4c⟩ := isOf hZ e3 E_a2
  obtain ⟨_, _, ⟨T4, L4, k4, n4⟩, -, X4, ⟨Lc4, hQ4, l4, y4, z4⟩, st4⟩ := X3.virtualBack hx (y := (⟨"java/lang/AbstractStringBuilder", "getValue", "()[B"⟩ : MethodName)) (z := (⟨"java/lang/AbstractStringBuilder", "getValue", "()[B"⟩ : MethodName)) hown (mvT hZ (own_wi hw 190 rfl)) (mvT hZ (own_wi hw 191 rfl)) (notFace_of_selects (args := #[]) (mvT hZ (own_wi hw 193 rfl))) (mvT hZ (own_wi hw 193 rfl)) (mvT hZ (own_wi hw 192 rfl)) (by decide) (backOf (W := 0) (rm35 l Z a0 hw [] a2 w_value_a2 h0 n0 Z0 F_value_a2) hZ (own_wi hw 194 rfl) (own_wi hw 70 rfl) (by decide) (by decide)) q4a q4c (g := (mkF m 5 #[vR a1, vR a2, .val .null, vU, vU] [(.ref a2)])) rfl (by rw [hml]; rfl) (Steps.refl _) (argsL := []) (rest := []) (lenOf pd_15 rfl) rfl (by show 2 * 0 + _ ≤ _; exact Nat.le_of_eq rfl) (hb hby d34_5) (fun _ _ => ⟨rfl, e3, (by decide : 0 + 0 ≤ _), (by decide : 0 + 0 ≤ _)⟩)
  dsimp only [Pt.U, Pt.locs, Pt.cells, Pt.slots] at X4 l4 y4 z4 st4 hQ4
  subst l4 y4 z4
  obtain ⟨rfl, N4q, e4⟩ := hQ4
  have N4 := Fr.app N0 N4q
  obtain ⟨cq5, kq5, q5a, q5b, q5c⟩ := isOf hZ e4 E_a2
  obtain ⟨_, _, ⟨T5, L5, k5, n5⟩, -, X5, ⟨Lc5, hQ5, l5, y5, z5⟩, st5⟩ := X4.virtualBack hx (y := (⟨"java/lang/AbstractStringBuilder", "length", "()I"⟩ : MethodName)) (z := (⟨"java/lang/StringBuilder", "length", "()I"⟩ : MethodName)) hown (mvT hZ (own_wi hw 195 rfl)) (mvT hZ (own_wi hw 196 rfl)) (own_nface (args := #[]) (w := (⟨"java/lang/AbstractStringBuilder", "ensureCapacityInternal", "(I)V"⟩ : MethodName)) (mvT hZ (own_wi hw 106 rfl)) rfl) (mvT hZ (own_wi hw 198 rfl)) (mvT hZ (own_wi hw 199 rfl)) (by decide) (backOf (W := 0) (rm36 l Z a0 hw [] a2 w_count_a2 h0 n0 Z0 E_a2 F_count_a2) hZ (own_wi hw 200 rfl) (own_wi hw 62 rfl) (by decide) (by decide)) q5a q5c (g := (mkF m 10 #[vR a1, vR a2, .val .null, vR w_value_a2, vU] [(.ref a2)])) rfl (by rw [hml]; rfl) (Steps.refl _) (argsL := []) (rest := []) (lenOf pd_7 rfl) rfl (by show 2 * 0 + _ ≤ _; exact Nat.le_of_eq rfl) (hb hby d34_10) (fun _ _ => ⟨rfl, e4, (by decide : 0 + 0 ≤ _), (by decide : 0 + 0 ≤ _)⟩)
  dsimp only [Pt.U, Pt.locs, Pt.cells, Pt.slots] at X5 l5 y5 z5 st5 hQ5
  subst l5 y5 z5
  obtain ⟨rfl, N5q, e5⟩ := hQ5
  have N5 := Fr.app N4 N5q
  obtain ⟨cq6, kq6, q6a, q6b, q6c⟩ := isOf hZ e5 E_a2
  obtain ⟨_, _, ⟨T6, L6, k6, n6⟩, -, X6, ⟨Lc6, hQ6, l6, y6, z6⟩, st6⟩ := X5.virtualBack hx (y := (⟨"java/lang/AbstractStringBuilder", "isLatin1", "()Z"⟩ : MethodName)) (z := (⟨"java/lang/AbstractStringBuilder", "isLatin1", "()Z"⟩ : MethodName)) hown (mvT hZ (own_wi hw 203 rfl)) (mvT hZ (own_wi hw 143 rfl)) (notFace_of_selects (args := #[]) (mvT hZ (own_wi hw 145 rfl))) (mvT hZ (own_wi hw 145 rfl)) (mvT hZ (own_wi hw 144 rfl)) (by decide) (backOf (W := 0) (rm25 l Z a0 hw [] a2 st_COMPACT_STRINGS h0 n0 Z0 S_COMPACT_STRINGS hq16_14 F_coder_a2) hZ (own_wi hw 146 rfl) (own_wi hw 70 rfl) (by decide) (by decide)) q6a q6c (g := (mkF m 16 #[vR a1, vR a2, .val .null, vR w_value_a2, vI w_count_a2] [(.ref a2)])) rfl (by rw [hml]; rfl) (Steps.refl _) (argsL := []) (rest := []) (lenOf pd_11 rfl) rfl (by show 2 * 0 + _ ≤ _; exact Nat.le_of_eq rfl) (hb hby d34_16) (fun _ _ => ⟨rfl, e5, (by decide : 0 + 0 ≤ _), (by decide : 0 + 0 ≤ _)⟩)
  dsimp only [Pt.U, Pt.locs, Pt.cells, Pt.slots] at X6 l6 y6 z6 st6 hQ6
  subst l6 y6 z6
  obtain ⟨rfl, N6q, e6⟩ := hQ6
  have N6 := Fr.app N5 N6q
  obtain ⟨T7, h7, X7, e7, W7, st7⟩ := putFN X6 hx hZ hown (own_wi hw 33 rfl) Via.refl e6 F_coder_a1 E_a1 (Or.inr ⟨(own_wi hw 34 rfl), rfl, hnm⟩) (own_wi hw 9 rfl) (ty := .byte) (v' := (.int (0 : Int32))) (by decide) rfl rfl (g := (mkF m 24 #[vR a1, vR a2, .val .null, vR w_value_a2, vI w_count_a2] [(.int (0 : Int32)), (.ref a1)])) rfl rfl (hb hby d34_24)
  have N7 := Fr.snoc X7 N6 g_a1
  have y8 := (F_value_a1.other W7 (Or.inr (slot_ne (Or.inr (own_wi hw 36 rfl)) (Or.inr (own_wi hw 34 rfl)) (by decide) (t := (.array .byte)) (t' := .byte) (by decide) (by decide))))
  have K7 : Keep h0 h7 [a1] := ((Keep.refl h0 [a1])).wr W7 (Or.inl (List.mem_of_getElem? (i := 0) rfl))
  have Z7 : n0 ≤ h7.size := Nat.le_trans Z0 (Keep.of_wr W7).1
  obtain ⟨_, _, ⟨T9, L9, k9, n9⟩, -, X9, ⟨Lc9, hQ9, l9, y9, z9⟩, st9⟩ := Jvm.LawKit.callS X7 hx (y := (⟨"java/util/Arrays", "copyOfRange", "([BII)[B"⟩ : MethodName)) hown (mvT hZ (own_wi hw 204 rfl)) (mvT hZ (own_wi hw 205 rfl)) (mvT hZ (own_wi hw 171 rfl)) (mvT hZ (own_wi hw 206 rfl)) (by decide) (backOf (W := 1) (rm38 l Z a0 hw [] w_value_a2 w_count_a2 k_w_value_a2 n_w_value_a2 vs_w_value_a2 h7 n0 Z7 (V_w_value_a2.other W7 ne_w_value_a2_a1) (E_w_value_a2.wr W7) hq0_10 hq0_11 hq0_12 hq0_13) hZ (own_wi hw 206 rfl) (own_wi hw 171 rfl) (by decide) (by decide)) (g := (mkF m 32 #[vR a1, vR a2, .val .null, vR w_value_a2, vI w_count_a2] [(.int w_count_a2), (.int (0 : Int32)), (.ref w_value_a2), (.ref a1)])) rfl (by rw [hml]; rfl) (argsL := [(.ref w_value_a2), (.int (0 : Int32)), (.int w_count_a2)]) (rest := [(.ref a1)]) (lenOf pd_14 rfl) rfl (by show 2 * 0 + _ ≤ _; exact Nat.le_of_eq rfl) (hb hby d34_32) (fun _ _ => ⟨rfl, e7, (by decide : 0 + 1 ≤ _), (by decide : 0 + 97 ≤ _)⟩)
  dsimp only [Pt.U, Pt.locs, Pt.cells, Pt.slots] at X9 l9 y9 z9 st9 hQ9
  subst l9 y9 z9
  obtain ⟨x9_0, z9_0, rfl, N9q, K9q, f9_0, f9_1, f9_2⟩ := hQ9
  have ne_a1_z9_0 : a1 ≠ z9_0 := Nat.ne_of_lt (Nat.lt_of_lt_of_le (E_a1.wr W7).lt f9_0)
  have ne_a2_z9_0 : a2 ≠ z9_0 := Nat.ne_of_lt (Nat.lt_of_lt_of_le (E_a2.wr W7).lt f9_0)
  have ne_w_value_a2_z9_0 : w_value_a2 ≠ z9_0 := Nat.ne_of_lt (Nat.lt_of_lt_of_le (V_w_value_a2.other W7 ne_w_value_a2_a1).lt f9_0)
  have g_z9_0 : n0 ≤ z9_0 := Nat.le_trans Z7 f9_0
  have sz_z9_0 : h0.size ≤ z9_0 := Nat.le_trans (K7).1 f9_0
  have y10 := ((F_value_a2.other W7 (Or.inl ne_a2_a1)).keep K9q nin0)
  have y11 := ((F_coder_a2.other W7 (Or.inl ne_a2_a1)).keep K9q nin0)
  have y12 := ((F_count_a2.other W7 (Or.inl ne_a2_a1)).keep K9q nin0)
  have y13 := ((V_w_value_a2.other W7 ne_w_value_a2_a1).keep K9q nin0)
  have y14 := (own_StaKeep (S_COMPACT_STRINGS.wr W7) K9q all0)
  have K9 : Keep h0 T9.heap [a1] := (K7).trans K9q all0
  have Z9 : n0 ≤ T9.heap.size := Nat.le_trans Z7 K9q.1
  have N9 := Fr.app N7 N9q
  obtain ⟨T15, h15, X15, e15, W15, st15⟩ := putF X9 hx hZ hown (host := "") (Or.inl (own_wi hw 35 rfl)) Via.refl rfl (y8.keep K9q nin0) ((E_a1.wr W7).keep K9q) (Or.inr ⟨(own_wi hw 36 rfl), rfl, hnm⟩) (own_wi hw 9 rfl) (ty := (.array .byte)) (by decide) rfl rfl (g := (mkF m 35 #[vR a1, vR a2, .val .null, vR w_value_a2, vI w_count_a2] [(.ref z9_0), (.ref a1)])) rfl rfl (hb hby d34_35)
  have N15 := Fr.snoc X15 N9 g_a1
  have y16 := (((F_coder_a1.same W7).keep K9q nin0).other W15 (Or.inr (slot_ne (Or.inr (own_wi hw 34 rfl)) (Or.inr (own_wi hw 36 rfl)) (by decide) (t := .byte) (t' := (.array .byte)) (by decide) (by decide))))
  have K15 : Keep h0 h15 [a1] := (K9).wr W15 (Or.inl (List.mem_of_getElem? (i := 0) rfl))
  have Z15 : n0 ≤ h15.size := Nat.le_trans Z9 (Keep.of_wr W15).1
  obtain ⟨fs, hr, hrun, hended, hW, hsame⟩ := X15.leave (v := none) (fun _ => rfl)
  refine ⟨_, _, pre0 _ ?_, hrun, hended, _, _, rfl, ?_, ⟨_, rfl⟩, hW, hsame.mono (by decide) (by decide)⟩
  · show Steps p.tables e below (s₁.setTop (mkF m 0 #[vR a1, vR a2, .val .null, vU, vU] [])) _
    refine XS.aloadN X0.here hx rfl (hb hby d34_0) rfl rfl ?_
    show Steps p.tables e below (s₁.setTop (mkF m 1 #[vR a1, vR a2, .val .null, vU, vU] [(.ref a1)])) _
    refine st3 _ ?_
    show Steps p.tables e below (T3.setTop (mkF m 4 #[vR a1, vR a2, .val .null, vU, vU] [])) _
    refine XS.aloadN X3.here hx rfl (hb hby d34_4) rfl rfl ?_
    show Steps p.tables e below (T3.setTop (mkF m 5 #[vR a1, vR a2, .val .null, vU, vU] [(.ref a2)])) _
    refine st4.trans ?_
    show Steps p.tables e below (T4.setTop (mkF m 8 #[vR a1, vR a2, .val .null, vU, vU] [(.ref w_value_a2)])) _
    refine XS.astoreN X4.here hx rfl (hb hby d34_8) rfl rfl (l' := #[vR a1, vR a2, .val .null, vR w_value_a2, vU]) rfl ?_
    refine XS.aloadN X4.here hx rfl (hb hby d34_9) rfl rfl ?_
    show Steps p.tables e below (T4.setTop (mkF m 10 #[vR a1, vR a2, .val .null, vR w_value_a2, vU] [(.ref a2)])) _
    refine st5.trans ?_
    show Steps p.tables e below (T5.setTop (mkF m 13 #[vR a1, vR a2, .val .null, vR w_value_a2, vU] [(.int w_count_a2)])) _
    refine XS.istore X5.here hx rfl (hb hby d34_13) rfl (l' := #[vR a1, vR a2, .val .null, vR w_value_a2, vI w_count_a2]) rfl ?_
    refine XS.aloadN X5.here hx rfl (hb hby d34_15) rfl rfl ?_
    show Steps p.tables e below (T5.setTop (mkF m 16 #[vR a1, vR a2, .val .null, vR w_value_a2, vI w_count_a2] [(.ref a2)])) _
    refine st6.trans ?_
    show Steps p.tables e below (T6.setTop (mkF m 19 #[vR a1, vR a2, .val .null, vR w_value_a2, vI w_count_a2] [(.int (1 : Int32))])) _
    refine XS.ifNo X6.here hx rfl (hb hby d34_19) rfl ((if0 _ _).trans (feq (by decide : ¬ ((1 : Int32) = (0 : Int32)))).1) ?_
    refine XS.aloadN X6.here hx rfl (hb hby d34_22) rfl rfl ?_
    refine XS.iconst X6.here hx rfl (hb hby d34_23) ?_
    show Steps p.tables e below (T6.setTop (mkF m 24 #[vR a1, vR a2, .val .null, vR w_value_a2, vI w_count_a2] [(.int (0 : Int32)), (.ref a1)])) _
    refine st7 _ ?_
    show Steps p.tables e below (T7.setTop (mkF m 27 #[vR a1, vR a2, .val .null, vR w_value_a2, vI w_count_a2] [])) _
    refine XS.aloadN X7.here hx rfl (hb hby d34_27) rfl rfl ?_
    refine XS.aloadN X7.here hx rfl (hb hby d34_28) rfl rfl ?_
    refine XS.iconst X7.here hx rfl (hb hby d34_29) ?_
    refine XS.iload X7.here hx rfl (hb hby d34_30) rfl ?_
    show Steps p.tables e below (T7.setTop (mkF m 32 #[vR a1, vR a2, .val .null, vR w_value_a2, vI w_count_a2] [(.int w_count_a2), (.int (0 : Int32)), (.ref w_value_a2), (.ref a1)])) _
    refine st9 _ ?_
    show Steps p.tables e below (T9.setTop (mkF m 35 #[vR a1, vR a2, .val .null, vR w_value_a2, vI w_count_a2] [(.ref z9_0), (.ref a1)])) _
    refine st15 _ ?_
    show Steps p.tables e below (T15.setTop (mkF m 38 #[vR a1, vR a2, .val .null, vR w_value_a2, vI w_count_a2] [])) _
    refine XS.goto X15.here hx rfl (pc0 := 38) (pc' := 97) rfl (hb hby d34_38) (by decide) (by decide) ?_
    show Steps p.tables e below (T15.setTop (mkF m 97 #[vR a1, vR a2, .val .null, vR w_value_a2, vI w_count_a2] [])) _
    exact X15.returnOut hx Bd.returns (hb hby d34_97) hr
  · show Q34 Z a1 a2 w_coder_a1 w_value_a2 w_count_a2 k_w_value_a2 n_w_value_a2 vs_w_value_a2 st_COMPACT_STRINGS h0 n0 _ T15.heap _
    rw [e15]
    exact ⟨x9_0, z9_0, rfl, N15, (K15), sz_z9_0, (((E_a1.wr W7).keep K9q).wr W15), y16, ((y8.keep K9q nin0).same W15), (f9_1.wr W15), (f9_2.other W15 (Ne.symm ne_a1_z9_0))⟩
theorem pd_16 : parseMethodDescriptor "(Ljava/lang/AbstractStringBuilder;Ljava/lang/Void;)V" = some ⟨[(.object "java/lang/AbstractStringBuilder"), (.object "java/lang/Void")], none⟩ := by decide +kernel
theorem d33_0 : decode jdk_42_method_53_code 0 = .ok (.aload_n 0, 1) := by decide +kernel
theorem d33_1 : decode jdk_42_method_53_code 1 = .ok (.aload_n 1, 1) := by decide +kernel
theorem d33_2 : decode jdk_42_method_53_code 2 = .ok (.aconst_null, 1) := by decide +kernel
theorem d33_3 : decode jdk_42_method_53_code 3 = .ok (.invokespecial 489, 3) := by decide +kernel
theorem d33_6 : decode jdk_42_method_53_code 6 = .ok (.return_, 1) := by decide +kernel
theorem ef_33 (m : MethodId) (a1 : Addr) (a2 : Addr) : entryFrame m #[(.ref a1), (.ref a2)] 2 = mkF m 0 #[vR a1, vR a2] [] := by first | (simp [entryFrame, mkF, argsToLocals, Value.category]; done) | rfl
def Q33 (Z : State) (a1 : Addr) (a2 : Addr) (w_coder_a1 : Int32) (w_value_a2 : Addr) (w_count_a2 : Int32) (k_w_value_a2 : ClassId) (n_w_value_a2 : Int32) (vs_w_value_a2 : List Value) (st_COMPACT_STRINGS : Int32) (h0 : Heap) (n0 : Nat) (v : Option Value) (h : Heap) (L : List Loc) : Prop := ∃ (xk : ClassId) (xd : Addr), v = none ∧ Fr n0 L ∧ Keep h0 h [a1] ∧ h0.size ≤ xd ∧ Exa Z h a1 "java/lang/String" ∧ Fld Z h a1 "java/lang/String" "coder" "B" (.int (0 : Int32)) ∧ Fld Z h a1 "java/lang/String" "value" "[B" (.ref xd) ∧ Exa Z h xd "[B" ∧ Arv Z h xd xk .byte w_count_a2 vs_w_value_a2 (.int (0 : Int32))
set_option maxRecDepth 65536 in
set_option maxHeartbeats 40000000 in
theorem rm33 (l : Launch) (Z : State) (a0 : Array Value) (hw : ∀ d ∈ tables_1, d.before a0 Z = true) (ws : List Jvm.Cond) (a1 : Addr) (a2 : Addr) (w_coder_a1 : Int32) (w_value_a2 : Addr) (w_count_a2 : Int32) (k_w_value_a2 : ClassId) (n_w_value_a2 : Int32) (vs_w_value_a2 : List Value) (st_COMPACT_STRINGS : Int32) (h0 : Heap) (n0 : Nat) (Z0 : n0 ≤ h0.size) (E_a1 : Exa Z h0 a1 "java/lang/String") (F_value_a1 : Fld Z h0 a1 "java/lang/String" "value" "[B" .null) (F_coder_a1 : Fld Z h0 a1 "java/lang/String" "coder" "B" (.int w_coder_a1)) (E_a2 : Exa Z h0 a2 "java/lang/StringBuilder") (F_value_a2 : Fld Z h0 a2 "java/lang/AbstractStringBuilder" "value" "[B" (.ref w_value_a2)) (F_coder_a2 : Fld Z h0 a2 "java/lang/AbstractStringBuilder" "coder" "B" (.int (0 : Int32))) (F_count_a2 : Fld Z h0 a2 "java/lang/AbstractStringBuilder" "count" "I" (.int w_count_a2)) (V_w_value_a2 : Arv Z h0 w_value_a2 k_w_value_a2 .byte n_w_value_a2 vs_w_value_a2 (.int (0 : Int32))) (E_w_value_a2 : Exa Z h0 w_value_a2 "[B") (S_COMPACT_STRINGS : Sta Z h0 "java/lang/String" "COMPACT_STRINGS" "Z" (.int st_COMPACT_STRINGS)) (hq0_10 : own_b94 w_count_a2) (hq0_11 : own_b188 n_w_value_a2) (hq0_12 : own_len w_count_a2 vs_w_value_a2) (hq0_13 : own_fit n_w_value_a2 vs_w_value_a2) (g_a1 : n0 ≤ a1) (ne_a2_a1 : a2 ≠ a1) (ne_w_value_a2_a1 : w_value_a2 ≠ a1) (hq3_17 : ¬ (st_COMPACT_STRINGS = (0 : Int32))) :
    MetFree l (⟨"java/lang/String", "<init>", "(Ljava/lang/StringBuilder;)V"⟩ : MethodName) (head1 (Jvm.Cond.code (⟨"java/lang/String", "<init>", "(Ljava/lang/StringBuilder;)V"⟩ : MethodName) jdk_42_method_53_code 2 none :: ws) ({ frames := 4, cells := 1, slots := 97, locals := 65 } : Room)) (fun a U => a = #[(.ref a1), (.ref a2)] ∧ Z.Warmed39 U.vm ∧ U.heap = h0) (fun _ _ _ _ _ => True) (fun _ U o U' => ∃ v L, o = .returned v ∧ Q33 Z a1 a2 w_coder_a1 w_value_a2 w_count_a2 k_w_value_a2 n_w_value_a2 vs_w_value_a2 st_COMPACT_STRINGS h0 n0 v U'.heap L ∧ FrameEnd U o U' L ({ frames := 4, cells := 1, slots := 97, locals := 65 } : Room).cells ({ frames := 4, cells := 1, slots := 97, locals := 65 } : Room).slots) := by
  refine MetFree.of_bodySF (plainFor_of_name pn_0) hisR ?_
  intro p e s m args below meth c s₁ Bd hml0 hP hK
  obtain ⟨rfl, hZ, hh⟩ := hP
  have hx := Bd.exec
  have hby := Bd.bytes
  have hml : c.maxLocals = 2 := hml0
  have hown : s.vm.findClass "java/lang/String" = some m.cls := findClass_of_methodNamed Bd.named
  have hnm := (name_of_methodNamed Bd.named Bd.method).1
  have X0 : Stand p l e ({ frames := 4, cells := 1, slots := 97, locals := 65 } : Room) s m #[(.ref a1), (.ref a2)] below meth c s₁ [] 0 0 := Stand.of_body Bd
  have e0 : s₁.heap = h0 := by rw [← hh, Bd.state]; rfl
  have N0 := Fr.nil n0
  have pre0 : ∀ t, Steps p.tables e below (s₁.setTop (mkF m 0 #[vR a1, vR a2] [])) t → Steps p.tables e below (s₁.setTop (entryFrame m #[(.ref a1), (.ref a2)] 2)) t := fun t k => castTop (ef_33 m a1 a2) k
  obtain ⟨_, _, ⟨T3, L3, k3, n3⟩, -, X3, ⟨Lc3, hQ3, l3, y3, z3⟩, st3⟩ := X0.specialBack hx (y := (⟨"java/lang/String", "<init>", "(Ljava/lang/AbstractStringBuilder;Ljava/lang/Void;)V"⟩ : MethodName)) rfl hown (mvT hZ (own_wi hw 187 rfl)) (mvT hZ (own_wi hw 188 rfl)) (mvT hZ (own_wi hw 189 rfl)) (by decide) (backOf (W := 0) (rm34 l Z a0 hw [] a1 a2 w_coder_a1 w_value_a2 w_count_a2 k_w_value_a2 n_w_value_a2 vs_w_value_a2 st_COMPACT_STRINGS h0 n0 Z0 E_a1 F_value_a1 F_coder_a1 E_a2 F_value_a2 F_coder_a2 F_count_a2 V_w_value_a2 E_w_value_a2 S_COMPACT_STRINGS hq0_10 hq0_11 hq0_12 hq0_13 hq3_17 g_a1 ne_a2_a1 ne_w_value_a2_a1) hZ (own_wi hw 189 rfl) (own_wi hw 10 rfl) (by decide) (by decide)) (g := (mkF m 3 #[vR a1, vR a2] [.null, (.ref a2), (.ref a1)])) rfl (by rw [hml]; rfl) (Steps.refl _) (a := a1) (argsL := [(.ref a2), .null]) (rest := []) (lenOf pd_16 rfl) rfl (by show 2 * 0 + _ ≤ _; exact Nat.le_of_eq rfl) (hb hby d33_3) (fun _ _ => ⟨rfl, e0, (by decide : 0 + 1 ≤ _), (by decide : 0 + 97 ≤ _)⟩)
  dsimp only [Pt.U, Pt.locs, Pt.cells, Pt.slots] at X3 l3 y3 z3 st3 hQ3
  subst l3 y3 z3
  obtain ⟨x3_0, z3_0, rfl, N3q, K3q, f3_0, f3_1, f3_2, f3_3, f3_4, f3_5⟩ := hQ3
  have ne_a1_z3_0 : a1 ≠ z3_0 := Nat.ne_of_lt (Nat.lt_of_lt_of_le E_a1.lt f3_0)
  have ne_a2_z3_0 : a2 ≠ z3_0 := Nat.ne_of_lt (Nat.lt_of_lt_of_le E_a2.lt f3_0)
  have ne_w_value_a2_z3_0 : w_value_a2 ≠ z3_0 := Nat.ne_of_lt (Nat.lt_of_lt_of_le V_w_value_a2.lt f3_0)
  have g_z3_0 : n0 ≤ z3_0 := Nat.le_trans Z0 f3_0
  have sz_z3_0 : h0.size ≤ z3_0 := Nat.le_trans ((Keep.refl h0 [a1])).1 f3_0
  have y4 := (F_value_a2.keep K3q (ninS ne_a2_a1 nin0))
  have y5 := (F_coder_a2.keep K3q (ninS ne_a2_a1 nin0))
  have y6 := (F_count_a2.keep K3q (ninS ne_a2_a1 nin0))
  have y7 := (V_w_value_a2.keep K3q (ninS ne_w_value_a2_a1 nin0))
  have y8 := (own_StaKeep S_COMPACT_STRINGS K3q (allS (P := fun x => ∃ D, Exa Z h0 x D) ⟨_, E_a1⟩ all0))
  have K3 : Keep h0 T3.heap [a1] := ((Keep.refl h0 [a1])).trans K3q (allS (P := fun x => x ∈ [a1] ∨ h0.size ≤ x) (Or.inl (List.mem_of_getElem? (i := 0) rfl)) all0)
  have Z3 : n0 ≤ T3.heap.size := Nat.le_trans Z0 K3q.1
  have N3 := Fr.app N0 N3q
  obtain ⟨fs, hr, hrun, hended, hW, hsame⟩ := X3.leave (v := none) (fun _ => rfl)
  refine ⟨_, _, pre0 _ ?_, hrun, hended, _, _, rfl, ?_, ⟨_, rfl⟩, hW, hsame.mono (by decide) (by decide)⟩
  · show Steps p.tables e below (s₁.setTop (mkF m 0 #[vR a1, vR a2] [])) _
    refine XS.aloadN X0.here hx rfl (hb hby d33_0) rfl rfl ?_
    refine XS.aloadN X0.here hx rfl (hb hby d33_1) rfl rfl ?_
    refine XS.aconstNull X0.here hx rfl (hb hby d33_2) ?_
    show Steps p.tables e below (s₁.setTop (mkF m 3 #[vR a1, vR a2] [.null, (.ref a2), (.ref a1)])) _
    refine st3.trans ?_
    show Steps p.tables e below (T3.setTop (mkF m 6 #[vR a1, vR a2] [])) _
    exact X3.returnOut hx Bd.returns (hb hby d33_6) hr
  · show Q33 Z a1 a2 w_coder_a1 w_value_a2 w_count_a2 k_w_value_a2 n_w_value_a2 vs_w_value_a2 st_COMPACT_STRINGS h0 n0 _ T3.heap _
    exact ⟨x3_0, z3_0, rfl, N3, (K3), sz_z3_0, f3_1, f3_2, f3_3, f3_4, f3_5⟩
theorem pd_17 : parseMethodDescriptor "(Ljava/lang/StringBuilder;)V" = some ⟨[(.object "java/lang/StringBuilder")], none⟩ := by decide +kernel
theorem d32_0 : decode jdk_67_method_42_code 0 = .ok (.new 18, 3) := by decide +kernel
theorem d32_3 : decode jdk_67_method_42_code 3 = .ok (.dup, 1) := by decide +kernel
theorem d32_4 : decode jdk_67_method_42_code 4 = .ok (.aload_n 0, 1) := by decide +kernel
theorem d32_5 : decode jdk_67_method_42_code 5 = .ok (.invokespecial 137, 3) := by decide +kernel
theorem d32_8 : decode jdk_67_method_42_code 8 = .ok (.areturn, 1) := by decide +kernel
theorem ef_32 (m : MethodId) (a1 : Addr) : entryFrame m #[(.ref a1)] 1 = mkF m 0 #[vR a1] [] := by first | (simp [entryFrame, mkF, argsToLocals, Value.category]; done) | rfl
def Q32 (Z : State) (a1 : Addr) (w_value_a1 : Addr) (w_count_a1 : Int32) (k_w_value_a1 : ClassId) (n_w_value_a1 : Int32) (vs_w_value_a1 : List Value) (st_COMPACT_STRINGS : Int32) (h0 : Heap) (n0 : Nat) (v : Option Value) (h : Heap) (L : List Loc) : Prop := ∃ (xk : ClassId) (xs xd : Addr), v = some (.ref xs) ∧ Fr n0 L ∧ Keep h0 h [] ∧ h0.size ≤ xs ∧ h0.size ≤ xd ∧ Exa Z h xs "java/lang/String" ∧ Fld Z h xs "java/lang/String" "coder" "B" (.int (0 : Int32)) ∧ Fld Z h xs "java/lang/String" "value" "[B" (.ref xd) ∧ Exa Z h xd "[B" ∧ Arv Z h xd xk .byte w_count_a1 vs_w_value_a1 (.int (0 : Int32))
set_option maxRecDepth 65536 in
set_option maxHeartbeats 40000000 in
theorem rm32 (l : Launch) (Z : State) (a0 : Array Value) (hw : ∀ d ∈ tables_1, d.before a0 Z = true) (ws : List Jvm.Cond) (a1 : Addr) (w_value_a1 : Addr) (w_count_a1 : Int32) (k_w_value_a1 : ClassId) (n_w_value_a1 : Int32) (vs_w_value_a1 : List Value) (st_COMPACT_STRINGS : Int32) (h0 : Heap) (n0 : Nat) (Z0 : n0 ≤ h0.size) (E_a1 : Exa Z h0 a1 "java/lang/StringBuilder") (F_value_a1 : Fld Z h0 a1 "java/lang/AbstractStringBuilder" "value" "[B" (.ref w_value_a1)) (F_coder_a1 : Fld Z h0 a1 "java/lang/AbstractStringBuilder" "coder" "B" (.int (0 : Int32))) (F_count_a1 : Fld Z h0 a1 "java/lang/AbstractStringBuilder" "count" "I" (.int w_count_a1)) (V_w_value_a1 : Arv Z h0 w_value_a1 k_w_value_a1 .byte n_w_value_a1 vs_w_value_a1 (.int (0 : Int32))) (E_w_value_a1 : Exa Z h0 w_value_a1 "[B") (S_COMPACT_STRINGS : Sta Z h0 "java/lang/String" "COMPACT_STRINGS" "Z" (.int st_COMPACT_STRINGS)) (hq0_7 : own_b94 w_count_a1) (hq0_8 : own_b188 n_w_value_a1) (hq0_9 : own_len w_count_a1 vs_w_value_a1) (hq0_10 : own_fit n_w_value_a1 vs_w_value_a1) (hq5_11 : ¬ (st_COMPACT_STRINGS = (0 : Int32))) :
    MetFree l (⟨"java/lang/StringBuilder", "toString", "()Ljava/lang/String;"⟩ : MethodName) (head1 (Jvm.Cond.code (⟨"java/lang/StringBuilder", "toString", "()Ljava/lang/String;"⟩ : MethodName) jdk_67_method_42_code 1 (some (.object "java/lang/String")) :: ws) ({ frames := 5, cells := 2, slots := 101, locals := 79 } : Room)) (fun a U => a = #[(.ref a1)] ∧ Z.Warmed39 U.vm ∧ U.heap = h0) (fun _ _ _ _ _ => True) (fun _ U o U' => ∃ v L, o = .returned v ∧ Q32 Z a1 w_value_a1 w_count_a1 k_w_value_a1 n_w_value_a1 vs_w_value_a1 st_COMPACT_STRINGS h0 n0 v U'.heap L ∧ FrameEnd U o U' L ({ frames := 5, cells := 2, slots := 101, locals := 79 } : Room).cells ({ frames := 5, cells := 2, slots := 101, locals := 79 } : Room).slots) := by
  refine MetFree.of_bodySF (plainFor_of_name pn_4) hisR ?_
  intro p e s m args below meth c s₁ Bd hml0 hP hK
  obtain ⟨rfl, hZ, hh⟩ := hP
  have hx := Bd.exec
  have hby := Bd.bytes
  have hml : c.maxLocals = 1 := hml0
  have hown : s.vm.findClass "java/lang/StringBuilder" = some m.cls := findClass_of_methodNamed Bd.named
  have hnm := (name_of_methodNamed Bd.named Bd.method).1
  have X0 : Stand p l e ({ frames := 5, cells := 2, slots := 101, locals := 79 } : Room) s m #[(.ref a1)] below meth c s₁ [] 0 0 := Stand.of_body Bd
  have e0 : s₁.heap = h0 := by rw [← hh, Bd.state]; rfl
  have N0 := Fr.nil n0
  have pre0 : ∀ t, Steps p.tables e below (s₁.setTop (mkF m 0 #[vR a1] [])) t → Steps p.tables e below (s₁.setTop (entryFrame m #[(.ref a1)] 1)) t := fun t k => castTop (ef_32 m a1) k
  obtain ⟨T2, h2, X2, e2, E2, A2, D2, -, st2⟩ := newO X0 hx hZ hown (own_wi hw 183 rfl) (own_wi hw 9 rfl) (own_wi hw 10 rfl) e0 (g := (mkF m 0 #[vR a1] [])) rfl (hb hby d32_0) (by decide) (by decide)
  obtain ⟨b2, g2⟩ : ∃ z, z = h0.size := ⟨_, rfl⟩
  rw [← g2] at A2 D2 st2
  have ne_a1_b2 : a1 ≠ b2 := Nat.ne_of_lt (Nat.lt_of_lt_of_le E_a1.lt (Nat.le_of_eq g2.symm))
  have ne_w_value_a1_b2 : w_value_a1 ≠ b2 := Nat.ne_of_lt (Nat.lt_of_lt_of_le V_w_value_a1.lt (Nat.le_of_eq g2.symm))
  have g_b2 : n0 ≤ b2 := Nat.le_trans Z0 (Nat.le_of_eq g2.symm)
  have sz_b2 : h0.size ≤ b2 := Nat.le_trans ((Keep.refl h0 [])).1 (Nat.le_of_eq g2.symm)
  have K2 : Keep h0 h2 [] := ((Keep.refl h0 [])).ext E2
  have Z2 : n0 ≤ h2.size := Nat.le_trans Z0 E2.1
  have F_coder_b2 : Fld Z h2 b2 "java/lang/String" "coder" "B" (.int (0 : Int32)) := D2 (Or.inr (own_wi hw 34 rfl)) (ty := .byte) (by decide)
  have F_value_b2 : Fld Z h2 b2 "java/lang/String" "value" "[B" .null := D2 (Or.inr (own_wi hw 36 rfl)) (ty := (.array .byte)) (by decide)
  obtain ⟨_, _, ⟨T3, L3, k3, n3⟩, -, X3, ⟨Lc3, hQ3, l3, y3, z3⟩, st3⟩ := X2.specialBack hx (y := (⟨"java/lang/String", "<init>", "(Ljava/lang/StringBuilder;)V"⟩ : MethodName)) rfl hown (mvT hZ (own_wi hw 184 rfl)) (mvT hZ (own_wi hw 185 rfl)) (mvT hZ (own_wi hw 186 rfl)) (by decide) (backOf (W := 1) (rm33 l Z a0 hw [] b2 a1 (0 : Int32) w_value_a1 w_count_a1 k_w_value_a1 n_w_value_a1 vs_w_value_a1 st_COMPACT_STRINGS h2 n0 Z2 A2 F_value_b2 F_coder_b2 (E_a1.ext E2) (F_value_a1.ext E2) (F_coder_a1.ext E2) (F_count_a1.ext E2) (V_w_value_a1.ext E2) (E_w_value_a1.ext E2) (S_COMPACT_STRINGS.ext E2) hq0_7 hq0_8 hq0_9 hq0_10 g_b2 ne_a1_b2 ne_w_value_a1_b2 hq5_11) hZ (own_wi hw 186 rfl) (own_wi hw 10 rfl) (by decide) (by decide)) (g := (mkF m 5 #[vR a1] [(.ref a1), (.ref b2), (.ref b2)])) rfl (by rw [hml]; rfl) (Steps.refl _) (a := b2) (argsL := [(.ref a1)]) (rest := [(.ref b2)]) (lenOf pd_17 rfl) rfl (by show 2 * 0 + _ ≤ _; exact Nat.le_of_eq rfl) (hb hby d32_5) (fun _ _ => ⟨rfl, e2, (by decide : 1 + 1 ≤ _), (by decide : 4 + 97 ≤ _)⟩)
  dsimp only [Pt.U, Pt.locs, Pt.cells, Pt.slots] at X3 l3 y3 z3 st3 hQ3
  subst l3 y3 z3
  obtain ⟨x3_0, z3_0, rfl, N3q, K3q, f3_0, f3_1, f3_2, f3_3, f3_4, f3_5⟩ := hQ3
  have ne_a1_z3_0 : a1 ≠ z3_0 := Nat.ne_of_lt (Nat.lt_of_lt_of_le (E_a1.ext E2).lt f3_0)
  have ne_w_value_a1_z3_0 : w_value_a1 ≠ z3_0 := Nat.ne_of_lt (Nat.lt_of_lt_of_le (V_w_value_a1.ext E2).lt f3_0)
  have ne_b2_z3_0 : b2 ≠ z3_0 := Nat.ne_of_lt (Nat.lt_of_lt_of_le A2.lt f3_0)
  have g_z3_0 : n0 ≤ z3_0 := Nat.le_trans Z2 f3_0
  have sz_z3_0 : h0.size ≤ z3_0 := Nat.le_trans (K2).1 f3_0
  have y4 := ((F_value_a1.ext E2).keep K3q (ninS ne_a1_b2 nin0))
  have y5 := ((F_coder_a1.ext E2).keep K3q (ninS ne_a1_b2 nin0))
  have y6 := ((F_count_a1.ext E2).keep K3q (ninS ne_a1_b2 nin0))
  have y7 := ((V_w_value_a1.ext E2).keep K3q (ninS ne_w_value_a1_b2 nin0))
  have y8 := (own_StaKeep (S_COMPACT_STRINGS.ext E2) K3q (allS (P := fun x => ∃ D, Exa Z h2 x D) ⟨_, A2⟩ all0))
  have K3 : Keep h0 T3.heap [] := (K2).trans K3q (allS (P := fun x => x ∈ [] ∨ h0.size ≤ x) (Or.inr sz_b2) all0)
  have Z3 : n0 ≤ T3.heap.size := Nat.le_trans Z2 K3q.1
  have N3 := Fr.app N0 N3q
  obtain ⟨fs, hr, hrun, hended, hW, hsame⟩ := X3.leave (v := some (.ref b2)) (fun h => by rw [Bd.returns] at h; cases h)
  refine ⟨_, _, pre0 _ ?_, hrun, hended, _, _, rfl, ?_, ⟨_, rfl⟩, hW, hsame.mono (by decide) (by decide)⟩
  · show Steps p.tables e below (s₁.setTop (mkF m 0 #[vR a1] [])) _
    refine st2 _ ?_
    show Steps p.tables e below (T2.setTop (mkF m 3 #[vR a1] [(.ref b2)])) _
    refine XS.dup X2.here hx rfl (hb hby d32_3) rfl rfl ?_
    refine XS.aloadN X2.here hx rfl (hb hby d32_4) rfl rfl ?_
    show Steps p.tables e below (T2.setTop (mkF m 5 #[vR a1] [(.ref a1), (.ref b2), (.ref b2)])) _
    refine st3.trans ?_
    show Steps p.tables e below (T3.setTop (mkF m 8 #[vR a1] [(.ref b2)])) _
    exact retOut X3 hx Bd.returns rfl (Or.inr (Or.inr (Or.inr (Or.inr ⟨rfl, rfl, rfl⟩)))) (hb hby d32_8) hr
  · show Q32 Z a1 w_value_a1 w_count_a1 k_w_value_a1 n_w_value_a1 vs_w_value_a1 st_COMPACT_STRINGS h0 n0 _ T3.heap _
    exact ⟨x3_0, b2, z3_0, rfl, N3, (K3), sz_b2, sz_z3_0, f3_1, f3_2, f3_3, f3_4, f3_5⟩
theorem d13_0 : decode jdk_68_method_2_code 0 = .ok (.aload_n 0, 1) := by decide +kernel
theorem d13_1 : decode jdk_68_method_2_code 1 = .ok (.invokespecial 3, 3) := by decide +kernel
theorem d13_4 : decode jdk_68_method_2_code 4 = .ok (.getstatic 18, 3) := by decide +kernel
theorem d13_7 : decode jdk_68_method_2_code 7 = .ok (.ifCond .eq 18, 3) := by decide +kernel
theorem d13_10 : decode jdk_68_method_2_code 10 = .ok (.aload_n 0, 1) := by decide +kernel
theorem d13_11 : decode jdk_68_method_2_code 11 = .ok (.iload_n 1, 1) := by decide +kernel
theorem d13_12 : decode jdk_68_method_2_code 12 = .ok (.newarray .byte, 2) := by decide +kernel
theorem d13_14 : decode jdk_68_method_2_code 14 = .ok (.putfield 15, 3) := by decide +kernel
theorem d13_17 : decode jdk_68_method_2_code 17 = .ok (.aload_n 0, 1) := by decide +kernel
theorem d13_18 : decode jdk_68_method_2_code 18 = .ok (.iconst 0, 1) := by decide +kernel
theorem d13_19 : decode jdk_68_method_2_code 19 = .ok (.putfield 22, 3) := by decide +kernel
theorem d13_22 : decode jdk_68_method_2_code 22 = .ok (.goto 16, 3) := by decide +kernel
theorem d13_38 : decode jdk_68_method_2_code 38 = .ok (.return_, 1) := by decide +kernel
theorem ef_13 (m : MethodId) (a1 : Addr) : entryFrame m #[(.ref a1), (.int (16 : Int32))] 2 = mkF m 0 #[vR a1, vI (16 : Int32)] [] := by first | (simp [entryFrame, mkF, argsToLocals, Value.category]; done) | rfl
def Q13 (Z : State) (a1 : Addr) (st_COMPACT_STRINGS : Int32) (h0 : Heap) (n0 : Nat) (v : Option Value) (h : Heap) (L : List Loc) : Prop := ∃ (xk : ClassId) (xd : Addr), v = none ∧ Fr n0 L ∧ Keep h0 h [a1] ∧ h0.size ≤ xd ∧ Exa Z h a1 "java/lang/StringBuilder" ∧ Fld Z h a1 "java/lang/AbstractStringBuilder" "value" "[B" (.ref xd) ∧ Fld Z h a1 "java/lang/AbstractStringBuilder" "coder" "B" (.int (0 : Int32)) ∧ Fld Z h a1 "java/lang/AbstractStringBuilder" "count" "I" (.int (0 : Int32)) ∧ Exa Z h xd "[B" ∧ Arv Z h xd xk .byte (16 : Int32) [] (.int (0 : Int32))
set_option maxRecDepth 65536 in
set_option maxHeartbeats 40000000 in
theorem rm13 (l : Launch) (Z : State) (a0 : Array Value) (hw : ∀ d ∈ tables_1, d.before a0 Z = true) (ws : List Jvm.Cond) (a1 : Addr) (st_COMPACT_STRINGS : Int32) (h0 : Heap) (n0 : Nat) (Z0 : n0 ≤ h0.size) (E_a1 : Exa Z h0 a1 "java/lang/StringBuilder") (F_value_a1 : Fld Z h0 a1 "java/lang/AbstractStringBuilder" "value" "[B" .null) (F_coder_a1 : Fld Z h0 a1 "java/lang/AbstractStringBuilder" "coder" "B" (.int (0 : Int32))) (F_count_a1 : Fld Z h0 a1 "java/lang/AbstractStringBuilder" "count" "I" (.int (0 : Int32))) (S_COMPACT_STRINGS : Sta Z h0 "java/lang/String" "COMPACT_STRINGS" "Z" (.int st_COMPACT_STRINGS)) (hc7 : ¬ (st_COMPACT_STRINGS = (0 : Int32))) (g_a1 : n0 ≤ a1) :
    MetFree l (⟨"java/lang/AbstractStringBuilder", "<init>", "(I)V"⟩ : MethodName) (head1 (Jvm.Cond.code (⟨"java/lang/AbstractStringBuilder", "<init>", "(I)V"⟩ : MethodName) jdk_68_method_2_code 2 none :: ws) ({ frames := 1, cells := 1, slots := 16, locals := 12 } : Room)) (fun a U => a = #[(.ref a1), (.int (16 : Int32))] ∧ Z.Warmed39 U.vm ∧ U.heap = h0) (fun _ _ _ _ _ => True) (fun _ U o U' => ∃ v L, o = .returned v ∧ Q13 Z a1 st_COMPACT_STRINGS h0 n0 v U'.heap L ∧ FrameEnd U o U' L ({ frames := 1, cells := 1, slots := 16, locals := 12 } : Room).cells ({ frames := 1, cells := 1, slots := 16, locals := 12 } : Room).slots) := by
  refine MetFree.of_bodySF (plainFor_of_name pn_2) hisR ?_
  intro p e s m args below meth c s₁ Bd hml0 hP hK
  obtain ⟨rfl, hZ, hh⟩ := hP
  have hx := Bd.exec
  have hby := Bd.bytes
  have hml : c.maxLocals = 2 := hml0
  have hown : s.vm.findClass "java/lang/AbstractStringBuilder" = some m.cls := findClass_of_methodNamed Bd.named
  have hnm := (name_of_methodNamed Bd.named Bd.method).1
  have X0 : Stand p l e ({ frames := 1, cells := 1, slots := 16, locals := 12 } : Room) s m #[(.ref a1), (.int (16 : Int32))] below meth c s₁ [] 0 0 := Stand.of_body Bd
  have e0 : s₁.heap = h0 := by rw [← hh, Bd.state]; rfl
  have N0 := Fr.nil n0
  have pre0 : ∀ t, Steps p.tables e below (s₁.setTop (mkF m 0 #[vR a1, vI (16 : Int32)] [])) t → Steps p.tables e below (s₁.setTop (entryFrame m #[(.ref a1), (.int (16 : Int32))] 2)) t := fun t k => castTop (ef_13 m a1) k
  obtain ⟨T2, X2, e2, st2⟩ := initO X0 hx hZ hown (own_wi hw 72 rfl) (own_wi hw 19 rfl) (own_wi hw 20 rfl) e0 (g := (mkF m 1 #[vR a1, vI (16 : Int32)] [(.ref a1)])) rfl (by rw [hml]; rfl) rfl (hb hby d13_1) (by decide) (W := 0) (by show 2 * 0 + _ ≤ _; exact Nat.le_of_eq rfl) (by decide)
  obtain ⟨T3, X3, e3, st3⟩ := getS2 X2 hx hZ hown (host := "") (Or.inl (own_wi hw 73 rfl)) Via.refl e2 S_COMPACT_STRINGS (g := (mkF m 4 #[vR a1, vI (16 : Int32)] [])) rfl (hb hby d13_4)
  obtain ⟨T4, h4, k4, X4, e4, E4, A4, O4, st4⟩ := newPE X3 hx hZ (own_wi hw 26 rfl) e3 (g := (mkF m 12 #[vR a1, vI (16 : Int32)] [(.int (16 : Int32)), (.ref a1)])) rfl (hb hby d13_12) rfl (by decide) (cap := 16) (by decide) (by decide) (by decide) (by decide) (ad := "[B") (by decide)
  obtain ⟨b4, g4⟩ : ∃ z, z = h0.size := ⟨_, rfl⟩
  rw [← g4] at A4 O4 st4
  have ne_a1_b4 : a1 ≠ b4 := Nat.ne_of_lt (Nat.lt_of_lt_of_le E_a1.lt (Nat.le_of_eq g4.symm))
  have g_b4 : n0 ≤ b4 := Nat.le_trans Z0 (Nat.le_of_eq g4.symm)
  have sz_b4 : h0.size ≤ b4 := Nat.le_trans ((Keep.refl h0 [a1])).1 (Nat.le_of_eq g4.symm)
  have K4 : Keep h0 h4 [a1] := ((Keep.refl h0 [a1])).ext E4
  have Z4 : n0 ≤ h4.size := Nat.le_trans Z0 E4.1
  have V_b4 : Arv Z h4 b4 k4 .byte (16 : Int32) [] (.int (0 : Int32)) := (Arv.new A4 (by decide))
  obtain ⟨T5, h5, X5, e5, W5, st5⟩ := putF X4 hx hZ hown (host := "") (Or.inl (own_wi hw 74 rfl)) Via.refl e4 (F_value_a1.ext E4) (E_a1.ext E4) (Or.inl (own_wi hw 75 rfl)) (own_wi hw 61 rfl) (ty := (.array .byte)) (by decide) rfl rfl (g := (mkF m 14 #[vR a1, vI (16 : Int32)] [(.ref b4), (.ref a1)])) rfl rfl (hb hby d13_14)
  have N5 := Fr.snoc X5 N0 g_a1
  have y6 := ((F_coder_a1.ext E4).other W5 (Or.inr (slot_ne (Or.inl (own_wi hw 77 rfl)) (Or.inl (own_wi hw 75 rfl)) (by decide) (t := .byte) (t' := (.array .byte)) (by decide) (by decide))))
  have y7 := ((F_count_a1.ext E4).other W5 (Or.inr (slot_ne (Or.inl (own_wi hw 102 rfl)) (Or.inl (own_wi hw 75 rfl)) (by decide) (t := .int) (t' := (.array .byte)) (by decide) (by decide))))
  have K5 : Keep h0 h5 [a1] := (K4).wr W5 (Or.inl (List.mem_of_getElem? (i := 0) rfl))
  have Z5 : n0 ≤ h5.size := Nat.le_trans Z4 (Keep.of_wr W5).1
  obtain ⟨T8, h8, X8, e8, W8, st8⟩ := putFN X5 hx hZ hown (own_wi hw 76 rfl) Via.refl e5 y6 ((E_a1.ext E4).wr W5) (Or.inl (own_wi hw 77 rfl)) (own_wi hw 61 rfl) (ty := .byte) (v' := (.int (0 : Int32))) (by decide) rfl rfl (g := (mkF m 19 #[vR a1, vI (16 : Int32)] [(.int (0 : Int32)), (.ref a1)])) rfl rfl (hb hby d13_19)
  have N8 := Fr.snoc X8 N5 g_a1
  have y9 := (((F_value_a1.ext E4).same W5).other W8 (Or.inr (slot_ne (Or.inl (own_wi hw 75 rfl)) (Or.inl (own_wi hw 77 rfl)) (by decide) (t := (.array .byte)) (t' := .byte) (by decide) (by decide))))
  have y10 := (y7.other W8 (Or.inr (slot_ne (Or.inl (own_wi hw 102 rfl)) (Or.inl (own_wi hw 77 rfl)) (by decide) (t := .int) (t' := .byte) (by decide) (by decide))))
  have y11 := (((S_COMPACT_STRINGS.ext E4).wr W5).wr W8)
  have y12 := ((V_b4.other W5 (Ne.symm ne_a1_b4)).other W8 (Ne.symm ne_a1_b4))
  have K8 : Keep h0 h8 [a1] := (K5).wr W8 (Or.inl (List.mem_of_getElem? (i := 0) rfl))
  have Z8 : n0 ≤ h8.size := Nat.le_trans Z5 (Keep.of_wr W8).1
  obtain ⟨fs, hr, hrun, hended, hW, hsame⟩ := X8.leave (v := none) (fun _ => rfl)
  refine ⟨_, _, pre0 _ ?_, hrun, hended, _, _, rfl, ?_, ⟨_, rfl⟩, hW, hsame.mono (by decide) (by decide)⟩
  · show Steps p.tables e below (s₁.setTop (mkF m 0 #[vR a1, vI (16 : Int32)] [])) _
    refine XS.aloadN X0.here hx rfl (hb hby d13_0) rfl rfl ?_
    show Steps p.tables e below (s₁.setTop (mkF m 1 #[vR a1, vI (16 : Int32)] [(.ref a1)])) _
    refine st2 _ ?_
    show Steps p.tables e below (T2.setTop (mkF m 4 #[vR a1, vI (16 : Int32)] [])) _
    refine st3 _ ?_
    show Steps p.tables e below (T3.setTop (mkF m 7 #[vR a1, vI (16 : Int32)] [(.int st_COMPACT_STRINGS)])) _
    refine XS.ifNo X3.here hx rfl (hb hby d13_7) rfl ((if0 _ _).trans (feq hc7).1) ?_
    refine XS.aloadN X3.here hx rfl (hb hby d13_10) rfl rfl ?_
    refine XS.iloadN X3.here hx rfl (hb hby d13_11) rfl ?_
    show Steps p.tables e below (T3.setTop (mkF m 12 #[vR a1, vI (16 : Int32)] [(.int (16 : Int32)), (.ref a1)])) _
    refine st4 _ ?_
    show Steps p.tables e below (T4.setTop (mkF m 14 #[vR a1, vI (16 : Int32)] [(.ref b4), (.ref a1)])) _
    refine st5 _ ?_
    show Steps p.tables e below (T5.setTop (mkF m 17 #[vR a1, vI (16 : Int32)] [])) _
    refine XS.aloadN X5.here hx rfl (hb hby d13_17) rfl rfl ?_
    refine XS.iconst X5.here hx rfl (hb hby d13_18) ?_
    show Steps p.tables e below (T5.setTop (mkF m 19 #[vR a1, vI (16 : Int32)] [(.int (0 : Int32)), (.ref a1)])) _
    refine st8 _ ?_
    show Steps p.tables e below (T8.setTop (mkF m 22 #[vR a1, vI (16 : Int32)] [])) _
    refine XS.goto X8.here hx rfl (pc0 := 22) (pc' := 38) rfl (hb hby d13_22) (by decide) (by decide) ?_
    show Steps p.tables e below (T8.setTop (mkF m 38 #[vR a1, vI (16 : Int32)] [])) _
    exact X8.returnOut hx Bd.returns (hb hby d13_38) hr
  · show Q13 Z a1 st_COMPACT_STRINGS h0 n0 _ T8.heap _
    rw [e8]
    exact ⟨k4, b4, rfl, N8, (K8), sz_b4, (((E_a1.ext E4).wr W5).wr W8), y9, (y6.same W8), y10, ((O4.wr W5).wr W8), y12⟩
theorem d12_0 : decode jdk_67_method_1_code 0 = .ok (.aload_n 0, 1) := by decide +kernel
theorem d12_1 : decode jdk_67_method_1_code 1 = .ok (.bipush 16, 2) := by decide +kernel
theorem d12_3 : decode jdk_67_method_1_code 3 = .ok (.invokespecial 1, 3) := by decide +kernel
theorem d12_6 : decode jdk_67_method_1_code 6 = .ok (.return_, 1) := by decide +kernel
theorem ef_12 (m : MethodId) (a1 : Addr) : entryFrame m #[(.ref a1)] 1 = mkF m 0 #[vR a1] [] := by first | (simp [entryFrame, mkF, argsToLocals, Value.category]; done) | rfl
def Q12 (Z : State) (a1 : Addr) (st_COMPACT_STRINGS : Int32) (h0 : Heap) (n0 : Nat) (v : Option Value) (h : Heap) (L : List Loc) : Prop := ∃ (xk : ClassId) (xd : Addr), v = none ∧ Fr n0 L ∧ Keep h0 h [a1] ∧ h0.size ≤ xd ∧ Exa Z h a1 "java/lang/StringBuilder" ∧ Fld Z h a1 "java/lang/AbstractStringBuilder" "value" "[B" (.ref xd) ∧ Fld Z h a1 "java/lang/AbstractStringBuilder" "coder" "B" (.int (0 : Int32)) ∧ Fld Z h a1 "java/lang/AbstractStringBuilder" "count" "I" (.int (0 : Int32)) ∧ Exa Z h xd "[B" ∧ Arv Z h xd xk .byte (16 : Int32) [] (.int (0 : Int32))
set_option maxRecDepth 65536 in
set_option maxHeartbeats 40000000 in
theorem rm12 (l : Launch) (Z : State) (a0 : Array Value) (hw : ∀ d ∈ tables_1, d.before a0 Z = true) (ws : List Jvm.Cond) (a1 : Addr) (st_COMPACT_STRINGS : Int32) (h0 : Heap) (n0 : Nat) (Z0 : n0 ≤ h0.size) (E_a1 : Exa Z h0 a1 "java/lang/StringBuilder") (F_value_a1 : Fld Z h0 a1 "java/lang/AbstractStringBuilder" "value" "[B" .null) (F_coder_a1 : Fld Z h0 a1 "java/lang/AbstractStringBuilder" "coder" "B" (.int (0 : Int32))) (F_count_a1 : Fld Z h0 a1 "java/lang/AbstractStringBuilder" "count" "I" (.int (0 : Int32))) (S_COMPACT_STRINGS : Sta Z h0 "java/lang/String" "COMPACT_STRINGS" "Z" (.int st_COMPACT_STRINGS)) (g_a1 : n0 ≤ a1) (hq3_6 : ¬ (st_COMPACT_STRINGS = (0 : Int32))) :
    MetFree l (⟨"java/lang/StringBuilder", "<init>", "()V"⟩ : MethodName) (head1 (Jvm.Cond.code (⟨"java/lang/StringBuilder", "<init>", "()V"⟩ : MethodName) jdk_67_method_1_code 1 none :: ws) ({ frames := 2, cells := 1, slots := 16, locals := 25 } : Room)) (fun a U => a = #[(.ref a1)] ∧ Z.Warmed39 U.vm ∧ U.heap = h0) (fun _ _ _ _ _ => True) (fun _ U o U' => ∃ v L, o = .returned v ∧ Q12 Z a1 st_COMPACT_STRINGS h0 n0 v U'.heap L ∧ FrameEnd U o U' L ({ frames := 2, cells := 1, slots := 16, locals := 25 } : Room).cells ({ frames := 2, cells := 1, slots := 16, locals := 25 } : Room).slots) := by
  refine MetFree.of_bodySF (plainFor_of_name pn_4) hisR ?_
  intro p e s m args below meth c s₁ Bd hml0 hP hK
  obtain ⟨rfl, hZ, hh⟩ := hP
  have hx := Bd.exec
  have hby := Bd.bytes
  have hml : c.maxLocals = 1 := hml0
  have hown : s.vm.findClass "java/lang/StringBuilder" = some m.cls := findClass_of_methodNamed Bd.named
  have hnm := (name_of_methodNamed Bd.named Bd.method).1
  have X0 : Stand p l e ({ frames := 2, cells := 1, slots := 16, locals := 25 } : Room) s m #[(.ref a1)] below meth c s₁ [] 0 0 := Stand.of_body Bd
  have e0 : s₁.heap = h0 := by rw [← hh, Bd.state]; rfl
  have N0 := Fr.nil n0
  have pre0 : ∀ t, Steps p.tables e below (s₁.setTop (mkF m 0 #[vR a1] [])) t → Steps p.tables e below (s₁.setTop (entryFrame m #[(.ref a1)] 1)) t := fun t k => castTop (ef_12 m a1) k
  obtain ⟨_, _, ⟨T2, L2, k2, n2⟩, -, X2, ⟨Lc2, hQ2, l2, y2, z2⟩, st2⟩ := X0.specialBack hx (y := (⟨"java/lang/AbstractStringBuilder", "<init>", "(I)V"⟩ : MethodName)) rfl hown (mvT hZ (own_wi hw 66 rfl)) (mvT hZ (own_wi hw 67 rfl)) (mvT hZ (own_wi hw 71 rfl)) (by decide) (backOf (W := 0) (rm13 l Z a0 hw [] a1 st_COMPACT_STRINGS h0 n0 Z0 E_a1 F_value_a1 F_coder_a1 F_count_a1 S_COMPACT_STRINGS hq3_6 g_a1) hZ (own_wi hw 71 rfl) (own_wi hw 70 rfl) (by decide) (by decide)) (g := (mkF m 3 #[vR a1] [(.int (16 : Int32)), (.ref a1)])) rfl (by rw [hml]; rfl) (Steps.refl _) (a := a1) (argsL := [(.int (16 : Int32))]) (rest := []) (lenOf pd_8 rfl) rfl (by show 2 * 0 + _ ≤ _; exact Nat.le_of_eq rfl) (hb hby d12_3) (fun _ _ => ⟨rfl, e0, (by decide : 0 + 1 ≤ _), (by decide : 0 + 16 ≤ _)⟩)
  dsimp only [Pt.U, Pt.locs, Pt.cells, Pt.slots] at X2 l2 y2 z2 st2 hQ2
  subst l2 y2 z2
  obtain ⟨x2_0, z2_0, rfl, N2q, K2q, f2_0, f2_1, f2_2, f2_3, f2_4, f2_5, f2_6⟩ := hQ2
  have ne_a1_z2_0 : a1 ≠ z2_0 := Nat.ne_of_lt (Nat.lt_of_lt_of_le E_a1.lt f2_0)
  have g_z2_0 : n0 ≤ z2_0 := Nat.le_trans Z0 f2_0
  have sz_z2_0 : h0.size ≤ z2_0 := Nat.le_trans ((Keep.refl h0 [a1])).1 f2_0
  have y3 := (own_StaKeep S_COMPACT_STRINGS K2q (allS (P := fun x => ∃ D, Exa Z h0 x D) ⟨_, E_a1⟩ all0))
  have K2 : Keep h0 T2.heap [a1] := ((Keep.refl h0 [a1])).trans K2q (allS (P := fun x => x ∈ [a1] ∨ h0.size ≤ x) (Or.inl (List.mem_of_getElem? (i := 0) rfl)) all0)
  have Z2 : n0 ≤ T2.heap.size := Nat.le_trans Z0 K2q.1
  have N2 := Fr.app N0 N2q
  obtain ⟨fs, hr, hrun, hended, hW, hsame⟩ := X2.leave (v := none) (fun _ => rfl)
  refine ⟨_, _, pre0 _ ?_, hrun, hended, _, _, rfl, ?_, ⟨_, rfl⟩, hW, hsame.mono (by decide) (by decide)⟩
  · show Steps p.tables e below (s₁.setTop (mkF m 0 #[vR a1] [])) _
    refine XS.aloadN X0.here hx rfl (hb hby d12_0) rfl rfl ?_
    refine XS.bipush X0.here hx rfl (hb hby d12_1) ?_
    show Steps p.tables e below (s₁.setTop (mkF m 3 #[vR a1] [(.int (16 : Int32)), (.ref a1)])) _
    refine st2.trans ?_
    show Steps p.tables e below (T2.setTop (mkF m 6 #[vR a1] [])) _
    exact X2.returnOut hx Bd.returns (hb hby d12_6) hr
  · show Q12 Z a1 st_COMPACT_STRINGS h0 n0 _ T2.heap _
    exact ⟨x2_0, z2_0, rfl, N2, (K2), sz_z2_0, f2_1, f2_2, f2_3, f2_4, f2_5, f2_6⟩
theorem d10_0 : decode jdk_30_method_1_code 0 = .ok (.aload_n 0, 1) := by decide +kernel
theorem d10_1 : decode jdk_30_method_1_code 1 = .ok (.invokespecial 1, 3) := by decide +kernel
theorem d10_4 : decode jdk_30_method_1_code 4 = .ok (.return_, 1) := by decide +kernel
theorem pn_5 : plainName "java/lang/Record" = true := by first | (simp [plainName, overriddenIn]; done) | decide +kernel
theorem ef_10 (m : MethodId) (a1 : Addr) : entryFrame m #[(.ref a1)] 1 = mkF m 0 #[vR a1] [] := by first | (simp [entryFrame, mkF, argsToLocals, Value.category]; done) | rfl
def Q10 (Z : State) (a1 : Addr) (h0 : Heap) (n0 : Nat) (v : Option Value) (h : Heap) (L : List Loc) : Prop := v = none ∧ Fr n0 L ∧ h = h0
set_option maxRecDepth 65536 in
set_option maxHeartbeats 40000000 in
theorem rm10 (l : Launch) (Z : State) (a0 : Array Value) (hw : ∀ d ∈ tables_1, d.before a0 Z = true) (ws : List Jvm.Cond) (a1 : Addr) (h0 : Heap) (n0 : Nat) (Z0 : n0 ≤ h0.size) :
    MetFree l (⟨"java/lang/Record", "<init>", "()V"⟩ : MethodName) (head1 (Jvm.Cond.code (⟨"java/lang/Record", "<init>", "()V"⟩ : MethodName) jdk_30_method_1_code 1 none :: ws) ({ frames := 1, cells := 0, slots := 0, locals := 12 } : Room)) (fun a U => a = #[(.ref a1)] ∧ Z.Warmed39 U.vm ∧ U.heap = h0) (fun _ _ _ _ _ => True) (fun _ U o U' => ∃ v L, o = .returned v ∧ Q10 Z a1 h0 n0 v U'.heap L ∧ FrameEnd U o U' L ({ frames := 1, cells := 0, slots := 0, locals := 12 } : Room).cells ({ frames := 1, cells := 0, slots := 0, locals := 12 } : Room).slots) := by
  refine MetFree.of_bodySF (plainFor_of_name pn_5) hisR ?_
  intro p e s m args below meth c s₁ Bd hml0 hP hK
  obtain ⟨rfl, hZ, hh⟩ := hP
  have hx := Bd.exec
  have hby := Bd.bytes
  have hml : c.maxLocals = 1 := hml0
  have hown : s.vm.findClass "java/lang/Record" = some m.cls := findClass_of_methodNamed Bd.named
  have hnm := (name_of_methodNamed Bd.named Bd.method).1
  have X0 : Stand p l e ({ frames := 1, cells := 0, slots := 0, locals := 12 } : Room) s m #[(.ref a1)] below meth c s₁ [] 0 0 := Stand.of_body Bd
  have e0 : s₁.heap = h0 := by rw [← hh, Bd.state]; rfl
  have N0 := Fr.nil n0
  have pre0 : ∀ t, Steps p.tables e below (s₁.setTop (mkF m 0 #[vR a1] [])) t → Steps p.tables e below (s₁.setTop (entryFrame m #[(.ref a1)] 1)) t := fun t k => castTop (ef_10 m a1) k
  obtain ⟨T2, X2, e2, st2⟩ := initO X0 hx hZ hown (own_wi hw 48 rfl) (own_wi hw 19 rfl) (own_wi hw 20 rfl) e0 (g := (mkF m 1 #[vR a1] [(.ref a1)])) rfl (by rw [hml]; rfl) rfl (hb hby d10_1) (by decide) (W := 0) (by show 2 * 0 + _ ≤ _; exact Nat.le_of_eq rfl) (by decide)
  obtain ⟨fs, hr, hrun, hended, hW, hsame⟩ := X2.leave (v := none) (fun _ => rfl)
  refine ⟨_, _, pre0 _ ?_, hrun, hended, _, _, rfl, ?_, ⟨_, rfl⟩, hW, hsame.mono (by decide) (by decide)⟩
  · show Steps p.tables e below (s₁.setTop (mkF m 0 #[vR a1] [])) _
    refine XS.aloadN X0.here hx rfl (hb hby d10_0) rfl rfl ?_
    show Steps p.tables e below (s₁.setTop (mkF m 1 #[vR a1] [(.ref a1)])) _
    refine st2 _ ?_
    show Steps p.tables e below (T2.setTop (mkF m 4 #[vR a1] [])) _
    exact X2.returnOut hx Bd.returns (hb hby d10_4) hr
  · show Q10 Z a1 h0 n0 _ T2.heap _
    rw [e2]
    exact ⟨rfl, N0, rfl⟩
theorem pd_18 : parseMethodDescriptor "()V" = some ⟨[], none⟩ := by decide +kernel
theorem d9_0 : decode prog_10_method_1_code 0 = .ok (.aload_n 0, 1) := by decide +kernel
theorem d9_1 : decode prog_10_method_1_code 1 = .ok (.invokespecial 1, 3) := by decide +kernel
theorem d9_4 : decode prog_10_method_1_code 4 = .ok (.aload_n 0, 1) := by decide +kernel
theorem d9_5 : decode prog_10_method_1_code 5 = .ok (.lload_n 1, 1) := by decide +kernel
theorem d9_6 : decode prog_10_method_1_code 6 = .ok (.putfield 7, 3) := by decide +kernel
theorem d9_9 : decode prog_10_method_1_code 9 = .ok (.aload_n 0, 1) := by decide +kernel
theorem d9_10 : decode prog_10_method_1_code 10 = .ok (.lload_n 3, 1) := by decide +kernel
theorem d9_11 : decode prog_10_method_1_code 11 = .ok (.putfield 13, 3) := by decide +kernel
theorem d9_14 : decode prog_10_method_1_code 14 = .ok (.aload_n 0, 1) := by decide +kernel
theorem d9_15 : decode prog_10_method_1_code 15 = .ok (.lload 5, 2) := by decide +kernel
theorem d9_17 : decode prog_10_method_1_code 17 = .ok (.putfield 16, 3) := by decide +kernel
theorem d9_20 : decode prog_10_method_1_code 20 = .ok (.return_, 1) := by decide +kernel
theorem pn_6 : plainName "com/example/vigilant_context/vigilantcontext/finding/LoadCost" = true := by first | (simp [plainName, overriddenIn]; done) | decide +kernel
theorem ef_9 (m : MethodId) (a1 : Addr) (q2 : Int64) (q3 : Int64) (q4 : Int64) : entryFrame m #[(.ref a1), (.long q2), (.long q3), (.long q4)] 7 = mkF m 0 #[vR a1, vJ q2, vS, vJ q3, vS, vJ q4, vS] [] := by first | (simp [entryFrame, mkF, argsToLocals, Value.category]; done) | rfl
def Q9 (Z : State) (a1 : Addr) (q2 : Int64) (q3 : Int64) (q4 : Int64) (w_sessions_a1 : Int64) (w_connections_a1 : Int64) (w_statements_a1 : Int64) (h0 : Heap) (n0 : Nat) (v : Option Value) (h : Heap) (L : List Loc) : Prop := v = none ∧ Fr n0 L ∧ Keep h0 h [a1] ∧ Exa Z h a1 "com/example/vigilant_context/vigilantcontext/finding/LoadCost" ∧ Fld Z h a1 "com/example/vigilant_context/vigilantcontext/finding/LoadCost" "sessions" "J" (.long q2) ∧ Fld Z h a1 "com/example/vigilant_context/vigilantcontext/finding/LoadCost" "connections" "J" (.long q3) ∧ Fld Z h a1 "com/example/vigilant_context/vigilantcontext/finding/LoadCost" "statements" "J" (.long q4)
set_option maxRecDepth 65536 in
set_option maxHeartbeats 40000000 in
theorem rm9 (l : Launch) (Z : State) (a0 : Array Value) (hw : ∀ d ∈ tables_1, d.before a0 Z = true) (ws : List Jvm.Cond) (a1 : Addr) (q2 : Int64) (q3 : Int64) (q4 : Int64) (w_sessions_a1 : Int64) (w_connections_a1 : Int64) (w_statements_a1 : Int64) (h0 : Heap) (n0 : Nat) (Z0 : n0 ≤ h0.size) (E_a1 : Exa Z h0 a1 "com/example/vigilant_context/vigilantcontext/finding/LoadCost") (F_sessions_a1 : Fld Z h0 a1 "com/example/vigilant_context/vigilantcontext/finding/LoadCost" "sessions" "J" (.long w_sessions_a1)) (F_connections_a1 : Fld Z h0 a1 "com/example/vigilant_context/vigilantcontext/finding/LoadCost" "connections" "J" (.long w_connections_a1)) (F_statements_a1 : Fld Z h0 a1 "com/example/vigilant_context/vigilantcontext/finding/LoadCost" "statements" "J" (.long w_statements_a1)) (g_a1 : n0 ≤ a1) :
    MetFree l (⟨"com/example/vigilant_context/vigilantcontext/finding/LoadCost", "<init>", "(JJJ)V"⟩ : MethodName) (head1 (Jvm.Cond.code (⟨"com/example/vigilant_context/vigilantcontext/finding/LoadCost", "<init>", "(JJJ)V"⟩ : MethodName) prog_10_method_1_code 7 none :: ws) ({ frames := 2, cells := 0, slots := 0, locals := 24 } : Room)) (fun a U => a = #[(.ref a1), (.long q2), (.long q3), (.long q4)] ∧ Z.Warmed39 U.vm ∧ U.heap = h0) (fun _ _ _ _ _ => True) (fun _ U o U' => ∃ v L, o = .returned v ∧ Q9 Z a1 q2 q3 q4 w_sessions_a1 w_connections_a1 w_statements_a1 h0 n0 v U'.heap L ∧ FrameEnd U o U' L ({ frames := 2, cells := 0, slots := 0, locals := 24 } : Room).cells ({ frames := 2, cells := 0, slots := 0, locals := 24 } : Room).slots) := by
  refine MetFree.of_bodySF (plainFor_of_name pn_6) hisR ?_
  intro p e s m args below meth c s₁ Bd hml0 hP hK
  obtain ⟨rfl, hZ, hh⟩ := hP
  have hx := Bd.exec
  have hby := Bd.bytes
  have hml : c.maxLocals = 7 := hml0
  have hown : s.vm.findClass "com/example/vigilant_context/vigilantcontext/finding/LoadCost" = some m.cls := findClass_of_methodNamed Bd.named
  have hnm := (name_of_methodNamed Bd.named Bd.method).1
  have X0 : Stand p l e ({ frames := 2, cells := 0, slots := 0, locals := 24 } : Room) s m #[(.ref a1), (.long q2), (.long q3), (.long q4)] below meth c s₁ [] 0 0 := Stand.of_body Bd
  have e0 : s₁.heap = h0 := by rw [← hh, Bd.state]; rfl
  have N0 := Fr.nil n0
  have pre0 : ∀ t, Steps p.tables e below (s₁.setTop (mkF m 0 #[vR a1, vJ q2, vS, vJ q3, vS, vJ q4, vS] [])) t → Steps p.tables e below (s₁.setTop (entryFrame m #[(.ref a1), (.long q2), (.long q3), (.long q4)] 7)) t := fun t k => castTop (ef_9 m a1 q2 q3 q4) k
  obtain ⟨_, _, ⟨T5, L5, k5, n5⟩, -, X5, ⟨Lc5, hQ5, l5, y5, z5⟩, st5⟩ := X0.specialBack hx (y := (⟨"java/lang/Record", "<init>", "()V"⟩ : MethodName)) rfl hown (mvT hZ (own_wi hw 43 rfl)) (mvT hZ (own_wi hw 44 rfl)) (mvT hZ (own_wi hw 47 rfl)) (by decide) (backOf (W := 0) (rm10 l Z a0 hw [] a1 h0 n0 Z0 ) hZ (own_wi hw 47 rfl) (own_wi hw 46 rfl) (by decide) (by decide)) (g := (mkF m 1 #[vR a1, vJ q2, vS, vJ q3, vS, vJ q4, vS] [(.ref a1)])) rfl (by rw [hml]; rfl) (Steps.refl _) (a := a1) (argsL := []) (rest := []) (lenOf pd_18 rfl) rfl (by show 2 * 0 + _ ≤ _; exact Nat.le_of_eq rfl) (hb hby d9_1) (fun _ _ => ⟨rfl, e0, (by decide : 0 + 0 ≤ _), (by decide : 0 + 0 ≤ _)⟩)
  dsimp only [Pt.U, Pt.locs, Pt.cells, Pt.slots] at X5 l5 y5 z5 st5 hQ5
  subst l5 y5 z5
  obtain ⟨rfl, N5q, e5⟩ := hQ5
  have N5 := Fr.app N0 N5q
  obtain ⟨T6, h6, X6, e6, W6, st6⟩ := putF X5 hx hZ hown (host := "") (Or.inl (own_wi hw 49 rfl)) Via.refl e5 F_sessions_a1 E_a1 (Or.inr ⟨(own_wi hw 50 rfl), rfl, hnm⟩) (own_wi hw 38 rfl) (ty := .long) (by decide) rfl rfl (g := (mkF m 6 #[vR a1, vJ q2, vS, vJ q3, vS, vJ q4, vS] [(.long q2), (.ref a1)])) rfl rfl (hb hby d9_6)
  have N6 := Fr.snoc X6 N5 g_a1
  have y7 := (F_connections_a1.other W6 (Or.inr (slot_ne (Or.inr (own_wi hw 52 rfl)) (Or.inr (own_wi hw 50 rfl)) (by decide) (t := .long) (t' := .long) (by decide) (by decide))))
  have y8 := (F_statements_a1.other W6 (Or.inr (slot_ne (Or.inr (own_wi hw 54 rfl)) (Or.inr (own_wi hw 50 rfl)) (by decide) (t := .long) (t' := .long) (by decide) (by decide))))
  have K6 : Keep h0 h6 [a1] := ((Keep.refl h0 [a1])).wr W6 (Or.inl (List.mem_of_getElem? (i := 0) rfl))
  have Z6 : n0 ≤ h6.size := Nat.le_trans Z0 (Keep.of_wr W6).1
  obtain ⟨T9, h9, X9, e9, W9, st9⟩ := putF X6 hx hZ hown (host := "") (Or.inl (own_wi hw 51 rfl)) Via.refl e6 y7 (E_a1.wr W6) (Or.inr ⟨(own_wi hw 52 rfl), rfl, hnm⟩) (own_wi hw 38 rfl) (ty := .long) (by decide) rfl rfl (g := (mkF m 11 #[vR a1, vJ q2, vS, vJ q3, vS, vJ q4, vS] [(.long q3), (.ref a1)])) rfl rfl (hb hby d9_11)
  have N9 := Fr.snoc X9 N6 g_a1
  have y10 := ((F_sessions_a1.same W6).other W9 (Or.inr (slot_ne (Or.inr (own_wi hw 50 rfl)) (Or.inr (own_wi hw 52 rfl)) (by decide) (t := .long) (t' := .long) (by decide) (by decide))))
  have y11 := (y8.other W9 (Or.inr (slot_ne (Or.inr (own_wi hw 54 rfl)) (Or.inr (own_wi hw 52 rfl)) (by decide) (t := .long) (t' := .long) (by decide) (by decide))))
  have K9 : Keep h0 h9 [a1] := (K6).wr W9 (Or.inl (List.mem_of_getElem? (i := 0) rfl))
  have Z9 : n0 ≤ h9.size := Nat.le_trans Z6 (Keep.of_wr W9).1
  obtain ⟨T12, h12, X12, e12, W12, st12⟩ := putF X9 hx hZ hown (host := "") (Or.inl (own_wi hw 53 rfl)) Via.refl e9 y11 ((E_a1.wr W6).wr W9) (Or.inr ⟨(own_wi hw 54 rfl), rfl, hnm⟩) (own_wi hw 38 rfl) (ty := .long) (by decide) rfl rfl (g := (mkF m 17 #[vR a1, vJ q2, vS, vJ q3, vS, vJ q4, vS] [(.long q4), (.ref a1)])) rfl rfl (hb hby d9_17)
  have N12 := Fr.snoc X12 N9 g_a1
  have y13 := (y10.other W12 (Or.inr (slot_ne (Or.inr (own_wi hw 50 rfl)) (Or.inr (own_wi hw 54 rfl)) (by decide) (t := .long) (t' := .long) (by decide) (by decide))))
  have y14 := ((y7.same W9).other W12 (Or.inr (slot_ne (Or.inr (own_wi hw 52 rfl)) (Or.inr (own_wi hw 54 rfl)) (by decide) (t := .long) (t' := .long) (by decide) (by decide))))
  have K12 : Keep h0 h12 [a1] := (K9).wr W12 (Or.inl (List.mem_of_getElem? (i := 0) rfl))
  have Z12 : n0 ≤ h12.size := Nat.le_trans Z9 (Keep.of_wr W12).1
  obtain ⟨fs, hr, hrun, hended, hW, hsame⟩ := X12.leave (v := none) (fun _ => rfl)
  refine ⟨_, _, pre0 _ ?_, hrun, hended, _, _, rfl, ?_, ⟨_, rfl⟩, hW, hsame.mono (by decide) (by decide)⟩
  · show Steps p.tables e below (s₁.setTop (mkF m 0 #[vR a1, vJ q2, vS, vJ q3, vS, vJ q4, vS] [])) _
    refine XS.aloadN X0.here hx rfl (hb hby d9_0) rfl rfl ?_
    show Steps p.tables e below (s₁.setTop (mkF m 1 #[vR a1, vJ q2, vS, vJ q3, vS, vJ q4, vS] [(.ref a1)])) _
    refine st5.trans ?_
    show Steps p.tables e below (T5.setTop (mkF m 4 #[vR a1, vJ q2, vS, vJ q3, vS, vJ q4, vS] [])) _
    refine XS.aloadN X5.here hx rfl (hb hby d9_4) rfl rfl ?_
    refine XS.lloadN X5.here hx rfl (hb hby d9_5) rfl ?_
    show Steps p.tables e below (T5.setTop (mkF m 6 #[vR a1, vJ q2, vS, vJ q3, vS, vJ q4, vS] [(.long q2), (.ref a1)])) _
    refine st6 _ ?_
    show Steps p.tables e below (T6.setTop (mkF m 9 #[vR a1, vJ q2, vS, vJ q3, vS, vJ q4, vS] [])) _
    refine XS.aloadN X6.here hx rfl (hb hby d9_9) rfl rfl ?_
    refine XS.lloadN X6.here hx rfl (hb hby d9_10) rfl ?_
    show Steps p.tables e below (T6.setTop (mkF m 11 #[vR a1, vJ q2, vS, vJ q3, vS, vJ q4, vS] [(.long q3), (.ref a1)])) _
    refine st9 _ ?_
    show Steps p.tables e below (T9.setTop (mkF m 14 #[vR a1, vJ q2, vS, vJ q3, vS, vJ q4, vS] [])) _
    refine XS.aloadN X9.here hx rfl (hb hby d9_14) rfl rfl ?_
    refine XS.lload X9.here hx rfl (hb hby d9_15) rfl ?_
    show Steps p.tables e below (T9.setTop (mkF m 17 #[vR a1, vJ q2, vS, vJ q3, vS, vJ q4, vS] [(.long q4), (.ref a1)])) _
    refine st12 _ ?_
    show Steps p.tables e below (T12.setTop (mkF m 20 #[vR a1, vJ q2, vS, vJ q3, vS, vJ q4, vS] [])) _
    exact X12.returnOut hx Bd.returns (hb hby d9_20) hr
  · show Q9 Z a1 q2 q3 q4 w_sessions_a1 w_connections_a1 w_statements_a1 h0 n0 _ T12.heap _
    rw [e12]
    exact ⟨rfl, N12, (K12), (((E_a1.wr W6).wr W9).wr W12), y13, y14, (y11.same W12)⟩
def own_EL : List (String × Nat) := [("com/example/vigilant_context/vigilantcontext/finding/LoadCost", 25), ("com/example/vigilant_context/vigilantcontext/finding/LoadCost", 34), ("com/example/vigilant_context/vigilantcontext/finding/LoadCost", 36)]
theorem own_EW {Z : State} {a0 : Array Value} (hw : ∀ d ∈ tables_1, d.before a0 Z = true) : EW Z a0 own_EL :=
  EW.cons (text := "sessions=") (own_wi hw 78 rfl) (by decide +kernel) (EW.cons (text := " connections=") (own_wi hw 153 rfl) (by decide +kernel) (EW.cons (text := " statements=") (own_wi hw 177 rfl) (by decide +kernel) EW.nil))
theorem own_safeN {Z : State} {EL : List (String × Nat)} {vm : Vm} {h h' : Heap} {ws : List Addr} {x : Addr} (K : Keep h h' ws) (hs : ∀ x ∈ ws, Safe Z EL vm h x) (H : CHv Z EL vm h) (q : h.size ≤ x) : Safe Z EL vm h' x := fun B => by
  obtain ⟨c, hc⟩ := ((H.keepStep K hs).2 _ B).there
  exact absurd (Array.getElem?_eq_some_iff.mp hc).1 (Nat.not_lt.mpr q)
theorem own_safeE {Z : State} {EL : List (String × Nat)} {vm : Vm} {h h' : Heap} {ws : List Addr} {x y : Addr} (K : Keep h h' ws) (hs : ∀ x ∈ ws, Safe Z EL vm h x) (H : CHv Z EL vm h) (p : x = y ∨ h.size ≤ x) (S : Safe Z EL vm h y) : Safe Z EL vm h' x := by
  rcases p with rfl | p
  · exact Safe.keep K hs H S
  · exact own_safeN K hs H p
def own_lit (t : String) : List Value := t.toList.map fun c => Value.int (Jvm.Lit.byteI c.toNat.toUInt16)
/-- a count, its text, and a bound -/
def own_cl (n : Nat) (c : Int32) (vs : List Value) : Prop := c.toInt = vs.length ∧ vs.length ≤ n
theorem own_cl0 : own_cl 0 (0 : Int32) [] := ⟨rfl, Nat.le_refl _⟩
theorem own_cl_add {n m : Nat} {c d : Int32} {vs us : List Value} (h : own_cl n c vs) (g : own_cl m d us) (b : n + m ≤ 1000) : own_cl (n + m) (c + d) (vs ++ us) := by
  have q := c_iadd c d
  have r := rng32 (c + d)
  obtain ⟨h1, h2⟩ := h
  obtain ⟨g1, g2⟩ := g
  refine ⟨?_, ?_⟩ <;> rw [List.length_append] <;> omega
theorem own_clj (v : Int64) : own_cl 21 (own_size v) (own_dec v) := ⟨by rw [own_size_int, own_dec_len], by rw [own_dec_len]; exact (own_dn_le v).2⟩
theorem own_cl_b94 {n : Nat} {c : Int32} {vs : List Value} (h : own_cl n c vs) (b : n ≤ 97) : own_b94 c := by obtain ⟨h1, h2⟩ := h; unfold own_b94; omega
theorem own_cl_len {n : Nat} {c : Int32} {vs : List Value} (h : own_cl n c vs) : own_len c vs := h.1
theorem own_b188_of {n : Nat} {c z : Int32} {vs : List Value} (h : own_cl n c vs) (q : c.toInt ≤ z.toInt ∧ z.toInt ≤ 194) : own_b188 z := by obtain ⟨h1, h2⟩ := h; unfold own_b188; omega
theorem own_fit_of {n : Nat} {c z : Int32} {vs : List Value} (h : own_cl n c vs) (q : c.toInt ≤ z.toInt ∧ z.toInt ≤ 194) : own_fit z vs := by obtain ⟨h1, h2⟩ := h; unfold own_fit; omega
theorem own_cl_1 : own_cl 9 (9 : Int32) (own_lit "sessions=") := ⟨rfl, by decide⟩
theorem own_cl_2 : own_cl 13 (13 : Int32) (own_lit " connections=") := ⟨rfl, by decide⟩
theorem own_cl_3 : own_cl 12 (12 : Int32) (own_lit " statements=") := ⟨rfl, by decide⟩
/-- the text of a literal -/
def own_litI (t : String) : List Int32 := t.toList.map fun c => Int32.ofNat c.toNat
def own_digI (v : Int64) (i : Nat) : Int32 := if v < 0 ∧ i = 0 then 45 else Int32.ofNat (48 + own_abs v / 10 ^ (own_dn v - 1 - i) % 10)
def own_decI (v : Int64) : List Int32 := (List.range (own_dn v)).map (own_digI v)
/-- what toString writes -/
def own_text (a b c : Int64) : List Int32 := ((((([] ++ own_litI "sessions=") ++ own_decI a) ++ own_litI " connections=") ++ own_decI b) ++ own_litI " statements=") ++ own_decI c
theorem own_lo8 {x : Int32} (h0 : 0 ≤ x.toInt) (h1 : x.toInt ≤ 127) : StrChars.lo8 x = x := by
  have q := c_i2b x
  show x.toInt8.toInt32 = x
  rw [← Int32.toInt_inj]; omega
theorem own_digI_in (v : Int64) (i : Nat) : (own_digI v i = 45) ∨ (48 ≤ (own_digI v i).toInt ∧ (own_digI v i).toInt ≤ 57) := by
  unfold own_digI
  split
  · exact Or.inl rfl
  · right; rw [own_ofNat (by omega)]; omega
theorem own_digI_rng (v : Int64) (i : Nat) : 0 ≤ (own_digI v i).toInt ∧ (own_digI v i).toInt ≤ 127 ∧ own_digI v i ≠ 32 := by
  have e : (45 : Int32).toInt = 45 := rfl
  have e2 : (32 : Int32).toInt = 32 := rfl
  rcases own_digI_in v i with h | h
  · rw [h]; exact ⟨by decide, by decide, by decide⟩
  · exact ⟨by omega, by omega, fun q => by rw [q] at h; omega⟩
theorem own_dig_eq (v : Int64) (i : Nat) : own_dig v i = .int (StrChars.lo8 (own_digI v i)) := by
  have h := own_digI_rng v i
  rw [own_lo8 h.1 h.2.1]
  unfold own_dig own_digI; split <;> rfl
theorem own_dec_eq (v : Int64) : own_dec v = (own_decI v).map fun c => Value.int (StrChars.lo8 c) := by
  unfold own_dec own_decI; rw [List.map_map]
  exact List.map_congr_left fun i _ => own_dig_eq v i
theorem own_l1 : own_lit "sessions=" = (own_litI "sessions=").map fun c => Value.int (StrChars.lo8 c) := rfl
theorem own_l2 : own_lit " connections=" = (own_litI " connections=").map fun c => Value.int (StrChars.lo8 c) := rfl
theorem own_l3 : own_lit " statements=" = (own_litI " statements=").map fun c => Value.int (StrChars.lo8 c) := rfl
theorem own_text_eq (a b c : Int64) : ((((([] ++ (own_lit "sessions=")) ++ own_dec a) ++ (own_lit " connections=")) ++ own_dec b) ++ (own_lit " statements=")) ++ own_dec c = (own_text a b c).map fun c => Value.int (StrChars.lo8 c) := by
  unfold own_text
  simp only [List.map_append, own_dec_eq, own_l1, own_l2, own_l3, List.nil_append]
theorem own_byte_in {x : Int32} (h : 0 ≤ x.toInt ∧ x.toInt ≤ 127) : ¬ x < 0 ∧ ¬ (255 : Int32) < x := by
  have e : (255 : Int32).toInt = 255 := rfl
  rw [Int32.lt_iff_toInt_lt, Int32.lt_iff_toInt_lt, own_z0, e]; omega
theorem own_lit_in1 : ∀ c ∈ own_litI "sessions=", 0 ≤ c.toInt ∧ c.toInt ≤ 127 := by decide +kernel
theorem own_lit_in2 : ∀ c ∈ own_litI " connections=", 0 ≤ c.toInt ∧ c.toInt ≤ 127 := by decide +kernel
theorem own_lit_in3 : ∀ c ∈ own_litI " statements=", 0 ≤ c.toInt ∧ c.toInt ≤ 127 := by decide +kernel
theorem own_decI_in (v : Int64) : ∀ c ∈ own_decI v, 0 ≤ c.toInt ∧ c.toInt ≤ 127 := fun c hc => by
  obtain ⟨i, -, rfl⟩ := List.mem_map.mp hc
  exact ⟨(own_digI_rng v i).1, (own_digI_rng v i).2.1⟩
theorem own_text_in (a b c : Int64) : ∀ x ∈ own_text a b c, ¬ x < 0 ∧ ¬ (255 : Int32) < x := fun x hx => own_byte_in (by
  unfold own_text at hx
  simp only [List.mem_append, List.nil_append] at hx
  rcases hx with ((((h | h) | h) | h) | h) | h
  · exact own_lit_in1 x h
  · exact own_decI_in _ x h
  · exact own_lit_in2 x h
  · exact own_decI_in _ x h
  · exact own_lit_in3 x h
  · exact own_decI_in _ x h)
theorem own_text_cl {n : Nat} {k : Int32} {vs : List Value} {cs : List Int32} (h : own_cl n k vs) (e : vs = cs.map fun c => Value.int (StrChars.lo8 c)) (b : n ≤ 1000) : k = Int32.ofNat cs.length ∧ cs.length ≤ 4000 := by
  obtain ⟨h1, h2⟩ := h
  have l : vs.length = cs.length := by rw [e, List.length_map]
  refine ⟨?_, by omega⟩
  rw [← Int32.toInt_inj, own_ofNat (by omega)]; omega
-- the plain law: the text tells its three numbers
theorem own_wN_lt : ∀ (f n : Nat), n < 100 ^ f → n < 10 ^ (Jvm.Free.SBG.wN f n) := by
  intro f
  induction f with
  | zero => intro n h; unfold Jvm.Free.SBG.wN; simpa using h
  | succ f ih =>
    intro n h
    unfold Jvm.Free.SBG.wN
    split
    · have h1 : n / 100 < 100 ^ f := by rw [Nat.div_lt_iff_lt_mul (by decide)]; rw [Nat.pow_succ] at h; exact h
      have h2 := ih (n / 100) h1
      rw [Nat.pow_add]
      have e : (10 : Nat) ^ 2 = 100 := by decide
      rw [e]
      have h3 : n < 100 * (n / 100 + 1) := by omega
      exact Nat.lt_of_lt_of_le h3 (Nat.mul_le_mul_left 100 h2)
    · split
      · have e : (10 : Nat) ^ 2 = 100 := by decide
        rw [e]; omega
      · have e : (10 : Nat) ^ 1 = 10 := by decide
        rw [e]; omega
theorem own_digitsL_lt {n : Nat} (h : n ≤ 2 ^ 63) : n < 10 ^ (Jvm.Free.SBG.digitsL n) := own_wN_lt 10 n (by
  have e : (100 : Nat) ^ 10 = 100000000000000000000 := by decide
  omega)
theorem own_digits_inj : ∀ (k n m : Nat), (∀ j, j < k → n / 10 ^ j % 10 = m / 10 ^ j % 10) → n % 10 ^ k = m % 10 ^ k := by
  intro k
  induction k with
  | zero => intro n m _; simp [Nat.mod_one]
  | succ k ih =>
    intro n m h
    have q := ih n m fun j hj => h j (by omega)
    have r := h k (by omega)
    rw [Nat.pow_succ, Nat.mod_mul, Nat.mod_mul, q, r]
theorem own_sgn (v : Int64) : (v < 0 ∧ own_dn v = Jvm.Free.SBG.digitsL (own_abs v) + 1) ∨ (¬ v < 0 ∧ own_dn v = Jvm.Free.SBG.digitsL (own_abs v)) := by
  unfold own_dn Jvm.Free.SBG.GetCharsL.sgnL
  by_cases h : v < 0
  · exact Or.inl ⟨h, by rw [if_pos h]⟩
  · exact Or.inr ⟨h, by rw [if_neg h]; rfl⟩
theorem own_ofNat_inj {a b : Nat} (ha : a < 2147483648) (hb : b < 2147483648) (h : Int32.ofNat a = Int32.ofNat b) : a = b := by
  have q := congrArg Int32.toInt h
  rw [own_ofNat ha, own_ofNat hb] at q; omega
theorem own_decI_inj {v w : Int64} (h : own_decI v = own_decI w) : v = w := by
  have hl : own_dn v = own_dn w := by have := congrArg List.length h; simpa [own_decI] using this
  have hg : ∀ i, i < own_dn v → own_digI v i = own_digI w i := fun i hi => by
    have q := congrArg (fun l => l[i]?) h
    simp only [own_decI, List.getElem?_map, List.getElem?_range hi, List.getElem?_range (hl ▸ hi), Option.map_some, Option.some.injEq] at q
    exact q
  have dv := own_dn_le v
  have e45 : (45 : Int32).toInt = 45 := rfl
  have sg : v < 0 ↔ w < 0 := by
    have q := hg 0 (by omega)
    unfold own_digI at q
    by_cases h1 : v < 0 <;> by_cases h2 : w < 0
    · simp [h1, h2]
    · rw [if_pos ⟨h1, rfl⟩, if_neg (fun z => h2 z.1)] at q
      have := congrArg Int32.toInt q; rw [own_ofNat (by omega), e45] at this; omega
    · rw [if_neg (fun z => h1 z.1), if_pos ⟨h2, rfl⟩] at q
      have := congrArg Int32.toInt q; rw [own_ofNat (by omega), e45] at this; omega
    · simp [h1, h2]
  have hd : Jvm.Free.SBG.digitsL (own_abs v) = Jvm.Free.SBG.digitsL (own_abs w) := by
    rcases own_sgn v with ⟨a, b⟩ | ⟨a, b⟩ <;> rcases own_sgn w with ⟨a', b'⟩ | ⟨a', b'⟩
    · omega
    · exact absurd (sg.mp a) a'
    · exact absurd (sg.mpr a') a
    · omega
  have ha : own_abs v = own_abs w := by
    have q := own_digits_inj (Jvm.Free.SBG.digitsL (own_abs v)) (own_abs v) (own_abs w) fun j hj => by
      have r := hg (own_dn v - 1 - j) (by omega)
      unfold own_digI at r
      rw [if_neg, if_neg] at r
      · have r2 := own_ofNat_inj (by omega) (by omega) r
        rw [← hl, show own_dn v - 1 - (own_dn v - 1 - j) = j by rcases own_sgn v with ⟨a, b⟩ | ⟨a, b⟩ <;> omega] at r2
        omega
      · rintro ⟨z1, z2⟩; rcases own_sgn v with ⟨a, b⟩ | ⟨a, b⟩
        · omega
        · exact a (sg.mpr z1)
      · rintro ⟨z1, z2⟩; rcases own_sgn v with ⟨a, b⟩ | ⟨a, b⟩
        · omega
        · exact a z1
    have q1 := own_digitsL_lt (own_abs_le v)
    have q2 := own_digitsL_lt (own_abs_le w)
    rw [← hd] at q2
    rw [Nat.mod_eq_of_lt q1, Nat.mod_eq_of_lt q2] at q
    exact q
  have z : (0 : Int64).toInt = 0 := rfl
  rw [Int64.lt_iff_toInt_lt, Int64.lt_iff_toInt_lt, z] at sg
  rw [← Int64.toInt_inj]
  unfold own_abs at ha
  omega
theorem own_split {x : Int32} : ∀ (xs ys r t : List Int32), (∀ c ∈ xs, c ≠ x) → (∀ c ∈ ys, c ≠ x) → xs ++ x :: r = ys ++ x :: t → xs = ys ∧ r = t
  | [], [], r, t, _, _, h => by simp at h; exact ⟨rfl, h⟩
  | [], y :: ys, r, t, _, h2, h => by simp at h; exact absurd h.1.symm (h2 y (by simp))
  | x' :: xs, [], r, t, h1, _, h => by simp at h; exact absurd h.1 (h1 x' (by simp))
  | x' :: xs, y :: ys, r, t, h1, h2, h => by
    simp only [List.cons_append, List.cons.injEq] at h
    obtain ⟨e1, e2⟩ := own_split xs ys r t (fun c hc => h1 c (by simp [hc])) (fun c hc => h2 c (by simp [hc])) h.2
    exact ⟨by rw [h.1, e1], e2⟩
theorem own_decI_sp (v : Int64) : ∀ c ∈ own_decI v, c ≠ (32 : Int32) := fun c hc => by
  obtain ⟨i, -, rfl⟩ := List.mem_map.mp hc
  exact (own_digI_rng v i).2.2
theorem own_sp2 : own_litI " connections=" = (32 : Int32) :: own_litI "connections=" := rfl
theorem own_sp3 : own_litI " statements=" = (32 : Int32) :: own_litI "statements=" := rfl
theorem own_text_inj {a b c a' b' c' : Int64} : own_text a b c = own_text a' b' c' ↔ (a = a' ∧ b = b' ∧ c = c') := by
  constructor
  · intro h
    unfold own_text at h
    simp only [List.append_assoc, List.nil_append, own_sp2, own_sp3, List.cons_append] at h
    have h1 := List.append_cancel_left h
    obtain ⟨e1, h2⟩ := own_split _ _ _ _ (own_decI_sp a) (own_decI_sp a') h1
    have h3 := List.append_cancel_left h2
    obtain ⟨e2, h4⟩ := own_split _ _ _ _ (own_decI_sp b) (own_decI_sp b') h3
    exact ⟨own_decI_inj e1, own_decI_inj e2, own_decI_inj (List.append_cancel_left h4)⟩
  · rintro ⟨rfl, rfl, rfl⟩; rfl
theorem pd_19 : parseMethodDescriptor "(Ljava/lang/String;)Ljava/lang/StringBuilder;" = some ⟨[(.object "java/lang/String")], some (.object "java/lang/StringBuilder")⟩ := by decide +kernel
theorem pd_20 : parseMethodDescriptor "(J)Ljava/lang/StringBuilder;" = some ⟨[.long], some (.object "java/lang/StringBuilder")⟩ := by decide +kernel
theorem pd_21 : parseMethodDescriptor "()Ljava/lang/String;" = some ⟨[], some (.object "java/lang/String")⟩ := by decide +kernel
theorem d11_0 : decode prog_10_method_3_code 0 = .ok (.new 22, 3) := by decide +kernel
theorem d11_3 : decode prog_10_method_3_code 3 = .ok (.dup, 1) := by decide +kernel
theorem d11_4 : decode prog_10_method_3_code 4 = .ok (.invokespecial 24, 3) := by decide +kernel
theorem d11_7 : decode prog_10_method_3_code 7 = .ok (.ldc 25, 2) := by decide +kernel
theorem d11_9 : decode prog_10_method_3_code 9 = .ok (.invokevirtual 27, 3) := by decide +kernel
theorem d11_12 : decode prog_10_method_3_code 12 = .ok (.aload_n 0, 1) := by decide +kernel
theorem d11_13 : decode prog_10_method_3_code 13 = .ok (.getfield 7, 3) := by decide +kernel
theorem d11_16 : decode prog_10_method_3_code 16 = .ok (.invokevirtual 31, 3) := by decide +kernel
theorem d11_19 : decode prog_10_method_3_code 19 = .ok (.ldc 34, 2) := by decide +kernel
theorem d11_21 : decode prog_10_method_3_code 21 = .ok (.invokevirtual 27, 3) := by decide +kernel
theorem d11_24 : decode prog_10_method_3_code 24 = .ok (.aload_n 0, 1) := by decide +kernel
theorem d11_25 : decode prog_10_method_3_code 25 = .ok (.getfield 13, 3) := by decide +kernel
theorem d11_28 : decode prog_10_method_3_code 28 = .ok (.invokevirtual 31, 3) := by decide +kernel
theorem d11_31 : decode prog_10_method_3_code 31 = .ok (.ldc 36, 2) := by decide +kernel
theorem d11_33 : decode prog_10_method_3_code 33 = .ok (.invokevirtual 27, 3) := by decide +kernel
theorem d11_36 : decode prog_10_method_3_code 36 = .ok (.aload_n 0, 1) := by decide +kernel
theorem d11_37 : decode prog_10_method_3_code 37 = .ok (.getfield 16, 3) := by decide +kernel
theorem d11_40 : decode prog_10_method_3_code 40 = .ok (.invokevirtual 31, 3) := by decide +kernel
theorem d11_43 : decode prog_10_method_3_code 43 = .ok (.invokevirtual 38, 3) := by decide +kernel
theorem d11_46 : decode prog_10_method_3_code 46 = .ok (.areturn, 1) := by decide +kernel
theorem ef_11 (m : MethodId) (a1 : Addr) : entryFrame m #[(.ref a1)] 1 = mkF m 0 #[vR a1] [] := by first | (simp [entryFrame, mkF, argsToLocals, Value.category]; done) | rfl
def Q11 (Z : State) (a1 : Addr) (w_sessions_a1 : Int64) (w_connections_a1 : Int64) (w_statements_a1 : Int64) (st_COMPACT_STRINGS : Int32) (h0 : Heap) (n0 : Nat) (v : Option Value) (h : Heap) (L : List Loc) : Prop := ∃ xb : Addr, v = some (.ref xb) ∧ Fr n0 L ∧ Keep h0 h [] ∧ own_Str Z h xb (own_text w_sessions_a1 w_connections_a1 w_statements_a1)
set_option maxRecDepth 65536 in
set_option maxHeartbeats 40000000 in
theorem rm11 (l : Launch) (Z : State) (a0 : Array Value) (hw : ∀ d ∈ tables_1, d.before a0 Z = true) (ws : List Jvm.Cond) (a1 : Addr) (w_sessions_a1 : Int64) (w_connections_a1 : Int64) (w_statements_a1 : Int64) (st_COMPACT_STRINGS : Int32) (h0 : Heap) (n0 : Nat) (Z0 : n0 ≤ h0.size) (E_a1 : Exa Z h0 a1 "com/example/vigilant_context/vigilantcontext/finding/LoadCost") (F_sessions_a1 : Fld Z h0 a1 "com/example/vigilant_context/vigilantcontext/finding/LoadCost" "sessions" "J" (.long w_sessions_a1)) (F_connections_a1 : Fld Z h0 a1 "com/example/vigilant_context/vigilantcontext/finding/LoadCost" "connections" "J" (.long w_connections_a1)) (F_statements_a1 : Fld Z h0 a1 "com/example/vigilant_context/vigilantcontext/finding/LoadCost" "statements" "J" (.long w_statements_a1)) (S_COMPACT_STRINGS : Sta Z h0 "java/lang/String" "COMPACT_STRINGS" "Z" (.int st_COMPACT_STRINGS)) (X00 : Old Z n0 h0) (hDg : own_Dig Z) (hq4_7 : ¬ (st_COMPACT_STRINGS = (0 : Int32))) :
    MetFree l (⟨"com/example/vigilant_context/vigilantcontext/finding/LoadCost", "toString", "()Ljava/lang/String;"⟩ : MethodName) (head1 (Jvm.Cond.code (⟨"com/example/vigilant_context/vigilantcontext/finding/LoadCost", "toString", "()Ljava/lang/String;"⟩ : MethodName) prog_10_method_3_code 1 (some (.object "java/lang/String")) :: ws) ({ frames := 6, cells := 16, slots := 1433, locals := 132 } : Room)) (fun a U => a = #[(.ref a1)] ∧ Z.Warmed39 U.vm ∧ U.heap = h0 ∧ CHv Z own_EL U.vm h0) (fun _ _ _ _ _ => True) (fun _ U o U' => ∃ v L, o = .returned v ∧ Q11 Z a1 w_sessions_a1 w_connections_a1 w_statements_a1 st_COMPACT_STRINGS h0 n0 v U'.heap L ∧ CHr Z own_EL U.vm U.heap U'.vm U'.heap ∧ ReturnedEndW U o U' L ({ frames := 6, cells := 16, slots := 1433, locals := 132 } : Room).cells ({ frames := 6, cells := 16, slots := 1433, locals := 132 } : Room).slots) := by
  refine MetFree.of_bodySF (plainFor_of_name pn_6) hisR ?_
  intro p e s m args below meth c s₁ Bd hml0 hP hK
  obtain ⟨rfl, hZ, hh, hCv⟩ := hP
  have hx := Bd.exec
  have hby := Bd.bytes
  have hml : c.maxLocals = 1 := hml0
  have hown : s.vm.findClass "com/example/vigilant_context/vigilantcontext/finding/LoadCost" = some m.cls := findClass_of_methodNamed Bd.named
  have hnm := (name_of_methodNamed Bd.named Bd.method).1
  have X0 : Stand p l e ({ frames := 6, cells := 16, slots := 1433, locals := 132 } : Room) s m #[(.ref a1)] below meth c s₁ [] 0 0 := Stand.of_body Bd
  have e0 : s₁.heap = h0 := by rw [← hh, Bd.state]; rfl
  have N0 := Fr.nil n0
  have hCr0 : CHr Z own_EL s.vm h0 s.vm h0 := CHr.refl hCv
  have pre0 : ∀ t, Steps p.tables e below (s₁.setTop (mkF m 0 #[vR a1] [])) t → Steps p.tables e below (s₁.setTop (entryFrame m #[(.ref a1)] 1)) t := fun t k => castTop (ef_11 m a1) k
  obtain ⟨T2, h2, X2, e2, E2, A2, D2, -, st2⟩ := newO X0 hx hZ hown (own_wi hw 60 rfl) (own_wi hw 61 rfl) (own_wi hw 62 rfl) e0 (g := (mkF m 0 #[vR a1] [])) rfl (hb hby d11_0) (by decide) (by decide)
  obtain ⟨b2, g2⟩ : ∃ z, z = h0.size := ⟨_, rfl⟩
  rw [← g2] at A2 D2 st2
  have ne_a1_b2 : a1 ≠ b2 := Nat.ne_of_lt (Nat.lt_of_lt_of_le E_a1.lt (Nat.le_of_eq g2.symm))
  have g_b2 : n0 ≤ b2 := Nat.le_trans Z0 (Nat.le_of_eq g2.symm)
  have sz_b2 : h0.size ≤ b2 := Nat.le_trans ((Keep.refl h0 [])).1 (Nat.le_of_eq g2.symm)
  have ch3 := hCr0.trans (CHr.ext E2 hCr0.1)
  have K2 : Keep h0 h2 [] := ((Keep.refl h0 [])).ext E2
  have Z2 : n0 ≤ h2.size := Nat.le_trans Z0 E2.1
  have F_value_b2 : Fld Z h2 b2 "java/lang/AbstractStringBuilder" "value" "[B" .null := D2 (Or.inl (own_wi hw 75 rfl)) (ty := (.array .byte)) (by decide)
  have F_coder_b2 : Fld Z h2 b2 "java/lang/AbstractStringBuilder" "coder" "B" (.int (0 : Int32)) := D2 (Or.inl (own_wi hw 77 rfl)) (ty := .byte) (by decide)
  have F_count_b2 : Fld Z h2 b2 "java/lang/AbstractStringBuilder" "count" "I" (.int (0 : Int32)) := D2 (Or.inl (own_wi hw 102 rfl)) (ty := .int) (by decide)
  obtain ⟨_, _, ⟨T4, L4, k4, n4⟩, -, X4, ⟨Lc4, hQ4, l4, y4, z4⟩, st4⟩ := X2.specialBack hx (y := (⟨"java/lang/StringBuilder", "<init>", "()V"⟩ : MethodName)) rfl hown (mvT hZ (own_wi hw 63 rfl)) (mvT hZ (own_wi hw 64 rfl)) (mvT hZ (own_wi hw 65 rfl)) (by decide) (backOf (W := 1) (rm12 l Z a0 hw [] b2 st_COMPACT_STRINGS h2 n0 Z2 A2 F_value_b2 F_coder_b2 F_count_b2 (S_COMPACT_STRINGS.ext E2) g_b2 hq4_7) hZ (own_wi hw 65 rfl) (own_wi hw 62 rfl) (by decide) (by decide)) (g := (mkF m 4 #[vR a1] [(.ref b2), (.ref b2)])) rfl (by rw [hml]; rfl) (Steps.refl _) (a := b2) (argsL := []) (rest := [(.ref b2)]) (lenOf pd_18 rfl) rfl (by show 2 * 0 + _ ≤ _; exact Nat.le_of_eq rfl) (hb hby d11_4) (fun _ _ => ⟨rfl, e2, (by decide : 1 + 1 ≤ _), (by decide : 4 + 16 ≤ _)⟩)
  dsimp only [Pt.U, Pt.locs, Pt.cells, Pt.slots] at X4 l4 y4 z4 st4 hQ4
  subst l4 y4 z4
  obtain ⟨x4_0, z4_0, rfl, N4q, K4q, f4_0, f4_1, f4_2, f4_3, f4_4, f4_5, f4_6⟩ := hQ4
  have ne_a1_z4_0 : a1 ≠ z4_0 := Nat.ne_of_lt (Nat.lt_of_lt_of_le (E_a1.ext E2).lt f4_0)
  have ne_b2_z4_0 : b2 ≠ z4_0 := Nat.ne_of_lt (Nat.lt_of_lt_of_le A2.lt f4_0)
  have g_z4_0 : n0 ≤ z4_0 := Nat.le_trans Z2 f4_0
  have sz_z4_0 : h0.size ≤ z4_0 := Nat.le_trans (K2).1 f4_0
  have al5 : ∀ x ∈ [b2], Safe Z own_EL s.vm h2 x := (allS (P := fun x => Safe Z own_EL s.vm h2 x) (Safe.exa (show Z.vm.Alike s.vm from hZ.alike) A2 (by decide) (by decide)) all0)
  have sf5_z4_0 := own_safeN K4q al5 ch3.1 f4_0
  have ch5 := ch3.trans (CHr.keep K4q al5 ch3.1)
  have y6 := ((F_sessions_a1.ext E2).keep K4q (ninS ne_a1_b2 nin0))
  have y7 := ((F_connections_a1.ext E2).keep K4q (ninS ne_a1_b2 nin0))
  have y8 := ((F_statements_a1.ext E2).keep K4q (ninS ne_a1_b2 nin0))
  have y9 := (own_StaKeep (S_COMPACT_STRINGS.ext E2) K4q (allS (P := fun x => ∃ D, Exa Z h2 x D) ⟨_, A2⟩ all0))
  have y10 := ((X00.ext E2).keep K4q (allS (P := fun x => n0 ≤ x) g_b2 all0))
  have K4 : Keep h0 T4.heap [] := (K2).trans K4q (allS (P := fun x => x ∈ [] ∨ h0.size ≤ x) (Or.inr sz_b2) all0)
  have Z4 : n0 ≤ T4.heap.size := Nat.le_trans Z2 K4q.1
  have N4 := Fr.app N0 N4q
  obtain ⟨lit11, T11, h11, kk11, tl11, kl11, X11, e11, E11, hS11, hk11, hZ11, hown11, f11E, f11C, f11V, f11A, -, -, hC11, -, hSf11, st11⟩ := ldcCH (s := s) (vm0 := s.vm) X4 hx hZ hown (own_wi hw 78 rfl) (own_sa hw) rfl ((State.WarmedH.refl s).since 0) (Nat.zero_le _) (own_EW hw) (EL := own_EL) (by decide) ch5.1 (vs := (own_lit "sessions=")) (z := (9 : Int32)) ⟨by decide +kernel, rfl⟩ (by decide) rfl (g := (mkF m 7 #[vR a1] [(.ref b2)])) rfl (hb hby d11_7) (n := 36) (by decide +kernel) (by decide) (by decide) (by decide)
  have sf11_z4_0 := hC11.safe f4_6.lt sf5_z4_0
  have ch11 := ch5.trans hC11
  have K11 : Keep h0 h11 [] := (K4).ext E11
  have Z11 : n0 ≤ h11.size := Nat.le_trans Z4 E11.1
  have nn11_a1 := hSf11 a1 (Safe.exa (show Z.vm.Alike T11.vm from hZ11.alike) (((E_a1.ext E2).keep K4q).ext E11) (by decide) (by decide))
  have nn11_z4_0 := hSf11 z4_0 sf11_z4_0
  have nn11_b2 := hSf11 b2 (Safe.exa (show Z.vm.Alike T11.vm from hZ11.alike) (f4_1.ext E11) (by decide) (by decide))
  obtain ⟨cq12, kq12, q12a, q12b, q12c⟩ := isOf hZ11 e11 (f4_1.ext E11)
  obtain ⟨_, _, ⟨T12, L12, k12, n12⟩, -, X12, ⟨Lc12, hQ12, l12, y12, z12⟩, st12⟩ := X11.virtualBack hx (y := (⟨"java/lang/StringBuilder", "append", "(Ljava/lang/String;)Ljava/lang/StringBuilder;"⟩ : MethodName)) (z := (⟨"java/lang/StringBuilder", "append", "(Ljava/lang/String;)Ljava/lang/StringBuilder;"⟩ : MethodName)) hown11 (mvT hZ11 (own_wi hw 81 rfl)) (mvT hZ11 (own_wi hw 82 rfl)) (notFace_of_selects (args := #[]) (mvT hZ11 (own_wi hw 84 rfl))) (mvT hZ11 (own_wi hw 84 rfl)) (mvT hZ11 (own_wi hw 83 rfl)) (by decide) (backOf (W := 0) (rm14 l Z a0 hw [] b2 lit11 z4_0 (0 : Int32) x4_0 (16 : Int32) [] tl11 kl11 (9 : Int32) (own_lit "sessions=") st_COMPACT_STRINGS h11 n0 Z11 (f4_1.ext E11) (f4_2.ext E11) (f4_3.ext E11) (f4_4.ext E11) (f4_6.ext E11) (f4_5.ext E11) f11E f11V f11C f11A (y9.ext E11) (show own_b94 ((0 : Int32) + (9 : Int32)) from own_cl_b94 (own_cl_add own_cl0 own_cl_1 (by decide)) (by decide)) (show own_b188 (16 : Int32) from ⟨by decide, by decide⟩) (show own_fit (16 : Int32) [] from by unfold own_fit; decide) (show own_len (0 : Int32) [] from own_cl_len own_cl0) (show own_len (9 : Int32) (own_lit "sessions=") from rfl) (show own_b94 (0 : Int32) from own_cl_b94 own_cl0 (by decide)) (show own_b94 (9 : Int32) from ⟨by decide, by decide⟩) g_b2 (Ne.symm ne_b2_z4_0) ne_b2_z4_0 (Ne.symm nn11_z4_0.1) (Ne.symm nn11_z4_0.2) (Ne.symm nn11_b2.1) (Ne.symm nn11_b2.2) g_z4_0 hq4_7) hZ11 (own_wi hw 85 rfl) (own_wi hw 62 rfl) (by decide) (by decide)) q12a q12c (g := (mkF m 9 #[vR a1] [(.ref lit11), (.ref b2)])) rfl (by rw [hml]; rfl) (Steps.refl _) (argsL := [(.ref lit11)]) (rest := []) (lenOf pd_19 rfl) rfl (by show 2 * 0 + _ ≤ _; exact Nat.le_of_eq rfl) (hb hby d11_9) (fun _ _ => ⟨rfl, e11, (by decide : 4 + 1 ≤ _), (by decide : 60 + 194 ≤ _)⟩)
  dsimp only [Pt.U, Pt.locs, Pt.cells, Pt.slots] at X12 l12 y12 z12 st12 hQ12
  subst l12 y12 z12
  obtain ⟨x12_0, x12_1, x12_2, rfl, N12q, K12q, f12_0, f12_1, f12_2, f12_3, f12_4, f12_5, p12_0, p12_1⟩ := hQ12
  have al13 : ∀ x ∈ [z4_0, b2], Safe Z own_EL T11.vm h11 x := (allS (P := fun x => Safe Z own_EL T11.vm h11 x) sf11_z4_0 (allS (P := fun x => Safe Z own_EL T11.vm h11 x) (Safe.exa (show Z.vm.Alike T11.vm from hZ11.alike) (f4_1.ext E11) (by decide) (by decide)) all0))
  have sf13_x12_0 := own_safeE K12q al13 ch11.1 p12_0 sf11_z4_0
  have ch13 := ch11.trans (CHr.keep K12q al13 ch11.1)
  have ne_a1_x12_0 : a1 ≠ x12_0 := own_eitherN p12_0 ne_a1_z4_0 (((E_a1.ext E2).keep K4q).ext E11).lt
  have ne_b2_x12_0 : b2 ≠ x12_0 := own_eitherN p12_0 ne_b2_z4_0 (f4_1.ext E11).lt
  have ne_lit11_x12_0 : lit11 ≠ x12_0 := own_eitherN p12_0 (Ne.symm nn11_z4_0.1) f11E.lt
  have ne_tl11_x12_0 : tl11 ≠ x12_0 := own_eitherN p12_0 (Ne.symm nn11_z4_0.2) f11A.lt
  have y14 := ((((E_a1.ext E2).keep K4q).ext E11).keep K12q)
  have y15 := ((y6.ext E11).keep K12q (ninS ne_a1_z4_0 (ninS ne_a1_b2 nin0)))
  have y16 := ((y7.ext E11).keep K12q (ninS ne_a1_z4_0 (ninS ne_a1_b2 nin0)))
  have y17 := ((y8.ext E11).keep K12q (ninS ne_a1_z4_0 (ninS ne_a1_b2 nin0)))
  have y18 := (own_StaKeep (y9.ext E11) K12q (allS (P := fun x => ∃ D, Exa Z h11 x D) ⟨_, (f4_5.ext E11)⟩ (allS (P := fun x => ∃ D, Exa Z h11 x D) ⟨_, (f4_1.ext E11)⟩ all0)))
  have y19 := ((y10.ext E11).keep K12q (allS (P := fun x => n0 ≤ x) g_z4_0 (allS (P := fun x => n0 ≤ x) g_b2 all0)))
  have y20 := (f11C.keep K12q (ninS (Ne.symm nn11_z4_0.1) (ninS (Ne.symm nn11_b2.1) nin0)))
  have y21 := (f11V.keep K12q (ninS (Ne.symm nn11_z4_0.1) (ninS (Ne.symm nn11_b2.1) nin0)))
  have y22 := (f11A.keep K12q (ninS (Ne.symm nn11_z4_0.2) (ninS (Ne.symm nn11_b2.2) nin0)))
  have K12 : Keep h0 T12.heap [] := (K11).trans K12q (allS (P := fun x => x ∈ [] ∨ h0.size ≤ x) (Or.inr sz_z4_0) (allS (P := fun x => x ∈ [] ∨ h0.size ≤ x) (Or.inr sz_b2) all0))
  have Z12 : n0 ≤ T12.heap.size := Nat.le_trans Z11 K12q.1
  have N12 := Fr.app N4 N12q
  obtain ⟨T23, X23, e23, st23⟩ := getF X12 hx hZ11 hown11 (host := "") (Or.inl (own_wi hw 49 rfl)) Via.refl rfl y15 (g := (mkF m 13 #[vR a1] [(.ref a1), (.ref b2)])) rfl rfl (hb hby d11_13)
  obtain ⟨cq24, kq24, q24a, q24b, q24c⟩ := isOf hZ11 e23 f12_0
  obtain ⟨_, _, ⟨T24, L24, k24, n24⟩, -, X24, ⟨Lc24, hQ24, l24, y24, z24⟩, st24⟩ := X23.virtualBack hx (y := (⟨"java/lang/StringBuilder", "append", "(J)Ljava/lang/StringBuilder;"⟩ : MethodName)) (z := (⟨"java/lang/StringBuilder", "append", "(J)Ljava/lang/StringBuilder;"⟩ : MethodName)) hown11 (mvT hZ11 (own_wi hw 128 rfl)) (mvT hZ11 (own_wi hw 129 rfl)) (notFace_of_selects (args := #[]) (mvT hZ11 (own_wi hw 131 rfl))) (mvT hZ11 (own_wi hw 131 rfl)) (mvT hZ11 (own_wi hw 130 rfl)) (by decide) (backOf (W := 0) (rm22 l Z a0 hw [] b2 w_sessions_a1 x12_0 ((0 : Int32) + (9 : Int32)) x12_1 x12_2 ([] ++ (own_lit "sessions=")) st_COMPACT_STRINGS T12.heap n0 Z12 f12_0 f12_1 f12_2 f12_3 f12_5 f12_4 y18 y19 hDg (show own_b94 (((0 : Int32) + (9 : Int32)) + (own_size w_sessions_a1)) from own_cl_b94 (own_cl_add (own_cl_add own_cl0 own_cl_1 (by decide)) (own_clj w_sessions_a1) (by decide)) (by decide)) (show own_b188 x12_2 from own_b188_of (own_cl_add own_cl0 own_cl_1 (by decide)) p12_1) (show own_fit x12_2 ([] ++ (own_lit "sessions=")) from own_fit_of (own_cl_add own_cl0 own_cl_1 (by decide)) p12_1) (show own_len ((0 : Int32) + (9 : Int32)) ([] ++ (own_lit "sessions=")) from own_cl_len (own_cl_add own_cl0 own_cl_1 (by decide))) (show own_b94 ((0 : Int32) + (9 : Int32)) from own_cl_b94 (own_cl_add own_cl0 own_cl_1 (by decide)) (by decide)) g_b2 (Ne.symm ne_b2_x12_0) ne_b2_x12_0 (own_eitherG (p12_0.imp id (Nat.le_trans (K11).1)) g_z4_0 Z0) hq4_7) hZ11 (own_wi hw 132 rfl) (own_wi hw 62 rfl) (by decide) (by decide)) q24a q24c (g := (mkF m 16 #[vR a1] [(.long w_sessions_a1), (.ref b2)])) rfl (by rw [hml]; rfl) (Steps.refl _) (argsL := [(.long w_sessions_a1)]) (rest := []) (lenOf pd_20 rfl) rfl (by show 2 * 0 + _ ≤ _; exact Nat.le_of_eq rfl) (hb hby d11_16) (fun _ _ => ⟨rfl, e23, (by decide : 5 + 1 ≤ _), (by decide : 254 + 194 ≤ _)⟩)
  dsimp only [Pt.U, Pt.locs, Pt.cells, Pt.slots] at X24 l24 y24 z24 st24 hQ24
  subst l24 y24 z24
  obtain ⟨x24_0, x24_1, x24_2, rfl, N24q, K24q, f24_0, f24_1, f24_2, f24_3, f24_4, f24_5, p24_0, p24_1⟩ := hQ24
  have al25 : ∀ x ∈ [x12_0, b2], Safe Z own_EL T11.vm T12.heap x := (allS (P := fun x => Safe Z own_EL T11.vm T12.heap x) sf13_x12_0 (allS (P := fun x => Safe Z own_EL T11.vm T12.heap x) (Safe.exa (show Z.vm.Alike T11.vm from hZ11.alike) f12_0 (by decide) (by decide)) all0))
  have sf25_x24_0 := own_safeE K24q al25 ch13.1 p24_0 sf13_x12_0
  have ch25 := ch13.trans (CHr.keep K24q al25 ch13.1)
  have ne_a1_x24_0 : a1 ≠ x24_0 := own_eitherN p24_0 ne_a1_x12_0 y14.lt
  have ne_b2_x24_0 : b2 ≠ x24_0 := own_eitherN p24_0 ne_b2_x12_0 f12_0.lt
  have y26 := (y15.keep K24q (ninS ne_a1_x12_0 (ninS ne_a1_b2 nin0)))
  have y27 := (y16.keep K24q (ninS ne_a1_x12_0 (ninS ne_a1_b2 nin0)))
  have y28 := (y17.keep K24q (ninS ne_a1_x12_0 (ninS ne_a1_b2 nin0)))
  have y29 := (own_StaKeep y18 K24q (allS (P := fun x => ∃ D, Exa Z T12.heap x D) ⟨_, f12_4⟩ (allS (P := fun x => ∃ D, Exa Z T12.heap x D) ⟨_, f12_0⟩ all0)))
  have y30 := (y19.keep K24q (allS (P := fun x => n0 ≤ x) (own_eitherG (p12_0.imp id (Nat.le_trans (K11).1)) g_z4_0 Z0) (allS (P := fun x => n0 ≤ x) g_b2 all0)))
  have K24 : Keep h0 T24.heap [] := (K12).trans K24q (allS (P := fun x => x ∈ [] ∨ h0.size ≤ x) (own_either (p12_0.imp id (Nat.le_trans (K11).1)) (Or.inr sz_z4_0)) (allS (P := fun x => x ∈ [] ∨ h0.size ≤ x) (Or.inr sz_b2) all0))
  have Z24 : n0 ≤ T24.heap.size := Nat.le_trans Z12 K24q.1
  have N24 := Fr.app N12 N24q
  obtain ⟨lit31, T31, h31, kk31, tl31, kl31, X31, e31, E31, hS31, hk31, hZ31, hown31, f31E, f31C, f31V, f31A, -, -, hC31, -, hSf31, st31⟩ := ldcCH X24 hx hZ11 hown11 (own_wi hw 153 rfl) (own_sa hw) rfl hS11 (Nat.le_trans (Nat.le_trans hk11 K12q.1) K24q.1) (own_EW hw) (EL := own_EL) (by decide) ch25.1 (vs := (own_lit " connections=")) (z := (13 : Int32)) ⟨by decide +kernel, rfl⟩ (by decide) rfl (g := (mkF m 19 #[vR a1] [(.ref b2)])) rfl (hb hby d11_19) (n := 52) (by decide +kernel) (by decide) (by decide) (by decide)
  have sf31_x24_0 := hC31.safe f24_5.lt sf25_x24_0
  have ch31 := ch25.trans hC31
  have K31 : Keep h0 h31 [] := (K24).ext E31
  have Z31 : n0 ≤ h31.size := Nat.le_trans Z24 E31.1
  have nn31_a1 := hSf31 a1 (Safe.exa (show Z.vm.Alike T31.vm from hZ31.alike) ((y14.keep K24q).ext E31) (by decide) (by decide))
  have nn31_b2 := hSf31 b2 (Safe.exa (show Z.vm.Alike T31.vm from hZ31.alike) (f24_0.ext E31) (by decide) (by decide))
  have nn31_x24_0 := hSf31 x24_0 sf31_x24_0
  obtain ⟨cq32, kq32, q32a, q32b, q32c⟩ := isOf hZ31 e31 (f24_0.ext E31)
  obtain ⟨_, _, ⟨T32, L32, k32, n32⟩, -, X32, ⟨Lc32, hQ32, l32, y32, z32⟩, st32⟩ := X31.virtualBack hx (y := (⟨"java/lang/StringBuilder", "append", "(Ljava/lang/String;)Ljava/lang/StringBuilder;"⟩ : MethodName)) (z := (⟨"java/lang/StringBuilder", "append", "(Ljava/lang/String;)Ljava/lang/StringBuilder;"⟩ : MethodName)) hown31 (mvT hZ31 (own_wi hw 81 rfl)) (mvT hZ31 (own_wi hw 82 rfl)) (notFace_of_selects (args := #[]) (mvT hZ31 (own_wi hw 84 rfl))) (mvT hZ31 (own_wi hw 84 rfl)) (mvT hZ31 (own_wi hw 83 rfl)) (by decide) (backOf (W := 0) (rm14 l Z a0 hw [] b2 lit31 x24_0 (((0 : Int32) + (9 : Int32)) + (own_size w_sessions_a1)) x24_1 x24_2 (([] ++ (own_lit "sessions=")) ++ own_dec w_sessions_a1) tl31 kl31 (13 : Int32) (own_lit " connections=") st_COMPACT_STRINGS h31 n0 Z31 (f24_0.ext E31) (f24_1.ext E31) (f24_2.ext E31) (f24_3.ext E31) (f24_5.ext E31) (f24_4.ext E31) f31E f31V f31C f31A (y29.ext E31) (show own_b94 ((((0 : Int32) + (9 : Int32)) + (own_size w_sessions_a1)) + (13 : Int32)) from own_cl_b94 (own_cl_add (own_cl_add (own_cl_add own_cl0 own_cl_1 (by decide)) (own_clj w_sessions_a1) (by decide)) own_cl_2 (by decide)) (by decide)) (show own_b188 x24_2 from own_b188_of (own_cl_add (own_cl_add own_cl0 own_cl_1 (by decide)) (own_clj w_sessions_a1) (by decide)) p24_1) (show own_fit x24_2 (([] ++ (own_lit "sessions=")) ++ own_dec w_sessions_a1) from own_fit_of (own_cl_add (own_cl_add own_cl0 own_cl_1 (by decide)) (own_clj w_sessions_a1) (by decide)) p24_1) (show own_len (((0 : Int32) + (9 : Int32)) + (own_size w_sessions_a1)) (([] ++ (own_lit "sessions=")) ++ own_dec w_sessions_a1) from own_cl_len (own_cl_add (own_cl_add own_cl0 own_cl_1 (by decide)) (own_clj w_sessions_a1) (by decide))) (show own_len (13 : Int32) (own_lit " connections=") from rfl) (show own_b94 (((0 : Int32) + (9 : Int32)) + (own_size w_sessions_a1)) from own_cl_b94 (own_cl_add (own_cl_add own_cl0 own_cl_1 (by decide)) (own_clj w_sessions_a1) (by decide)) (by decide)) (show own_b94 (13 : Int32) from ⟨by decide, by decide⟩) g_b2 (Ne.symm ne_b2_x24_0) ne_b2_x24_0 (Ne.symm nn31_x24_0.1) (Ne.symm nn31_x24_0.2) (Ne.symm nn31_b2.1) (Ne.symm nn31_b2.2) (own_eitherG (p24_0.imp id (Nat.le_trans (K12).1)) (own_eitherG (p12_0.imp id (Nat.le_trans (K11).1)) g_z4_0 Z0) Z0) hq4_7) hZ31 (own_wi hw 85 rfl) (own_wi hw 62 rfl) (by decide) (by decide)) q32a q32c (g := (mkF m 21 #[vR a1] [(.ref lit31), (.ref b2)])) rfl (by rw [hml]; rfl) (Steps.refl _) (argsL := [(.ref lit31)]) (rest := []) (lenOf pd_19 rfl) rfl (by show 2 * 0 + _ ≤ _; exact Nat.le_of_eq rfl) (hb hby d11_21) (fun _ _ => ⟨rfl, e31, (by decide : 8 + 1 ≤ _), (by decide : 504 + 194 ≤ _)⟩)
  dsimp only [Pt.U, Pt.locs, Pt.cells, Pt.slots] at X32 l32 y32 z32 st32 hQ32
  subst l32 y32 z32
  obtain ⟨x32_0, x32_1, x32_2, rfl, N32q, K32q, f32_0, f32_1, f32_2, f32_3, f32_4, f32_5, p32_0, p32_1⟩ := hQ32
  have al33 : ∀ x ∈ [x24_0, b2], Safe Z own_EL T31.vm h31 x := (allS (P := fun x => Safe Z own_EL T31.vm h31 x) sf31_x24_0 (allS (P := fun x => Safe Z own_EL T31.vm h31 x) (Safe.exa (show Z.vm.Alike T31.vm from hZ31.alike) (f24_0.ext E31) (by decide) (by decide)) all0))
  have sf33_x32_0 := own_safeE K32q al33 ch31.1 p32_0 sf31_x24_0
  have ch33 := ch31.trans (CHr.keep K32q al33 ch31.1)
  have ne_a1_x32_0 : a1 ≠ x32_0 := own_eitherN p32_0 ne_a1_x24_0 ((y14.keep K24q).ext E31).lt
  have ne_b2_x32_0 : b2 ≠ x32_0 := own_eitherN p32_0 ne_b2_x24_0 (f24_0.ext E31).lt
  have ne_lit31_x32_0 : lit31 ≠ x32_0 := own_eitherN p32_0 (Ne.symm nn31_x24_0.1) f31E.lt
  have ne_tl31_x32_0 : tl31 ≠ x32_0 := own_eitherN p32_0 (Ne.symm nn31_x24_0.2) f31A.lt
  have y34 := ((y26.ext E31).keep K32q (ninS ne_a1_x24_0 (ninS ne_a1_b2 nin0)))
  have y35 := ((y27.ext E31).keep K32q (ninS ne_a1_x24_0 (ninS ne_a1_b2 nin0)))
  have y36 := ((y28.ext E31).keep K32q (ninS ne_a1_x24_0 (ninS ne_a1_b2 nin0)))
  have y37 := (own_StaKeep (y29.ext E31) K32q (allS (P := fun x => ∃ D, Exa Z h31 x D) ⟨_, (f24_4.ext E31)⟩ (allS (P := fun x => ∃ D, Exa Z h31 x D) ⟨_, (f24_0.ext E31)⟩ all0)))
  have y38 := ((y30.ext E31).keep K32q (allS (P := fun x => n0 ≤ x) (own_eitherG (p24_0.imp id (Nat.le_trans (K12).1)) (own_eitherG (p12_0.imp id (Nat.le_trans (K11).1)) g_z4_0 Z0) Z0) (allS (P := fun x => n0 ≤ x) g_b2 all0)))
  have y39 := (f31C.keep K32q (ninS (Ne.symm nn31_x24_0.1) (ninS (Ne.symm nn31_b2.1) nin0)))
  have y40 := (f31V.keep K32q (ninS (Ne.symm nn31_x24_0.1) (ninS (Ne.symm nn31_b2.1) nin0)))
  have y41 := (f31A.keep K32q (ninS (Ne.symm nn31_x24_0.2) (ninS (Ne.symm nn31_b2.2) nin0)))
  have K32 : Keep h0 T32.heap [] := (K31).trans K32q (allS (P := fun x => x ∈ [] ∨ h0.size ≤ x) (own_either (p24_0.imp id (Nat.le_trans (K12).1)) (own_either (p12_0.imp id (Nat.le_trans (K11).1)) (Or.inr sz_z4_0))) (allS (P := fun x => x ∈ [] ∨ h0.size ≤ x) (Or.inr sz_b2) all0))
  have Z32 : n0 ≤ T32.heap.size := Nat.le_trans Z31 K32q.1
  have N32 := Fr.app N24 N32q
  obtain ⟨T42, X42, e42, st42⟩ := getF X32 hx hZ31 hown31 (host := "") (Or.inl (own_wi hw 51 rfl)) Via.refl rfl y35 (g := (mkF m 25 #[vR a1] [(.ref a1), (.ref b2)])) rfl rfl (hb hby d11_25)
  obtain ⟨cq43, kq43, q43a, q43b, q43c⟩ := isOf hZ31 e42 f32_0
  obtain ⟨_, _, ⟨T43, L43, k43, n43⟩, -, X43, ⟨Lc43, hQ43, l43, y43, z43⟩, st43⟩ := X42.virtualBack hx (y := (⟨"java/lang/StringBuilder", "append", "(J)Ljava/lang/StringBuilder;"⟩ : MethodName)) (z := (⟨"java/lang/StringBuilder", "append", "(J)Ljava/lang/StringBuilder;"⟩ : MethodName)) hown31 (mvT hZ31 (own_wi hw 128 rfl)) (mvT hZ31 (own_wi hw 129 rfl)) (notFace_of_selects (args := #[]) (mvT hZ31 (own_wi hw 131 rfl))) (mvT hZ31 (own_wi hw 131 rfl)) (mvT hZ31 (own_wi hw 130 rfl)) (by decide) (backOf (W := 0) (rm22 l Z a0 hw [] b2 w_connections_a1 x32_0 ((((0 : Int32) + (9 : Int32)) + (own_size w_sessions_a1)) + (13 : Int32)) x32_1 x32_2 ((([] ++ (own_lit "sessions=")) ++ own_dec w_sessions_a1) ++ (own_lit " connections=")) st_COMPACT_STRINGS T32.heap n0 Z32 f32_0 f32_1 f32_2 f32_3 f32_5 f32_4 y37 y38 hDg (show own_b94 (((((0 : Int32) + (9 : Int32)) + (own_size w_sessions_a1)) + (13 : Int32)) + (own_size w_connections_a1)) from own_cl_b94 (own_cl_add (own_cl_add (own_cl_add (own_cl_add own_cl0 own_cl_1 (by decide)) (own_clj w_sessions_a1) (by decide)) own_cl_2 (by decide)) (own_clj w_connections_a1) (by decide)) (by decide)) (show own_b188 x32_2 from own_b188_of (own_cl_add (own_cl_add (own_cl_add own_cl0 own_cl_1 (by decide)) (own_clj w_sessions_a1) (by decide)) own_cl_2 (by decide)) p32_1) (show own_fit x32_2 ((([] ++ (own_lit "sessions=")) ++ own_dec w_sessions_a1) ++ (own_lit " connections=")) from own_fit_of (own_cl_add (own_cl_add (own_cl_add own_cl0 own_cl_1 (by decide)) (own_clj w_sessions_a1) (by decide)) own_cl_2 (by decide)) p32_1) (show own_len ((((0 : Int32) + (9 : Int32)) + (own_size w_sessions_a1)) + (13 : Int32)) ((([] ++ (own_lit "sessions=")) ++ own_dec w_sessions_a1) ++ (own_lit " connections=")) from own_cl_len (own_cl_add (own_cl_add (own_cl_add own_cl0 own_cl_1 (by decide)) (own_clj w_sessions_a1) (by decide)) own_cl_2 (by decide))) (show own_b94 ((((0 : Int32) + (9 : Int32)) + (own_size w_sessions_a1)) + (13 : Int32)) from own_cl_b94 (own_cl_add (own_cl_add (own_cl_add own_cl0 own_cl_1 (by decide)) (own_clj w_sessions_a1) (by decide)) own_cl_2 (by decide)) (by decide)) g_b2 (Ne.symm ne_b2_x32_0) ne_b2_x32_0 (own_eitherG (p32_0.imp id (Nat.le_trans (K31).1)) (own_eitherG (p24_0.imp id (Nat.le_trans (K12).1)) (own_eitherG (p12_0.imp id (Nat.le_trans (K11).1)) g_z4_0 Z0) Z0) Z0) hq4_7) hZ31 (own_wi hw 132 rfl) (own_wi hw 62 rfl) (by decide) (by decide)) q43a q43c (g := (mkF m 28 #[vR a1] [(.long w_connections_a1), (.ref b2)])) rfl (by rw [hml]; rfl) (Steps.refl _) (argsL := [(.long w_connections_a1)]) (rest := []) (lenOf pd_20 rfl) rfl (by show 2 * 0 + _ ≤ _; exact Nat.le_of_eq rfl) (hb hby d11_28) (fun _ _ => ⟨rfl, e42, (by decide : 9 + 1 ≤ _), (by decide : 698 + 194 ≤ _)⟩)
  dsimp only [Pt.U, Pt.locs, Pt.cells, Pt.slots] at X43 l43 y43 z43 st43 hQ43
  subst l43 y43 z43
  obtain ⟨x43_0, x43_1, x43_2, rfl, N43q, K43q, f43_0, f43_1, f43_2, f43_3, f43_4, f43_5, p43_0, p43_1⟩ := hQ43
  have al44 : ∀ x ∈ [x32_0, b2], Safe Z own_EL T31.vm T32.heap x := (allS (P := fun x => Safe Z own_EL T31.vm T32.heap x) sf33_x32_0 (allS (P := fun x => Safe Z own_EL T31.vm T32.heap x) (Safe.exa (show Z.vm.Alike T31.vm from hZ31.alike) f32_0 (by decide) (by decide)) all0))
  have sf44_x43_0 := own_safeE K43q al44 ch33.1 p43_0 sf33_x32_0
  have ch44 := ch33.trans (CHr.keep K43q al44 ch33.1)
  have ne_a1_x43_0 : a1 ≠ x43_0 := own_eitherN p43_0 ne_a1_x32_0 (((y14.keep K24q).ext E31).keep K32q).lt
  have ne_b2_x43_0 : b2 ≠ x43_0 := own_eitherN p43_0 ne_b2_x32_0 f32_0.lt
  have y45 := ((((y14.keep K24q).ext E31).keep K32q).keep K43q)
  have y46 := (y34.keep K43q (ninS ne_a1_x32_0 (ninS ne_a1_b2 nin0)))
  have y47 := (y35.keep K43q (ninS ne_a1_x32_0 (ninS ne_a1_b2 nin0)))
  have y48 := (y36.keep K43q (ninS ne_a1_x32_0 (ninS ne_a1_b2 nin0)))
  have y49 := (own_StaKeep y37 K43q (allS (P := fun x => ∃ D, Exa Z T32.heap x D) ⟨_, f32_4⟩ (allS (P := fun x => ∃ D, Exa Z T32.heap x D) ⟨_, f32_0⟩ all0)))
  have y50 := (y38.keep K43q (allS (P := fun x => n0 ≤ x) (own_eitherG (p32_0.imp id (Nat.le_trans (K31).1)) (own_eitherG (p24_0.imp id (Nat.le_trans (K12).1)) (own_eitherG (p12_0.imp id (Nat.le_trans (K11).1)) g_z4_0 Z0) Z0) Z0) (allS (P := fun x => n0 ≤ x) g_b2 all0)))
  have K43 : Keep h0 T43.heap [] := (K32).trans K43q (allS (P := fun x => x ∈ [] ∨ h0.size ≤ x) (own_either (p32_0.imp id (Nat.le_trans (K31).1)) (own_either (p24_0.imp id (Nat.le_trans (K12).1)) (own_either (p12_0.imp id (Nat.le_trans (K11).1)) (Or.inr sz_z4_0)))) (allS (P := fun x => x ∈ [] ∨ h0.size ≤ x) (Or.inr sz_b2) all0))
  have Z43 : n0 ≤ T43.heap.size := Nat.le_trans Z32 K43q.1
  have N43 := Fr.app N32 N43q
  obtain ⟨lit51, T51, h51, kk51, tl51, kl51, X51, e51, E51, hS51, hk51, hZ51, hown51, f51E, f51C, f51V, f51A, -, -, hC51, -, hSf51, st51⟩ := ldcCH X43 hx hZ31 hown31 (own_wi hw 177 rfl) (own_sa hw) rfl hS31 (Nat.le_trans (Nat.le_trans hk31 K32q.1) K43q.1) (own_EW hw) (EL := own_EL) (by decide) ch44.1 (vs := (own_lit " statements=")) (z := (12 : Int32)) ⟨by decide +kernel, rfl⟩ (by decide) rfl (g := (mkF m 31 #[vR a1] [(.ref b2)])) rfl (hb hby d11_31) (n := 48) (by decide +kernel) (by decide) (by decide) (by decide)
  have sf51_x43_0 := hC51.safe f43_5.lt sf44_x43_0
  have ch51 := ch44.trans hC51
  have K51 : Keep h0 h51 [] := (K43).ext E51
  have Z51 : n0 ≤ h51.size := Nat.le_trans Z43 E51.1
  have nn51_a1 := hSf51 a1 (Safe.exa (show Z.vm.Alike T51.vm from hZ51.alike) (y45.ext E51) (by decide) (by decide))
  have nn51_b2 := hSf51 b2 (Safe.exa (show Z.vm.Alike T51.vm from hZ51.alike) (f43_0.ext E51) (by decide) (by decide))
  have nn51_x43_0 := hSf51 x43_0 sf51_x43_0
  obtain ⟨cq52, kq52, q52a, q52b, q52c⟩ := isOf hZ51 e51 (f43_0.ext E51)
  obtain ⟨_, _, ⟨T52, L52, k52, n52⟩, -, X52, ⟨Lc52, hQ52, l52, y52, z52⟩, st52⟩ := X51.virtualBack hx (y := (⟨"java/lang/StringBuilder", "append", "(Ljava/lang/String;)Ljava/lang/StringBuilder;"⟩ : MethodName)) (z := (⟨"java/lang/StringBuilder", "append", "(Ljava/lang/String;)Ljava/lang/StringBuilder;"⟩ : MethodName)) hown51 (mvT hZ51 (own_wi hw 81 rfl)) (mvT hZ51 (own_wi hw 82 rfl)) (notFace_of_selects (args := #[]) (mvT hZ51 (own_wi hw 84 rfl))) (mvT hZ51 (own_wi hw 84 rfl)) (mvT hZ51 (own_wi hw 83 rfl)) (by decide) (backOf (W := 0) (rm14 l Z a0 hw [] b2 lit51 x43_0 (((((0 : Int32) + (9 : Int32)) + (own_size w_sessions_a1)) + (13 : Int32)) + (own_size w_connections_a1)) x43_1 x43_2 (((([] ++ (own_lit "sessions=")) ++ own_dec w_sessions_a1) ++ (own_lit " connections=")) ++ own_dec w_connections_a1) tl51 kl51 (12 : Int32) (own_lit " statements=") st_COMPACT_STRINGS h51 n0 Z51 (f43_0.ext E51) (f43_1.ext E51) (f43_2.ext E51) (f43_3.ext E51) (f43_5.ext E51) (f43_4.ext E51) f51E f51V f51C f51A (y49.ext E51) (show own_b94 ((((((0 : Int32) + (9 : Int32)) + (own_size w_sessions_a1)) + (13 : Int32)) + (own_size w_connections_a1)) + (12 : Int32)) from own_cl_b94 (own_cl_add (own_cl_add (own_cl_add (own_cl_add (own_cl_add own_cl0 own_cl_1 (by decide)) (own_clj w_sessions_a1) (by decide)) own_cl_2 (by decide)) (own_clj w_connections_a1) (by decide)) own_cl_3 (by decide)) (by decide)) (show own_b188 x43_2 from own_b188_of (own_cl_add (own_cl_add (own_cl_add (own_cl_add own_cl0 own_cl_1 (by decide)) (own_clj w_sessions_a1) (by decide)) own_cl_2 (by decide)) (own_clj w_connections_a1) (by decide)) p43_1) (show own_fit x43_2 (((([] ++ (own_lit "sessions=")) ++ own_dec w_sessions_a1) ++ (own_lit " connections=")) ++ own_dec w_connections_a1) from own_fit_of (own_cl_add (own_cl_add (own_cl_add (own_cl_add own_cl0 own_cl_1 (by decide)) (own_clj w_sessions_a1) (by decide)) own_cl_2 (by decide)) (own_clj w_connections_a1) (by decide)) p43_1) (show own_len (((((0 : Int32) + (9 : Int32)) + (own_size w_sessions_a1)) + (13 : Int32)) + (own_size w_connections_a1)) (((([] ++ (own_lit "sessions=")) ++ own_dec w_sessions_a1) ++ (own_lit " connections=")) ++ own_dec w_connections_a1) from own_cl_len (own_cl_add (own_cl_add (own_cl_add (own_cl_add own_cl0 own_cl_1 (by decide)) (own_clj w_sessions_a1) (by decide)) own_cl_2 (by decide)) (own_clj w_connections_a1) (by decide))) (show own_len (12 : Int32) (own_lit " statements=") from rfl) (show own_b94 (((((0 : Int32) + (9 : Int32)) + (own_size w_sessions_a1)) + (13 : Int32)) + (own_size w_connections_a1)) from own_cl_b94 (own_cl_add (own_cl_add (own_cl_add (own_cl_add own_cl0 own_cl_1 (by decide)) (own_clj w_sessions_a1) (by decide)) own_cl_2 (by decide)) (own_clj w_connections_a1) (by decide)) (by decide)) (show own_b94 (12 : Int32) from ⟨by decide, by decide⟩) g_b2 (Ne.symm ne_b2_x43_0) ne_b2_x43_0 (Ne.symm nn51_x43_0.1) (Ne.symm nn51_x43_0.2) (Ne.symm nn51_b2.1) (Ne.symm nn51_b2.2) (own_eitherG (p43_0.imp id (Nat.le_trans (K32).1)) (own_eitherG (p32_0.imp id (Nat.le_trans (K31).1)) (own_eitherG (p24_0.imp id (Nat.le_trans (K12).1)) (own_eitherG (p12_0.imp id (Nat.le_trans (K11).1)) g_z4_0 Z0) Z0) Z0) Z0) hq4_7) hZ51 (own_wi hw 85 rfl) (own_wi hw 62 rfl) (by decide) (by decide)) q52a q52c (g := (mkF m 33 #[vR a1] [(.ref lit51), (.ref b2)])) rfl (by rw [hml]; rfl) (Steps.refl _) (argsL := [(.ref lit51)]) (rest := []) (lenOf pd_19 rfl) rfl (by show 2 * 0 + _ ≤ _; exact Nat.le_of_eq rfl) (hb hby d11_33) (fun _ _ => ⟨rfl, e51, (by decide : 12 + 1 ≤ _), (by decide : 944 + 194 ≤ _)⟩)
  dsimp only [Pt.U, Pt.locs, Pt.cells, Pt.slots] at X52 l52 y52 z52 st52 hQ52
  subst l52 y52 z52
  obtain ⟨x52_0, x52_1, x52_2, rfl, N52q, K52q, f52_0, f52_1, f52_2, f52_3, f52_4, f52_5, p52_0, p52_1⟩ := hQ52
  have al53 : ∀ x ∈ [x43_0, b2], Safe Z own_EL T51.vm h51 x := (allS (P := fun x => Safe Z own_EL T51.vm h51 x) sf51_x43_0 (allS (P := fun x => Safe Z own_EL T51.vm h51 x) (Safe.exa (show Z.vm.Alike T51.vm from hZ51.alike) (f43_0.ext E51) (by decide) (by decide)) all0))
  have sf53_x52_0 := own_safeE K52q al53 ch51.1 p52_0 sf51_x43_0
  have ch53 := ch51.trans (CHr.keep K52q al53 ch51.1)
  have ne_a1_x52_0 : a1 ≠ x52_0 := own_eitherN p52_0 ne_a1_x43_0 (y45.ext E51).lt
  have ne_b2_x52_0 : b2 ≠ x52_0 := own_eitherN p52_0 ne_b2_x43_0 (f43_0.ext E51).lt
  have ne_lit51_x52_0 : lit51 ≠ x52_0 := own_eitherN p52_0 (Ne.symm nn51_x43_0.1) f51E.lt
  have ne_tl51_x52_0 : tl51 ≠ x52_0 := own_eitherN p52_0 (Ne.symm nn51_x43_0.2) f51A.lt
  have y54 := ((y46.ext E51).keep K52q (ninS ne_a1_x43_0 (ninS ne_a1_b2 nin0)))
  have y55 := ((y47.ext E51).keep K52q (ninS ne_a1_x43_0 (ninS ne_a1_b2 nin0)))
  have y56 := ((y48.ext E51).keep K52q (ninS ne_a1_x43_0 (ninS ne_a1_b2 nin0)))
  have y57 := (own_StaKeep (y49.ext E51) K52q (allS (P := fun x => ∃ D, Exa Z h51 x D) ⟨_, (f43_4.ext E51)⟩ (allS (P := fun x => ∃ D, Exa Z h51 x D) ⟨_, (f43_0.ext E51)⟩ all0)))
  have y58 := ((y50.ext E51).keep K52q (allS (P := fun x => n0 ≤ x) (own_eitherG (p43_0.imp id (Nat.le_trans (K32).1)) (own_eitherG (p32_0.imp id (Nat.le_trans (K31).1)) (own_eitherG (p24_0.imp id (Nat.le_trans (K12).1)) (own_eitherG (p12_0.imp id (Nat.le_trans (K11).1)) g_z4_0 Z0) Z0) Z0) Z0) (allS (P := fun x => n0 ≤ x) g_b2 all0)))
  have y59 := (f51C.keep K52q (ninS (Ne.symm nn51_x43_0.1) (ninS (Ne.symm nn51_b2.1) nin0)))
  have y60 := (f51V.keep K52q (ninS (Ne.symm nn51_x43_0.1) (ninS (Ne.symm nn51_b2.1) nin0)))
  have y61 := (f51A.keep K52q (ninS (Ne.symm nn51_x43_0.2) (ninS (Ne.symm nn51_b2.2) nin0)))
  have K52 : Keep h0 T52.heap [] := (K51).trans K52q (allS (P := fun x => x ∈ [] ∨ h0.size ≤ x) (own_either (p43_0.imp id (Nat.le_trans (K32).1)) (own_either (p32_0.imp id (Nat.le_trans (K31).1)) (own_either (p24_0.imp id (Nat.le_trans (K12).1)) (own_either (p12_0.imp id (Nat.le_trans (K11).1)) (Or.inr sz_z4_0))))) (allS (P := fun x => x ∈ [] ∨ h0.size ≤ x) (Or.inr sz_b2) all0))
  have Z52 : n0 ≤ T52.heap.size := Nat.le_trans Z51 K52q.1
  have N52 := Fr.app N43 N52q
  obtain ⟨T62, X62, e62, st62⟩ := getF X52 hx hZ51 hown51 (host := "") (Or.inl (own_wi hw 53 rfl)) Via.refl rfl y56 (g := (mkF m 37 #[vR a1] [(.ref a1), (.ref b2)])) rfl rfl (hb hby d11_37)
  obtain ⟨cq63, kq63, q63a, q63b, q63c⟩ := isOf hZ51 e62 f52_0
  obtain ⟨_, _, ⟨T63, L63, k63, n63⟩, -, X63, ⟨Lc63, hQ63, l63, y63, z63⟩, st63⟩ := X62.virtualBack hx (y := (⟨"java/lang/StringBuilder", "append", "(J)Ljava/lang/StringBuilder;"⟩ : MethodName)) (z := (⟨"java/lang/StringBuilder", "append", "(J)Ljava/lang/StringBuilder;"⟩ : MethodName)) hown51 (mvT hZ51 (own_wi hw 128 rfl)) (mvT hZ51 (own_wi hw 129 rfl)) (notFace_of_selects (args := #[]) (mvT hZ51 (own_wi hw 131 rfl))) (mvT hZ51 (own_wi hw 131 rfl)) (mvT hZ51 (own_wi hw 130 rfl)) (by decide) (backOf (W := 0) (rm22 l Z a0 hw [] b2 w_statements_a1 x52_0 ((((((0 : Int32) + (9 : Int32)) + (own_size w_sessions_a1)) + (13 : Int32)) + (own_size w_connections_a1)) + (12 : Int32)) x52_1 x52_2 ((((([] ++ (own_lit "sessions=")) ++ own_dec w_sessions_a1) ++ (own_lit " connections=")) ++ own_dec w_connections_a1) ++ (own_lit " statements=")) st_COMPACT_STRINGS T52.heap n0 Z52 f52_0 f52_1 f52_2 f52_3 f52_5 f52_4 y57 y58 hDg (show own_b94 (((((((0 : Int32) + (9 : Int32)) + (own_size w_sessions_a1)) + (13 : Int32)) + (own_size w_connections_a1)) + (12 : Int32)) + (own_size w_statements_a1)) from own_cl_b94 (own_cl_add (own_cl_add (own_cl_add (own_cl_add (own_cl_add (own_cl_add own_cl0 own_cl_1 (by decide)) (own_clj w_sessions_a1) (by decide)) own_cl_2 (by decide)) (own_clj w_connections_a1) (by decide)) own_cl_3 (by decide)) (own_clj w_statements_a1) (by decide)) (by decide)) (show own_b188 x52_2 from own_b188_of (own_cl_add (own_cl_add (own_cl_add (own_cl_add (own_cl_add own_cl0 own_cl_1 (by decide)) (own_clj w_sessions_a1) (by decide)) own_cl_2 (by decide)) (own_clj w_connections_a1) (by decide)) own_cl_3 (by decide)) p52_1) (show own_fit x52_2 ((((([] ++ (own_lit "sessions=")) ++ own_dec w_sessions_a1) ++ (own_lit " connections=")) ++ own_dec w_connections_a1) ++ (own_lit " statements=")) from own_fit_of (own_cl_add (own_cl_add (own_cl_add (own_cl_add (own_cl_add own_cl0 own_cl_1 (by decide)) (own_clj w_sessions_a1) (by decide)) own_cl_2 (by decide)) (own_clj w_connections_a1) (by decide)) own_cl_3 (by decide)) p52_1) (show own_len ((((((0 : Int32) + (9 : Int32)) + (own_size w_sessions_a1)) + (13 : Int32)) + (own_size w_connections_a1)) + (12 : Int32)) ((((([] ++ (own_lit "sessions=")) ++ own_dec w_sessions_a1) ++ (own_lit " connections=")) ++ own_dec w_connections_a1) ++ (own_lit " statements=")) from own_cl_len (own_cl_add (own_cl_add (own_cl_add (own_cl_add (own_cl_add own_cl0 own_cl_1 (by decide)) (own_clj w_sessions_a1) (by decide)) own_cl_2 (by decide)) (own_clj w_connections_a1) (by decide)) own_cl_3 (by decide))) (show own_b94 ((((((0 : Int32) + (9 : Int32)) + (own_size w_sessions_a1)) + (13 : Int32)) + (own_size w_connections_a1)) + (12 : Int32)) from own_cl_b94 (own_cl_add (own_cl_add (own_cl_add (own_cl_add (own_cl_add own_cl0 own_cl_1 (by decide)) (own_clj w_sessions_a1) (by decide)) own_cl_2 (by decide)) (own_clj w_connections_a1) (by decide)) own_cl_3 (by decide)) (by decide)) g_b2 (Ne.symm ne_b2_x52_0) ne_b2_x52_0 (own_eitherG (p52_0.imp id (Nat.le_trans (K51).1)) (own_eitherG (p43_0.imp id (Nat.le_trans (K32).1)) (own_eitherG (p32_0.imp id (Nat.le_trans (K31).1)) (own_eitherG (p24_0.imp id (Nat.le_trans (K12).1)) (own_eitherG (p12_0.imp id (Nat.le_trans (K11).1)) g_z4_0 Z0) Z0) Z0) Z0) Z0) hq4_7) hZ51 (own_wi hw 132 rfl) (own_wi hw 62 rfl) (by decide) (by decide)) q63a q63c (g := (mkF m 40 #[vR a1] [(.long w_statements_a1), (.ref b2)])) rfl (by rw [hml]; rfl) (Steps.refl _) (argsL := [(.long w_statements_a1)]) (rest := []) (lenOf pd_20 rfl) rfl (by show 2 * 0 + _ ≤ _; exact Nat.le_of_eq rfl) (hb hby d11_40) (fun _ _ => ⟨rfl, e62, (by decide : 13 + 1 ≤ _), (by decide : 1138 + 194 ≤ _)⟩)
  dsimp only [Pt.U, Pt.locs, Pt.cells, Pt.slots] at X63 l63 y63 z63 st63 hQ63
  subst l63 y63 z63
  obtain ⟨x63_0, x63_1, x63_2, rfl, N63q, K63q, f63_0, f63_1, f63_2, f63_3, f63_4, f63_5, p63_0, p63_1⟩ := hQ63
  have al64 : ∀ x ∈ [x52_0, b2], Safe Z own_EL T51.vm T52.heap x := (allS (P := fun x => Safe Z own_EL T51.vm T52.heap x) sf53_x52_0 (allS (P := fun x => Safe Z own_EL T51.vm T52.heap x) (Safe.exa (show Z.vm.Alike T51.vm from hZ51.alike) f52_0 (by decide) (by decide)) all0))
  have sf64_x63_0 := own_safeE K63q al64 ch53.1 p63_0 sf53_x52_0
  have ch64 := ch53.trans (CHr.keep K63q al64 ch53.1)
  have ne_a1_x63_0 : a1 ≠ x63_0 := own_eitherN p63_0 ne_a1_x52_0 ((y45.ext E51).keep K52q).lt
  have ne_b2_x63_0 : b2 ≠ x63_0 := own_eitherN p63_0 ne_b2_x52_0 f52_0.lt
  have y65 := (y54.keep K63q (ninS ne_a1_x52_0 (ninS ne_a1_b2 nin0)))
  have y66 := (y55.keep K63q (ninS ne_a1_x52_0 (ninS ne_a1_b2 nin0)))
  have y67 := (y56.keep K63q (ninS ne_a1_x52_0 (ninS ne_a1_b2 nin0)))
  have y68 := (own_StaKeep y57 K63q (allS (P := fun x => ∃ D, Exa Z T52.heap x D) ⟨_, f52_4⟩ (allS (P := fun x => ∃ D, Exa Z T52.heap x D) ⟨_, f52_0⟩ all0)))
  have y69 := (y58.keep K63q (allS (P := fun x => n0 ≤ x) (own_eitherG (p52_0.imp id (Nat.le_trans (K51).1)) (own_eitherG (p43_0.imp id (Nat.le_trans (K32).1)) (own_eitherG (p32_0.imp id (Nat.le_trans (K31).1)) (own_eitherG (p24_0.imp id (Nat.le_trans (K12).1)) (own_eitherG (p12_0.imp id (Nat.le_trans (K11).1)) g_z4_0 Z0) Z0) Z0) Z0) Z0) (allS (P := fun x => n0 ≤ x) g_b2 all0)))
  have K63 : Keep h0 T63.heap [] := (K52).trans K63q (allS (P := fun x => x ∈ [] ∨ h0.size ≤ x) (own_either (p52_0.imp id (Nat.le_trans (K51).1)) (own_either (p43_0.imp id (Nat.le_trans (K32).1)) (own_either (p32_0.imp id (Nat.le_trans (K31).1)) (own_either (p24_0.imp id (Nat.le_trans (K12).1)) (own_either (p12_0.imp id (Nat.le_trans (K11).1)) (Or.inr sz_z4_0)))))) (allS (P := fun x => x ∈ [] ∨ h0.size ≤ x) (Or.inr sz_b2) all0))
  have Z63 : n0 ≤ T63.heap.size := Nat.le_trans Z52 K63q.1
  have N63 := Fr.app N52 N63q
  obtain ⟨cq70, kq70, q70a, q70b, q70c⟩ := isOf hZ51 rfl f63_0
  obtain ⟨_, _, ⟨T70, L70, k70, n70⟩, -, X70, ⟨Lc70, hQ70, l70, y70, z70⟩, st70⟩ := X63.virtualBack hx (y := (⟨"java/lang/StringBuilder", "toString", "()Ljava/lang/String;"⟩ : MethodName)) (z := (⟨"java/lang/StringBuilder", "toString", "()Ljava/lang/String;"⟩ : MethodName)) hown51 (mvT hZ51 (own_wi hw 178 rfl)) (mvT hZ51 (own_wi hw 179 rfl)) (notFace_of_selects (args := #[]) (mvT hZ51 (own_wi hw 181 rfl))) (mvT hZ51 (own_wi hw 181 rfl)) (mvT hZ51 (own_wi hw 180 rfl)) (by decide) (backOf (W := 0) (rm32 l Z a0 hw [] b2 x63_0 (((((((0 : Int32) + (9 : Int32)) + (own_size w_sessions_a1)) + (13 : Int32)) + (own_size w_connections_a1)) + (12 : Int32)) + (own_size w_statements_a1)) x63_1 x63_2 (((((([] ++ (own_lit "sessions=")) ++ own_dec w_sessions_a1) ++ (own_lit " connections=")) ++ own_dec w_connections_a1) ++ (own_lit " statements=")) ++ own_dec w_statements_a1) st_COMPACT_STRINGS T63.heap n0 Z63 f63_0 f63_1 f63_2 f63_3 f63_5 f63_4 y68 (show own_b94 (((((((0 : Int32) + (9 : Int32)) + (own_size w_sessions_a1)) + (13 : Int32)) + (own_size w_connections_a1)) + (12 : Int32)) + (own_size w_statements_a1)) from own_cl_b94 (own_cl_add (own_cl_add (own_cl_add (own_cl_add (own_cl_add (own_cl_add own_cl0 own_cl_1 (by decide)) (own_clj w_sessions_a1) (by decide)) own_cl_2 (by decide)) (own_clj w_connections_a1) (by decide)) own_cl_3 (by decide)) (own_clj w_statements_a1) (by decide)) (by decide)) (show own_b188 x63_2 from own_b188_of (own_cl_add (own_cl_add (own_cl_add (own_cl_add (own_cl_add (own_cl_add own_cl0 own_cl_1 (by decide)) (own_clj w_sessions_a1) (by decide)) own_cl_2 (by decide)) (own_clj w_connections_a1) (by decide)) own_cl_3 (by decide)) (own_clj w_statements_a1) (by decide)) p63_1) (show own_len (((((((0 : Int32) + (9 : Int32)) + (own_size w_sessions_a1)) + (13 : Int32)) + (own_size w_connections_a1)) + (12 : Int32)) + (own_size w_statements_a1)) (((((([] ++ (own_lit "sessions=")) ++ own_dec w_sessions_a1) ++ (own_lit " connections=")) ++ own_dec w_connections_a1) ++ (own_lit " statements=")) ++ own_dec w_statements_a1) from own_cl_len (own_cl_add (own_cl_add (own_cl_add (own_cl_add (own_cl_add (own_cl_add own_cl0 own_cl_1 (by decide)) (own_clj w_sessions_a1) (by decide)) own_cl_2 (by decide)) (own_clj w_connections_a1) (by decide)) own_cl_3 (by decide)) (own_clj w_statements_a1) (by decide))) (show own_fit x63_2 (((((([] ++ (own_lit "sessions=")) ++ own_dec w_sessions_a1) ++ (own_lit " connections=")) ++ own_dec w_connections_a1) ++ (own_lit " statements=")) ++ own_dec w_statements_a1) from own_fit_of (own_cl_add (own_cl_add (own_cl_add (own_cl_add (own_cl_add (own_cl_add own_cl0 own_cl_1 (by decide)) (own_clj w_sessions_a1) (by decide)) own_cl_2 (by decide)) (own_clj w_connections_a1) (by decide)) own_cl_3 (by decide)) (own_clj w_statements_a1) (by decide)) p63_1) hq4_7) hZ51 (own_wi hw 182 rfl) (own_wi hw 62 rfl) (by decide) (by decide)) q70a q70c (g := (mkF m 43 #[vR a1] [(.ref b2)])) rfl (by rw [hml]; rfl) (Steps.refl _) (argsL := []) (rest := []) (lenOf pd_21 rfl) rfl (by show 2 * 0 + _ ≤ _; exact Nat.le_of_eq rfl) (hb hby d11_43) (fun _ _ => ⟨rfl, rfl, (by decide : 14 + 2 ≤ _), (by decide : 1332 + 101 ≤ _)⟩)
  dsimp only [Pt.U, Pt.locs, Pt.cells, Pt.slots] at X70 l70 y70 z70 st70 hQ70
  subst l70 y70 z70
  obtain ⟨x70_0, z70_0, z70_1, rfl, N70q, K70q, f70_0, f70_1, f70_2, f70_3, f70_4, f70_5, f70_6⟩ := hQ70
  have ne_a1_z70_0 : a1 ≠ z70_0 := Nat.ne_of_lt (Nat.lt_of_lt_of_le (((y45.ext E51).keep K52q).keep K63q).lt f70_0)
  have ne_b2_z70_0 : b2 ≠ z70_0 := Nat.ne_of_lt (Nat.lt_of_lt_of_le f63_0.lt f70_0)
  have ne_x63_0_z70_0 : x63_0 ≠ z70_0 := Nat.ne_of_lt (Nat.lt_of_lt_of_le f63_4.lt f70_0)
  have g_z70_0 : n0 ≤ z70_0 := Nat.le_trans Z63 f70_0
  have sz_z70_0 : h0.size ≤ z70_0 := Nat.le_trans (K63).1 f70_0
  have ne_a1_z70_1 : a1 ≠ z70_1 := Nat.ne_of_lt (Nat.lt_of_lt_of_le (((y45.ext E51).keep K52q).keep K63q).lt f70_1)
  have ne_b2_z70_1 : b2 ≠ z70_1 := Nat.ne_of_lt (Nat.lt_of_lt_of_le f63_0.lt f70_1)
  have ne_x63_0_z70_1 : x63_0 ≠ z70_1 := Nat.ne_of_lt (Nat.lt_of_lt_of_le f63_4.lt f70_1)
  have g_z70_1 : n0 ≤ z70_1 := Nat.le_trans Z63 f70_1
  have sz_z70_1 : h0.size ≤ z70_1 := Nat.le_trans (K63).1 f70_1
  have al71 : ∀ x ∈ [], Safe Z own_EL T51.vm T63.heap x := all0
  have sf71_z70_1 := own_safeN K70q al71 ch64.1 f70_1
  have sf71_x63_0 := Safe.keep K70q al71 ch64.1 sf64_x63_0
  have ch71 := ch64.trans (CHr.keep K70q al71 ch64.1)
  have y72 := ((((y45.ext E51).keep K52q).keep K63q).keep K70q)
  have K70 : Keep h0 T70.heap [] := (K63).trans K70q all0
  have Z70 : n0 ≤ T70.heap.size := Nat.le_trans Z63 K70q.1
  have N70 := Fr.app N63 N70q
  obtain ⟨fs, hr, hrun, hended, hEW⟩ := X70.leaveW hS51 (Nat.le_trans (Nat.le_trans (Nat.le_trans hk51 K52q.1) K63q.1) K70q.1) (v := some (.ref z70_0)) (fun h => by rw [Bd.returns] at h; cases h)
  refine ⟨_, _, pre0 _ ?_, hrun, hended, _, _, rfl, ?_, ?_, ⟨_, rfl⟩, hEW.2.1, hEW.2.2.1, hEW.2.2.2.mono (by decide) (by decide)⟩
  · show Steps p.tables e below (s₁.setTop (mkF m 0 #[vR a1] [])) _
    refine st2 _ ?_
    show Steps p.tables e below (T2.setTop (mkF m 3 #[vR a1] [(.ref b2)])) _
    refine XS.dup X2.here hx rfl (hb hby d11_3) rfl rfl ?_
    show Steps p.tables e below (T2.setTop (mkF m 4 #[vR a1] [(.ref b2), (.ref b2)])) _
    refine st4.trans ?_
    show Steps p.tables e below (T4.setTop (mkF m 7 #[vR a1] [(.ref b2)])) _
    refine st11 _ ?_
    show Steps p.tables e below (T11.setTop (mkF m 9 #[vR a1] [(.ref lit11), (.ref b2)])) _
    refine st12.trans ?_
    show Steps p.tables e below (T12.setTop (mkF m 12 #[vR a1] [(.ref b2)])) _
    refine XS.aloadN X12.here hx rfl (hb hby d11_12) rfl rfl ?_
    show Steps p.tables e below (T12.setTop (mkF m 13 #[vR a1] [(.ref a1), (.ref b2)])) _
    refine st23 _ ?_
    show Steps p.tables e below (T23.setTop (mkF m 16 #[vR a1] [(.long w_sessions_a1), (.ref b2)])) _
    refine st24.trans ?_
    show Steps p.tables e below (T24.setTop (mkF m 19 #[vR a1] [(.ref b2)])) _
    refine st31 _ ?_
    show Steps p.tables e below (T31.setTop (mkF m 21 #[vR a1] [(.ref lit31), (.ref b2)])) _
    refine st32.trans ?_
    show Steps p.tables e below (T32.setTop (mkF m 24 #[vR a1] [(.ref b2)])) _
    refine XS.aloadN X32.here hx rfl (hb hby d11_24) rfl rfl ?_
    show Steps p.tables e below (T32.setTop (mkF m 25 #[vR a1] [(.ref a1), (.ref b2)])) _
    refine st42 _ ?_
    show Steps p.tables e below (T42.setTop (mkF m 28 #[vR a1] [(.long w_connections_a1), (.ref b2)])) _
    refine st43.trans ?_
    show Steps p.tables e below (T43.setTop (mkF m 31 #[vR a1] [(.ref b2)])) _
    refine st51 _ ?_
    show Steps p.tables e below (T51.setTop (mkF m 33 #[vR a1] [(.ref lit51), (.ref b2)])) _
    refine st52.trans ?_
    show Steps p.tables e below (T52.setTop (mkF m 36 #[vR a1] [(.ref b2)])) _
    refine XS.aloadN X52.here hx rfl (hb hby d11_36) rfl rfl ?_
    show Steps p.tables e below (T52.setTop (mkF m 37 #[vR a1] [(.ref a1), (.ref b2)])) _
    refine st62 _ ?_
    show Steps p.tables e below (T62.setTop (mkF m 40 #[vR a1] [(.long w_statements_a1), (.ref b2)])) _
    refine st63.trans ?_
    show Steps p.tables e below (T63.setTop (mkF m 43 #[vR a1] [(.ref b2)])) _
    refine st70.trans ?_
    show Steps p.tables e below (T70.setTop (mkF m 46 #[vR a1] [(.ref z70_0)])) _
    exact retOut X70 hx Bd.returns rfl (Or.inr (Or.inr (Or.inr (Or.inr ⟨rfl, rfl, rfl⟩)))) (hb hby d11_46) hr
  · show Q11 Z a1 w_sessions_a1 w_connections_a1 w_statements_a1 st_COMPACT_STRINGS h0 n0 _ T70.heap _
    have qt := own_text_cl (own_cl_add (own_cl_add (own_cl_add (own_cl_add (own_cl_add (own_cl_add own_cl0 own_cl_1 (by decide)) (own_clj w_sessions_a1) (by decide)) own_cl_2 (by decide)) (own_clj w_connections_a1) (by decide)) own_cl_3 (by decide)) (own_clj w_statements_a1) (by decide)) (own_text_eq w_sessions_a1 w_connections_a1 w_statements_a1) (by decide)
    exact ⟨z70_0, rfl, N70, (K70), own_mkStr (cs := (own_text w_sessions_a1 w_connections_a1 w_statements_a1)) f70_2 f70_3 f70_4 f70_6 qt.1 (own_text_eq _ _ _) (own_text_in _ _ _) qt.2⟩
  · show CHr Z own_EL s.vm s.heap T70.vm T70.heap
    rw [hh]
    exact ch71.trans (CHv.at X70 hZ51 (own_EW hw) ch71.1)
def own_d9 (x : Int32) : Prop := 0 ≤ x.toInt ∧ x.toInt ≤ 9
def own_d19 (x : Int32) : Prop := 1 ≤ x.toInt ∧ x.toInt ≤ 9
theorem own_d9_c {x : Int32} (h : own_d9 x) : x = 0 ∨ x = 1 ∨ x = 2 ∨ x = 3 ∨ x = 4 ∨ x = 5 ∨ x = 6 ∨ x = 7 ∨ x = 8 ∨ x = 9 := by
  unfold own_d9 at h
  have e0 : (0 : Int32).toInt = 0 := rfl
  have e1 : (1 : Int32).toInt = 1 := rfl
  have e2 : (2 : Int32).toInt = 2 := rfl
  have e3 : (3 : Int32).toInt = 3 := rfl
  have e4 : (4 : Int32).toInt = 4 := rfl
  have e5 : (5 : Int32).toInt = 5 := rfl
  have e6 : (6 : Int32).toInt = 6 := rfl
  have e7 : (7 : Int32).toInt = 7 := rfl
  have e8 : (8 : Int32).toInt = 8 := rfl
  have e9 : (9 : Int32).toInt = 9 := rfl
  simp only [← Int32.toInt_inj, e0, e1, e2, e3, e4, e5, e6, e7, e8, e9]; omega
theorem own_ch3 {p : Int32} (h : own_d9 p) : (((((48 : Int32) + p).toUInt32.toUInt16.toUInt32.toInt32).toUInt32.toUInt16.toUInt32.toInt32).toUInt32.toUInt16.toUInt32.toInt32) = ((48 : Int32) + p) := by
  rcases own_d9_c h with rfl | rfl | rfl | rfl | rfl | rfl | rfl | rfl | rfl | rfl <;> decide +kernel
theorem own_dec1 {p : Int32} (h : own_d9 p) : own_decI p.toInt64 = [(48 : Int32) + p] := by
  rcases own_d9_c h with rfl | rfl | rfl | rfl | rfl | rfl | rfl | rfl | rfl | rfl <;> decide +kernel
theorem own_dec2 {p : Int32} (h : own_d19 p) : own_decI (-p).toInt64 = [(45 : Int32), (48 : Int32) + p] := by
  have h9 : own_d9 p := ⟨by unfold own_d19 at h; omega, h.2⟩
  rcases own_d9_c h9 with rfl | rfl | rfl | rfl | rfl | rfl | rfl | rfl | rfl | rfl
  · exact absurd h.1 (by decide)
  all_goals decide +kernel
theorem own_d19_9 {p : Int32} (h : own_d19 p) : own_d9 p := ⟨by unfold own_d19 at h; omega, h.2⟩
def own_pos (p1 p2 p3 : Int32) : List Int32 := [(115 : Int32), (101 : Int32), (115 : Int32), (115 : Int32), (105 : Int32), (111 : Int32), (110 : Int32), (115 : Int32), (61 : Int32), ((48 : Int32) + p1), (32 : Int32), (99 : Int32), (111 : Int32), (110 : Int32), (110 : Int32), (101 : Int32), (99 : Int32), (116 : Int32), (105 : Int32), (111 : Int32), (110 : Int32), (115 : Int32), (61 : Int32), ((48 : Int32) + p2), (32 : Int32), (115 : Int32), (116 : Int32), (97 : Int32), (116 : Int32), (101 : Int32), (109 : Int32), (101 : Int32), (110 : Int32), (116 : Int32), (115 : Int32), (61 : Int32), ((48 : Int32) + p3)]
def own_neg (p1 p2 p3 : Int32) : List Int32 := [(115 : Int32), (101 : Int32), (115 : Int32), (115 : Int32), (105 : Int32), (111 : Int32), (110 : Int32), (115 : Int32), (61 : Int32), (45 : Int32), ((48 : Int32) + p1), (32 : Int32), (99 : Int32), (111 : Int32), (110 : Int32), (110 : Int32), (101 : Int32), (99 : Int32), (116 : Int32), (105 : Int32), (111 : Int32), (110 : Int32), (115 : Int32), (61 : Int32), (45 : Int32), ((48 : Int32) + p2), (32 : Int32), (115 : Int32), (116 : Int32), (97 : Int32), (116 : Int32), (101 : Int32), (109 : Int32), (101 : Int32), (110 : Int32), (116 : Int32), (115 : Int32), (61 : Int32), (45 : Int32), ((48 : Int32) + p3)]
theorem own_pos_eq (p1 p2 p3 : Int32) : own_pos p1 p2 p3 = (((((([] ++ own_litI "sessions=") ++ [(48 : Int32) + p1]) ++ own_litI " connections=") ++ [(48 : Int32) + p2]) ++ own_litI " statements=") ++ [(48 : Int32) + p3]) := rfl
theorem own_neg_eq (p1 p2 p3 : Int32) : own_neg p1 p2 p3 = (((((([] ++ own_litI "sessions=") ++ [(45 : Int32), (48 : Int32) + p1]) ++ own_litI " connections=") ++ [(45 : Int32), (48 : Int32) + p2]) ++ own_litI " statements=") ++ [(45 : Int32), (48 : Int32) + p3]) := rfl
theorem own_pos_text {p1 p2 p3 : Int32} (h1 : own_d9 p1) (h2 : own_d9 p2) (h3 : own_d9 p3) : own_pos p1 p2 p3 = own_text p1.toInt64 p2.toInt64 p3.toInt64 := by
  rw [own_pos_eq]; unfold own_text; rw [own_dec1 h1, own_dec1 h2, own_dec1 h3]
theorem own_neg_text {p1 p2 p3 : Int32} (h1 : own_d19 p1) (h2 : own_d19 p2) (h3 : own_d19 p3) : own_neg p1 p2 p3 = own_text (-p1).toInt64 (-p2).toInt64 (-p3).toInt64 := by
  rw [own_neg_eq]; unfold own_text; rw [own_dec2 h1, own_dec2 h2, own_dec2 h3]
theorem own_pos_in {p1 p2 p3 : Int32} (h1 : own_d9 p1) (h2 : own_d9 p2) (h3 : own_d9 p3) : ∀ c ∈ own_pos p1 p2 p3, ¬ c < 0 ∧ ¬ (255 : Int32) < c := by rw [own_pos_text h1 h2 h3]; exact own_text_in _ _ _
theorem own_neg_in {p1 p2 p3 : Int32} (h1 : own_d19 p1) (h2 : own_d19 p2) (h3 : own_d19 p3) : ∀ c ∈ own_neg p1 p2 p3, ¬ c < 0 ∧ ¬ (255 : Int32) < c := by rw [own_neg_text h1 h2 h3]; exact own_text_in _ _ _
theorem d2_0 : decode method_3_code 0 = .ok (.bipush 48, 2) := by decide +kernel
theorem d2_2 : decode method_3_code 2 = .ok (.iload_n 0, 1) := by decide +kernel
theorem d2_3 : decode method_3_code 3 = .ok (.iadd, 1) := by decide +kernel
theorem d2_4 : decode method_3_code 4 = .ok (.i2c, 1) := by decide +kernel
theorem d2_5 : decode method_3_code 5 = .ok (.ireturn, 1) := by decide +kernel
theorem pn_7 : plainName "com/example/vigilant_context/vigilantcontext/finding/LoadCostToStringPinLaw" = true := by first | (simp [plainName, overriddenIn]; done) | decide +kernel
theorem ef_2 (m : MethodId) (p1 : Int32) : entryFrame m #[(.int p1)] 1 = mkF m 0 #[vI p1] [] := by first | (simp [entryFrame, mkF, argsToLocals, Value.category]; done) | rfl
def Q2 (Z : State) (p1 : Int32) (h0 : Heap) (n0 : Nat) (v : Option Value) (h : Heap) (L : List Loc) : Prop := v = some (.int ((((48 : Int32) + p1).toUInt32.toUInt16.toUInt32.toInt32).toUInt32.toUInt16.toUInt32.toInt32)) ∧ Fr n0 L ∧ h = h0
set_option maxRecDepth 65536 in
set_option maxHeartbeats 40000000 in
theorem rm2 (l : Launch) (Z : State) (a0 : Array Value) (hw : ∀ d ∈ tables_1, d.before a0 Z = true) (ws : List Jvm.Cond) (p1 : Int32) (h0 : Heap) (n0 : Nat) (Z0 : n0 ≤ h0.size) :
    MetFree l (⟨"com/example/vigilant_context/vigilantcontext/finding/LoadCostToStringPinLaw", "dig", "(I)C"⟩ : MethodName) (head1 (Jvm.Cond.code (⟨"com/example/vigilant_context/vigilantcontext/finding/LoadCostToStringPinLaw", "dig", "(I)C"⟩ : MethodName) method_3_code 1 (some .char) :: ws) ({ frames := 0, cells := 0, slots := 0, locals := 0 } : Room)) (fun a U => a = #[(.int p1)] ∧ Z.Warmed39 U.vm ∧ U.heap = h0) (fun _ _ _ _ _ => True) (fun _ U o U' => ∃ v L, o = .returned v ∧ Q2 Z p1 h0 n0 v U'.heap L ∧ FrameEnd U o U' L ({ frames := 0, cells := 0, slots := 0, locals := 0 } : Room).cells ({ frames := 0, cells := 0, slots := 0, locals := 0 } : Room).slots) := by
  refine MetFree.of_bodySF (plainFor_of_name pn_7) hisR ?_
  intro p e s m args below meth c s₁ Bd hml0 hP hK
  obtain ⟨rfl, hZ, hh⟩ := hP
  have hx := Bd.exec
  have hby := Bd.bytes
  have hml : c.maxLocals = 1 := hml0
  have hown : s.vm.findClass "com/example/vigilant_context/vigilantcontext/finding/LoadCostToStringPinLaw" = some m.cls := findClass_of_methodNamed Bd.named
  have hnm := (name_of_methodNamed Bd.named Bd.method).1
  have X0 : Stand p l e ({ frames := 0, cells := 0, slots := 0, locals := 0 } : Room) s m #[(.int p1)] below meth c s₁ [] 0 0 := Stand.of_body Bd
  have e0 : s₁.heap = h0 := by rw [← hh, Bd.state]; rfl
  have N0 := Fr.nil n0
  have pre0 : ∀ t, Steps p.tables e below (s₁.setTop (mkF m 0 #[vI p1] [])) t → Steps p.tables e below (s₁.setTop (entryFrame m #[(.int p1)] 1)) t := fun t k => castTop (ef_2 m p1) k
  obtain ⟨fs, hr, hrun, hended, hW, hsame⟩ := X0.leave (v := some (.int ((((48 : Int32) + p1).toUInt32.toUInt16.toUInt32.toInt32).toUInt32.toUInt16.toUInt32.toInt32))) (fun h => by rw [Bd.returns] at h; cases h)
  refine ⟨_, _, pre0 _ ?_, hrun, hended, _, _, rfl, ?_, ⟨_, rfl⟩, hW, hsame.mono (by decide) (by decide)⟩
  · show Steps p.tables e below (s₁.setTop (mkF m 0 #[vI p1] [])) _
    refine XS.bipush X0.here hx rfl (hb hby d2_0) ?_
    refine XS.iloadN X0.here hx rfl (hb hby d2_2) rfl ?_
    refine XS.iadd X0.here hx rfl (hb hby d2_3) rfl ?_
    refine XS.i2c X0.here hx rfl (hb hby d2_4) rfl ?_
    show Steps p.tables e below (s₁.setTop (mkF m 5 #[vI p1] [(.int (((48 : Int32) + p1).toUInt32.toUInt16.toUInt32.toInt32))])) _
    exact retN X0 hx (t := .char) Bd.returns (by simp) (hb hby d2_5) hr
  · show Q2 Z p1 h0 n0 _ s₁.heap _
    rw [e0]
    exact ⟨rfl, N0, rfl⟩
theorem pd_22 : parseMethodDescriptor "(I)C" = some ⟨[.int], some .char⟩ := by decide +kernel
theorem pd_23 : parseMethodDescriptor "([C)V" = some ⟨[(.array .char)], none⟩ := by decide +kernel
theorem d1_0 : decode method_4_code 0 = .ok (.bipush 37, 2) := by decide +kernel
theorem d1_2 : decode method_4_code 2 = .ok (.newarray .char, 2) := by decide +kernel
theorem d1_4 : decode method_4_code 4 = .ok (.dup, 1) := by decide +kernel
theorem d1_5 : decode method_4_code 5 = .ok (.iconst 0, 1) := by decide +kernel
theorem d1_6 : decode method_4_code 6 = .ok (.bipush 115, 2) := by decide +kernel
theorem d1_8 : decode method_4_code 8 = .ok (.castore, 1) := by decide +kernel
theorem d1_9 : decode method_4_code 9 = .ok (.dup, 1) := by decide +kernel
theorem d1_10 : decode method_4_code 10 = .ok (.iconst 1, 1) := by decide +kernel
theorem d1_11 : decode method_4_code 11 = .ok (.bipush 101, 2) := by decide +kernel
theorem d1_13 : decode method_4_code 13 = .ok (.castore, 1) := by decide +kernel
theorem d1_14 : decode method_4_code 14 = .ok (.dup, 1) := by decide +kernel
theorem d1_15 : decode method_4_code 15 = .ok (.iconst 2, 1) := by decide +kernel
theorem d1_16 : decode method_4_code 16 = .ok (.bipush 115, 2) := by decide +kernel
theorem d1_18 : decode method_4_code 18 = .ok (.castore, 1) := by decide +kernel
theorem d1_19 : decode method_4_code 19 = .ok (.dup, 1) := by decide +kernel
theorem d1_20 : decode method_4_code 20 = .ok (.iconst 3, 1) := by decide +kernel
theorem d1_21 : decode method_4_code 21 = .ok (.bipush 115, 2) := by decide +kernel
theorem d1_23 : decode method_4_code 23 = .ok (.castore, 1) := by decide +kernel
theorem d1_24 : decode method_4_code 24 = .ok (.dup, 1) := by decide +kernel
theorem d1_25 : decode method_4_code 25 = .ok (.iconst 4, 1) := by decide +kernel
theorem d1_26 : decode method_4_code 26 = .ok (.bipush 105, 2) := by decide +kernel
theorem d1_28 : decode method_4_code 28 = .ok (.castore, 1) := by decide +kernel
theorem d1_29 : decode method_4_code 29 = .ok (.dup, 1) := by decide +kernel
theorem d1_30 : decode method_4_code 30 = .ok (.iconst 5, 1) := by decide +kernel
theorem d1_31 : decode method_4_code 31 = .ok (.bipush 111, 2) := by decide +kernel
theorem d1_33 : decode method_4_code 33 = .ok (.castore, 1) := by decide +kernel
theorem d1_34 : decode method_4_code 34 = .ok (.dup, 1) := by decide +kernel
theorem d1_35 : decode method_4_code 35 = .ok (.bipush 6, 2) := by decide +kernel
theorem d1_37 : decode method_4_code 37 = .ok (.bipush 110, 2) := by decide +kernel
theorem d1_39 : decode method_4_code 39 = .ok (.castore, 1) := by decide +kernel
theorem d1_40 : decode method_4_code 40 = .ok (.dup, 1) := by decide +kernel
theorem d1_41 : decode method_4_code 41 = .ok (.bipush 7, 2) := by decide +kernel
theorem d1_43 : decode method_4_code 43 = .ok (.bipush 115, 2) := by decide +kernel
theorem d1_45 : decode method_4_code 45 = .ok (.castore, 1) := by decide +kernel
theorem d1_46 : decode method_4_code 46 = .ok (.dup, 1) := by decide +kernel
theorem d1_47 : decode method_4_code 47 = .ok (.bipush 8, 2) := by decide +kernel
theorem d1_49 : decode method_4_code 49 = .ok (.bipush 61, 2) := by decide +kernel
theorem d1_51 : decode method_4_code 51 = .ok (.castore, 1) := by decide +kernel
theorem d1_52 : decode method_4_code 52 = .ok (.dup, 1) := by decide +kernel
theorem d1_53 : decode method_4_code 53 = .ok (.bipush 9, 2) := by decide +kernel
theorem d1_55 : decode method_4_code 55 = .ok (.iload_n 0, 1) := by decide +kernel
theorem d1_56 : decode method_4_code 56 = .ok (.invokestatic 31, 3) := by decide +kernel
theorem d1_59 : decode method_4_code 59 = .ok (.castore, 1) := by decide +kernel
theorem d1_60 : decode method_4_code 60 = .ok (.dup, 1) := by decide +kernel
theorem d1_61 : decode method_4_code 61 = .ok (.bipush 10, 2) := by decide +kernel
theorem d1_63 : decode method_4_code 63 = .ok (.bipush 32, 2) := by decide +kernel
theorem d1_65 : decode method_4_code 65 = .ok (.castore, 1) := by decide +kernel
theorem d1_66 : decode method_4_code 66 = .ok (.dup, 1) := by decide +kernel
theorem d1_67 : decode method_4_code 67 = .ok (.bipush 11, 2) := by decide +kernel
theorem d1_69 : decode method_4_code 69 = .ok (.bipush 99, 2) := by decide +kernel
theorem d1_71 : decode method_4_code 71 = .ok (.castore, 1) := by decide +kernel
theorem d1_72 : decode method_4_code 72 = .ok (.dup, 1) := by decide +kernel
theorem d1_73 : decode method_4_code 73 = .ok (.bipush 12, 2) := by decide +kernel
theorem d1_75 : decode method_4_code 75 = .ok (.bipush 111, 2) := by decide +kernel
theorem d1_77 : decode method_4_code 77 = .ok (.castore, 1) := by decide +kernel
theorem d1_78 : decode method_4_code 78 = .ok (.dup, 1) := by decide +kernel
theorem d1_79 : decode method_4_code 79 = .ok (.bipush 13, 2) := by decide +kernel
theorem d1_81 : decode method_4_code 81 = .ok (.bipush 110, 2) := by decide +kernel
theorem d1_83 : decode method_4_code 83 = .ok (.castore, 1) := by decide +kernel
theorem d1_84 : decode method_4_code 84 = .ok (.dup, 1) := by decide +kernel
theorem d1_85 : decode method_4_code 85 = .ok (.bipush 14, 2) := by decide +kernel
theorem d1_87 : decode method_4_code 87 = .ok (.bipush 110, 2) := by decide +kernel
theorem d1_89 : decode method_4_code 89 = .ok (.castore, 1) := by decide +kernel
theorem d1_90 : decode method_4_code 90 = .ok (.dup, 1) := by decide +kernel
theorem d1_91 : decode method_4_code 91 = .ok (.bipush 15, 2) := by decide +kernel
theorem d1_93 : decode method_4_code 93 = .ok (.bipush 101, 2) := by decide +kernel
theorem d1_95 : decode method_4_code 95 = .ok (.castore, 1) := by decide +kernel
theorem d1_96 : decode method_4_code 96 = .ok (.dup, 1) := by decide +kernel
theorem d1_97 : decode method_4_code 97 = .ok (.bipush 16, 2) := by decide +kernel
theorem d1_99 : decode method_4_code 99 = .ok (.bipush 99, 2) := by decide +kernel
theorem d1_101 : decode method_4_code 101 = .ok (.castore, 1) := by decide +kernel
theorem d1_102 : decode method_4_code 102 = .ok (.dup, 1) := by decide +kernel
theorem d1_103 : decode method_4_code 103 = .ok (.bipush 17, 2) := by decide +kernel
theorem d1_105 : decode method_4_code 105 = .ok (.bipush 116, 2) := by decide +kernel
theorem d1_107 : decode method_4_code 107 = .ok (.castore, 1) := by decide +kernel
theorem d1_108 : decode method_4_code 108 = .ok (.dup, 1) := by decide +kernel
theorem d1_109 : decode method_4_code 109 = .ok (.bipush 18, 2) := by decide +kernel
theorem d1_111 : decode method_4_code 111 = .ok (.bipush 105, 2) := by decide +kernel
theorem d1_113 : decode method_4_code 113 = .ok (.castore, 1) := by decide +kernel
theorem d1_114 : decode method_4_code 114 = .ok (.dup, 1) := by decide +kernel
theorem d1_115 : decode method_4_code 115 = .ok (.bipush 19, 2) := by decide +kernel
theorem d1_117 : decode method_4_code 117 = .ok (.bipush 111, 2) := by decide +kernel
theorem d1_119 : decode method_4_code 119 = .ok (.castore, 1) := by decide +kernel
theorem d1_120 : decode method_4_code 120 = .ok (.dup, 1) := by decide +kernel
theorem d1_121 : decode method_4_code 121 = .ok (.bipush 20, 2) := by decide +kernel
theorem d1_123 : decode method_4_code 123 = .ok (.bipush 110, 2) := by decide +kernel
theorem d1_125 : decode method_4_code 125 = .ok (.castore, 1) := by decide +kernel
theorem d1_126 : decode method_4_code 126 = .ok (.dup, 1) := by decide +kernel
theorem d1_127 : decode method_4_code 127 = .ok (.bipush 21, 2) := by decide +kernel
theorem d1_129 : decode method_4_code 129 = .ok (.bipush 115, 2) := by decide +kernel
theorem d1_131 : decode method_4_code 131 = .ok (.castore, 1) := by decide +kernel
theorem d1_132 : decode method_4_code 132 = .ok (.dup, 1) := by decide +kernel
theorem d1_133 : decode method_4_code 133 = .ok (.bipush 22, 2) := by decide +kernel
theorem d1_135 : decode method_4_code 135 = .ok (.bipush 61, 2) := by decide +kernel
theorem d1_137 : decode method_4_code 137 = .ok (.castore, 1) := by decide +kernel
theorem d1_138 : decode method_4_code 138 = .ok (.dup, 1) := by decide +kernel
theorem d1_139 : decode method_4_code 139 = .ok (.bipush 23, 2) := by decide +kernel
theorem d1_141 : decode method_4_code 141 = .ok (.iload_n 1, 1) := by decide +kernel
theorem d1_142 : decode method_4_code 142 = .ok (.invokestatic 31, 3) := by decide +kernel
theorem d1_145 : decode method_4_code 145 = .ok (.castore, 1) := by decide +kernel
theorem d1_146 : decode method_4_code 146 = .ok (.dup, 1) := by decide +kernel
theorem d1_147 : decode method_4_code 147 = .ok (.bipush 24, 2) := by decide +kernel
theorem d1_149 : decode method_4_code 149 = .ok (.bipush 32, 2) := by decide +kernel
theorem d1_151 : decode method_4_code 151 = .ok (.castore, 1) := by decide +kernel
theorem d1_152 : decode method_4_code 152 = .ok (.dup, 1) := by decide +kernel
theorem d1_153 : decode method_4_code 153 = .ok (.bipush 25, 2) := by decide +kernel
theorem d1_155 : decode method_4_code 155 = .ok (.bipush 115, 2) := by decide +kernel
theorem d1_157 : decode method_4_code 157 = .ok (.castore, 1) := by decide +kernel
theorem d1_158 : decode method_4_code 158 = .ok (.dup, 1) := by decide +kernel
theorem d1_159 : decode method_4_code 159 = .ok (.bipush 26, 2) := by decide +kernel
theorem d1_161 : decode method_4_code 161 = .ok (.bipush 116, 2) := by decide +kernel
theorem d1_163 : decode method_4_code 163 = .ok (.castore, 1) := by decide +kernel
theorem d1_164 : decode method_4_code 164 = .ok (.dup, 1) := by decide +kernel
theorem d1_165 : decode method_4_code 165 = .ok (.bipush 27, 2) := by decide +kernel
theorem d1_167 : decode method_4_code 167 = .ok (.bipush 97, 2) := by decide +kernel
theorem d1_169 : decode method_4_code 169 = .ok (.castore, 1) := by decide +kernel
theorem d1_170 : decode method_4_code 170 = .ok (.dup, 1) := by decide +kernel
theorem d1_171 : decode method_4_code 171 = .ok (.bipush 28, 2) := by decide +kernel
theorem d1_173 : decode method_4_code 173 = .ok (.bipush 116, 2) := by decide +kernel
theorem d1_175 : decode method_4_code 175 = .ok (.castore, 1) := by decide +kernel
theorem d1_176 : decode method_4_code 176 = .ok (.dup, 1) := by decide +kernel
theorem d1_177 : decode method_4_code 177 = .ok (.bipush 29, 2) := by decide +kernel
theorem d1_179 : decode method_4_code 179 = .ok (.bipush 101, 2) := by decide +kernel
theorem d1_181 : decode method_4_code 181 = .ok (.castore, 1) := by decide +kernel
theorem d1_182 : decode method_4_code 182 = .ok (.dup, 1) := by decide +kernel
theorem d1_183 : decode method_4_code 183 = .ok (.bipush 30, 2) := by decide +kernel
theorem d1_185 : decode method_4_code 185 = .ok (.bipush 109, 2) := by decide +kernel
theorem d1_187 : decode method_4_code 187 = .ok (.castore, 1) := by decide +kernel
theorem d1_188 : decode method_4_code 188 = .ok (.dup, 1) := by decide +kernel
theorem d1_189 : decode method_4_code 189 = .ok (.bipush 31, 2) := by decide +kernel
theorem d1_191 : decode method_4_code 191 = .ok (.bipush 101, 2) := by decide +kernel
theorem d1_193 : decode method_4_code 193 = .ok (.castore, 1) := by decide +kernel
theorem d1_194 : decode method_4_code 194 = .ok (.dup, 1) := by decide +kernel
theorem d1_195 : decode method_4_code 195 = .ok (.bipush 32, 2) := by decide +kernel
theorem d1_197 : decode method_4_code 197 = .ok (.bipush 110, 2) := by decide +kernel
theorem d1_199 : decode method_4_code 199 = .ok (.castore, 1) := by decide +kernel
theorem d1_200 : decode method_4_code 200 = .ok (.dup, 1) := by decide +kernel
theorem d1_201 : decode method_4_code 201 = .ok (.bipush 33, 2) := by decide +kernel
theorem d1_203 : decode method_4_code 203 = .ok (.bipush 116, 2) := by decide +kernel
theorem d1_205 : decode method_4_code 205 = .ok (.castore, 1) := by decide +kernel
theorem d1_206 : decode method_4_code 206 = .ok (.dup, 1) := by decide +kernel
theorem d1_207 : decode method_4_code 207 = .ok (.bipush 34, 2) := by decide +kernel
theorem d1_209 : decode method_4_code 209 = .ok (.bipush 115, 2) := by decide +kernel
theorem d1_211 : decode method_4_code 211 = .ok (.castore, 1) := by decide +kernel
theorem d1_212 : decode method_4_code 212 = .ok (.dup, 1) := by decide +kernel
theorem d1_213 : decode method_4_code 213 = .ok (.bipush 35, 2) := by decide +kernel
theorem d1_215 : decode method_4_code 215 = .ok (.bipush 61, 2) := by decide +kernel
theorem d1_217 : decode method_4_code 217 = .ok (.castore, 1) := by decide +kernel
theorem d1_218 : decode method_4_code 218 = .ok (.dup, 1) := by decide +kernel
theorem d1_219 : decode method_4_code 219 = .ok (.bipush 36, 2) := by decide +kernel
theorem d1_221 : decode method_4_code 221 = .ok (.iload_n 2, 1) := by decide +kernel
theorem d1_222 : decode method_4_code 222 = .ok (.invokestatic 31, 3) := by decide +kernel
theorem d1_225 : decode method_4_code 225 = .ok (.castore, 1) := by decide +kernel
theorem d1_226 : decode method_4_code 226 = .ok (.astore_n 3, 1) := by decide +kernel
theorem d1_227 : decode method_4_code 227 = .ok (.new 26, 3) := by decide +kernel
theorem d1_230 : decode method_4_code 230 = .ok (.dup, 1) := by decide +kernel
theorem d1_231 : decode method_4_code 231 = .ok (.aload_n 3, 1) := by decide +kernel
theorem d1_232 : decode method_4_code 232 = .ok (.invokespecial 35, 3) := by decide +kernel
theorem d1_235 : decode method_4_code 235 = .ok (.areturn, 1) := by decide +kernel
theorem ef_1 (m : MethodId) (p1 : Int32) (p2 : Int32) (p3 : Int32) : entryFrame m #[(.int p1), (.int p2), (.int p3)] 4 = mkF m 0 #[vI p1, vI p2, vI p3, vU] [] := by first | (simp [entryFrame, mkF, argsToLocals, Value.category]; done) | rfl
def Q1 (Z : State) (p1 : Int32) (p2 : Int32) (p3 : Int32) (st_COMPACT_STRINGS : Int32) (h0 : Heap) (n0 : Nat) (v : Option Value) (h : Heap) (L : List Loc) : Prop := ∃ xb : Addr, v = some (.ref xb) ∧ Fr n0 L ∧ Keep h0 h [] ∧ own_Str Z h xb (own_pos p1 p2 p3)
set_option maxRecDepth 65536 in
set_option maxHeartbeats 40000000 in
theorem rm1 (l : Launch) (Z : State) (a0 : Array Value) (hw : ∀ d ∈ tables_1, d.before a0 Z = true) (ws : List Jvm.Cond) (p1 : Int32) (p2 : Int32) (p3 : Int32) (st_COMPACT_STRINGS : Int32) (h0 : Heap) (n0 : Nat) (Z0 : n0 ≤ h0.size) (S_COMPACT_STRINGS : Sta Z h0 "java/lang/String" "COMPACT_STRINGS" "Z" (.int st_COMPACT_STRINGS)) (hq0_1 : own_d9 p1) (hq0_2 : own_d9 p2) (hq0_3 : own_d9 p3) (hq232_4 : ¬ (st_COMPACT_STRINGS = (0 : Int32))) :
    MetFree l (⟨"com/example/vigilant_context/vigilantcontext/finding/LoadCostToStringPinLaw", "posText", "(III)Ljava/lang/String;"⟩ : MethodName) (head1 (Jvm.Cond.code (⟨"com/example/vigilant_context/vigilantcontext/finding/LoadCostToStringPinLaw", "posText", "(III)Ljava/lang/String;"⟩ : MethodName) method_4_code 4 (some (.object "java/lang/String")) :: ws) ({ frames := 4, cells := 3, slots := 78, locals := 66 } : Room)) (fun a U => a = #[(.int p1), (.int p2), (.int p3)] ∧ Z.Warmed39 U.vm ∧ U.heap = h0) (fun _ _ _ _ _ => True) (fun _ U o U' => ∃ v L, o = .returned v ∧ Q1 Z p1 p2 p3 st_COMPACT_STRINGS h0 n0 v U'.heap L ∧ FrameEnd U o U' L ({ frames := 4, cells := 3, slots := 78, locals := 66 } : Room).cells ({ frames := 4, cells := 3, slots := 78, locals := 66 } : Room).slots) := by
  refine MetFree.of_bodySF (plainFor_of_name pn_7) hisR ?_
  intro p e s m args below meth c s₁ Bd hml0 hP hK
  obtain ⟨rfl, hZ, hh⟩ := hP
  have hx := Bd.exec
  have hby := Bd.bytes
  have hml : c.maxLocals = 4 := hml0
  have hown : s.vm.findClass "com/example/vigilant_context/vigilantcontext/finding/LoadCostToStringPinLaw" = some m.cls := findClass_of_methodNamed Bd.named
  have hnm := (name_of_methodNamed Bd.named Bd.method).1
  have X0 : Stand p l e ({ frames := 4, cells := 3, slots := 78, locals := 66 } : Room) s m #[(.int p1), (.int p2), (.int p3)] below meth c s₁ [] 0 0 := Stand.of_body Bd
  have e0 : s₁.heap = h0 := by rw [← hh, Bd.state]; rfl
  have N0 := Fr.nil n0
  have pre0 : ∀ t, Steps p.tables e below (s₁.setTop (mkF m 0 #[vI p1, vI p2, vI p3, vU] [])) t → Steps p.tables e below (s₁.setTop (entryFrame m #[(.int p1), (.int p2), (.int p3)] 4)) t := fun t k => castTop (ef_1 m p1 p2 p3) k
  obtain ⟨T4, h4, k4, X4, e4, E4, A4, st4⟩ := newP X0 hx hZ (own_wi hw 4 rfl) e0 (g := (mkF m 2 #[vI p1, vI p2, vI p3, vU] [(.int (37 : Int32))])) rfl (hb hby d1_2) rfl (by decide) (cap := 37) (by decide) (by decide) (by decide) (by decide)
  obtain ⟨b4, g4⟩ : ∃ z, z = h0.size := ⟨_, rfl⟩
  rw [← g4] at A4 st4
  have g_b4 : n0 ≤ b4 := Nat.le_trans Z0 (Nat.le_of_eq g4.symm)
  have sz_b4 : h0.size ≤ b4 := Nat.le_trans ((Keep.refl h0 [])).1 (Nat.le_of_eq g4.symm)
  have K4 : Keep h0 h4 [] := ((Keep.refl h0 [])).ext E4
  have Z4 : n0 ≤ h4.size := Nat.le_trans Z0 E4.1
  have V_b4 : Arv Z h4 b4 k4 .char (37 : Int32) [] (.int (0 : Int32)) := Arv.new A4 (by decide)
  have l_b4 : ([] : List Value).length = 0 := rfl
  obtain ⟨T5, h5, L5, X5, e5, N5, W5, A5, st5⟩ := own_putc X4 hx hZ e4 V_b4 (j := (0 : Int32)) (k0 := 0) l_b4 rfl (by decide) (by decide) (v' := (115 : Int32)) rfl rfl (g := (mkF m 8 #[vI p1, vI p2, vI p3, vU] [(.int (115 : Int32)), (.int (0 : Int32)), (.ref b4), (.ref b4)])) rfl rfl (hb hby d1_8) N0 g_b4
  obtain ⟨vs5, q5⟩ : ∃ l : List Value, l = [] ++ [(.int (115 : Int32))] := ⟨_, rfl⟩
  rw [← q5] at A5
  have l5 : vs5.length = 1 := by rw [q5, List.length_append, l_b4]; rfl
  have K5 : Keep h0 h5 [] := (K4).wr W5 (Or.inr sz_b4)
  have Z5 : n0 ≤ h5.size := Nat.le_trans Z4 (Keep.of_wr W5).1
  obtain ⟨T6, h6, L6, X6, e6, N6, W6, A6, st6⟩ := own_putc X5 hx hZ e5 A5 (j := (1 : Int32)) (k0 := 1) l5 rfl (by decide) (by decide) (v' := (101 : Int32)) rfl rfl (g := (mkF m 13 #[vI p1, vI p2, vI p3, vU] [(.int (101 : Int32)), (.int (1 : Int32)), (.ref b4), (.ref b4)])) rfl rfl (hb hby d1_13) N5 g_b4
  obtain ⟨vs6, q6⟩ : ∃ l : List Value, l = vs5 ++ [(.int (101 : Int32))] := ⟨_, rfl⟩
  rw [← q6] at A6
  have l6 : vs6.length = 2 := by rw [q6, List.length_append, l5]; rfl
  have y7 := (((S_COMPACT_STRINGS.ext E4).wr W5).wr W6)
  have K6 : Keep h0 h6 [] := (K5).wr W6 (Or.inr sz_b4)
  have Z6 : n0 ≤ h6.size := Nat.le_trans Z5 (Keep.of_wr W6).1
  obtain ⟨T8, h8, L8, X8, e8, N8, W8, A8, st8⟩ := own_putc X6 hx hZ e6 A6 (j := (2 : Int32)) (k0 := 2) l6 rfl (by decide) (by decide) (v' := (115 : Int32)) rfl rfl (g := (mkF m 18 #[vI p1, vI p2, vI p3, vU] [(.int (115 : Int32)), (.int (2 : Int32)), (.ref b4), (.ref b4)])) rfl rfl (hb hby d1_18) N6 g_b4
  obtain ⟨vs8, q8⟩ : ∃ l : List Value, l = vs6 ++ [(.int (115 : Int32))] := ⟨_, rfl⟩
  rw [← q8] at A8
  have l8 : vs8.length = 3 := by rw [q8, List.length_append, l6]; rfl
  have K8 : Keep h0 h8 [] := (K6).wr W8 (Or.inr sz_b4)
  have Z8 : n0 ≤ h8.size := Nat.le_trans Z6 (Keep.of_wr W8).1
  obtain ⟨T9, h9, L9, X9, e9, N9, W9, A9, st9⟩ := own_putc X8 hx hZ e8 A8 (j := (3 : Int32)) (k0 := 3) l8 rfl (by decide) (by decide) (v' := (115 : Int32)) rfl rfl (g := (mkF m 23 #[vI p1, vI p2, vI p3, vU] [(.int (115 : Int32)), (.int (3 : Int32)), (.ref b4), (.ref b4)])) rfl rfl (hb hby d1_23) N8 g_b4
  obtain ⟨vs9, q9⟩ : ∃ l : List Value, l = vs8 ++ [(.int (115 : Int32))] := ⟨_, rfl⟩
  rw [← q9] at A9
  have l9 : vs9.length = 4 := by rw [q9, List.length_append, l8]; rfl
  have K9 : Keep h0 h9 [] := (K8).wr W9 (Or.inr sz_b4)
  have Z9 : n0 ≤ h9.size := Nat.le_trans Z8 (Keep.of_wr W9).1
  obtain ⟨T10, h10, L10, X10, e10, N10, W10, A10, st10⟩ := own_putc X9 hx hZ e9 A9 (j := (4 : Int32)) (k0 := 4) l9 rfl (by decide) (by decide) (v' := (105 : Int32)) rfl rfl (g := (mkF m 28 #[vI p1, vI p2, vI p3, vU] [(.int (105 : Int32)), (.int (4 : Int32)), (.ref b4), (.ref b4)])) rfl rfl (hb hby d1_28) N9 g_b4
  obtain ⟨vs10, q10⟩ : ∃ l : List Value, l = vs9 ++ [(.int (105 : Int32))] := ⟨_, rfl⟩
  rw [← q10] at A10
  have l10 : vs10.length = 5 := by rw [q10, List.length_append, l9]; rfl
  have K10 : Keep h0 h10 [] := (K9).wr W10 (Or.inr sz_b4)
  have Z10 : n0 ≤ h10.size := Nat.le_trans Z9 (Keep.of_wr W10).1
  obtain ⟨T11, h11, L11, X11, e11, N11, W11, A11, st11⟩ := own_putc X10 hx hZ e10 A10 (j := (5 : Int32)) (k0 := 5) l10 rfl (by decide) (by decide) (v' := (111 : Int32)) rfl rfl (g := (mkF m 33 #[vI p1, vI p2, vI p3, vU] [(.int (111 : Int32)), (.int (5 : Int32)), (.ref b4), (.ref b4)])) rfl rfl (hb hby d1_33) N10 g_b4
  obtain ⟨vs11, q11⟩ : ∃ l : List Value, l = vs10 ++ [(.int (111 : Int32))] := ⟨_, rfl⟩
  rw [← q11] at A11
  have l11 : vs11.length = 6 := by rw [q11, List.length_append, l10]; rfl
  have K11 : Keep h0 h11 [] := (K10).wr W11 (Or.inr sz_b4)
  have Z11 : n0 ≤ h11.size := Nat.le_trans Z10 (Keep.of_wr W11).1
  obtain ⟨T12, h12, L12, X12, e12, N12, W12, A12, st12⟩ := own_putc X11 hx hZ e11 A11 (j := (6 : Int32)) (k0 := 6) l11 rfl (by decide) (by decide) (v' := (110 : Int32)) rfl rfl (g := (mkF m 39 #[vI p1, vI p2, vI p3, vU] [(.int (110 : Int32)), (.int (6 : Int32)), (.ref b4), (.ref b4)])) rfl rfl (hb hby d1_39) N11 g_b4
  obtain ⟨vs12, q12⟩ : ∃ l : List Value, l = vs11 ++ [(.int (110 : Int32))] := ⟨_, rfl⟩
  rw [← q12] at A12
  have l12 : vs12.length = 7 := by rw [q12, List.length_append, l11]; rfl
  have y13 := (((((y7.wr W8).wr W9).wr W10).wr W11).wr W12)
  have K12 : Keep h0 h12 [] := (K11).wr W12 (Or.inr sz_b4)
  have Z12 : n0 ≤ h12.size := Nat.le_trans Z11 (Keep.of_wr W12).1
  obtain ⟨T14, h14, L14, X14, e14, N14, W14, A14, st14⟩ := own_putc X12 hx hZ e12 A12 (j := (7 : Int32)) (k0 := 7) l12 rfl (by decide) (by decide) (v' := (115 : Int32)) rfl rfl (g := (mkF m 45 #[vI p1, vI p2, vI p3, vU] [(.int (115 : Int32)), (.int (7 : Int32)), (.ref b4), (.ref b4)])) rfl rfl (hb hby d1_45) N12 g_b4
  obtain ⟨vs14, q14⟩ : ∃ l : List Value, l = vs12 ++ [(.int (115 : Int32))] := ⟨_, rfl⟩
  rw [← q14] at A14
  have l14 : vs14.length = 8 := by rw [q14, List.length_append, l12]; rfl
  have K14 : Keep h0 h14 [] := (K12).wr W14 (Or.inr sz_b4)
  have Z14 : n0 ≤ h14.size := Nat.le_trans Z12 (Keep.of_wr W14).1
  obtain ⟨T15, h15, L15, X15, e15, N15, W15, A15, st15⟩ := own_putc X14 hx hZ e14 A14 (j := (8 : Int32)) (k0 := 8) l14 rfl (by decide) (by decide) (v' := (61 : Int32)) rfl rfl (g := (mkF m 51 #[vI p1, vI p2, vI p3, vU] [(.int (61 : Int32)), (.int (8 : Int32)), (.ref b4), (.ref b4)])) rfl rfl (hb hby d1_51) N14 g_b4
  obtain ⟨vs15, q15⟩ : ∃ l : List Value, l = vs14 ++ [(.int (61 : Int32))] := ⟨_, rfl⟩
  rw [← q15] at A15
  have l15 : vs15.length = 9 := by rw [q15, List.length_append, l14]; rfl
  have K15 : Keep h0 h15 [] := (K14).wr W15 (Or.inr sz_b4)
  have Z15 : n0 ≤ h15.size := Nat.le_trans Z14 (Keep.of_wr W15).1
  obtain ⟨_, _, ⟨T16, L16, k16, n16⟩, -, X16, ⟨Lc16, hQ16, l16, y16, z16⟩, st16⟩ := Jvm.LawKit.callS X15 hx (y := (⟨"com/example/vigilant_context/vigilantcontext/finding/LoadCostToStringPinLaw", "dig", "(I)C"⟩ : MethodName)) hown (mvT hZ (own_wi hw 5 rfl)) (mvT hZ (own_wi hw 6 rfl)) (mvT hZ (own_wi hw 2 rfl)) (mvT hZ (own_wi hw 7 rfl)) (by decide) (backOf (W := 3) (rm2 l Z a0 hw [] p1 h15 n0 Z15 ) hZ (own_wi hw 7 rfl) (own_wi hw 2 rfl) (by decide) (by decide)) (g := (mkF m 56 #[vI p1, vI p2, vI p3, vU] [(.int p1), (.int (9 : Int32)), (.ref b4), (.ref b4)])) rfl (by rw [hml]; rfl) (argsL := [(.int p1)]) (rest := [(.int (9 : Int32)), (.ref b4), (.ref b4)]) (lenOf pd_22 rfl) rfl (by show 2 * 0 + _ ≤ _; exact Nat.le_of_eq rfl) (hb hby d1_56) (fun _ _ => ⟨rfl, e15, (by decide : 1 + 0 ≤ _), (by decide : 37 + 0 ≤ _)⟩)
  dsimp only [Pt.U, Pt.locs, Pt.cells, Pt.slots] at X16 l16 y16 z16 st16 hQ16
  subst l16 y16 z16
  obtain ⟨rfl, N16q, e16⟩ := hQ16
  have N16 := Fr.app N15 N16q
  obtain ⟨T17, h17, L17, X17, e17, N17, W17, A17, st17⟩ := own_putc X16 hx hZ e16 A15 (j := (9 : Int32)) (k0 := 9) l15 rfl (by decide) (by decide) (v' := (((((48 : Int32) + p1).toUInt32.toUInt16.toUInt32.toInt32).toUInt32.toUInt16.toUInt32.toInt32).toUInt32.toUInt16.toUInt32.toInt32)) rfl (fits_nar_char _) (g := (mkF m 59 #[vI p1, vI p2, vI p3, vU] [(.int ((((48 : Int32) + p1).toUInt32.toUInt16.toUInt32.toInt32).toUInt32.toUInt16.toUInt32.toInt32)), (.int (9 : Int32)), (.ref b4), (.ref b4)])) rfl rfl (hb hby d1_59) N16 g_b4
  obtain ⟨vs17, q17⟩ : ∃ l : List Value, l = vs15 ++ [(.int (((((48 : Int32) + p1).toUInt32.toUInt16.toUInt32.toInt32).toUInt32.toUInt16.toUInt32.toInt32).toUInt32.toUInt16.toUInt32.toInt32))] := ⟨_, rfl⟩
  rw [← q17] at A17
  have l17 : vs17.length = 10 := by rw [q17, List.length_append, l15]; rfl
  have K17 : Keep h0 h17 [] := (K15).wr W17 (Or.inr sz_b4)
  have Z17 : n0 ≤ h17.size := Nat.le_trans Z15 (Keep.of_wr W17).1
  obtain ⟨T18, h18, L18, X18, e18, N18, W18, A18, st18⟩ := own_putc X17 hx hZ e17 A17 (j := (10 : Int32)) (k0 := 10) l17 rfl (by decide) (by decide) (v' := (32 : Int32)) rfl rfl (g := (mkF m 65 #[vI p1, vI p2, vI p3, vU] [(.int (32 : Int32)), (.int (10 : Int32)), (.ref b4), (.ref b4)])) rfl rfl (hb hby d1_65) N17 g_b4
  obtain ⟨vs18, q18⟩ : ∃ l : List Value, l = vs17 ++ [(.int (32 : Int32))] := ⟨_, rfl⟩
  rw [← q18] at A18
  have l18 : vs18.length = 11 := by rw [q18, List.length_append, l17]; rfl
  have K18 : Keep h0 h18 [] := (K17).wr W18 (Or.inr sz_b4)
  have Z18 : n0 ≤ h18.size := Nat.le_trans Z17 (Keep.of_wr W18).1
  obtain ⟨T19, h19, L19, X19, e19, N19, W19, A19, st19⟩ := own_putc X18 hx hZ e18 A18 (j := (11 : Int32)) (k0 := 11) l18 rfl (by decide) (by decide) (v' := (99 : Int32)) rfl rfl (g := (mkF m 71 #[vI p1, vI p2, vI p3, vU] [(.int (99 : Int32)), (.int (11 : Int32)), (.ref b4), (.ref b4)])) rfl rfl (hb hby d1_71) N18 g_b4
  obtain ⟨vs19, q19⟩ : ∃ l : List Value, l = vs18 ++ [(.int (99 : Int32))] := ⟨_, rfl⟩
  rw [← q19] at A19
  have l19 : vs19.length = 12 := by rw [q19, List.length_append, l18]; rfl
  have y20 := (((((y13.wr W14).wr W15).wr W17).wr W18).wr W19)
  have K19 : Keep h0 h19 [] := (K18).wr W19 (Or.inr sz_b4)
  have Z19 : n0 ≤ h19.size := Nat.le_trans Z18 (Keep.of_wr W19).1
  obtain ⟨T21, h21, L21, X21, e21, N21, W21, A21, st21⟩ := own_putc X19 hx hZ e19 A19 (j := (12 : Int32)) (k0 := 12) l19 rfl (by decide) (by decide) (v' := (111 : Int32)) rfl rfl (g := (mkF m 77 #[vI p1, vI p2, vI p3, vU] [(.int (111 : Int32)), (.int (12 : Int32)), (.ref b4), (.ref b4)])) rfl rfl (hb hby d1_77) N19 g_b4
  obtain ⟨vs21, q21⟩ : ∃ l : List Value, l = vs19 ++ [(.int (111 : Int32))] := ⟨_, rfl⟩
  rw [← q21] at A21
  have l21 : vs21.length = 13 := by rw [q21, List.length_append, l19]; rfl
  have K21 : Keep h0 h21 [] := (K19).wr W21 (Or.inr sz_b4)
  have Z21 : n0 ≤ h21.size := Nat.le_trans Z19 (Keep.of_wr W21).1
  obtain ⟨T22, h22, L22, X22, e22, N22, W22, A22, st22⟩ := own_putc X21 hx hZ e21 A21 (j := (13 : Int32)) (k0 := 13) l21 rfl (by decide) (by decide) (v' := (110 : Int32)) rfl rfl (g := (mkF m 83 #[vI p1, vI p2, vI p3, vU] [(.int (110 : Int32)), (.int (13 : Int32)), (.ref b4), (.ref b4)])) rfl rfl (hb hby d1_83) N21 g_b4
  obtain ⟨vs22, q22⟩ : ∃ l : List Value, l = vs21 ++ [(.int (110 : Int32))] := ⟨_, rfl⟩
  rw [← q22] at A22
  have l22 : vs22.length = 14 := by rw [q22, List.length_append, l21]; rfl
  have K22 : Keep h0 h22 [] := (K21).wr W22 (Or.inr sz_b4)
  have Z22 : n0 ≤ h22.size := Nat.le_trans Z21 (Keep.of_wr W22).1
  obtain ⟨T23, h23, L23, X23, e23, N23, W23, A23, st23⟩ := own_putc X22 hx hZ e22 A22 (j := (14 : Int32)) (k0 := 14) l22 rfl (by decide) (by decide) (v' := (110 : Int32)) rfl rfl (g := (mkF m 89 #[vI p1, vI p2, vI p3, vU] [(.int (110 : Int32)), (.int (14 : Int32)), (.ref b4), (.ref b4)])) rfl rfl (hb hby d1_89) N22 g_b4
  obtain ⟨vs23, q23⟩ : ∃ l : List Value, l = vs22 ++ [(.int (110 : Int32))] := ⟨_, rfl⟩
  rw [← q23] at A23
  have l23 : vs23.length = 15 := by rw [q23, List.length_append, l22]; rfl
  have K23 : Keep h0 h23 [] := (K22).wr W23 (Or.inr sz_b4)
  have Z23 : n0 ≤ h23.size := Nat.le_trans Z22 (Keep.of_wr W23).1
  obtain ⟨T24, h24, L24, X24, e24, N24, W24, A24, st24⟩ := own_putc X23 hx hZ e23 A23 (j := (15 : Int32)) (k0 := 15) l23 rfl (by decide) (by decide) (v' := (101 : Int32)) rfl rfl (g := (mkF m 95 #[vI p1, vI p2, vI p3, vU] [(.int (101 : Int32)), (.int (15 : Int32)), (.ref b4), (.ref b4)])) rfl rfl (hb hby d1_95) N23 g_b4
  obtain ⟨vs24, q24⟩ : ∃ l : List Value, l = vs23 ++ [(.int (101 : Int32))] := ⟨_, rfl⟩
  rw [← q24] at A24
  have l24 : vs24.length = 16 := by rw [q24, List.length_append, l23]; rfl
  have K24 : Keep h0 h24 [] := (K23).wr W24 (Or.inr sz_b4)
  have Z24 : n0 ≤ h24.size := Nat.le_trans Z23 (Keep.of_wr W24).1
  obtain ⟨T25, h25, L25, X25, e25, N25, W25, A25, st25⟩ := own_putc X24 hx hZ e24 A24 (j := (16 : Int32)) (k0 := 16) l24 rfl (by decide) (by decide) (v' := (99 : Int32)) rfl rfl (g := (mkF m 101 #[vI p1, vI p2, vI p3, vU] [(.int (99 : Int32)), (.int (16 : Int32)), (.ref b4), (.ref b4)])) rfl rfl (hb hby d1_101) N24 g_b4
  obtain ⟨vs25, q25⟩ : ∃ l : List Value, l = vs24 ++ [(.int (99 : Int32))] := ⟨_, rfl⟩
  rw [← q25] at A25
  have l25 : vs25.length = 17 := by rw [q25, List.length_append, l24]; rfl
  have y26 := (((((y20.wr W21).wr W22).wr W23).wr W24).wr W25)
  have K25 : Keep h0 h25 [] := (K24).wr W25 (Or.inr sz_b4)
  have Z25 : n0 ≤ h25.size := Nat.le_trans Z24 (Keep.of_wr W25).1
  obtain ⟨T27, h27, L27, X27, e27, N27, W27, A27, st27⟩ := own_putc X25 hx hZ e25 A25 (j := (17 : Int32)) (k0 := 17) l25 rfl (by decide) (by decide) (v' := (116 : Int32)) rfl rfl (g := (mkF m 107 #[vI p1, vI p2, vI p3, vU] [(.int (116 : Int32)), (.int (17 : Int32)), (.ref b4), (.ref b4)])) rfl rfl (hb hby d1_107) N25 g_b4
  obtain ⟨vs27, q27⟩ : ∃ l : List Value, l = vs25 ++ [(.int (116 : Int32))] := ⟨_, rfl⟩
  rw [← q27] at A27
  have l27 : vs27.length = 18 := by rw [q27, List.length_append, l25]; rfl
  have K27 : Keep h0 h27 [] := (K25).wr W27 (Or.inr sz_b4)
  have Z27 : n0 ≤ h27.size := Nat.le_trans Z25 (Keep.of_wr W27).1
  obtain ⟨T28, h28, L28, X28, e28, N28, W28, A28, st28⟩ := own_putc X27 hx hZ e27 A27 (j := (18 : Int32)) (k0 := 18) l27 rfl (by decide) (by decide) (v' := (105 : Int32)) rfl rfl (g := (mkF m 113 #[vI p1, vI p2, vI p3, vU] [(.int (105 : Int32)), (.int (18 : Int32)), (.ref b4), (.ref b4)])) rfl rfl (hb hby d1_113) N27 g_b4
  obtain ⟨vs28, q28⟩ : ∃ l : List Value, l = vs27 ++ [(.int (105 : Int32))] := ⟨_, rfl⟩
  rw [← q28] at A28
  have l28 : vs28.length = 19 := by rw [q28, List.length_append, l27]; rfl
  have K28 : Keep h0 h28 [] := (K27).wr W28 (Or.inr sz_b4)
  have Z28 : n0 ≤ h28.size := Nat.le_trans Z27 (Keep.of_wr W28).1
  obtain ⟨T29, h29, L29, X29, e29, N29, W29, A29, st29⟩ := own_putc X28 hx hZ e28 A28 (j := (19 : Int32)) (k0 := 19) l28 rfl (by decide) (by decide) (v' := (111 : Int32)) rfl rfl (g := (mkF m 119 #[vI p1, vI p2, vI p3, vU] [(.int (111 : Int32)), (.int (19 : Int32)), (.ref b4), (.ref b4)])) rfl rfl (hb hby d1_119) N28 g_b4
  obtain ⟨vs29, q29⟩ : ∃ l : List Value, l = vs28 ++ [(.int (111 : Int32))] := ⟨_, rfl⟩
  rw [← q29] at A29
  have l29 : vs29.length = 20 := by rw [q29, List.length_append, l28]; rfl
  have K29 : Keep h0 h29 [] := (K28).wr W29 (Or.inr sz_b4)
  have Z29 : n0 ≤ h29.size := Nat.le_trans Z28 (Keep.of_wr W29).1
  obtain ⟨T30, h30, L30, X30, e30, N30, W30, A30, st30⟩ := own_putc X29 hx hZ e29 A29 (j := (20 : Int32)) (k0 := 20) l29 rfl (by decide) (by decide) (v' := (110 : Int32)) rfl rfl (g := (mkF m 125 #[vI p1, vI p2, vI p3, vU] [(.int (110 : Int32)), (.int (20 : Int32)), (.ref b4), (.ref b4)])) rfl rfl (hb hby d1_125) N29 g_b4
  obtain ⟨vs30, q30⟩ : ∃ l : List Value, l = vs29 ++ [(.int (110 : Int32))] := ⟨_, rfl⟩
  rw [← q30] at A30
  have l30 : vs30.length = 21 := by rw [q30, List.length_append, l29]; rfl
  have K30 : Keep h0 h30 [] := (K29).wr W30 (Or.inr sz_b4)
  have Z30 : n0 ≤ h30.size := Nat.le_trans Z29 (Keep.of_wr W30).1
  obtain ⟨T31, h31, L31, X31, e31, N31, W31, A31, st31⟩ := own_putc X30 hx hZ e30 A30 (j := (21 : Int32)) (k0 := 21) l30 rfl (by decide) (by decide) (v' := (115 : Int32)) rfl rfl (g := (mkF m 131 #[vI p1, vI p2, vI p3, vU] [(.int (115 : Int32)), (.int (21 : Int32)), (.ref b4), (.ref b4)])) rfl rfl (hb hby d1_131) N30 g_b4
  obtain ⟨vs31, q31⟩ : ∃ l : List Value, l = vs30 ++ [(.int (115 : Int32))] := ⟨_, rfl⟩
  rw [← q31] at A31
  have l31 : vs31.length = 22 := by rw [q31, List.length_append, l30]; rfl
  have y32 := (((((y26.wr W27).wr W28).wr W29).wr W30).wr W31)
  have K31 : Keep h0 h31 [] := (K30).wr W31 (Or.inr sz_b4)
  have Z31 : n0 ≤ h31.size := Nat.le_trans Z30 (Keep.of_wr W31).1
  obtain ⟨T33, h33, L33, X33, e33, N33, W33, A33, st33⟩ := own_putc X31 hx hZ e31 A31 (j := (22 : Int32)) (k0 := 22) l31 rfl (by decide) (by decide) (v' := (61 : Int32)) rfl rfl (g := (mkF m 137 #[vI p1, vI p2, vI p3, vU] [(.int (61 : Int32)), (.int (22 : Int32)), (.ref b4), (.ref b4)])) rfl rfl (hb hby d1_137) N31 g_b4
  obtain ⟨vs33, q33⟩ : ∃ l : List Value, l = vs31 ++ [(.int (61 : Int32))] := ⟨_, rfl⟩
  rw [← q33] at A33
  have l33 : vs33.length = 23 := by rw [q33, List.length_append, l31]; rfl
  have K33 : Keep h0 h33 [] := (K31).wr W33 (Or.inr sz_b4)
  have Z33 : n0 ≤ h33.size := Nat.le_trans Z31 (Keep.of_wr W33).1
  obtain ⟨_, _, ⟨T34, L34, k34, n34⟩, -, X34, ⟨Lc34, hQ34, l34, y34, z34⟩, st34⟩ := Jvm.LawKit.callS X33 hx (y := (⟨"com/example/vigilant_context/vigilantcontext/finding/LoadCostToStringPinLaw", "dig", "(I)C"⟩ : MethodName)) hown (mvT hZ (own_wi hw 5 rfl)) (mvT hZ (own_wi hw 6 rfl)) (mvT hZ (own_wi hw 2 rfl)) (mvT hZ (own_wi hw 7 rfl)) (by decide) (backOf (W := 3) (rm2 l Z a0 hw [] p2 h33 n0 Z33 ) hZ (own_wi hw 7 rfl) (own_wi hw 2 rfl) (by decide) (by decide)) (g := (mkF m 142 #[vI p1, vI p2, vI p3, vU] [(.int p2), (.int (23 : Int32)), (.ref b4), (.ref b4)])) rfl (by rw [hml]; rfl) (argsL := [(.int p2)]) (rest := [(.int (23 : Int32)), (.ref b4), (.ref b4)]) (lenOf pd_22 rfl) rfl (by show 2 * 0 + _ ≤ _; exact Nat.le_of_eq rfl) (hb hby d1_142) (fun _ _ => ⟨rfl, e33, (by decide : 1 + 0 ≤ _), (by decide : 37 + 0 ≤ _)⟩)
  dsimp only [Pt.U, Pt.locs, Pt.cells, Pt.slots] at X34 l34 y34 z34 st34 hQ34
  subst l34 y34 z34
  obtain ⟨rfl, N34q, e34⟩ := hQ34
  have N34 := Fr.app N33 N34q
  obtain ⟨T35, h35, L35, X35, e35, N35, W35, A35, st35⟩ := own_putc X34 hx hZ e34 A33 (j := (23 : Int32)) (k0 := 23) l33 rfl (by decide) (by decide) (v' := (((((48 : Int32) + p2).toUInt32.toUInt16.toUInt32.toInt32).toUInt32.toUInt16.toUInt32.toInt32).toUInt32.toUInt16.toUInt32.toInt32)) rfl (fits_nar_char _) (g := (mkF m 145 #[vI p1, vI p2, vI p3, vU] [(.int ((((48 : Int32) + p2).toUInt32.toUInt16.toUInt32.toInt32).toUInt32.toUInt16.toUInt32.toInt32)), (.int (23 : Int32)), (.ref b4), (.ref b4)])) rfl rfl (hb hby d1_145) N34 g_b4
  obtain ⟨vs35, q35⟩ : ∃ l : List Value, l = vs33 ++ [(.int (((((48 : Int32) + p2).toUInt32.toUInt16.toUInt32.toInt32).toUInt32.toUInt16.toUInt32.toInt32).toUInt32.toUInt16.toUInt32.toInt32))] := ⟨_, rfl⟩
  rw [← q35] at A35
  have l35 : vs35.length = 24 := by rw [q35, List.length_append, l33]; rfl
  have K35 : Keep h0 h35 [] := (K33).wr W35 (Or.inr sz_b4)
  have Z35 : n0 ≤ h35.size := Nat.le_trans Z33 (Keep.of_wr W35).1
  obtain ⟨T36, h36, L36, X36, e36, N36, W36, A36, st36⟩ := own_putc X35 hx hZ e35 A35 (j := (24 : Int32)) (k0 := 24) l35 rfl (by decide) (by decide) (v' := (32 : Int32)) rfl rfl (g := (mkF m 151 #[vI p1, vI p2, vI p3, vU] [(.int (32 : Int32)), (.int (24 : Int32)), (.ref b4), (.ref b4)])) rfl rfl (hb hby d1_151) N35 g_b4
  obtain ⟨vs36, q36⟩ : ∃ l : List Value, l = vs35 ++ [(.int (32 : Int32))] := ⟨_, rfl⟩
  rw [← q36] at A36
  have l36 : vs36.length = 25 := by rw [q36, List.length_append, l35]; rfl
  have K36 : Keep h0 h36 [] := (K35).wr W36 (Or.inr sz_b4)
  have Z36 : n0 ≤ h36.size := Nat.le_trans Z35 (Keep.of_wr W36).1
  obtain ⟨T37, h37, L37, X37, e37, N37, W37, A37, st37⟩ := own_putc X36 hx hZ e36 A36 (j := (25 : Int32)) (k0 := 25) l36 rfl (by decide) (by decide) (v' := (115 : Int32)) rfl rfl (g := (mkF m 157 #[vI p1, vI p2, vI p3, vU] [(.int (115 : Int32)), (.int (25 : Int32)), (.ref b4), (.ref b4)])) rfl rfl (hb hby d1_157) N36 g_b4
  obtain ⟨vs37, q37⟩ : ∃ l : List Value, l = vs36 ++ [(.int (115 : Int32))] := ⟨_, rfl⟩
  rw [← q37] at A37
  have l37 : vs37.length = 26 := by rw [q37, List.length_append, l36]; rfl
  have K37 : Keep h0 h37 [] := (K36).wr W37 (Or.inr sz_b4)
  have Z37 : n0 ≤ h37.size := Nat.le_trans Z36 (Keep.of_wr W37).1
  obtain ⟨T38, h38, L38, X38, e38, N38, W38, A38, st38⟩ := own_putc X37 hx hZ e37 A37 (j := (26 : Int32)) (k0 := 26) l37 rfl (by decide) (by decide) (v' := (116 : Int32)) rfl rfl (g := (mkF m 163 #[vI p1, vI p2, vI p3, vU] [(.int (116 : Int32)), (.int (26 : Int32)), (.ref b4), (.ref b4)])) rfl rfl (hb hby d1_163) N37 g_b4
  obtain ⟨vs38, q38⟩ : ∃ l : List Value, l = vs37 ++ [(.int (116 : Int32))] := ⟨_, rfl⟩
  rw [← q38] at A38
  have l38 : vs38.length = 27 := by rw [q38, List.length_append, l37]; rfl
  have y39 := (((((y32.wr W33).wr W35).wr W36).wr W37).wr W38)
  have K38 : Keep h0 h38 [] := (K37).wr W38 (Or.inr sz_b4)
  have Z38 : n0 ≤ h38.size := Nat.le_trans Z37 (Keep.of_wr W38).1
  obtain ⟨T40, h40, L40, X40, e40, N40, W40, A40, st40⟩ := own_putc X38 hx hZ e38 A38 (j := (27 : Int32)) (k0 := 27) l38 rfl (by decide) (by decide) (v' := (97 : Int32)) rfl rfl (g := (mkF m 169 #[vI p1, vI p2, vI p3, vU] [(.int (97 : Int32)), (.int (27 : Int32)), (.ref b4), (.ref b4)])) rfl rfl (hb hby d1_169) N38 g_b4
  obtain ⟨vs40, q40⟩ : ∃ l : List Value, l = vs38 ++ [(.int (97 : Int32))] := ⟨_, rfl⟩
  rw [← q40] at A40
  have l40 : vs40.length = 28 := by rw [q40, List.length_append, l38]; rfl
  have K40 : Keep h0 h40 [] := (K38).wr W40 (Or.inr sz_b4)
  have Z40 : n0 ≤ h40.size := Nat.le_trans Z38 (Keep.of_wr W40).1
  obtain ⟨T41, h41, L41, X41, e41, N41, W41, A41, st41⟩ := own_putc X40 hx hZ e40 A40 (j := (28 : Int32)) (k0 := 28) l40 rfl (by decide) (by decide) (v' := (116 : Int32)) rfl rfl (g := (mkF m 175 #[vI p1, vI p2, vI p3, vU] [(.int (116 : Int32)), (.int (28 : Int32)), (.ref b4), (.ref b4)])) rfl rfl (hb hby d1_175) N40 g_b4
  obtain ⟨vs41, q41⟩ : ∃ l : List Value, l = vs40 ++ [(.int (116 : Int32))] := ⟨_, rfl⟩
  rw [← q41] at A41
  have l41 : vs41.length = 29 := by rw [q41, List.length_append, l40]; rfl
  have K41 : Keep h0 h41 [] := (K40).wr W41 (Or.inr sz_b4)
  have Z41 : n0 ≤ h41.size := Nat.le_trans Z40 (Keep.of_wr W41).1
  obtain ⟨T42, h42, L42, X42, e42, N42, W42, A42, st42⟩ := own_putc X41 hx hZ e41 A41 (j := (29 : Int32)) (k0 := 29) l41 rfl (by decide) (by decide) (v' := (101 : Int32)) rfl rfl (g := (mkF m 181 #[vI p1, vI p2, vI p3, vU] [(.int (101 : Int32)), (.int (29 : Int32)), (.ref b4), (.ref b4)])) rfl rfl (hb hby d1_181) N41 g_b4
  obtain ⟨vs42, q42⟩ : ∃ l : List Value, l = vs41 ++ [(.int (101 : Int32))] := ⟨_, rfl⟩
  rw [← q42] at A42
  have l42 : vs42.length = 30 := by rw [q42, List.length_append, l41]; rfl
  have K42 : Keep h0 h42 [] := (K41).wr W42 (Or.inr sz_b4)
  have Z42 : n0 ≤ h42.size := Nat.le_trans Z41 (Keep.of_wr W42).1
  obtain ⟨T43, h43, L43, X43, e43, N43, W43, A43, st43⟩ := own_putc X42 hx hZ e42 A42 (j := (30 : Int32)) (k0 := 30) l42 rfl (by decide) (by decide) (v' := (109 : Int32)) rfl rfl (g := (mkF m 187 #[vI p1, vI p2, vI p3, vU] [(.int (109 : Int32)), (.int (30 : Int32)), (.ref b4), (.ref b4)])) rfl rfl (hb hby d1_187) N42 g_b4
  obtain ⟨vs43, q43⟩ : ∃ l : List Value, l = vs42 ++ [(.int (109 : Int32))] := ⟨_, rfl⟩
  rw [← q43] at A43
  have l43 : vs43.length = 31 := by rw [q43, List.length_append, l42]; rfl
  have K43 : Keep h0 h43 [] := (K42).wr W43 (Or.inr sz_b4)
  have Z43 : n0 ≤ h43.size := Nat.le_trans Z42 (Keep.of_wr W43).1
  obtain ⟨T44, h44, L44, X44, e44, N44, W44, A44, st44⟩ := own_putc X43 hx hZ e43 A43 (j := (31 : Int32)) (k0 := 31) l43 rfl (by decide) (by decide) (v' := (101 : Int32)) rfl rfl (g := (mkF m 193 #[vI p1, vI p2, vI p3, vU] [(.int (101 : Int32)), (.int (31 : Int32)), (.ref b4), (.ref b4)])) rfl rfl (hb hby d1_193) N43 g_b4
  obtain ⟨vs44, q44⟩ : ∃ l : List Value, l = vs43 ++ [(.int (101 : Int32))] := ⟨_, rfl⟩
  rw [← q44] at A44
  have l44 : vs44.length = 32 := by rw [q44, List.length_append, l43]; rfl
  have y45 := (((((y39.wr W40).wr W41).wr W42).wr W43).wr W44)
  have K44 : Keep h0 h44 [] := (K43).wr W44 (Or.inr sz_b4)
  have Z44 : n0 ≤ h44.size := Nat.le_trans Z43 (Keep.of_wr W44).1
  obtain ⟨T46, h46, L46, X46, e46, N46, W46, A46, st46⟩ := own_putc X44 hx hZ e44 A44 (j := (32 : Int32)) (k0 := 32) l44 rfl (by decide) (by decide) (v' := (110 : Int32)) rfl rfl (g := (mkF m 199 #[vI p1, vI p2, vI p3, vU] [(.int (110 : Int32)), (.int (32 : Int32)), (.ref b4), (.ref b4)])) rfl rfl (hb hby d1_199) N44 g_b4
  obtain ⟨vs46, q46⟩ : ∃ l : List Value, l = vs44 ++ [(.int (110 : Int32))] := ⟨_, rfl⟩
  rw [← q46] at A46
  have l46 : vs46.length = 33 := by rw [q46, List.length_append, l44]; rfl
  have K46 : Keep h0 h46 [] := (K44).wr W46 (Or.inr sz_b4)
  have Z46 : n0 ≤ h46.size := Nat.le_trans Z44 (Keep.of_wr W46).1
  obtain ⟨T47, h47, L47, X47, e47, N47, W47, A47, st47⟩ := own_putc X46 hx hZ e46 A46 (j := (33 : Int32)) (k0 := 33) l46 rfl (by decide) (by decide) (v' := (116 : Int32)) rfl rfl (g := (mkF m 205 #[vI p1, vI p2, vI p3, vU] [(.int (116 : Int32)), (.int (33 : Int32)), (.ref b4), (.ref b4)])) rfl rfl (hb hby d1_205) N46 g_b4
  obtain ⟨vs47, q47⟩ : ∃ l : List Value, l = vs46 ++ [(.int (116 : Int32))] := ⟨_, rfl⟩
  rw [← q47] at A47
  have l47 : vs47.length = 34 := by rw [q47, List.length_append, l46]; rfl
  have K47 : Keep h0 h47 [] := (K46).wr W47 (Or.inr sz_b4)
  have Z47 : n0 ≤ h47.size := Nat.le_trans Z46 (Keep.of_wr W47).1
  obtain ⟨T48, h48, L48, X48, e48, N48, W48, A48, st48⟩ := own_putc X47 hx hZ e47 A47 (j := (34 : Int32)) (k0 := 34) l47 rfl (by decide) (by decide) (v' := (115 : Int32)) rfl rfl (g := (mkF m 211 #[vI p1, vI p2, vI p3, vU] [(.int (115 : Int32)), (.int (34 : Int32)), (.ref b4), (.ref b4)])) rfl rfl (hb hby d1_211) N47 g_b4
  obtain ⟨vs48, q48⟩ : ∃ l : List Value, l = vs47 ++ [(.int (115 : Int32))] := ⟨_, rfl⟩
  rw [← q48] at A48
  have l48 : vs48.length = 35 := by rw [q48, List.length_append, l47]; rfl
  have K48 : Keep h0 h48 [] := (K47).wr W48 (Or.inr sz_b4)
  have Z48 : n0 ≤ h48.size := Nat.le_trans Z47 (Keep.of_wr W48).1
  obtain ⟨T49, h49, L49, X49, e49, N49, W49, A49, st49⟩ := own_putc X48 hx hZ e48 A48 (j := (35 : Int32)) (k0 := 35) l48 rfl (by decide) (by decide) (v' := (61 : Int32)) rfl rfl (g := (mkF m 217 #[vI p1, vI p2, vI p3, vU] [(.int (61 : Int32)), (.int (35 : Int32)), (.ref b4), (.ref b4)])) rfl rfl (hb hby d1_217) N48 g_b4
  obtain ⟨vs49, q49⟩ : ∃ l : List Value, l = vs48 ++ [(.int (61 : Int32))] := ⟨_, rfl⟩
  rw [← q49] at A49
  have l49 : vs49.length = 36 := by rw [q49, List.length_append, l48]; rfl
  have K49 : Keep h0 h49 [] := (K48).wr W49 (Or.inr sz_b4)
  have Z49 : n0 ≤ h49.size := Nat.le_trans Z48 (Keep.of_wr W49).1
  obtain ⟨_, _, ⟨T50, L50, k50, n50⟩, -, X50, ⟨Lc50, hQ50, l50, y50, z50⟩, st50⟩ := Jvm.LawKit.callS X49 hx (y := (⟨"com/example/vigilant_context/vigilantcontext/finding/LoadCostToStringPinLaw", "dig", "(I)C"⟩ : MethodName)) hown (mvT hZ (own_wi hw 5 rfl)) (mvT hZ (own_wi hw 6 rfl)) (mvT hZ (own_wi hw 2 rfl)) (mvT hZ (own_wi hw 7 rfl)) (by decide) (backOf (W := 3) (rm2 l Z a0 hw [] p3 h49 n0 Z49 ) hZ (own_wi hw 7 rfl) (own_wi hw 2 rfl) (by decide) (by decide)) (g := (mkF m 222 #[vI p1, vI p2, vI p3, vU] [(.int p3), (.int (36 : Int32)), (.ref b4), (.ref b4)])) rfl (by rw [hml]; rfl) (argsL := [(.int p3)]) (rest := [(.int (36 : Int32)), (.ref b4), (.ref b4)]) (lenOf pd_22 rfl) rfl (by show 2 * 0 + _ ≤ _; exact Nat.le_of_eq rfl) (hb hby d1_222) (fun _ _ => ⟨rfl, e49, (by decide : 1 + 0 ≤ _), (by decide : 37 + 0 ≤ _)⟩)
  dsimp only [Pt.U, Pt.locs, Pt.cells, Pt.slots] at X50 l50 y50 z50 st50 hQ50
  subst l50 y50 z50
  obtain ⟨rfl, N50q, e50⟩ := hQ50
  have N50 := Fr.app N49 N50q
  obtain ⟨T51, h51, L51, X51, e51, N51, W51, A51, st51⟩ := own_putc X50 hx hZ e50 A49 (j := (36 : Int32)) (k0 := 36) l49 rfl (by decide) (by decide) (v' := (((((48 : Int32) + p3).toUInt32.toUInt16.toUInt32.toInt32).toUInt32.toUInt16.toUInt32.toInt32).toUInt32.toUInt16.toUInt32.toInt32)) rfl (fits_nar_char _) (g := (mkF m 225 #[vI p1, vI p2, vI p3, vU] [(.int ((((48 : Int32) + p3).toUInt32.toUInt16.toUInt32.toInt32).toUInt32.toUInt16.toUInt32.toInt32)), (.int (36 : Int32)), (.ref b4), (.ref b4)])) rfl rfl (hb hby d1_225) N50 g_b4
  obtain ⟨vs51, q51⟩ : ∃ l : List Value, l = vs49 ++ [(.int (((((48 : Int32) + p3).toUInt32.toUInt16.toUInt32.toInt32).toUInt32.toUInt16.toUInt32.toInt32).toUInt32.toUInt16.toUInt32.toInt32))] := ⟨_, rfl⟩
  rw [← q51] at A51
  have l51 : vs51.length = 37 := by rw [q51, List.length_append, l49]; rfl
  have y52 := (((((y45.wr W46).wr W47).wr W48).wr W49).wr W51)
  have K51 : Keep h0 h51 [] := (K49).wr W51 (Or.inr sz_b4)
  have Z51 : n0 ≤ h51.size := Nat.le_trans Z49 (Keep.of_wr W51).1
  obtain ⟨T53, h53, X53, e53, E53, A53, D53, -, st53⟩ := newO X51 hx hZ hown (own_wi hw 8 rfl) (own_wi hw 9 rfl) (own_wi hw 10 rfl) e51 (g := (mkF m 227 #[vI p1, vI p2, vI p3, vR b4] [])) rfl (hb hby d1_227) (by decide) (by decide)
  obtain ⟨b53, g53⟩ : ∃ z, z = h51.size := ⟨_, rfl⟩
  rw [← g53] at A53 D53 st53
  have ne_b4_b53 : b4 ≠ b53 := Nat.ne_of_lt (Nat.lt_of_lt_of_le A51.lt (Nat.le_of_eq g53.symm))
  have g_b53 : n0 ≤ b53 := Nat.le_trans Z51 (Nat.le_of_eq g53.symm)
  have sz_b53 : h0.size ≤ b53 := Nat.le_trans (K51).1 (Nat.le_of_eq g53.symm)
  have K53 : Keep h0 h53 [] := (K51).ext E53
  have Z53 : n0 ≤ h53.size := Nat.le_trans Z51 E53.1
  have F_coder_b53 : Fld Z h53 b53 "java/lang/String" "coder" "B" (.int (0 : Int32)) := D53 (Or.inr (own_wi hw 34 rfl)) (ty := .byte) (by decide)
  have F_value_b53 : Fld Z h53 b53 "java/lang/String" "value" "[B" .null := D53 (Or.inr (own_wi hw 36 rfl)) (ty := (.array .byte)) (by decide)
  have V54 : Arv Z h53 b4 k4 .char (37 : Int32) [(.int (115 : Int32)), (.int (101 : Int32)), (.int (115 : Int32)), (.int (115 : Int32)), (.int (105 : Int32)), (.int (111 : Int32)), (.int (110 : Int32)), (.int (115 : Int32)), (.int (61 : Int32)), (.int (((((48 : Int32) + p1).toUInt32.toUInt16.toUInt32.toInt32).toUInt32.toUInt16.toUInt32.toInt32).toUInt32.toUInt16.toUInt32.toInt32)), (.int (32 : Int32)), (.int (99 : Int32)), (.int (111 : Int32)), (.int (110 : Int32)), (.int (110 : Int32)), (.int (101 : Int32)), (.int (99 : Int32)), (.int (116 : Int32)), (.int (105 : Int32)), (.int (111 : Int32)), (.int (110 : Int32)), (.int (115 : Int32)), (.int (61 : Int32)), (.int (((((48 : Int32) + p2).toUInt32.toUInt16.toUInt32.toInt32).toUInt32.toUInt16.toUInt32.toInt32).toUInt32.toUInt16.toUInt32.toInt32)), (.int (32 : Int32)), (.int (115 : Int32)), (.int (116 : Int32)), (.int (97 : Int32)), (.int (116 : Int32)), (.int (101 : Int32)), (.int (109 : Int32)), (.int (101 : Int32)), (.int (110 : Int32)), (.int (116 : Int32)), (.int (115 : Int32)), (.int (61 : Int32)), (.int (((((48 : Int32) + p3).toUInt32.toUInt16.toUInt32.toInt32).toUInt32.toUInt16.toUInt32.toInt32).toUInt32.toUInt16.toUInt32.toInt32))] (.int (0 : Int32)) := by have q := (A51.ext E53); rw [q51, q49, q48, q47, q46, q44, q43, q42, q41, q40, q38, q37, q36, q35, q33, q31, q30, q29, q28, q27, q25, q24, q23, q22, q21, q19, q18, q17, q15, q14, q12, q11, q10, q9, q8, q6, q5] at q; simp only [List.nil_append, List.cons_append] at q; exact q
  have hp55 : ∀ c ∈ ([(115 : Int32), (101 : Int32), (115 : Int32), (115 : Int32), (105 : Int32), (111 : Int32), (110 : Int32), (115 : Int32), (61 : Int32), (((((48 : Int32) + p1).toUInt32.toUInt16.toUInt32.toInt32).toUInt32.toUInt16.toUInt32.toInt32).toUInt32.toUInt16.toUInt32.toInt32), (32 : Int32), (99 : Int32), (111 : Int32), (110 : Int32), (110 : Int32), (101 : Int32), (99 : Int32), (116 : Int32), (105 : Int32), (111 : Int32), (110 : Int32), (115 : Int32), (61 : Int32), (((((48 : Int32) + p2).toUInt32.toUInt16.toUInt32.toInt32).toUInt32.toUInt16.toUInt32.toInt32).toUInt32.toUInt16.toUInt32.toInt32), (32 : Int32), (115 : Int32), (116 : Int32), (97 : Int32), (116 : Int32), (101 : Int32), (109 : Int32), (101 : Int32), (110 : Int32), (116 : Int32), (115 : Int32), (61 : Int32), (((((48 : Int32) + p3).toUInt32.toUInt16.toUInt32.toInt32).toUInt32.toUInt16.toUInt32.toInt32).toUInt32.toUInt16.toUInt32.toInt32)] : List Int32), ¬ c < 0 ∧ ¬ (255 : Int32) < c := by rw [own_ch3 hq0_1, own_ch3 hq0_2, own_ch3 hq0_3]; exact own_pos_in hq0_1 hq0_2 hq0_3
  obtain ⟨_, _, ⟨T55, L55, k55, n55⟩, -, X55, ⟨Lc55, hQ55, l55, y55, z55⟩, st55⟩ := X53.specialBack hx (y := (⟨"java/lang/String", "<init>", "([C)V"⟩ : MethodName)) rfl hown (mvT hZ (own_wi hw 11 rfl)) (mvT hZ (own_wi hw 12 rfl)) (mvT hZ (own_wi hw 13 rfl)) (by decide) (StrChars.Road.backV (W := 1) hZ (own_sw hw) (kI := 4) (own_wi hw 9 rfl) (cs := ([(115 : Int32), (101 : Int32), (115 : Int32), (115 : Int32), (105 : Int32), (111 : Int32), (110 : Int32), (115 : Int32), (61 : Int32), (((((48 : Int32) + p1).toUInt32.toUInt16.toUInt32.toInt32).toUInt32.toUInt16.toUInt32.toInt32).toUInt32.toUInt16.toUInt32.toInt32), (32 : Int32), (99 : Int32), (111 : Int32), (110 : Int32), (110 : Int32), (101 : Int32), (99 : Int32), (116 : Int32), (105 : Int32), (111 : Int32), (110 : Int32), (115 : Int32), (61 : Int32), (((((48 : Int32) + p2).toUInt32.toUInt16.toUInt32.toInt32).toUInt32.toUInt16.toUInt32.toInt32).toUInt32.toUInt16.toUInt32.toInt32), (32 : Int32), (115 : Int32), (116 : Int32), (97 : Int32), (116 : Int32), (101 : Int32), (109 : Int32), (101 : Int32), (110 : Int32), (116 : Int32), (115 : Int32), (61 : Int32), (((((48 : Int32) + p3).toUInt32.toUInt16.toUInt32.toInt32).toUInt32.toUInt16.toUInt32.toInt32).toUInt32.toUInt16.toUInt32.toInt32)] : List Int32)) (bs := ([((115 : Int32).toInt8.toInt32), ((101 : Int32).toInt8.toInt32), ((115 : Int32).toInt8.toInt32), ((115 : Int32).toInt8.toInt32), ((105 : Int32).toInt8.toInt32), ((111 : Int32).toInt8.toInt32), ((110 : Int32).toInt8.toInt32), ((115 : Int32).toInt8.toInt32), ((61 : Int32).toInt8.toInt32), ((((((48 : Int32) + p1).toUInt32.toUInt16.toUInt32.toInt32).toUInt32.toUInt16.toUInt32.toInt32).toUInt32.toUInt16.toUInt32.toInt32).toInt8.toInt32), ((32 : Int32).toInt8.toInt32), ((99 : Int32).toInt8.toInt32), ((111 : Int32).toInt8.toInt32), ((110 : Int32).toInt8.toInt32), ((110 : Int32).toInt8.toInt32), ((101 : Int32).toInt8.toInt32), ((99 : Int32).toInt8.toInt32), ((116 : Int32).toInt8.toInt32), ((105 : Int32).toInt8.toInt32), ((111 : Int32).toInt8.toInt32), ((110 : Int32).toInt8.toInt32), ((115 : Int32).toInt8.toInt32), ((61 : Int32).toInt8.toInt32), ((((((48 : Int32) + p2).toUInt32.toUInt16.toUInt32.toInt32).toUInt32.toUInt16.toUInt32.toInt32).toUInt32.toUInt16.toUInt32.toInt32).toInt8.toInt32), ((32 : Int32).toInt8.toInt32), ((115 : Int32).toInt8.toInt32), ((116 : Int32).toInt8.toInt32), ((97 : Int32).toInt8.toInt32), ((116 : Int32).toInt8.toInt32), ((101 : Int32).toInt8.toInt32), ((109 : Int32).toInt8.toInt32), ((101 : Int32).toInt8.toInt32), ((110 : Int32).toInt8.toInt32), ((116 : Int32).toInt8.toInt32), ((115 : Int32).toInt8.toInt32), ((61 : Int32).toInt8.toInt32), ((((((48 : Int32) + p3).toUInt32.toUInt16.toUInt32.toInt32).toUInt32.toUInt16.toUInt32.toInt32).toUInt32.toUInt16.toUInt32.toInt32).toInt8.toInt32)] : List Int32)) (n := 37) g_b53 Z53 A53 F_value_b53 F_coder_b53 V54 (y52.ext E53) hq232_4 rfl rfl (by decide) (by decide) hp55 rfl (by decide) (by decide)) (g := (mkF m 232 #[vI p1, vI p2, vI p3, vR b4] [(.ref b4), (.ref b53), (.ref b53)])) rfl (by rw [hml]; rfl) (Steps.refl _) (a := b53) (argsL := [(.ref b4)]) (rest := [(.ref b53)]) (lenOf pd_23 rfl) rfl (by show 2 * 0 + _ ≤ _; exact Nat.le_of_eq rfl) (hb hby d1_232) (fun _ _ => ⟨rfl, e53, (by decide : 2 + 1 ≤ _), (by decide : 41 + 37 ≤ _)⟩)
  dsimp only [Pt.U, Pt.locs, Pt.cells, Pt.slots] at X55 l55 y55 z55 st55 hQ55
  subst l55 y55 z55
  obtain ⟨rfl, N55q, K55q, f55E, f55C, t55, kb55, g55n, g55s, g55x, f55V, f55A⟩ := hQ55
  have ne_b4_t55 : b4 ≠ t55 := Nat.ne_of_lt (Nat.lt_of_lt_of_le V54.lt g55s)
  have ne_b53_t55 : b53 ≠ t55 := Nat.ne_of_lt (Nat.lt_of_lt_of_le A53.lt g55s)
  have g_t55 : n0 ≤ t55 := g55n
  have sz_t55 : h0.size ≤ t55 := Nat.le_trans (K53).1 g55s
  have y56 := (own_StaKeep (y52.ext E53) K55q (allS (P := fun x => ∃ D, Exa Z h53 x D) ⟨_, A53⟩ all0))
  have K55 : Keep h0 T55.heap [] := (K53).trans K55q (allS (P := fun x => x ∈ [] ∨ h0.size ≤ x) (Or.inr sz_b53) all0)
  have Z55 : n0 ≤ T55.heap.size := Nat.le_trans Z53 K55q.1
  have N55 := Fr.app N51 N55q
  obtain ⟨fs, hr, hrun, hended, hW, hsame⟩ := X55.leave (v := some (.ref b53)) (fun h => by rw [Bd.returns] at h; cases h)
  refine ⟨_, _, pre0 _ ?_, hrun, hended, _, _, rfl, ?_, ⟨_, rfl⟩, hW, hsame.mono (by decide) (by decide)⟩
  · show Steps p.tables e below (s₁.setTop (mkF m 0 #[vI p1, vI p2, vI p3, vU] [])) _
    refine XS.bipush X0.here hx rfl (hb hby d1_0) ?_
    show Steps p.tables e below (s₁.setTop (mkF m 2 #[vI p1, vI p2, vI p3, vU] [(.int (37 : Int32))])) _
    refine st4 _ ?_
    show Steps p.tables e below (T4.setTop (mkF m 4 #[vI p1, vI p2, vI p3, vU] [(.ref b4)])) _
    refine XS.dup X4.here hx rfl (hb hby d1_4) rfl rfl ?_
    refine XS.iconst X4.here hx rfl (hb hby d1_5) ?_
    refine XS.bipush X4.here hx rfl (hb hby d1_6) ?_
    show Steps p.tables e below (T4.setTop (mkF m 8 #[vI p1, vI p2, vI p3, vU] [(.int (115 : Int32)), (.int (0 : Int32)), (.ref b4), (.ref b4)])) _
    refine st5 _ ?_
    show Steps p.tables e below (T5.setTop (mkF m 9 #[vI p1, vI p2, vI p3, vU] [(.ref b4)])) _
    refine XS.dup X5.here hx rfl (hb hby d1_9) rfl rfl ?_
    refine XS.iconst X5.here hx rfl (hb hby d1_10) ?_
    refine XS.bipush X5.here hx rfl (hb hby d1_11) ?_
    show Steps p.tables e below (T5.setTop (mkF m 13 #[vI p1, vI p2, vI p3, vU] [(.int (101 : Int32)), (.int (1 : Int32)), (.ref b4), (.ref b4)])) _
    refine st6 _ ?_
    show Steps p.tables e below (T6.setTop (mkF m 14 #[vI p1, vI p2, vI p3, vU] [(.ref b4)])) _
    refine XS.dup X6.here hx rfl (hb hby d1_14) rfl rfl ?_
    refine XS.iconst X6.here hx rfl (hb hby d1_15) ?_
    refine XS.bipush X6.here hx rfl (hb hby d1_16) ?_
    show Steps p.tables e below (T6.setTop (mkF m 18 #[vI p1, vI p2, vI p3, vU] [(.int (115 : Int32)), (.int (2 : Int32)), (.ref b4), (.ref b4)])) _
    refine st8 _ ?_
    show Steps p.tables e below (T8.setTop (mkF m 19 #[vI p1, vI p2, vI p3, vU] [(.ref b4)])) _
    refine XS.dup X8.here hx rfl (hb hby d1_19) rfl rfl ?_
    refine XS.iconst X8.here hx rfl (hb hby d1_20) ?_
    refine XS.bipush X8.here hx rfl (hb hby d1_21) ?_
    show Steps p.tables e below (T8.setTop (mkF m 23 #[vI p1, vI p2, vI p3, vU] [(.int (115 : Int32)), (.int (3 : Int32)), (.ref b4), (.ref b4)])) _
    refine st9 _ ?_
    show Steps p.tables e below (T9.setTop (mkF m 24 #[vI p1, vI p2, vI p3, vU] [(.ref b4)])) _
    refine XS.dup X9.here hx rfl (hb hby d1_24) rfl rfl ?_
    refine XS.iconst X9.here hx rfl (hb hby d1_25) ?_
    refine XS.bipush X9.here hx rfl (hb hby d1_26) ?_
    show Steps p.tables e below (T9.setTop (mkF m 28 #[vI p1, vI p2, vI p3, vU] [(.int (105 : Int32)), (.int (4 : Int32)), (.ref b4), (.ref b4)])) _
    refine st10 _ ?_
    show Steps p.tables e below (T10.setTop (mkF m 29 #[vI p1, vI p2, vI p3, vU] [(.ref b4)])) _
    refine XS.dup X10.here hx rfl (hb hby d1_29) rfl rfl ?_
    refine XS.iconst X10.here hx rfl (hb hby d1_30) ?_
    refine XS.bipush X10.here hx rfl (hb hby d1_31) ?_
    show Steps p.tables e below (T10.setTop (mkF m 33 #[vI p1, vI p2, vI p3, vU] [(.int (111 : Int32)), (.int (5 : Int32)), (.ref b4), (.ref b4)])) _
    refine st11 _ ?_
    show Steps p.tables e below (T11.setTop (mkF m 34 #[vI p1, vI p2, vI p3, vU] [(.ref b4)])) _
    refine XS.dup X11.here hx rfl (hb hby d1_34) rfl rfl ?_
    refine XS.bipush X11.here hx rfl (hb hby d1_35) ?_
    refine XS.bipush X11.here hx rfl (hb hby d1_37) ?_
    show Steps p.tables e below (T11.setTop (mkF m 39 #[vI p1, vI p2, vI p3, vU] [(.int (110 : Int32)), (.int (6 : Int32)), (.ref b4), (.ref b4)])) _
    refine st12 _ ?_
    show Steps p.tables e below (T12.setTop (mkF m 40 #[vI p1, vI p2, vI p3, vU] [(.ref b4)])) _
    refine XS.dup X12.here hx rfl (hb hby d1_40) rfl rfl ?_
    refine XS.bipush X12.here hx rfl (hb hby d1_41) ?_
    refine XS.bipush X12.here hx rfl (hb hby d1_43) ?_
    show Steps p.tables e below (T12.setTop (mkF m 45 #[vI p1, vI p2, vI p3, vU] [(.int (115 : Int32)), (.int (7 : Int32)), (.ref b4), (.ref b4)])) _
    refine st14 _ ?_
    show Steps p.tables e below (T14.setTop (mkF m 46 #[vI p1, vI p2, vI p3, vU] [(.ref b4)])) _
    refine XS.dup X14.here hx rfl (hb hby d1_46) rfl rfl ?_
    refine XS.bipush X14.here hx rfl (hb hby d1_47) ?_
    refine XS.bipush X14.here hx rfl (hb hby d1_49) ?_
    show Steps p.tables e below (T14.setTop (mkF m 51 #[vI p1, vI p2, vI p3, vU] [(.int (61 : Int32)), (.int (8 : Int32)), (.ref b4), (.ref b4)])) _
    refine st15 _ ?_
    show Steps p.tables e below (T15.setTop (mkF m 52 #[vI p1, vI p2, vI p3, vU] [(.ref b4)])) _
    refine XS.dup X15.here hx rfl (hb hby d1_52) rfl rfl ?_
    refine XS.bipush X15.here hx rfl (hb hby d1_53) ?_
    refine XS.iloadN X15.here hx rfl (hb hby d1_55) rfl ?_
    show Steps p.tables e below (T15.setTop (mkF m 56 #[vI p1, vI p2, vI p3, vU] [(.int p1), (.int (9 : Int32)), (.ref b4), (.ref b4)])) _
    refine st16 _ ?_
    show Steps p.tables e below (T16.setTop (mkF m 59 #[vI p1, vI p2, vI p3, vU] [(.int ((((48 : Int32) + p1).toUInt32.toUInt16.toUInt32.toInt32).toUInt32.toUInt16.toUInt32.toInt32)), (.int (9 : Int32)), (.ref b4), (.ref b4)])) _
    refine st17 _ ?_
    show Steps p.tables e below (T17.setTop (mkF m 60 #[vI p1, vI p2, vI p3, vU] [(.ref b4)])) _
    refine XS.dup X17.here hx rfl (hb hby d1_60) rfl rfl ?_
    refine XS.bipush X17.here hx rfl (hb hby d1_61) ?_
    refine XS.bipush X17.here hx rfl (hb hby d1_63) ?_
    show Steps p.tables e below (T17.setTop (mkF m 65 #[vI p1, vI p2, vI p3, vU] [(.int (32 : Int32)), (.int (10 : Int32)), (.ref b4), (.ref b4)])) _
    refine st18 _ ?_
    show Steps p.tables e below (T18.setTop (mkF m 66 #[vI p1, vI p2, vI p3, vU] [(.ref b4)])) _
    refine XS.dup X18.here hx rfl (hb hby d1_66) rfl rfl ?_
    refine XS.bipush X18.here hx rfl (hb hby d1_67) ?_
    refine XS.bipush X18.here hx rfl (hb hby d1_69) ?_
    show Steps p.tables e below (T18.setTop (mkF m 71 #[vI p1, vI p2, vI p3, vU] [(.int (99 : Int32)), (.int (11 : Int32)), (.ref b4), (.ref b4)])) _
    refine st19 _ ?_
    show Steps p.tables e below (T19.setTop (mkF m 72 #[vI p1, vI p2, vI p3, vU] [(.ref b4)])) _
    refine XS.dup X19.here hx rfl (hb hby d1_72) rfl rfl ?_
    refine XS.bipush X19.here hx rfl (hb hby d1_73) ?_
    refine XS.bipush X19.here hx rfl (hb hby d1_75) ?_
    show Steps p.tables e below (T19.setTop (mkF m 77 #[vI p1, vI p2, vI p3, vU] [(.int (111 : Int32)), (.int (12 : Int32)), (.ref b4), (.ref b4)])) _
    refine st21 _ ?_
    show Steps p.tables e below (T21.setTop (mkF m 78 #[vI p1, vI p2, vI p3, vU] [(.ref b4)])) _
    refine XS.dup X21.here hx rfl (hb hby d1_78) rfl rfl ?_
    refine XS.bipush X21.here hx rfl (hb hby d1_79) ?_
    refine XS.bipush X21.here hx rfl (hb hby d1_81) ?_
    show Steps p.tables e below (T21.setTop (mkF m 83 #[vI p1, vI p2, vI p3, vU] [(.int (110 : Int32)), (.int (13 : Int32)), (.ref b4), (.ref b4)])) _
    refine st22 _ ?_
    show Steps p.tables e below (T22.setTop (mkF m 84 #[vI p1, vI p2, vI p3, vU] [(.ref b4)])) _
    refine XS.dup X22.here hx rfl (hb hby d1_84) rfl rfl ?_
    refine XS.bipush X22.here hx rfl (hb hby d1_85) ?_
    refine XS.bipush X22.here hx rfl (hb hby d1_87) ?_
    show Steps p.tables e below (T22.setTop (mkF m 89 #[vI p1, vI p2, vI p3, vU] [(.int (110 : Int32)), (.int (14 : Int32)), (.ref b4), (.ref b4)])) _
    refine st23 _ ?_
    show Steps p.tables e below (T23.setTop (mkF m 90 #[vI p1, vI p2, vI p3, vU] [(.ref b4)])) _
    refine XS.dup X23.here hx rfl (hb hby d1_90) rfl rfl ?_
    refine XS.bipush X23.here hx rfl (hb hby d1_91) ?_
    refine XS.bipush X23.here hx rfl (hb hby d1_93) ?_
    show Steps p.tables e below (T23.setTop (mkF m 95 #[vI p1, vI p2, vI p3, vU] [(.int (101 : Int32)), (.int (15 : Int32)), (.ref b4), (.ref b4)])) _
    refine st24 _ ?_
    show Steps p.tables e below (T24.setTop (mkF m 96 #[vI p1, vI p2, vI p3, vU] [(.ref b4)])) _
    refine XS.dup X24.here hx rfl (hb hby d1_96) rfl rfl ?_
    refine XS.bipush X24.here hx rfl (hb hby d1_97) ?_
    refine XS.bipush X24.here hx rfl (hb hby d1_99) ?_
    show Steps p.tables e below (T24.setTop (mkF m 101 #[vI p1, vI p2, vI p3, vU] [(.int (99 : Int32)), (.int (16 : Int32)), (.ref b4), (.ref b4)])) _
    refine st25 _ ?_
    show Steps p.tables e below (T25.setTop (mkF m 102 #[vI p1, vI p2, vI p3, vU] [(.ref b4)])) _
    refine XS.dup X25.here hx rfl (hb hby d1_102) rfl rfl ?_
    refine XS.bipush X25.here hx rfl (hb hby d1_103) ?_
    refine XS.bipush X25.here hx rfl (hb hby d1_105) ?_
    show Steps p.tables e below (T25.setTop (mkF m 107 #[vI p1, vI p2, vI p3, vU] [(.int (116 : Int32)), (.int (17 : Int32)), (.ref b4), (.ref b4)])) _
    refine st27 _ ?_
    show Steps p.tables e below (T27.setTop (mkF m 108 #[vI p1, vI p2, vI p3, vU] [(.ref b4)])) _
    refine XS.dup X27.here hx rfl (hb hby d1_108) rfl rfl ?_
    refine XS.bipush X27.here hx rfl (hb hby d1_109) ?_
    refine XS.bipush X27.here hx rfl (hb hby d1_111) ?_
    show Steps p.tables e below (T27.setTop (mkF m 113 #[vI p1, vI p2, vI p3, vU] [(.int (105 : Int32)), (.int (18 : Int32)), (.ref b4), (.ref b4)])) _
    refine st28 _ ?_
    show Steps p.tables e below (T28.setTop (mkF m 114 #[vI p1, vI p2, vI p3, vU] [(.ref b4)])) _
    refine XS.dup X28.here hx rfl (hb hby d1_114) rfl rfl ?_
    refine XS.bipush X28.here hx rfl (hb hby d1_115) ?_
    refine XS.bipush X28.here hx rfl (hb hby d1_117) ?_
    show Steps p.tables e below (T28.setTop (mkF m 119 #[vI p1, vI p2, vI p3, vU] [(.int (111 : Int32)), (.int (19 : Int32)), (.ref b4), (.ref b4)])) _
    refine st29 _ ?_
    show Steps p.tables e below (T29.setTop (mkF m 120 #[vI p1, vI p2, vI p3, vU] [(.ref b4)])) _
    refine XS.dup X29.here hx rfl (hb hby d1_120) rfl rfl ?_
    refine XS.bipush X29.here hx rfl (hb hby d1_121) ?_
    refine XS.bipush X29.here hx rfl (hb hby d1_123) ?_
    show Steps p.tables e below (T29.setTop (mkF m 125 #[vI p1, vI p2, vI p3, vU] [(.int (110 : Int32)), (.int (20 : Int32)), (.ref b4), (.ref b4)])) _
    refine st30 _ ?_
    show Steps p.tables e below (T30.setTop (mkF m 126 #[vI p1, vI p2, vI p3, vU] [(.ref b4)])) _
    refine XS.dup X30.here hx rfl (hb hby d1_126) rfl rfl ?_
    refine XS.bipush X30.here hx rfl (hb hby d1_127) ?_
    refine XS.bipush X30.here hx rfl (hb hby d1_129) ?_
    show Steps p.tables e below (T30.setTop (mkF m 131 #[vI p1, vI p2, vI p3, vU] [(.int (115 : Int32)), (.int (21 : Int32)), (.ref b4), (.ref b4)])) _
    refine st31 _ ?_
    show Steps p.tables e below (T31.setTop (mkF m 132 #[vI p1, vI p2, vI p3, vU] [(.ref b4)])) _
    refine XS.dup X31.here hx rfl (hb hby d1_132) rfl rfl ?_
    refine XS.bipush X31.here hx rfl (hb hby d1_133) ?_
    refine XS.bipush X31.here hx rfl (hb hby d1_135) ?_
    show Steps p.tables e below (T31.setTop (mkF m 137 #[vI p1, vI p2, vI p3, vU] [(.int (61 : Int32)), (.int (22 : Int32)), (.ref b4), (.ref b4)])) _
    refine st33 _ ?_
    show Steps p.tables e below (T33.setTop (mkF m 138 #[vI p1, vI p2, vI p3, vU] [(.ref b4)])) _
    refine XS.dup X33.here hx rfl (hb hby d1_138) rfl rfl ?_
    refine XS.bipush X33.here hx rfl (hb hby d1_139) ?_
    refine XS.iloadN X33.here hx rfl (hb hby d1_141) rfl ?_
    show Steps p.tables e below (T33.setTop (mkF m 142 #[vI p1, vI p2, vI p3, vU] [(.int p2), (.int (23 : Int32)), (.ref b4), (.ref b4)])) _
    refine st34 _ ?_
    show Steps p.tables e below (T34.setTop (mkF m 145 #[vI p1, vI p2, vI p3, vU] [(.int ((((48 : Int32) + p2).toUInt32.toUInt16.toUInt32.toInt32).toUInt32.toUInt16.toUInt32.toInt32)), (.int (23 : Int32)), (.ref b4), (.ref b4)])) _
    refine st35 _ ?_
    show Steps p.tables e below (T35.setTop (mkF m 146 #[vI p1, vI p2, vI p3, vU] [(.ref b4)])) _
    refine XS.dup X35.here hx rfl (hb hby d1_146) rfl rfl ?_
    refine XS.bipush X35.here hx rfl (hb hby d1_147) ?_
    refine XS.bipush X35.here hx rfl (hb hby d1_149) ?_
    show Steps p.tables e below (T35.setTop (mkF m 151 #[vI p1, vI p2, vI p3, vU] [(.int (32 : Int32)), (.int (24 : Int32)), (.ref b4), (.ref b4)])) _
    refine st36 _ ?_
    show Steps p.tables e below (T36.setTop (mkF m 152 #[vI p1, vI p2, vI p3, vU] [(.ref b4)])) _
    refine XS.dup X36.here hx rfl (hb hby d1_152) rfl rfl ?_
    refine XS.bipush X36.here hx rfl (hb hby d1_153) ?_
    refine XS.bipush X36.here hx rfl (hb hby d1_155) ?_
    show Steps p.tables e below (T36.setTop (mkF m 157 #[vI p1, vI p2, vI p3, vU] [(.int (115 : Int32)), (.int (25 : Int32)), (.ref b4), (.ref b4)])) _
    refine st37 _ ?_
    show Steps p.tables e below (T37.setTop (mkF m 158 #[vI p1, vI p2, vI p3, vU] [(.ref b4)])) _
    refine XS.dup X37.here hx rfl (hb hby d1_158) rfl rfl ?_
    refine XS.bipush X37.here hx rfl (hb hby d1_159) ?_
    refine XS.bipush X37.here hx rfl (hb hby d1_161) ?_
    show Steps p.tables e below (T37.setTop (mkF m 163 #[vI p1, vI p2, vI p3, vU] [(.int (116 : Int32)), (.int (26 : Int32)), (.ref b4), (.ref b4)])) _
    refine st38 _ ?_
    show Steps p.tables e below (T38.setTop (mkF m 164 #[vI p1, vI p2, vI p3, vU] [(.ref b4)])) _
    refine XS.dup X38.here hx rfl (hb hby d1_164) rfl rfl ?_
    refine XS.bipush X38.here hx rfl (hb hby d1_165) ?_
    refine XS.bipush X38.here hx rfl (hb hby d1_167) ?_
    show Steps p.tables e below (T38.setTop (mkF m 169 #[vI p1, vI p2, vI p3, vU] [(.int (97 : Int32)), (.int (27 : Int32)), (.ref b4), (.ref b4)])) _
    refine st40 _ ?_
    show Steps p.tables e below (T40.setTop (mkF m 170 #[vI p1, vI p2, vI p3, vU] [(.ref b4)])) _
    refine XS.dup X40.here hx rfl (hb hby d1_170) rfl rfl ?_
    refine XS.bipush X40.here hx rfl (hb hby d1_171) ?_
    refine XS.bipush X40.here hx rfl (hb hby d1_173) ?_
    show Steps p.tables e below (T40.setTop (mkF m 175 #[vI p1, vI p2, vI p3, vU] [(.int (116 : Int32)), (.int (28 : Int32)), (.ref b4), (.ref b4)])) _
    refine st41 _ ?_
    show Steps p.tables e below (T41.setTop (mkF m 176 #[vI p1, vI p2, vI p3, vU] [(.ref b4)])) _
    refine XS.dup X41.here hx rfl (hb hby d1_176) rfl rfl ?_
    refine XS.bipush X41.here hx rfl (hb hby d1_177) ?_
    refine XS.bipush X41.here hx rfl (hb hby d1_179) ?_
    show Steps p.tables e below (T41.setTop (mkF m 181 #[vI p1, vI p2, vI p3, vU] [(.int (101 : Int32)), (.int (29 : Int32)), (.ref b4), (.ref b4)])) _
    refine st42 _ ?_
    show Steps p.tables e below (T42.setTop (mkF m 182 #[vI p1, vI p2, vI p3, vU] [(.ref b4)])) _
    refine XS.dup X42.here hx rfl (hb hby d1_182) rfl rfl ?_
    refine XS.bipush X42.here hx rfl (hb hby d1_183) ?_
    refine XS.bipush X42.here hx rfl (hb hby d1_185) ?_
    show Steps p.tables e below (T42.setTop (mkF m 187 #[vI p1, vI p2, vI p3, vU] [(.int (109 : Int32)), (.int (30 : Int32)), (.ref b4), (.ref b4)])) _
    refine st43 _ ?_
    show Steps p.tables e below (T43.setTop (mkF m 188 #[vI p1, vI p2, vI p3, vU] [(.ref b4)])) _
    refine XS.dup X43.here hx rfl (hb hby d1_188) rfl rfl ?_
    refine XS.bipush X43.here hx rfl (hb hby d1_189) ?_
    refine XS.bipush X43.here hx rfl (hb hby d1_191) ?_
    show Steps p.tables e below (T43.setTop (mkF m 193 #[vI p1, vI p2, vI p3, vU] [(.int (101 : Int32)), (.int (31 : Int32)), (.ref b4), (.ref b4)])) _
    refine st44 _ ?_
    show Steps p.tables e below (T44.setTop (mkF m 194 #[vI p1, vI p2, vI p3, vU] [(.ref b4)])) _
    refine XS.dup X44.here hx rfl (hb hby d1_194) rfl rfl ?_
    refine XS.bipush X44.here hx rfl (hb hby d1_195) ?_
    refine XS.bipush X44.here hx rfl (hb hby d1_197) ?_
    show Steps p.tables e below (T44.setTop (mkF m 199 #[vI p1, vI p2, vI p3, vU] [(.int (110 : Int32)), (.int (32 : Int32)), (.ref b4), (.ref b4)])) _
    refine st46 _ ?_
    show Steps p.tables e below (T46.setTop (mkF m 200 #[vI p1, vI p2, vI p3, vU] [(.ref b4)])) _
    refine XS.dup X46.here hx rfl (hb hby d1_200) rfl rfl ?_
    refine XS.bipush X46.here hx rfl (hb hby d1_201) ?_
    refine XS.bipush X46.here hx rfl (hb hby d1_203) ?_
    show Steps p.tables e below (T46.setTop (mkF m 205 #[vI p1, vI p2, vI p3, vU] [(.int (116 : Int32)), (.int (33 : Int32)), (.ref b4), (.ref b4)])) _
    refine st47 _ ?_
    show Steps p.tables e below (T47.setTop (mkF m 206 #[vI p1, vI p2, vI p3, vU] [(.ref b4)])) _
    refine XS.dup X47.here hx rfl (hb hby d1_206) rfl rfl ?_
    refine XS.bipush X47.here hx rfl (hb hby d1_207) ?_
    refine XS.bipush X47.here hx rfl (hb hby d1_209) ?_
    show Steps p.tables e below (T47.setTop (mkF m 211 #[vI p1, vI p2, vI p3, vU] [(.int (115 : Int32)), (.int (34 : Int32)), (.ref b4), (.ref b4)])) _
    refine st48 _ ?_
    show Steps p.tables e below (T48.setTop (mkF m 212 #[vI p1, vI p2, vI p3, vU] [(.ref b4)])) _
    refine XS.dup X48.here hx rfl (hb hby d1_212) rfl rfl ?_
    refine XS.bipush X48.here hx rfl (hb hby d1_213) ?_
    refine XS.bipush X48.here hx rfl (hb hby d1_215) ?_
    show Steps p.tables e below (T48.setTop (mkF m 217 #[vI p1, vI p2, vI p3, vU] [(.int (61 : Int32)), (.int (35 : Int32)), (.ref b4), (.ref b4)])) _
    refine st49 _ ?_
    show Steps p.tables e below (T49.setTop (mkF m 218 #[vI p1, vI p2, vI p3, vU] [(.ref b4)])) _
    refine XS.dup X49.here hx rfl (hb hby d1_218) rfl rfl ?_
    refine XS.bipush X49.here hx rfl (hb hby d1_219) ?_
    refine XS.iloadN X49.here hx rfl (hb hby d1_221) rfl ?_
    show Steps p.tables e below (T49.setTop (mkF m 222 #[vI p1, vI p2, vI p3, vU] [(.int p3), (.int (36 : Int32)), (.ref b4), (.ref b4)])) _
    refine st50 _ ?_
    show Steps p.tables e below (T50.setTop (mkF m 225 #[vI p1, vI p2, vI p3, vU] [(.int ((((48 : Int32) + p3).toUInt32.toUInt16.toUInt32.toInt32).toUInt32.toUInt16.toUInt32.toInt32)), (.int (36 : Int32)), (.ref b4), (.ref b4)])) _
    refine st51 _ ?_
    show Steps p.tables e below (T51.setTop (mkF m 226 #[vI p1, vI p2, vI p3, vU] [(.ref b4)])) _
    refine XS.astoreN X51.here hx rfl (hb hby d1_226) rfl rfl (l' := #[vI p1, vI p2, vI p3, vR b4]) rfl ?_
    show Steps p.tables e below (T51.setTop (mkF m 227 #[vI p1, vI p2, vI p3, vR b4] [])) _
    refine st53 _ ?_
    show Steps p.tables e below (T53.setTop (mkF m 230 #[vI p1, vI p2, vI p3, vR b4] [(.ref b53)])) _
    refine XS.dup X53.here hx rfl (hb hby d1_230) rfl rfl ?_
    refine XS.aloadN X53.here hx rfl (hb hby d1_231) rfl rfl ?_
    show Steps p.tables e below (T53.setTop (mkF m 232 #[vI p1, vI p2, vI p3, vR b4] [(.ref b4), (.ref b53), (.ref b53)])) _
    refine st55.trans ?_
    show Steps p.tables e below (T55.setTop (mkF m 235 #[vI p1, vI p2, vI p3, vR b4] [(.ref b53)])) _
    exact retOut X55 hx Bd.returns rfl (Or.inr (Or.inr (Or.inr (Or.inr ⟨rfl, rfl, rfl⟩)))) (hb hby d1_235) hr
  · show Q1 Z p1 p2 p3 st_COMPACT_STRINGS h0 n0 _ T55.heap _
    exact ⟨b53, rfl, N55, (K55), own_mkStr (cs := own_pos p1 p2 p3) f55E f55C f55V f55A rfl (by rw [own_ch3 hq0_1, own_ch3 hq0_2, own_ch3 hq0_3]; rfl) (own_pos_in hq0_1 hq0_2 hq0_3) (Nat.le_of_ble_eq_true rfl)⟩
theorem d43_0 : decode method_5_code 0 = .ok (.bipush 40, 2) := by decide +kernel
theorem d43_2 : decode method_5_code 2 = .ok (.newarray .char, 2) := by decide +kernel
theorem d43_4 : decode method_5_code 4 = .ok (.dup, 1) := by decide +kernel
theorem d43_5 : decode method_5_code 5 = .ok (.iconst 0, 1) := by decide +kernel
theorem d43_6 : decode method_5_code 6 = .ok (.bipush 115, 2) := by decide +kernel
theorem d43_8 : decode method_5_code 8 = .ok (.castore, 1) := by decide +kernel
theorem d43_9 : decode method_5_code 9 = .ok (.dup, 1) := by decide +kernel
theorem d43_10 : decode method_5_code 10 = .ok (.iconst 1, 1) := by decide +kernel
theorem d43_11 : decode method_5_code 11 = .ok (.bipush 101, 2) := by decide +kernel
theorem d43_13 : decode method_5_code 13 = .ok (.castore, 1) := by decide +kernel
theorem d43_14 : decode method_5_code 14 = .ok (.dup, 1) := by decide +kernel
theorem d43_15 : decode method_5_code 15 = .ok (.iconst 2, 1) := by decide +kernel
theorem d43_16 : decode method_5_code 16 = .ok (.bipush 115, 2) := by decide +kernel
theorem d43_18 : decode method_5_code 18 = .ok (.castore, 1) := by decide +kernel
theorem d43_19 : decode method_5_code 19 = .ok (.dup, 1) := by decide +kernel
theorem d43_20 : decode method_5_code 20 = .ok (.iconst 3, 1) := by decide +kernel
theorem d43_21 : decode method_5_code 21 = .ok (.bipush 115, 2) := by decide +kernel
theorem d43_23 : decode method_5_code 23 = .ok (.castore, 1) := by decide +kernel
theorem d43_24 : decode method_5_code 24 = .ok (.dup, 1) := by decide +kernel
theorem d43_25 : decode method_5_code 25 = .ok (.iconst 4, 1) := by decide +kernel
theorem d43_26 : decode method_5_code 26 = .ok (.bipush 105, 2) := by decide +kernel
theorem d43_28 : decode method_5_code 28 = .ok (.castore, 1) := by decide +kernel
theorem d43_29 : decode method_5_code 29 = .ok (.dup, 1) := by decide +kernel
theorem d43_30 : decode method_5_code 30 = .ok (.iconst 5, 1) := by decide +kernel
theorem d43_31 : decode method_5_code 31 = .ok (.bipush 111, 2) := by decide +kernel
theorem d43_33 : decode method_5_code 33 = .ok (.castore, 1) := by decide +kernel
theorem d43_34 : decode method_5_code 34 = .ok (.dup, 1) := by decide +kernel
theorem d43_35 : decode method_5_code 35 = .ok (.bipush 6, 2) := by decide +kernel
theorem d43_37 : decode method_5_code 37 = .ok (.bipush 110, 2) := by decide +kernel
theorem d43_39 : decode method_5_code 39 = .ok (.castore, 1) := by decide +kernel
theorem d43_40 : decode method_5_code 40 = .ok (.dup, 1) := by decide +kernel
theorem d43_41 : decode method_5_code 41 = .ok (.bipush 7, 2) := by decide +kernel
theorem d43_43 : decode method_5_code 43 = .ok (.bipush 115, 2) := by decide +kernel
theorem d43_45 : decode method_5_code 45 = .ok (.castore, 1) := by decide +kernel
theorem d43_46 : decode method_5_code 46 = .ok (.dup, 1) := by decide +kernel
theorem d43_47 : decode method_5_code 47 = .ok (.bipush 8, 2) := by decide +kernel
theorem d43_49 : decode method_5_code 49 = .ok (.bipush 61, 2) := by decide +kernel
theorem d43_51 : decode method_5_code 51 = .ok (.castore, 1) := by decide +kernel
theorem d43_52 : decode method_5_code 52 = .ok (.dup, 1) := by decide +kernel
theorem d43_53 : decode method_5_code 53 = .ok (.bipush 9, 2) := by decide +kernel
theorem d43_55 : decode method_5_code 55 = .ok (.bipush 45, 2) := by decide +kernel
theorem d43_57 : decode method_5_code 57 = .ok (.castore, 1) := by decide +kernel
theorem d43_58 : decode method_5_code 58 = .ok (.dup, 1) := by decide +kernel
theorem d43_59 : decode method_5_code 59 = .ok (.bipush 10, 2) := by decide +kernel
theorem d43_61 : decode method_5_code 61 = .ok (.iload_n 0, 1) := by decide +kernel
theorem d43_62 : decode method_5_code 62 = .ok (.invokestatic 31, 3) := by decide +kernel
theorem d43_65 : decode method_5_code 65 = .ok (.castore, 1) := by decide +kernel
theorem d43_66 : decode method_5_code 66 = .ok (.dup, 1) := by decide +kernel
theorem d43_67 : decode method_5_code 67 = .ok (.bipush 11, 2) := by decide +kernel
theorem d43_69 : decode method_5_code 69 = .ok (.bipush 32, 2) := by decide +kernel
theorem d43_71 : decode method_5_code 71 = .ok (.castore, 1) := by decide +kernel
theorem d43_72 : decode method_5_code 72 = .ok (.dup, 1) := by decide +kernel
theorem d43_73 : decode method_5_code 73 = .ok (.bipush 12, 2) := by decide +kernel
theorem d43_75 : decode method_5_code 75 = .ok (.bipush 99, 2) := by decide +kernel
theorem d43_77 : decode method_5_code 77 = .ok (.castore, 1) := by decide +kernel
theorem d43_78 : decode method_5_code 78 = .ok (.dup, 1) := by decide +kernel
theorem d43_79 : decode method_5_code 79 = .ok (.bipush 13, 2) := by decide +kernel
theorem d43_81 : decode method_5_code 81 = .ok (.bipush 111, 2) := by decide +kernel
theorem d43_83 : decode method_5_code 83 = .ok (.castore, 1) := by decide +kernel
theorem d43_84 : decode method_5_code 84 = .ok (.dup, 1) := by decide +kernel
theorem d43_85 : decode method_5_code 85 = .ok (.bipush 14, 2) := by decide +kernel
theorem d43_87 : decode method_5_code 87 = .ok (.bipush 110, 2) := by decide +kernel
theorem d43_89 : decode method_5_code 89 = .ok (.castore, 1) := by decide +kernel
theorem d43_90 : decode method_5_code 90 = .ok (.dup, 1) := by decide +kernel
theorem d43_91 : decode method_5_code 91 = .ok (.bipush 15, 2) := by decide +kernel
theorem d43_93 : decode method_5_code 93 = .ok (.bipush 110, 2) := by decide +kernel
theorem d43_95 : decode method_5_code 95 = .ok (.castore, 1) := by decide +kernel
theorem d43_96 : decode method_5_code 96 = .ok (.dup, 1) := by decide +kernel
theorem d43_97 : decode method_5_code 97 = .ok (.bipush 16, 2) := by decide +kernel
theorem d43_99 : decode method_5_code 99 = .ok (.bipush 101, 2) := by decide +kernel
theorem d43_101 : decode method_5_code 101 = .ok (.castore, 1) := by decide +kernel
theorem d43_102 : decode method_5_code 102 = .ok (.dup, 1) := by decide +kernel
theorem d43_103 : decode method_5_code 103 = .ok (.bipush 17, 2) := by decide +kernel
theorem d43_105 : decode method_5_code 105 = .ok (.bipush 99, 2) := by decide +kernel
theorem d43_107 : decode method_5_code 107 = .ok (.castore, 1) := by decide +kernel
theorem d43_108 : decode method_5_code 108 = .ok (.dup, 1) := by decide +kernel
theorem d43_109 : decode method_5_code 109 = .ok (.bipush 18, 2) := by decide +kernel
theorem d43_111 : decode method_5_code 111 = .ok (.bipush 116, 2) := by decide +kernel
theorem d43_113 : decode method_5_code 113 = .ok (.castore, 1) := by decide +kernel
theorem d43_114 : decode method_5_code 114 = .ok (.dup, 1) := by decide +kernel
theorem d43_115 : decode method_5_code 115 = .ok (.bipush 19, 2) := by decide +kernel
theorem d43_117 : decode method_5_code 117 = .ok (.bipush 105, 2) := by decide +kernel
theorem d43_119 : decode method_5_code 119 = .ok (.castore, 1) := by decide +kernel
theorem d43_120 : decode method_5_code 120 = .ok (.dup, 1) := by decide +kernel
theorem d43_121 : decode method_5_code 121 = .ok (.bipush 20, 2) := by decide +kernel
theorem d43_123 : decode method_5_code 123 = .ok (.bipush 111, 2) := by decide +kernel
theorem d43_125 : decode method_5_code 125 = .ok (.castore, 1) := by decide +kernel
theorem d43_126 : decode method_5_code 126 = .ok (.dup, 1) := by decide +kernel
theorem d43_127 : decode method_5_code 127 = .ok (.bipush 21, 2) := by decide +kernel
theorem d43_129 : decode method_5_code 129 = .ok (.bipush 110, 2) := by decide +kernel
theorem d43_131 : decode method_5_code 131 = .ok (.castore, 1) := by decide +kernel
theorem d43_132 : decode method_5_code 132 = .ok (.dup, 1) := by decide +kernel
theorem d43_133 : decode method_5_code 133 = .ok (.bipush 22, 2) := by decide +kernel
theorem d43_135 : decode method_5_code 135 = .ok (.bipush 115, 2) := by decide +kernel
theorem d43_137 : decode method_5_code 137 = .ok (.castore, 1) := by decide +kernel
theorem d43_138 : decode method_5_code 138 = .ok (.dup, 1) := by decide +kernel
theorem d43_139 : decode method_5_code 139 = .ok (.bipush 23, 2) := by decide +kernel
theorem d43_141 : decode method_5_code 141 = .ok (.bipush 61, 2) := by decide +kernel
theorem d43_143 : decode method_5_code 143 = .ok (.castore, 1) := by decide +kernel
theorem d43_144 : decode method_5_code 144 = .ok (.dup, 1) := by decide +kernel
theorem d43_145 : decode method_5_code 145 = .ok (.bipush 24, 2) := by decide +kernel
theorem d43_147 : decode method_5_code 147 = .ok (.bipush 45, 2) := by decide +kernel
theorem d43_149 : decode method_5_code 149 = .ok (.castore, 1) := by decide +kernel
theorem d43_150 : decode method_5_code 150 = .ok (.dup, 1) := by decide +kernel
theorem d43_151 : decode method_5_code 151 = .ok (.bipush 25, 2) := by decide +kernel
theorem d43_153 : decode method_5_code 153 = .ok (.iload_n 1, 1) := by decide +kernel
theorem d43_154 : decode method_5_code 154 = .ok (.invokestatic 31, 3) := by decide +kernel
theorem d43_157 : decode method_5_code 157 = .ok (.castore, 1) := by decide +kernel
theorem d43_158 : decode method_5_code 158 = .ok (.dup, 1) := by decide +kernel
theorem d43_159 : decode method_5_code 159 = .ok (.bipush 26, 2) := by decide +kernel
theorem d43_161 : decode method_5_code 161 = .ok (.bipush 32, 2) := by decide +kernel
theorem d43_163 : decode method_5_code 163 = .ok (.castore, 1) := by decide +kernel
theorem d43_164 : decode method_5_code 164 = .ok (.dup, 1) := by decide +kernel
theorem d43_165 : decode method_5_code 165 = .ok (.bipush 27, 2) := by decide +kernel
theorem d43_167 : decode method_5_code 167 = .ok (.bipush 115, 2) := by decide +kernel
theorem d43_169 : decode method_5_code 169 = .ok (.castore, 1) := by decide +kernel
theorem d43_170 : decode method_5_code 170 = .ok (.dup, 1) := by decide +kernel
theorem d43_171 : decode method_5_code 171 = .ok (.bipush 28, 2) := by decide +kernel
theorem d43_173 : decode method_5_code 173 = .ok (.bipush 116, 2) := by decide +kernel
theorem d43_175 : decode method_5_code 175 = .ok (.castore, 1) := by decide +kernel
theorem d43_176 : decode method_5_code 176 = .ok (.dup, 1) := by decide +kernel
theorem d43_177 : decode method_5_code 177 = .ok (.bipush 29, 2) := by decide +kernel
theorem d43_179 : decode method_5_code 179 = .ok (.bipush 97, 2) := by decide +kernel
theorem d43_181 : decode method_5_code 181 = .ok (.castore, 1) := by decide +kernel
theorem d43_182 : decode method_5_code 182 = .ok (.dup, 1) := by decide +kernel
theorem d43_183 : decode method_5_code 183 = .ok (.bipush 30, 2) := by decide +kernel
theorem d43_185 : decode method_5_code 185 = .ok (.bipush 116, 2) := by decide +kernel
theorem d43_187 : decode method_5_code 187 = .ok (.castore, 1) := by decide +kernel
theorem d43_188 : decode method_5_code 188 = .ok (.dup, 1) := by decide +kernel
theorem d43_189 : decode method_5_code 189 = .ok (.bipush 31, 2) := by decide +kernel
theorem d43_191 : decode method_5_code 191 = .ok (.bipush 101, 2) := by decide +kernel
theorem d43_193 : decode method_5_code 193 = .ok (.castore, 1) := by decide +kernel
theorem d43_194 : decode method_5_code 194 = .ok (.dup, 1) := by decide +kernel
theorem d43_195 : decode method_5_code 195 = .ok (.bipush 32, 2) := by decide +kernel
theorem d43_197 : decode method_5_code 197 = .ok (.bipush 109, 2) := by decide +kernel
theorem d43_199 : decode method_5_code 199 = .ok (.castore, 1) := by decide +kernel
theorem d43_200 : decode method_5_code 200 = .ok (.dup, 1) := by decide +kernel
theorem d43_201 : decode method_5_code 201 = .ok (.bipush 33, 2) := by decide +kernel
theorem d43_203 : decode method_5_code 203 = .ok (.bipush 101, 2) := by decide +kernel
theorem d43_205 : decode method_5_code 205 = .ok (.castore, 1) := by decide +kernel
theorem d43_206 : decode method_5_code 206 = .ok (.dup, 1) := by decide +kernel
theorem d43_207 : decode method_5_code 207 = .ok (.bipush 34, 2) := by decide +kernel
theorem d43_209 : decode method_5_code 209 = .ok (.bipush 110, 2) := by decide +kernel
theorem d43_211 : decode method_5_code 211 = .ok (.castore, 1) := by decide +kernel
theorem d43_212 : decode method_5_code 212 = .ok (.dup, 1) := by decide +kernel
theorem d43_213 : decode method_5_code 213 = .ok (.bipush 35, 2) := by decide +kernel
theorem d43_215 : decode method_5_code 215 = .ok (.bipush 116, 2) := by decide +kernel
theorem d43_217 : decode method_5_code 217 = .ok (.castore, 1) := by decide +kernel
theorem d43_218 : decode method_5_code 218 = .ok (.dup, 1) := by decide +kernel
theorem d43_219 : decode method_5_code 219 = .ok (.bipush 36, 2) := by decide +kernel
theorem d43_221 : decode method_5_code 221 = .ok (.bipush 115, 2) := by decide +kernel
theorem d43_223 : decode method_5_code 223 = .ok (.castore, 1) := by decide +kernel
theorem d43_224 : decode method_5_code 224 = .ok (.dup, 1) := by decide +kernel
theorem d43_225 : decode method_5_code 225 = .ok (.bipush 37, 2) := by decide +kernel
theorem d43_227 : decode method_5_code 227 = .ok (.bipush 61, 2) := by decide +kernel
theorem d43_229 : decode method_5_code 229 = .ok (.castore, 1) := by decide +kernel
theorem d43_230 : decode method_5_code 230 = .ok (.dup, 1) := by decide +kernel
theorem d43_231 : decode method_5_code 231 = .ok (.bipush 38, 2) := by decide +kernel
theorem d43_233 : decode method_5_code 233 = .ok (.bipush 45, 2) := by decide +kernel
theorem d43_235 : decode method_5_code 235 = .ok (.castore, 1) := by decide +kernel
theorem d43_236 : decode method_5_code 236 = .ok (.dup, 1) := by decide +kernel
theorem d43_237 : decode method_5_code 237 = .ok (.bipush 39, 2) := by decide +kernel
theorem d43_239 : decode method_5_code 239 = .ok (.iload_n 2, 1) := by decide +kernel
theorem d43_240 : decode method_5_code 240 = .ok (.invokestatic 31, 3) := by decide +kernel
theorem d43_243 : decode method_5_code 243 = .ok (.castore, 1) := by decide +kernel
theorem d43_244 : decode method_5_code 244 = .ok (.astore_n 3, 1) := by decide +kernel
theorem d43_245 : decode method_5_code 245 = .ok (.new 26, 3) := by decide +kernel
theorem d43_248 : decode method_5_code 248 = .ok (.dup, 1) := by decide +kernel
theorem d43_249 : decode method_5_code 249 = .ok (.aload_n 3, 1) := by decide +kernel
theorem d43_250 : decode method_5_code 250 = .ok (.invokespecial 35, 3) := by decide +kernel
theorem d43_253 : decode method_5_code 253 = .ok (.areturn, 1) := by decide +kernel
theorem ef_43 (m : MethodId) (p1 : Int32) (p2 : Int32) (p3 : Int32) : entryFrame m #[(.int p1), (.int p2), (.int p3)] 4 = mkF m 0 #[vI p1, vI p2, vI p3, vU] [] := by first | (simp [entryFrame, mkF, argsToLocals, Value.category]; done) | rfl
def Q43 (Z : State) (p1 : Int32) (p2 : Int32) (p3 : Int32) (st_COMPACT_STRINGS : Int32) (h0 : Heap) (n0 : Nat) (v : Option Value) (h : Heap) (L : List Loc) : Prop := ∃ xb : Addr, v = some (.ref xb) ∧ Fr n0 L ∧ Keep h0 h [] ∧ own_Str Z h xb (own_neg p1 p2 p3)
set_option maxRecDepth 65536 in
set_option maxHeartbeats 40000000 in
theorem rm43 (l : Launch) (Z : State) (a0 : Array Value) (hw : ∀ d ∈ tables_1, d.before a0 Z = true) (ws : List Jvm.Cond) (p1 : Int32) (p2 : Int32) (p3 : Int32) (st_COMPACT_STRINGS : Int32) (h0 : Heap) (n0 : Nat) (Z0 : n0 ≤ h0.size) (S_COMPACT_STRINGS : Sta Z h0 "java/lang/String" "COMPACT_STRINGS" "Z" (.int st_COMPACT_STRINGS)) (hq0_1 : own_d19 p1) (hq0_2 : own_d19 p2) (hq0_3 : own_d19 p3) (hq250_4 : ¬ (st_COMPACT_STRINGS = (0 : Int32))) :
    MetFree l (⟨"com/example/vigilant_context/vigilantcontext/finding/LoadCostToStringPinLaw", "negText", "(III)Ljava/lang/String;"⟩ : MethodName) (head1 (Jvm.Cond.code (⟨"com/example/vigilant_context/vigilantcontext/finding/LoadCostToStringPinLaw", "negText", "(III)Ljava/lang/String;"⟩ : MethodName) method_5_code 4 (some (.object "java/lang/String")) :: ws) ({ frames := 4, cells := 3, slots := 84, locals := 66 } : Room)) (fun a U => a = #[(.int p1), (.int p2), (.int p3)] ∧ Z.Warmed39 U.vm ∧ U.heap = h0) (fun _ _ _ _ _ => True) (fun _ U o U' => ∃ v L, o = .returned v ∧ Q43 Z p1 p2 p3 st_COMPACT_STRINGS h0 n0 v U'.heap L ∧ FrameEnd U o U' L ({ frames := 4, cells := 3, slots := 84, locals := 66 } : Room).cells ({ frames := 4, cells := 3, slots := 84, locals := 66 } : Room).slots) := by
  refine MetFree.of_bodySF (plainFor_of_name pn_7) hisR ?_
  intro p e s m args below meth c s₁ Bd hml0 hP hK
  obtain ⟨rfl, hZ, hh⟩ := hP
  have hx := Bd.exec
  have hby := Bd.bytes
  have hml : c.maxLocals = 4 := hml0
  have hown : s.vm.findClass "com/example/vigilant_context/vigilantcontext/finding/LoadCostToStringPinLaw" = some m.cls := findClass_of_methodNamed Bd.named
  have hnm := (name_of_methodNamed Bd.named Bd.method).1
  have X0 : Stand p l e ({ frames := 4, cells := 3, slots := 84, locals := 66 } : Room) s m #[(.int p1), (.int p2), (.int p3)] below meth c s₁ [] 0 0 := Stand.of_body Bd
  have e0 : s₁.heap = h0 := by rw [← hh, Bd.state]; rfl
  have N0 := Fr.nil n0
  have pre0 : ∀ t, Steps p.tables e below (s₁.setTop (mkF m 0 #[vI p1, vI p2, vI p3, vU] [])) t → Steps p.tables e below (s₁.setTop (entryFrame m #[(.int p1), (.int p2), (.int p3)] 4)) t := fun t k => castTop (ef_43 m p1 p2 p3) k
  obtain ⟨T4, h4, k4, X4, e4, E4, A4, st4⟩ := newP X0 hx hZ (own_wi hw 4 rfl) e0 (g := (mkF m 2 #[vI p1, vI p2, vI p3, vU] [(.int (40 : Int32))])) rfl (hb hby d43_2) rfl (by decide) (cap := 40) (by decide) (by decide) (by decide) (by decide)
  obtain ⟨b4, g4⟩ : ∃ z, z = h0.size := ⟨_, rfl⟩
  rw [← g4] at A4 st4
  have g_b4 : n0 ≤ b4 := Nat.le_trans Z0 (Nat.le_of_eq g4.symm)
  have sz_b4 : h0.size ≤ b4 := Nat.le_trans ((Keep.refl h0 [])).1 (Nat.le_of_eq g4.symm)
  have K4 : Keep h0 h4 [] := ((Keep.refl h0 [])).ext E4
  have Z4 : n0 ≤ h4.size := Nat.le_trans Z0 E4.1
  have V_b4 : Arv Z h4 b4 k4 .char (40 : Int32) [] (.int (0 : Int32)) := Arv.new A4 (by decide)
  have l_b4 : ([] : List Value).length = 0 := rfl
  obtain ⟨T5, h5, L5, X5, e5, N5, W5, A5, st5⟩ := own_putc X4 hx hZ e4 V_b4 (j := (0 : Int32)) (k0 := 0) l_b4 rfl (by decide) (by decide) (v' := (115 : Int32)) rfl rfl (g := (mkF m 8 #[vI p1, vI p2, vI p3, vU] [(.int (115 : Int32)), (.int (0 : Int32)), (.ref b4), (.ref b4)])) rfl rfl (hb hby d43_8) N0 g_b4
  obtain ⟨vs5, q5⟩ : ∃ l : List Value, l = [] ++ [(.int (115 : Int32))] := ⟨_, rfl⟩
  rw [← q5] at A5
  have l5 : vs5.length = 1 := by rw [q5, List.length_append, l_b4]; rfl
  have K5 : Keep h0 h5 [] := (K4).wr W5 (Or.inr sz_b4)
  have Z5 : n0 ≤ h5.size := Nat.le_trans Z4 (Keep.of_wr W5).1
  obtain ⟨T6, h6, L6, X6, e6, N6, W6, A6, st6⟩ := own_putc X5 hx hZ e5 A5 (j := (1 : Int32)) (k0 := 1) l5 rfl (by decide) (by decide) (v' := (101 : Int32)) rfl rfl (g := (mkF m 13 #[vI p1, vI p2, vI p3, vU] [(.int (101 : Int32)), (.int (1 : Int32)), (.ref b4), (.ref b4)])) rfl rfl (hb hby d43_13) N5 g_b4
  obtain ⟨vs6, q6⟩ : ∃ l : List Value, l = vs5 ++ [(.int (101 : Int32))] := ⟨_, rfl⟩
  rw [← q6] at A6
  have l6 : vs6.length = 2 := by rw [q6, List.length_append, l5]; rfl
  have y7 := (((S_COMPACT_STRINGS.ext E4).wr W5).wr W6)
  have K6 : Keep h0 h6 [] := (K5).wr W6 (Or.inr sz_b4)
  have Z6 : n0 ≤ h6.size := Nat.le_trans Z5 (Keep.of_wr W6).1
  obtain ⟨T8, h8, L8, X8, e8, N8, W8, A8, st8⟩ := own_putc X6 hx hZ e6 A6 (j := (2 : Int32)) (k0 := 2) l6 rfl (by decide) (by decide) (v' := (115 : Int32)) rfl rfl (g := (mkF m 18 #[vI p1, vI p2, vI p3, vU] [(.int (115 : Int32)), (.int (2 : Int32)), (.ref b4), (.ref b4)])) rfl rfl (hb hby d43_18) N6 g_b4
  obtain ⟨vs8, q8⟩ : ∃ l : List Value, l = vs6 ++ [(.int (115 : Int32))] := ⟨_, rfl⟩
  rw [← q8] at A8
  have l8 : vs8.length = 3 := by rw [q8, List.length_append, l6]; rfl
  have K8 : Keep h0 h8 [] := (K6).wr W8 (Or.inr sz_b4)
  have Z8 : n0 ≤ h8.size := Nat.le_trans Z6 (Keep.of_wr W8).1
  obtain ⟨T9, h9, L9, X9, e9, N9, W9, A9, st9⟩ := own_putc X8 hx hZ e8 A8 (j := (3 : Int32)) (k0 := 3) l8 rfl (by decide) (by decide) (v' := (115 : Int32)) rfl rfl (g := (mkF m 23 #[vI p1, vI p2, vI p3, vU] [(.int (115 : Int32)), (.int (3 : Int32)), (.ref b4), (.ref b4)])) rfl rfl (hb hby d43_23) N8 g_b4
  obtain ⟨vs9, q9⟩ : ∃ l : List Value, l = vs8 ++ [(.int (115 : Int32))] := ⟨_, rfl⟩
  rw [← q9] at A9
  have l9 : vs9.length = 4 := by rw [q9, List.length_append, l8]; rfl
  have K9 : Keep h0 h9 [] := (K8).wr W9 (Or.inr sz_b4)
  have Z9 : n0 ≤ h9.size := Nat.le_trans Z8 (Keep.of_wr W9).1
  obtain ⟨T10, h10, L10, X10, e10, N10, W10, A10, st10⟩ := own_putc X9 hx hZ e9 A9 (j := (4 : Int32)) (k0 := 4) l9 rfl (by decide) (by decide) (v' := (105 : Int32)) rfl rfl (g := (mkF m 28 #[vI p1, vI p2, vI p3, vU] [(.int (105 : Int32)), (.int (4 : Int32)), (.ref b4), (.ref b4)])) rfl rfl (hb hby d43_28) N9 g_b4
  obtain ⟨vs10, q10⟩ : ∃ l : List Value, l = vs9 ++ [(.int (105 : Int32))] := ⟨_, rfl⟩
  rw [← q10] at A10
  have l10 : vs10.length = 5 := by rw [q10, List.length_append, l9]; rfl
  have K10 : Keep h0 h10 [] := (K9).wr W10 (Or.inr sz_b4)
  have Z10 : n0 ≤ h10.size := Nat.le_trans Z9 (Keep.of_wr W10).1
  obtain ⟨T11, h11, L11, X11, e11, N11, W11, A11, st11⟩ := own_putc X10 hx hZ e10 A10 (j := (5 : Int32)) (k0 := 5) l10 rfl (by decide) (by decide) (v' := (111 : Int32)) rfl rfl (g := (mkF m 33 #[vI p1, vI p2, vI p3, vU] [(.int (111 : Int32)), (.int (5 : Int32)), (.ref b4), (.ref b4)])) rfl rfl (hb hby d43_33) N10 g_b4
  obtain ⟨vs11, q11⟩ : ∃ l : List Value, l = vs10 ++ [(.int (111 : Int32))] := ⟨_, rfl⟩
  rw [← q11] at A11
  have l11 : vs11.length = 6 := by rw [q11, List.length_append, l10]; rfl
  have K11 : Keep h0 h11 [] := (K10).wr W11 (Or.inr sz_b4)
  have Z11 : n0 ≤ h11.size := Nat.le_trans Z10 (Keep.of_wr W11).1
  obtain ⟨T12, h12, L12, X12, e12, N12, W12, A12, st12⟩ := own_putc X11 hx hZ e11 A11 (j := (6 : Int32)) (k0 := 6) l11 rfl (by decide) (by decide) (v' := (110 : Int32)) rfl rfl (g := (mkF m 39 #[vI p1, vI p2, vI p3, vU] [(.int (110 : Int32)), (.int (6 : Int32)), (.ref b4), (.ref b4)])) rfl rfl (hb hby d43_39) N11 g_b4
  obtain ⟨vs12, q12⟩ : ∃ l : List Value, l = vs11 ++ [(.int (110 : Int32))] := ⟨_, rfl⟩
  rw [← q12] at A12
  have l12 : vs12.length = 7 := by rw [q12, List.length_append, l11]; rfl
  have y13 := (((((y7.wr W8).wr W9).wr W10).wr W11).wr W12)
  have K12 : Keep h0 h12 [] := (K11).wr W12 (Or.inr sz_b4)
  have Z12 : n0 ≤ h12.size := Nat.le_trans Z11 (Keep.of_wr W12).1
  obtain ⟨T14, h14, L14, X14, e14, N14, W14, A14, st14⟩ := own_putc X12 hx hZ e12 A12 (j := (7 : Int32)) (k0 := 7) l12 rfl (by decide) (by decide) (v' := (115 : Int32)) rfl rfl (g := (mkF m 45 #[vI p1, vI p2, vI p3, vU] [(.int (115 : Int32)), (.int (7 : Int32)), (.ref b4), (.ref b4)])) rfl rfl (hb hby d43_45) N12 g_b4
  obtain ⟨vs14, q14⟩ : ∃ l : List Value, l = vs12 ++ [(.int (115 : Int32))] := ⟨_, rfl⟩
  rw [← q14] at A14
  have l14 : vs14.length = 8 := by rw [q14, List.length_append, l12]; rfl
  have K14 : Keep h0 h14 [] := (K12).wr W14 (Or.inr sz_b4)
  have Z14 : n0 ≤ h14.size := Nat.le_trans Z12 (Keep.of_wr W14).1
  obtain ⟨T15, h15, L15, X15, e15, N15, W15, A15, st15⟩ := own_putc X14 hx hZ e14 A14 (j := (8 : Int32)) (k0 := 8) l14 rfl (by decide) (by decide) (v' := (61 : Int32)) rfl rfl (g := (mkF m 51 #[vI p1, vI p2, vI p3, vU] [(.int (61 : Int32)), (.int (8 : Int32)), (.ref b4), (.ref b4)])) rfl rfl (hb hby d43_51) N14 g_b4
  obtain ⟨vs15, q15⟩ : ∃ l : List Value, l = vs14 ++ [(.int (61 : Int32))] := ⟨_, rfl⟩
  rw [← q15] at A15
  have l15 : vs15.length = 9 := by rw [q15, List.length_append, l14]; rfl
  have K15 : Keep h0 h15 [] := (K14).wr W15 (Or.inr sz_b4)
  have Z15 : n0 ≤ h15.size := Nat.le_trans Z14 (Keep.of_wr W15).1
  obtain ⟨T16, h16, L16, X16, e16, N16, W16, A16, st16⟩ := own_putc X15 hx hZ e15 A15 (j := (9 : Int32)) (k0 := 9) l15 rfl (by decide) (by decide) (v' := (45 : Int32)) rfl rfl (g := (mkF m 57 #[vI p1, vI p2, vI p3, vU] [(.int (45 : Int32)), (.int (9 : Int32)), (.ref b4), (.ref b4)])) rfl rfl (hb hby d43_57) N15 g_b4
  obtain ⟨vs16, q16⟩ : ∃ l : List Value, l = vs15 ++ [(.int (45 : Int32))] := ⟨_, rfl⟩
  rw [← q16] at A16
  have l16 : vs16.length = 10 := by rw [q16, List.length_append, l15]; rfl
  have K16 : Keep h0 h16 [] := (K15).wr W16 (Or.inr sz_b4)
  have Z16 : n0 ≤ h16.size := Nat.le_trans Z15 (Keep.of_wr W16).1
  obtain ⟨_, _, ⟨T17, L17, k17, n17⟩, -, X17, ⟨Lc17, hQ17, l17, y17, z17⟩, st17⟩ := Jvm.LawKit.callS X16 hx (y := (⟨"com/example/vigilant_context/vigilantcontext/finding/LoadCostToStringPinLaw", "dig", "(I)C"⟩ : MethodName)) hown (mvT hZ (own_wi hw 5 rfl)) (mvT hZ (own_wi hw 6 rfl)) (mvT hZ (own_wi hw 2 rfl)) (mvT hZ (own_wi hw 7 rfl)) (by decide) (backOf (W := 3) (rm2 l Z a0 hw [] p1 h16 n0 Z16 ) hZ (own_wi hw 7 rfl) (own_wi hw 2 rfl) (by decide) (by decide)) (g := (mkF m 62 #[vI p1, vI p2, vI p3, vU] [(.int p1), (.int (10 : Int32)), (.ref b4), (.ref b4)])) rfl (by rw [hml]; rfl) (argsL := [(.int p1)]) (rest := [(.int (10 : Int32)), (.ref b4), (.ref b4)]) (lenOf pd_22 rfl) rfl (by show 2 * 0 + _ ≤ _; exact Nat.le_of_eq rfl) (hb hby d43_62) (fun _ _ => ⟨rfl, e16, (by decide : 1 + 0 ≤ _), (by decide : 40 + 0 ≤ _)⟩)
  dsimp only [Pt.U, Pt.locs, Pt.cells, Pt.slots] at X17 l17 y17 z17 st17 hQ17
  subst l17 y17 z17
  obtain ⟨rfl, N17q, e17⟩ := hQ17
  have N17 := Fr.app N16 N17q
  obtain ⟨T18, h18, L18, X18, e18, N18, W18, A18, st18⟩ := own_putc X17 hx hZ e17 A16 (j := (10 : Int32)) (k0 := 10) l16 rfl (by decide) (by decide) (v' := (((((48 : Int32) + p1).toUInt32.toUInt16.toUInt32.toInt32).toUInt32.toUInt16.toUInt32.toInt32).toUInt32.toUInt16.toUInt32.toInt32)) rfl (fits_nar_char _) (g := (mkF m 65 #[vI p1, vI p2, vI p3, vU] [(.int ((((48 : Int32) + p1).toUInt32.toUInt16.toUInt32.toInt32).toUInt32.toUInt16.toUInt32.toInt32)), (.int (10 : Int32)), (.ref b4), (.ref b4)])) rfl rfl (hb hby d43_65) N17 g_b4
  obtain ⟨vs18, q18⟩ : ∃ l : List Value, l = vs16 ++ [(.int (((((48 : Int32) + p1).toUInt32.toUInt16.toUInt32.toInt32).toUInt32.toUInt16.toUInt32.toInt32).toUInt32.toUInt16.toUInt32.toInt32))] := ⟨_, rfl⟩
  rw [← q18] at A18
  have l18 : vs18.length = 11 := by rw [q18, List.length_append, l16]; rfl
  have K18 : Keep h0 h18 [] := (K16).wr W18 (Or.inr sz_b4)
  have Z18 : n0 ≤ h18.size := Nat.le_trans Z16 (Keep.of_wr W18).1
  obtain ⟨T19, h19, L19, X19, e19, N19, W19, A19, st19⟩ := own_putc X18 hx hZ e18 A18 (j := (11 : Int32)) (k0 := 11) l18 rfl (by decide) (by decide) (v' := (32 : Int32)) rfl rfl (g := (mkF m 71 #[vI p1, vI p2, vI p3, vU] [(.int (32 : Int32)), (.int (11 : Int32)), (.ref b4), (.ref b4)])) rfl rfl (hb hby d43_71) N18 g_b4
  obtain ⟨vs19, q19⟩ : ∃ l : List Value, l = vs18 ++ [(.int (32 : Int32))] := ⟨_, rfl⟩
  rw [← q19] at A19
  have l19 : vs19.length = 12 := by rw [q19, List.length_append, l18]; rfl
  have y20 := (((((y13.wr W14).wr W15).wr W16).wr W18).wr W19)
  have K19 : Keep h0 h19 [] := (K18).wr W19 (Or.inr sz_b4)
  have Z19 : n0 ≤ h19.size := Nat.le_trans Z18 (Keep.of_wr W19).1
  obtain ⟨T21, h21, L21, X21, e21, N21, W21, A21, st21⟩ := own_putc X19 hx hZ e19 A19 (j := (12 : Int32)) (k0 := 12) l19 rfl (by decide) (by decide) (v' := (99 : Int32)) rfl rfl (g := (mkF m 77 #[vI p1, vI p2, vI p3, vU] [(.int (99 : Int32)), (.int (12 : Int32)), (.ref b4), (.ref b4)])) rfl rfl (hb hby d43_77) N19 g_b4
  obtain ⟨vs21, q21⟩ : ∃ l : List Value, l = vs19 ++ [(.int (99 : Int32))] := ⟨_, rfl⟩
  rw [← q21] at A21
  have l21 : vs21.length = 13 := by rw [q21, List.length_append, l19]; rfl
  have K21 : Keep h0 h21 [] := (K19).wr W21 (Or.inr sz_b4)
  have Z21 : n0 ≤ h21.size := Nat.le_trans Z19 (Keep.of_wr W21).1
  obtain ⟨T22, h22, L22, X22, e22, N22, W22, A22, st22⟩ := own_putc X21 hx hZ e21 A21 (j := (13 : Int32)) (k0 := 13) l21 rfl (by decide) (by decide) (v' := (111 : Int32)) rfl rfl (g := (mkF m 83 #[vI p1, vI p2, vI p3, vU] [(.int (111 : Int32)), (.int (13 : Int32)), (.ref b4), (.ref b4)])) rfl rfl (hb hby d43_83) N21 g_b4
  obtain ⟨vs22, q22⟩ : ∃ l : List Value, l = vs21 ++ [(.int (111 : Int32))] := ⟨_, rfl⟩
  rw [← q22] at A22
  have l22 : vs22.length = 14 := by rw [q22, List.length_append, l21]; rfl
  have K22 : Keep h0 h22 [] := (K21).wr W22 (Or.inr sz_b4)
  have Z22 : n0 ≤ h22.size := Nat.le_trans Z21 (Keep.of_wr W22).1
  obtain ⟨T23, h23, L23, X23, e23, N23, W23, A23, st23⟩ := own_putc X22 hx hZ e22 A22 (j := (14 : Int32)) (k0 := 14) l22 rfl (by decide) (by decide) (v' := (110 : Int32)) rfl rfl (g := (mkF m 89 #[vI p1, vI p2, vI p3, vU] [(.int (110 : Int32)), (.int (14 : Int32)), (.ref b4), (.ref b4)])) rfl rfl (hb hby d43_89) N22 g_b4
  obtain ⟨vs23, q23⟩ : ∃ l : List Value, l = vs22 ++ [(.int (110 : Int32))] := ⟨_, rfl⟩
  rw [← q23] at A23
  have l23 : vs23.length = 15 := by rw [q23, List.length_append, l22]; rfl
  have K23 : Keep h0 h23 [] := (K22).wr W23 (Or.inr sz_b4)
  have Z23 : n0 ≤ h23.size := Nat.le_trans Z22 (Keep.of_wr W23).1
  obtain ⟨T24, h24, L24, X24, e24, N24, W24, A24, st24⟩ := own_putc X23 hx hZ e23 A23 (j := (15 : Int32)) (k0 := 15) l23 rfl (by decide) (by decide) (v' := (110 : Int32)) rfl rfl (g := (mkF m 95 #[vI p1, vI p2, vI p3, vU] [(.int (110 : Int32)), (.int (15 : Int32)), (.ref b4), (.ref b4)])) rfl rfl (hb hby d43_95) N23 g_b4
  obtain ⟨vs24, q24⟩ : ∃ l : List Value, l = vs23 ++ [(.int (110 : Int32))] := ⟨_, rfl⟩
  rw [← q24] at A24
  have l24 : vs24.length = 16 := by rw [q24, List.length_append, l23]; rfl
  have K24 : Keep h0 h24 [] := (K23).wr W24 (Or.inr sz_b4)
  have Z24 : n0 ≤ h24.size := Nat.le_trans Z23 (Keep.of_wr W24).1
  obtain ⟨T25, h25, L25, X25, e25, N25, W25, A25, st25⟩ := own_putc X24 hx hZ e24 A24 (j := (16 : Int32)) (k0 := 16) l24 rfl (by decide) (by decide) (v' := (101 : Int32)) rfl rfl (g := (mkF m 101 #[vI p1, vI p2, vI p3, vU] [(.int (101 : Int32)), (.int (16 : Int32)), (.ref b4), (.ref b4)])) rfl rfl (hb hby d43_101) N24 g_b4
  obtain ⟨vs25, q25⟩ : ∃ l : List Value, l = vs24 ++ [(.int (101 : Int32))] := ⟨_, rfl⟩
  rw [← q25] at A25
  have l25 : vs25.length = 17 := by rw [q25, List.length_append, l24]; rfl
  have y26 := (((((y20.wr W21).wr W22).wr W23).wr W24).wr W25)
  have K25 : Keep h0 h25 [] := (K24).wr W25 (Or.inr sz_b4)
  have Z25 : n0 ≤ h25.size := Nat.le_trans Z24 (Keep.of_wr W25).1
  obtain ⟨T27, h27, L27, X27, e27, N27, W27, A27, st27⟩ := own_putc X25 hx hZ e25 A25 (j := (17 : Int32)) (k0 := 17) l25 rfl (by decide) (by decide) (v' := (99 : Int32)) rfl rfl (g := (mkF m 107 #[vI p1, vI p2, vI p3, vU] [(.int (99 : Int32)), (.int (17 : Int32)), (.ref b4), (.ref b4)])) rfl rfl (hb hby d43_107) N25 g_b4
  obtain ⟨vs27, q27⟩ : ∃ l : List Value, l = vs25 ++ [(.int (99 : Int32))] := ⟨_, rfl⟩
  rw [← q27] at A27
  have l27 : vs27.length = 18 := by rw [q27, List.length_append, l25]; rfl
  have K27 : Keep h0 h27 [] := (K25).wr W27 (Or.inr sz_b4)
  have Z27 : n0 ≤ h27.size := Nat.le_trans Z25 (Keep.of_wr W27).1
  obtain ⟨T28, h28, L28, X28, e28, N28, W28, A28, st28⟩ := own_putc X27 hx hZ e27 A27 (j := (18 : Int32)) (k0 := 18) l27 rfl (by decide) (by decide) (v' := (116 : Int32)) rfl rfl (g := (mkF m 113 #[vI p1, vI p2, vI p3, vU] [(.int (116 : Int32)), (.int (18 : Int32)), (.ref b4), (.ref b4)])) rfl rfl (hb hby d43_113) N27 g_b4
  obtain ⟨vs28, q28⟩ : ∃ l : List Value, l = vs27 ++ [(.int (116 : Int32))] := ⟨_, rfl⟩
  rw [← q28] at A28
  have l28 : vs28.length = 19 := by rw [q28, List.length_append, l27]; rfl
  have K28 : Keep h0 h28 [] := (K27).wr W28 (Or.inr sz_b4)
  have Z28 : n0 ≤ h28.size := Nat.le_trans Z27 (Keep.of_wr W28).1
  obtain ⟨T29, h29, L29, X29, e29, N29, W29, A29, st29⟩ := own_putc X28 hx hZ e28 A28 (j := (19 : Int32)) (k0 := 19) l28 rfl (by decide) (by decide) (v' := (105 : Int32)) rfl rfl (g := (mkF m 119 #[vI p1, vI p2, vI p3, vU] [(.int (105 : Int32)), (.int (19 : Int32)), (.ref b4), (.ref b4)])) rfl rfl (hb hby d43_119) N28 g_b4
  obtain ⟨vs29, q29⟩ : ∃ l : List Value, l = vs28 ++ [(.int (105 : Int32))] := ⟨_, rfl⟩
  rw [← q29] at A29
  have l29 : vs29.length = 20 := by rw [q29, List.length_append, l28]; rfl
  have K29 : Keep h0 h29 [] := (K28).wr W29 (Or.inr sz_b4)
  have Z29 : n0 ≤ h29.size := Nat.le_trans Z28 (Keep.of_wr W29).1
  obtain ⟨T30, h30, L30, X30, e30, N30, W30, A30, st30⟩ := own_putc X29 hx hZ e29 A29 (j := (20 : Int32)) (k0 := 20) l29 rfl (by decide) (by decide) (v' := (111 : Int32)) rfl rfl (g := (mkF m 125 #[vI p1, vI p2, vI p3, vU] [(.int (111 : Int32)), (.int (20 : Int32)), (.ref b4), (.ref b4)])) rfl rfl (hb hby d43_125) N29 g_b4
  obtain ⟨vs30, q30⟩ : ∃ l : List Value, l = vs29 ++ [(.int (111 : Int32))] := ⟨_, rfl⟩
  rw [← q30] at A30
  have l30 : vs30.length = 21 := by rw [q30, List.length_append, l29]; rfl
  have K30 : Keep h0 h30 [] := (K29).wr W30 (Or.inr sz_b4)
  have Z30 : n0 ≤ h30.size := Nat.le_trans Z29 (Keep.of_wr W30).1
  obtain ⟨T31, h31, L31, X31, e31, N31, W31, A31, st31⟩ := own_putc X30 hx hZ e30 A30 (j := (21 : Int32)) (k0 := 21) l30 rfl (by decide) (by decide) (v' := (110 : Int32)) rfl rfl (g := (mkF m 131 #[vI p1, vI p2, vI p3, vU] [(.int (110 : Int32)), (.int (21 : Int32)), (.ref b4), (.ref b4)])) rfl rfl (hb hby d43_131) N30 g_b4
  obtain ⟨vs31, q31⟩ : ∃ l : List Value, l = vs30 ++ [(.int (110 : Int32))] := ⟨_, rfl⟩
  rw [← q31] at A31
  have l31 : vs31.length = 22 := by rw [q31, List.length_append, l30]; rfl
  have y32 := (((((y26.wr W27).wr W28).wr W29).wr W30).wr W31)
  have K31 : Keep h0 h31 [] := (K30).wr W31 (Or.inr sz_b4)
  have Z31 : n0 ≤ h31.size := Nat.le_trans Z30 (Keep.of_wr W31).1
  obtain ⟨T33, h33, L33, X33, e33, N33, W33, A33, st33⟩ := own_putc X31 hx hZ e31 A31 (j := (22 : Int32)) (k0 := 22) l31 rfl (by decide) (by decide) (v' := (115 : Int32)) rfl rfl (g := (mkF m 137 #[vI p1, vI p2, vI p3, vU] [(.int (115 : Int32)), (.int (22 : Int32)), (.ref b4), (.ref b4)])) rfl rfl (hb hby d43_137) N31 g_b4
  obtain ⟨vs33, q33⟩ : ∃ l : List Value, l = vs31 ++ [(.int (115 : Int32))] := ⟨_, rfl⟩
  rw [← q33] at A33
  have l33 : vs33.length = 23 := by rw [q33, List.length_append, l31]; rfl
  have K33 : Keep h0 h33 [] := (K31).wr W33 (Or.inr sz_b4)
  have Z33 : n0 ≤ h33.size := Nat.le_trans Z31 (Keep.of_wr W33).1
  obtain ⟨T34, h34, L34, X34, e34, N34, W34, A34, st34⟩ := own_putc X33 hx hZ e33 A33 (j := (23 : Int32)) (k0 := 23) l33 rfl (by decide) (by decide) (v' := (61 : Int32)) rfl rfl (g := (mkF m 143 #[vI p1, vI p2, vI p3, vU] [(.int (61 : Int32)), (.int (23 : Int32)), (.ref b4), (.ref b4)])) rfl rfl (hb hby d43_143) N33 g_b4
  obtain ⟨vs34, q34⟩ : ∃ l : List Value, l = vs33 ++ [(.int (61 : Int32))] := ⟨_, rfl⟩
  rw [← q34] at A34
  have l34 : vs34.length = 24 := by rw [q34, List.length_append, l33]; rfl
  have K34 : Keep h0 h34 [] := (K33).wr W34 (Or.inr sz_b4)
  have Z34 : n0 ≤ h34.size := Nat.le_trans Z33 (Keep.of_wr W34).1
  obtain ⟨T35, h35, L35, X35, e35, N35, W35, A35, st35⟩ := own_putc X34 hx hZ e34 A34 (j := (24 : Int32)) (k0 := 24) l34 rfl (by decide) (by decide) (v' := (45 : Int32)) rfl rfl (g := (mkF m 149 #[vI p1, vI p2, vI p3, vU] [(.int (45 : Int32)), (.int (24 : Int32)), (.ref b4), (.ref b4)])) rfl rfl (hb hby d43_149) N34 g_b4
  obtain ⟨vs35, q35⟩ : ∃ l : List Value, l = vs34 ++ [(.int (45 : Int32))] := ⟨_, rfl⟩
  rw [← q35] at A35
  have l35 : vs35.length = 25 := by rw [q35, List.length_append, l34]; rfl
  have K35 : Keep h0 h35 [] := (K34).wr W35 (Or.inr sz_b4)
  have Z35 : n0 ≤ h35.size := Nat.le_trans Z34 (Keep.of_wr W35).1
  obtain ⟨_, _, ⟨T36, L36, k36, n36⟩, -, X36, ⟨Lc36, hQ36, l36, y36, z36⟩, st36⟩ := Jvm.LawKit.callS X35 hx (y := (⟨"com/example/vigilant_context/vigilantcontext/finding/LoadCostToStringPinLaw", "dig", "(I)C"⟩ : MethodName)) hown (mvT hZ (own_wi hw 5 rfl)) (mvT hZ (own_wi hw 6 rfl)) (mvT hZ (own_wi hw 2 rfl)) (mvT hZ (own_wi hw 7 rfl)) (by decide) (backOf (W := 3) (rm2 l Z a0 hw [] p2 h35 n0 Z35 ) hZ (own_wi hw 7 rfl) (own_wi hw 2 rfl) (by decide) (by decide)) (g := (mkF m 154 #[vI p1, vI p2, vI p3, vU] [(.int p2), (.int (25 : Int32)), (.ref b4), (.ref b4)])) rfl (by rw [hml]; rfl) (argsL := [(.int p2)]) (rest := [(.int (25 : Int32)), (.ref b4), (.ref b4)]) (lenOf pd_22 rfl) rfl (by show 2 * 0 + _ ≤ _; exact Nat.le_of_eq rfl) (hb hby d43_154) (fun _ _ => ⟨rfl, e35, (by decide : 1 + 0 ≤ _), (by decide : 40 + 0 ≤ _)⟩)
  dsimp only [Pt.U, Pt.locs, Pt.cells, Pt.slots] at X36 l36 y36 z36 st36 hQ36
  subst l36 y36 z36
  obtain ⟨rfl, N36q, e36⟩ := hQ36
  have N36 := Fr.app N35 N36q
  obtain ⟨T37, h37, L37, X37, e37, N37, W37, A37, st37⟩ := own_putc X36 hx hZ e36 A35 (j := (25 : Int32)) (k0 := 25) l35 rfl (by decide) (by decide) (v' := (((((48 : Int32) + p2).toUInt32.toUInt16.toUInt32.toInt32).toUInt32.toUInt16.toUInt32.toInt32).toUInt32.toUInt16.toUInt32.toInt32)) rfl (fits_nar_char _) (g := (mkF m 157 #[vI p1, vI p2, vI p3, vU] [(.int ((((48 : Int32) + p2).toUInt32.toUInt16.toUInt32.toInt32).toUInt32.toUInt16.toUInt32.toInt32)), (.int (25 : Int32)), (.ref b4), (.ref b4)])) rfl rfl (hb hby d43_157) N36 g_b4
  obtain ⟨vs37, q37⟩ : ∃ l : List Value, l = vs35 ++ [(.int (((((48 : Int32) + p2).toUInt32.toUInt16.toUInt32.toInt32).toUInt32.toUInt16.toUInt32.toInt32).toUInt32.toUInt16.toUInt32.toInt32))] := ⟨_, rfl⟩
  rw [← q37] at A37
  have l37 : vs37.length = 26 := by rw [q37, List.length_append, l35]; rfl
  have K37 : Keep h0 h37 [] := (K35).wr W37 (Or.inr sz_b4)
  have Z37 : n0 ≤ h37.size := Nat.le_trans Z35 (Keep.of_wr W37).1
  obtain ⟨T38, h38, L38, X38, e38, N38, W38, A38, st38⟩ := own_putc X37 hx hZ e37 A37 (j := (26 : Int32)) (k0 := 26) l37 rfl (by decide) (by decide) (v' := (32 : Int32)) rfl rfl (g := (mkF m 163 #[vI p1, vI p2, vI p3, vU] [(.int (32 : Int32)), (.int (26 : Int32)), (.ref b4), (.ref b4)])) rfl rfl (hb hby d43_163) N37 g_b4
  obtain ⟨vs38, q38⟩ : ∃ l : List Value, l = vs37 ++ [(.int (32 : Int32))] := ⟨_, rfl⟩
  rw [← q38] at A38
  have l38 : vs38.length = 27 := by rw [q38, List.length_append, l37]; rfl
  have y39 := (((((y32.wr W33).wr W34).wr W35).wr W37).wr W38)
  have K38 : Keep h0 h38 [] := (K37).wr W38 (Or.inr sz_b4)
  have Z38 : n0 ≤ h38.size := Nat.le_trans Z37 (Keep.of_wr W38).1
  obtain ⟨T40, h40, L40, X40, e40, N40, W40, A40, st40⟩ := own_putc X38 hx hZ e38 A38 (j := (27 : Int32)) (k0 := 27) l38 rfl (by decide) (by decide) (v' := (115 : Int32)) rfl rfl (g := (mkF m 169 #[vI p1, vI p2, vI p3, vU] [(.int (115 : Int32)), (.int (27 : Int32)), (.ref b4), (.ref b4)])) rfl rfl (hb hby d43_169) N38 g_b4
  obtain ⟨vs40, q40⟩ : ∃ l : List Value, l = vs38 ++ [(.int (115 : Int32))] := ⟨_, rfl⟩
  rw [← q40] at A40
  have l40 : vs40.length = 28 := by rw [q40, List.length_append, l38]; rfl
  have K40 : Keep h0 h40 [] := (K38).wr W40 (Or.inr sz_b4)
  have Z40 : n0 ≤ h40.size := Nat.le_trans Z38 (Keep.of_wr W40).1
  obtain ⟨T41, h41, L41, X41, e41, N41, W41, A41, st41⟩ := own_putc X40 hx hZ e40 A40 (j := (28 : Int32)) (k0 := 28) l40 rfl (by decide) (by decide) (v' := (116 : Int32)) rfl rfl (g := (mkF m 175 #[vI p1, vI p2, vI p3, vU] [(.int (116 : Int32)), (.int (28 : Int32)), (.ref b4), (.ref b4)])) rfl rfl (hb hby d43_175) N40 g_b4
  obtain ⟨vs41, q41⟩ : ∃ l : List Value, l = vs40 ++ [(.int (116 : Int32))] := ⟨_, rfl⟩
  rw [← q41] at A41
  have l41 : vs41.length = 29 := by rw [q41, List.length_append, l40]; rfl
  have K41 : Keep h0 h41 [] := (K40).wr W41 (Or.inr sz_b4)
  have Z41 : n0 ≤ h41.size := Nat.le_trans Z40 (Keep.of_wr W41).1
  obtain ⟨T42, h42, L42, X42, e42, N42, W42, A42, st42⟩ := own_putc X41 hx hZ e41 A41 (j := (29 : Int32)) (k0 := 29) l41 rfl (by decide) (by decide) (v' := (97 : Int32)) rfl rfl (g := (mkF m 181 #[vI p1, vI p2, vI p3, vU] [(.int (97 : Int32)), (.int (29 : Int32)), (.ref b4), (.ref b4)])) rfl rfl (hb hby d43_181) N41 g_b4
  obtain ⟨vs42, q42⟩ : ∃ l : List Value, l = vs41 ++ [(.int (97 : Int32))] := ⟨_, rfl⟩
  rw [← q42] at A42
  have l42 : vs42.length = 30 := by rw [q42, List.length_append, l41]; rfl
  have K42 : Keep h0 h42 [] := (K41).wr W42 (Or.inr sz_b4)
  have Z42 : n0 ≤ h42.size := Nat.le_trans Z41 (Keep.of_wr W42).1
  obtain ⟨T43, h43, L43, X43, e43, N43, W43, A43, st43⟩ := own_putc X42 hx hZ e42 A42 (j := (30 : Int32)) (k0 := 30) l42 rfl (by decide) (by decide) (v' := (116 : Int32)) rfl rfl (g := (mkF m 187 #[vI p1, vI p2, vI p3, vU] [(.int (116 : Int32)), (.int (30 : Int32)), (.ref b4), (.ref b4)])) rfl rfl (hb hby d43_187) N42 g_b4
  obtain ⟨vs43, q43⟩ : ∃ l : List Value, l = vs42 ++ [(.int (116 : Int32))] := ⟨_, rfl⟩
  rw [← q43] at A43
  have l43 : vs43.length = 31 := by rw [q43, List.length_append, l42]; rfl
  have K43 : Keep h0 h43 [] := (K42).wr W43 (Or.inr sz_b4)
  have Z43 : n0 ≤ h43.size := Nat.le_trans Z42 (Keep.of_wr W43).1
  obtain ⟨T44, h44, L44, X44, e44, N44, W44, A44, st44⟩ := own_putc X43 hx hZ e43 A43 (j := (31 : Int32)) (k0 := 31) l43 rfl (by decide) (by decide) (v' := (101 : Int32)) rfl rfl (g := (mkF m 193 #[vI p1, vI p2, vI p3, vU] [(.int (101 : Int32)), (.int (31 : Int32)), (.ref b4), (.ref b4)])) rfl rfl (hb hby d43_193) N43 g_b4
  obtain ⟨vs44, q44⟩ : ∃ l : List Value, l = vs43 ++ [(.int (101 : Int32))] := ⟨_, rfl⟩
  rw [← q44] at A44
  have l44 : vs44.length = 32 := by rw [q44, List.length_append, l43]; rfl
  have y45 := (((((y39.wr W40).wr W41).wr W42).wr W43).wr W44)
  have K44 : Keep h0 h44 [] := (K43).wr W44 (Or.inr sz_b4)
  have Z44 : n0 ≤ h44.size := Nat.le_trans Z43 (Keep.of_wr W44).1
  obtain ⟨T46, h46, L46, X46, e46, N46, W46, A46, st46⟩ := own_putc X44 hx hZ e44 A44 (j := (32 : Int32)) (k0 := 32) l44 rfl (by decide) (by decide) (v' := (109 : Int32)) rfl rfl (g := (mkF m 199 #[vI p1, vI p2, vI p3, vU] [(.int (109 : Int32)), (.int (32 : Int32)), (.ref b4), (.ref b4)])) rfl rfl (hb hby d43_199) N44 g_b4
  obtain ⟨vs46, q46⟩ : ∃ l : List Value, l = vs44 ++ [(.int (109 : Int32))] := ⟨_, rfl⟩
  rw [← q46] at A46
  have l46 : vs46.length = 33 := by rw [q46, List.length_append, l44]; rfl
  have K46 : Keep h0 h46 [] := (K44).wr W46 (Or.inr sz_b4)
  have Z46 : n0 ≤ h46.size := Nat.le_trans Z44 (Keep.of_wr W46).1
  obtain ⟨T47, h47, L47, X47, e47, N47, W47, A47, st47⟩ := own_putc X46 hx hZ e46 A46 (j := (33 : Int32)) (k0 := 33) l46 rfl (by decide) (by decide) (v' := (101 : Int32)) rfl rfl (g := (mkF m 205 #[vI p1, vI p2, vI p3, vU] [(.int (101 : Int32)), (.int (33 : Int32)), (.ref b4), (.ref b4)])) rfl rfl (hb hby d43_205) N46 g_b4
  obtain ⟨vs47, q47⟩ : ∃ l : List Value, l = vs46 ++ [(.int (101 : Int32))] := ⟨_, rfl⟩
  rw [← q47] at A47
  have l47 : vs47.length = 34 := by rw [q47, List.length_append, l46]; rfl
  have K47 : Keep h0 h47 [] := (K46).wr W47 (Or.inr sz_b4)
  have Z47 : n0 ≤ h47.size := Nat.le_trans Z46 (Keep.of_wr W47).1
  obtain ⟨T48, h48, L48, X48, e48, N48, W48, A48, st48⟩ := own_putc X47 hx hZ e47 A47 (j := (34 : Int32)) (k0 := 34) l47 rfl (by decide) (by decide) (v' := (110 : Int32)) rfl rfl (g := (mkF m 211 #[vI p1, vI p2, vI p3, vU] [(.int (110 : Int32)), (.int (34 : Int32)), (.ref b4), (.ref b4)])) rfl rfl (hb hby d43_211) N47 g_b4
  obtain ⟨vs48, q48⟩ : ∃ l : List Value, l = vs47 ++ [(.int (110 : Int32))] := ⟨_, rfl⟩
  rw [← q48] at A48
  have l48 : vs48.length = 35 := by rw [q48, List.length_append, l47]; rfl
  have K48 : Keep h0 h48 [] := (K47).wr W48 (Or.inr sz_b4)
  have Z48 : n0 ≤ h48.size := Nat.le_trans Z47 (Keep.of_wr W48).1
  obtain ⟨T49, h49, L49, X49, e49, N49, W49, A49, st49⟩ := own_putc X48 hx hZ e48 A48 (j := (35 : Int32)) (k0 := 35) l48 rfl (by decide) (by decide) (v' := (116 : Int32)) rfl rfl (g := (mkF m 217 #[vI p1, vI p2, vI p3, vU] [(.int (116 : Int32)), (.int (35 : Int32)), (.ref b4), (.ref b4)])) rfl rfl (hb hby d43_217) N48 g_b4
  obtain ⟨vs49, q49⟩ : ∃ l : List Value, l = vs48 ++ [(.int (116 : Int32))] := ⟨_, rfl⟩
  rw [← q49] at A49
  have l49 : vs49.length = 36 := by rw [q49, List.length_append, l48]; rfl
  have K49 : Keep h0 h49 [] := (K48).wr W49 (Or.inr sz_b4)
  have Z49 : n0 ≤ h49.size := Nat.le_trans Z48 (Keep.of_wr W49).1
  obtain ⟨T50, h50, L50, X50, e50, N50, W50, A50, st50⟩ := own_putc X49 hx hZ e49 A49 (j := (36 : Int32)) (k0 := 36) l49 rfl (by decide) (by decide) (v' := (115 : Int32)) rfl rfl (g := (mkF m 223 #[vI p1, vI p2, vI p3, vU] [(.int (115 : Int32)), (.int (36 : Int32)), (.ref b4), (.ref b4)])) rfl rfl (hb hby d43_223) N49 g_b4
  obtain ⟨vs50, q50⟩ : ∃ l : List Value, l = vs49 ++ [(.int (115 : Int32))] := ⟨_, rfl⟩
  rw [← q50] at A50
  have l50 : vs50.length = 37 := by rw [q50, List.length_append, l49]; rfl
  have y51 := (((((y45.wr W46).wr W47).wr W48).wr W49).wr W50)
  have K50 : Keep h0 h50 [] := (K49).wr W50 (Or.inr sz_b4)
  have Z50 : n0 ≤ h50.size := Nat.le_trans Z49 (Keep.of_wr W50).1
  obtain ⟨T52, h52, L52, X52, e52, N52, W52, A52, st52⟩ := own_putc X50 hx hZ e50 A50 (j := (37 : Int32)) (k0 := 37) l50 rfl (by decide) (by decide) (v' := (61 : Int32)) rfl rfl (g := (mkF m 229 #[vI p1, vI p2, vI p3, vU] [(.int (61 : Int32)), (.int (37 : Int32)), (.ref b4), (.ref b4)])) rfl rfl (hb hby d43_229) N50 g_b4
  obtain ⟨vs52, q52⟩ : ∃ l : List Value, l = vs50 ++ [(.int (61 : Int32))] := ⟨_, rfl⟩
  rw [← q52] at A52
  have l52 : vs52.length = 38 := by rw [q52, List.length_append, l50]; rfl
  have K52 : Keep h0 h52 [] := (K50).wr W52 (Or.inr sz_b4)
  have Z52 : n0 ≤ h52.size := Nat.le_trans Z50 (Keep.of_wr W52).1
  obtain ⟨T53, h53, L53, X53, e53, N53, W53, A53, st53⟩ := own_putc X52 hx hZ e52 A52 (j := (38 : Int32)) (k0 := 38) l52 rfl (by decide) (by decide) (v' := (45 : Int32)) rfl rfl (g := (mkF m 235 #[vI p1, vI p2, vI p3, vU] [(.int (45 : Int32)), (.int (38 : Int32)), (.ref b4), (.ref b4)])) rfl rfl (hb hby d43_235) N52 g_b4
  obtain ⟨vs53, q53⟩ : ∃ l : List Value, l = vs52 ++ [(.int (45 : Int32))] := ⟨_, rfl⟩
  rw [← q53] at A53
  have l53 : vs53.length = 39 := by rw [q53, List.length_append, l52]; rfl
  have K53 : Keep h0 h53 [] := (K52).wr W53 (Or.inr sz_b4)
  have Z53 : n0 ≤ h53.size := Nat.le_trans Z52 (Keep.of_wr W53).1
  obtain ⟨_, _, ⟨T54, L54, k54, n54⟩, -, X54, ⟨Lc54, hQ54, l54, y54, z54⟩, st54⟩ := Jvm.LawKit.callS X53 hx (y := (⟨"com/example/vigilant_context/vigilantcontext/finding/LoadCostToStringPinLaw", "dig", "(I)C"⟩ : MethodName)) hown (mvT hZ (own_wi hw 5 rfl)) (mvT hZ (own_wi hw 6 rfl)) (mvT hZ (own_wi hw 2 rfl)) (mvT hZ (own_wi hw 7 rfl)) (by decide) (backOf (W := 3) (rm2 l Z a0 hw [] p3 h53 n0 Z53 ) hZ (own_wi hw 7 rfl) (own_wi hw 2 rfl) (by decide) (by decide)) (g := (mkF m 240 #[vI p1, vI p2, vI p3, vU] [(.int p3), (.int (39 : Int32)), (.ref b4), (.ref b4)])) rfl (by rw [hml]; rfl) (argsL := [(.int p3)]) (rest := [(.int (39 : Int32)), (.ref b4), (.ref b4)]) (lenOf pd_22 rfl) rfl (by show 2 * 0 + _ ≤ _; exact Nat.le_of_eq rfl) (hb hby d43_240) (fun _ _ => ⟨rfl, e53, (by decide : 1 + 0 ≤ _), (by decide : 40 + 0 ≤ _)⟩)
  dsimp only [Pt.U, Pt.locs, Pt.cells, Pt.slots] at X54 l54 y54 z54 st54 hQ54
  subst l54 y54 z54
  obtain ⟨rfl, N54q, e54⟩ := hQ54
  have N54 := Fr.app N53 N54q
  obtain ⟨T55, h55, L55, X55, e55, N55, W55, A55, st55⟩ := own_putc X54 hx hZ e54 A53 (j := (39 : Int32)) (k0 := 39) l53 rfl (by decide) (by decide) (v' := (((((48 : Int32) + p3).toUInt32.toUInt16.toUInt32.toInt32).toUInt32.toUInt16.toUInt32.toInt32).toUInt32.toUInt16.toUInt32.toInt32)) rfl (fits_nar_char _) (g := (mkF m 243 #[vI p1, vI p2, vI p3, vU] [(.int ((((48 : Int32) + p3).toUInt32.toUInt16.toUInt32.toInt32).toUInt32.toUInt16.toUInt32.toInt32)), (.int (39 : Int32)), (.ref b4), (.ref b4)])) rfl rfl (hb hby d43_243) N54 g_b4
  obtain ⟨vs55, q55⟩ : ∃ l : List Value, l = vs53 ++ [(.int (((((48 : Int32) + p3).toUInt32.toUInt16.toUInt32.toInt32).toUInt32.toUInt16.toUInt32.toInt32).toUInt32.toUInt16.toUInt32.toInt32))] := ⟨_, rfl⟩
  rw [← q55] at A55
  have l55 : vs55.length = 40 := by rw [q55, List.length_append, l53]; rfl
  have K55 : Keep h0 h55 [] := (K53).wr W55 (Or.inr sz_b4)
  have Z55 : n0 ≤ h55.size := Nat.le_trans Z53 (Keep.of_wr W55).1
  obtain ⟨T56, h56, X56, e56, E56, A56, D56, -, st56⟩ := newO X55 hx hZ hown (own_wi hw 8 rfl) (own_wi hw 9 rfl) (own_wi hw 10 rfl) e55 (g := (mkF m 245 #[vI p1, vI p2, vI p3, vR b4] [])) rfl (hb hby d43_245) (by decide) (by decide)
  obtain ⟨b56, g56⟩ : ∃ z, z = h55.size := ⟨_, rfl⟩
  rw [← g56] at A56 D56 st56
  have ne_b4_b56 : b4 ≠ b56 := Nat.ne_of_lt (Nat.lt_of_lt_of_le A55.lt (Nat.le_of_eq g56.symm))
  have g_b56 : n0 ≤ b56 := Nat.le_trans Z55 (Nat.le_of_eq g56.symm)
  have sz_b56 : h0.size ≤ b56 := Nat.le_trans (K55).1 (Nat.le_of_eq g56.symm)
  have K56 : Keep h0 h56 [] := (K55).ext E56
  have Z56 : n0 ≤ h56.size := Nat.le_trans Z55 E56.1
  have F_coder_b56 : Fld Z h56 b56 "java/lang/String" "coder" "B" (.int (0 : Int32)) := D56 (Or.inr (own_wi hw 34 rfl)) (ty := .byte) (by decide)
  have F_value_b56 : Fld Z h56 b56 "java/lang/String" "value" "[B" .null := D56 (Or.inr (own_wi hw 36 rfl)) (ty := (.array .byte)) (by decide)
  have V57 : Arv Z h56 b4 k4 .char (40 : Int32) [(.int (115 : Int32)), (.int (101 : Int32)), (.int (115 : Int32)), (.int (115 : Int32)), (.int (105 : Int32)), (.int (111 : Int32)), (.int (110 : Int32)), (.int (115 : Int32)), (.int (61 : Int32)), (.int (45 : Int32)), (.int (((((48 : Int32) + p1).toUInt32.toUInt16.toUInt32.toInt32).toUInt32.toUInt16.toUInt32.toInt32).toUInt32.toUInt16.toUInt32.toInt32)), (.int (32 : Int32)), (.int (99 : Int32)), (.int (111 : Int32)), (.int (110 : Int32)), (.int (110 : Int32)), (.int (101 : Int32)), (.int (99 : Int32)), (.int (116 : Int32)), (.int (105 : Int32)), (.int (111 : Int32)), (.int (110 : Int32)), (.int (115 : Int32)), (.int (61 : Int32)), (.int (45 : Int32)), (.int (((((48 : Int32) + p2).toUInt32.toUInt16.toUInt32.toInt32).toUInt32.toUInt16.toUInt32.toInt32).toUInt32.toUInt16.toUInt32.toInt32)), (.int (32 : Int32)), (.int (115 : Int32)), (.int (116 : Int32)), (.int (97 : Int32)), (.int (116 : Int32)), (.int (101 : Int32)), (.int (109 : Int32)), (.int (101 : Int32)), (.int (110 : Int32)), (.int (116 : Int32)), (.int (115 : Int32)), (.int (61 : Int32)), (.int (45 : Int32)), (.int (((((48 : Int32) + p3).toUInt32.toUInt16.toUInt32.toInt32).toUInt32.toUInt16.toUInt32.toInt32).toUInt32.toUInt16.toUInt32.toInt32))] (.int (0 : Int32)) := by have q := (A55.ext E56); rw [q55, q53, q52, q50, q49, q48, q47, q46, q44, q43, q42, q41, q40, q38, q37, q35, q34, q33, q31, q30, q29, q28, q27, q25, q24, q23, q22, q21, q19, q18, q16, q15, q14, q12, q11, q10, q9, q8, q6, q5] at q; simp only [List.nil_append, List.cons_append] at q; exact q
  have hp58 : ∀ c ∈ ([(115 : Int32), (101 : Int32), (115 : Int32), (115 : Int32), (105 : Int32), (111 : Int32), (110 : Int32), (115 : Int32), (61 : Int32), (45 : Int32), (((((48 : Int32) + p1).toUInt32.toUInt16.toUInt32.toInt32).toUInt32.toUInt16.toUInt32.toInt32).toUInt32.toUInt16.toUInt32.toInt32), (32 : Int32), (99 : Int32), (111 : Int32), (110 : Int32), (110 : Int32), (101 : Int32), (99 : Int32), (116 : Int32), (105 : Int32), (111 : Int32), (110 : Int32), (115 : Int32), (61 : Int32), (45 : Int32), (((((48 : Int32) + p2).toUInt32.toUInt16.toUInt32.toInt32).toUInt32.toUInt16.toUInt32.toInt32).toUInt32.toUInt16.toUInt32.toInt32), (32 : Int32), (115 : Int32), (116 : Int32), (97 : Int32), (116 : Int32), (101 : Int32), (109 : Int32), (101 : Int32), (110 : Int32), (116 : Int32), (115 : Int32), (61 : Int32), (45 : Int32), (((((48 : Int32) + p3).toUInt32.toUInt16.toUInt32.toInt32).toUInt32.toUInt16.toUInt32.toInt32).toUInt32.toUInt16.toUInt32.toInt32)] : List Int32), ¬ c < 0 ∧ ¬ (255 : Int32) < c := by rw [own_ch3 (own_d19_9 hq0_1), own_ch3 (own_d19_9 hq0_2), own_ch3 (own_d19_9 hq0_3)]; exact own_neg_in hq0_1 hq0_2 hq0_3
  obtain ⟨_, _, ⟨T58, L58, k58, n58⟩, -, X58, ⟨Lc58, hQ58, l58, y58, z58⟩, st58⟩ := X56.specialBack hx (y := (⟨"java/lang/String", "<init>", "([C)V"⟩ : MethodName)) rfl hown (mvT hZ (own_wi hw 11 rfl)) (mvT hZ (own_wi hw 12 rfl)) (mvT hZ (own_wi hw 13 rfl)) (by decide) (StrChars.Road.backV (W := 1) hZ (own_sw hw) (kI := 4) (own_wi hw 9 rfl) (cs := ([(115 : Int32), (101 : Int32), (115 : Int32), (115 : Int32), (105 : Int32), (111 : Int32), (110 : Int32), (115 : Int32), (61 : Int32), (45 : Int32), (((((48 : Int32) + p1).toUInt32.toUInt16.toUInt32.toInt32).toUInt32.toUInt16.toUInt32.toInt32).toUInt32.toUInt16.toUInt32.toInt32), (32 : Int32), (99 : Int32), (111 : Int32), (110 : Int32), (110 : Int32), (101 : Int32), (99 : Int32), (116 : Int32), (105 : Int32), (111 : Int32), (110 : Int32), (115 : Int32), (61 : Int32), (45 : Int32), (((((48 : Int32) + p2).toUInt32.toUInt16.toUInt32.toInt32).toUInt32.toUInt16.toUInt32.toInt32).toUInt32.toUInt16.toUInt32.toInt32), (32 : Int32), (115 : Int32), (116 : Int32), (97 : Int32), (116 : Int32), (101 : Int32), (109 : Int32), (101 : Int32), (110 : Int32), (116 : Int32), (115 : Int32), (61 : Int32), (45 : Int32), (((((48 : Int32) + p3).toUInt32.toUInt16.toUInt32.toInt32).toUInt32.toUInt16.toUInt32.toInt32).toUInt32.toUInt16.toUInt32.toInt32)] : List Int32)) (bs := ([((115 : Int32).toInt8.toInt32), ((101 : Int32).toInt8.toInt32), ((115 : Int32).toInt8.toInt32), ((115 : Int32).toInt8.toInt32), ((105 : Int32).toInt8.toInt32), ((111 : Int32).toInt8.toInt32), ((110 : Int32).toInt8.toInt32), ((115 : Int32).toInt8.toInt32), ((61 : Int32).toInt8.toInt32), ((45 : Int32).toInt8.toInt32), ((((((48 : Int32) + p1).toUInt32.toUInt16.toUInt32.toInt32).toUInt32.toUInt16.toUInt32.toInt32).toUInt32.toUInt16.toUInt32.toInt32).toInt8.toInt32), ((32 : Int32).toInt8.toInt32), ((99 : Int32).toInt8.toInt32), ((111 : Int32).toInt8.toInt32), ((110 : Int32).toInt8.toInt32), ((110 : Int32).toInt8.toInt32), ((101 : Int32).toInt8.toInt32), ((99 : Int32).toInt8.toInt32), ((116 : Int32).toInt8.toInt32), ((105 : Int32).toInt8.toInt32), ((111 : Int32).toInt8.toInt32), ((110 : Int32).toInt8.toInt32), ((115 : Int32).toInt8.toInt32), ((61 : Int32).toInt8.toInt32), ((45 : Int32).toInt8.toInt32), ((((((48 : Int32) + p2).toUInt32.toUInt16.toUInt32.toInt32).toUInt32.toUInt16.toUInt32.toInt32).toUInt32.toUInt16.toUInt32.toInt32).toInt8.toInt32), ((32 : Int32).toInt8.toInt32), ((115 : Int32).toInt8.toInt32), ((116 : Int32).toInt8.toInt32), ((97 : Int32).toInt8.toInt32), ((116 : Int32).toInt8.toInt32), ((101 : Int32).toInt8.toInt32), ((109 : Int32).toInt8.toInt32), ((101 : Int32).toInt8.toInt32), ((110 : Int32).toInt8.toInt32), ((116 : Int32).toInt8.toInt32), ((115 : Int32).toInt8.toInt32), ((61 : Int32).toInt8.toInt32), ((45 : Int32).toInt8.toInt32), ((((((48 : Int32) + p3).toUInt32.toUInt16.toUInt32.toInt32).toUInt32.toUInt16.toUInt32.toInt32).toUInt32.toUInt16.toUInt32.toInt32).toInt8.toInt32)] : List Int32)) (n := 40) g_b56 Z56 A56 F_value_b56 F_coder_b56 V57 ((((y51.wr W52).wr W53).wr W55).ext E56) hq250_4 rfl rfl (by decide) (by decide) hp58 rfl (by decide) (by decide)) (g := (mkF m 250 #[vI p1, vI p2, vI p3, vR b4] [(.ref b4), (.ref b56), (.ref b56)])) rfl (by rw [hml]; rfl) (Steps.refl _) (a := b56) (argsL := [(.ref b4)]) (rest := [(.ref b56)]) (lenOf pd_23 rfl) rfl (by show 2 * 0 + _ ≤ _; exact Nat.le_of_eq rfl) (hb hby d43_250) (fun _ _ => ⟨rfl, e56, (by decide : 2 + 1 ≤ _), (by decide : 44 + 40 ≤ _)⟩)
  dsimp only [Pt.U, Pt.locs, Pt.cells, Pt.slots] at X58 l58 y58 z58 st58 hQ58
  subst l58 y58 z58
  obtain ⟨rfl, N58q, K58q, f58E, f58C, t58, kb58, g58n, g58s, g58x, f58V, f58A⟩ := hQ58
  have ne_b4_t58 : b4 ≠ t58 := Nat.ne_of_lt (Nat.lt_of_lt_of_le V57.lt g58s)
  have ne_b56_t58 : b56 ≠ t58 := Nat.ne_of_lt (Nat.lt_of_lt_of_le A56.lt g58s)
  have g_t58 : n0 ≤ t58 := g58n
  have sz_t58 : h0.size ≤ t58 := Nat.le_trans (K56).1 g58s
  have y59 := (own_StaKeep ((((y51.wr W52).wr W53).wr W55).ext E56) K58q (allS (P := fun x => ∃ D, Exa Z h56 x D) ⟨_, A56⟩ all0))
  have K58 : Keep h0 T58.heap [] := (K56).trans K58q (allS (P := fun x => x ∈ [] ∨ h0.size ≤ x) (Or.inr sz_b56) all0)
  have Z58 : n0 ≤ T58.heap.size := Nat.le_trans Z56 K58q.1
  have N58 := Fr.app N55 N58q
  obtain ⟨fs, hr, hrun, hended, hW, hsame⟩ := X58.leave (v := some (.ref b56)) (fun h => by rw [Bd.returns] at h; cases h)
  refine ⟨_, _, pre0 _ ?_, hrun, hended, _, _, rfl, ?_, ⟨_, rfl⟩, hW, hsame.mono (by decide) (by decide)⟩
  · show Steps p.tables e below (s₁.setTop (mkF m 0 #[vI p1, vI p2, vI p3, vU] [])) _
    refine XS.bipush X0.here hx rfl (hb hby d43_0) ?_
    show Steps p.tables e below (s₁.setTop (mkF m 2 #[vI p1, vI p2, vI p3, vU] [(.int (40 : Int32))])) _
    refine st4 _ ?_
    show Steps p.tables e below (T4.setTop (mkF m 4 #[vI p1, vI p2, vI p3, vU] [(.ref b4)])) _
    refine XS.dup X4.here hx rfl (hb hby d43_4) rfl rfl ?_
    refine XS.iconst X4.here hx rfl (hb hby d43_5) ?_
    refine XS.bipush X4.here hx rfl (hb hby d43_6) ?_
    show Steps p.tables e below (T4.setTop (mkF m 8 #[vI p1, vI p2, vI p3, vU] [(.int (115 : Int32)), (.int (0 : Int32)), (.ref b4), (.ref b4)])) _
    refine st5 _ ?_
    show Steps p.tables e below (T5.setTop (mkF m 9 #[vI p1, vI p2, vI p3, vU] [(.ref b4)])) _
    refine XS.dup X5.here hx rfl (hb hby d43_9) rfl rfl ?_
    refine XS.iconst X5.here hx rfl (hb hby d43_10) ?_
    refine XS.bipush X5.here hx rfl (hb hby d43_11) ?_
    show Steps p.tables e below (T5.setTop (mkF m 13 #[vI p1, vI p2, vI p3, vU] [(.int (101 : Int32)), (.int (1 : Int32)), (.ref b4), (.ref b4)])) _
    refine st6 _ ?_
    show Steps p.tables e below (T6.setTop (mkF m 14 #[vI p1, vI p2, vI p3, vU] [(.ref b4)])) _
    refine XS.dup X6.here hx rfl (hb hby d43_14) rfl rfl ?_
    refine XS.iconst X6.here hx rfl (hb hby d43_15) ?_
    refine XS.bipush X6.here hx rfl (hb hby d43_16) ?_
    show Steps p.tables e below (T6.setTop (mkF m 18 #[vI p1, vI p2, vI p3, vU] [(.int (115 : Int32)), (.int (2 : Int32)), (.ref b4), (.ref b4)])) _
    refine st8 _ ?_
    show Steps p.tables e below (T8.setTop (mkF m 19 #[vI p1, vI p2, vI p3, vU] [(.ref b4)])) _
    refine XS.dup X8.here hx rfl (hb hby d43_19) rfl rfl ?_
    refine XS.iconst X8.here hx rfl (hb hby d43_20) ?_
    refine XS.bipush X8.here hx rfl (hb hby d43_21) ?_
    show Steps p.tables e below (T8.setTop (mkF m 23 #[vI p1, vI p2, vI p3, vU] [(.int (115 : Int32)), (.int (3 : Int32)), (.ref b4), (.ref b4)])) _
    refine st9 _ ?_
    show Steps p.tables e below (T9.setTop (mkF m 24 #[vI p1, vI p2, vI p3, vU] [(.ref b4)])) _
    refine XS.dup X9.here hx rfl (hb hby d43_24) rfl rfl ?_
    refine XS.iconst X9.here hx rfl (hb hby d43_25) ?_
    refine XS.bipush X9.here hx rfl (hb hby d43_26) ?_
    show Steps p.tables e below (T9.setTop (mkF m 28 #[vI p1, vI p2, vI p3, vU] [(.int (105 : Int32)), (.int (4 : Int32)), (.ref b4), (.ref b4)])) _
    refine st10 _ ?_
    show Steps p.tables e below (T10.setTop (mkF m 29 #[vI p1, vI p2, vI p3, vU] [(.ref b4)])) _
    refine XS.dup X10.here hx rfl (hb hby d43_29) rfl rfl ?_
    refine XS.iconst X10.here hx rfl (hb hby d43_30) ?_
    refine XS.bipush X10.here hx rfl (hb hby d43_31) ?_
    show Steps p.tables e below (T10.setTop (mkF m 33 #[vI p1, vI p2, vI p3, vU] [(.int (111 : Int32)), (.int (5 : Int32)), (.ref b4), (.ref b4)])) _
    refine st11 _ ?_
    show Steps p.tables e below (T11.setTop (mkF m 34 #[vI p1, vI p2, vI p3, vU] [(.ref b4)])) _
    refine XS.dup X11.here hx rfl (hb hby d43_34) rfl rfl ?_
    refine XS.bipush X11.here hx rfl (hb hby d43_35) ?_
    refine XS.bipush X11.here hx rfl (hb hby d43_37) ?_
    show Steps p.tables e below (T11.setTop (mkF m 39 #[vI p1, vI p2, vI p3, vU] [(.int (110 : Int32)), (.int (6 : Int32)), (.ref b4), (.ref b4)])) _
    refine st12 _ ?_
    show Steps p.tables e below (T12.setTop (mkF m 40 #[vI p1, vI p2, vI p3, vU] [(.ref b4)])) _
    refine XS.dup X12.here hx rfl (hb hby d43_40) rfl rfl ?_
    refine XS.bipush X12.here hx rfl (hb hby d43_41) ?_
    refine XS.bipush X12.here hx rfl (hb hby d43_43) ?_
    show Steps p.tables e below (T12.setTop (mkF m 45 #[vI p1, vI p2, vI p3, vU] [(.int (115 : Int32)), (.int (7 : Int32)), (.ref b4), (.ref b4)])) _
    refine st14 _ ?_
    show Steps p.tables e below (T14.setTop (mkF m 46 #[vI p1, vI p2, vI p3, vU] [(.ref b4)])) _
    refine XS.dup X14.here hx rfl (hb hby d43_46) rfl rfl ?_
    refine XS.bipush X14.here hx rfl (hb hby d43_47) ?_
    refine XS.bipush X14.here hx rfl (hb hby d43_49) ?_
    show Steps p.tables e below (T14.setTop (mkF m 51 #[vI p1, vI p2, vI p3, vU] [(.int (61 : Int32)), (.int (8 : Int32)), (.ref b4), (.ref b4)])) _
    refine st15 _ ?_
    show Steps p.tables e below (T15.setTop (mkF m 52 #[vI p1, vI p2, vI p3, vU] [(.ref b4)])) _
    refine XS.dup X15.here hx rfl (hb hby d43_52) rfl rfl ?_
    refine XS.bipush X15.here hx rfl (hb hby d43_53) ?_
    refine XS.bipush X15.here hx rfl (hb hby d43_55) ?_
    show Steps p.tables e below (T15.setTop (mkF m 57 #[vI p1, vI p2, vI p3, vU] [(.int (45 : Int32)), (.int (9 : Int32)), (.ref b4), (.ref b4)])) _
    refine st16 _ ?_
    show Steps p.tables e below (T16.setTop (mkF m 58 #[vI p1, vI p2, vI p3, vU] [(.ref b4)])) _
    refine XS.dup X16.here hx rfl (hb hby d43_58) rfl rfl ?_
    refine XS.bipush X16.here hx rfl (hb hby d43_59) ?_
    refine XS.iloadN X16.here hx rfl (hb hby d43_61) rfl ?_
    show Steps p.tables e below (T16.setTop (mkF m 62 #[vI p1, vI p2, vI p3, vU] [(.int p1), (.int (10 : Int32)), (.ref b4), (.ref b4)])) _
    refine st17 _ ?_
    show Steps p.tables e below (T17.setTop (mkF m 65 #[vI p1, vI p2, vI p3, vU] [(.int ((((48 : Int32) + p1).toUInt32.toUInt16.toUInt32.toInt32).toUInt32.toUInt16.toUInt32.toInt32)), (.int (10 : Int32)), (.ref b4), (.ref b4)])) _
    refine st18 _ ?_
    show Steps p.tables e below (T18.setTop (mkF m 66 #[vI p1, vI p2, vI p3, vU] [(.ref b4)])) _
    refine XS.dup X18.here hx rfl (hb hby d43_66) rfl rfl ?_
    refine XS.bipush X18.here hx rfl (hb hby d43_67) ?_
    refine XS.bipush X18.here hx rfl (hb hby d43_69) ?_
    show Steps p.tables e below (T18.setTop (mkF m 71 #[vI p1, vI p2, vI p3, vU] [(.int (32 : Int32)), (.int (11 : Int32)), (.ref b4), (.ref b4)])) _
    refine st19 _ ?_
    show Steps p.tables e below (T19.setTop (mkF m 72 #[vI p1, vI p2, vI p3, vU] [(.ref b4)])) _
    refine XS.dup X19.here hx rfl (hb hby d43_72) rfl rfl ?_
    refine XS.bipush X19.here hx rfl (hb hby d43_73) ?_
    refine XS.bipush X19.here hx rfl (hb hby d43_75) ?_
    show Steps p.tables e below (T19.setTop (mkF m 77 #[vI p1, vI p2, vI p3, vU] [(.int (99 : Int32)), (.int (12 : Int32)), (.ref b4), (.ref b4)])) _
    refine st21 _ ?_
    show Steps p.tables e below (T21.setTop (mkF m 78 #[vI p1, vI p2, vI p3, vU] [(.ref b4)])) _
    refine XS.dup X21.here hx rfl (hb hby d43_78) rfl rfl ?_
    refine XS.bipush X21.here hx rfl (hb hby d43_79) ?_
    refine XS.bipush X21.here hx rfl (hb hby d43_81) ?_
    show Steps p.tables e below (T21.setTop (mkF m 83 #[vI p1, vI p2, vI p3, vU] [(.int (111 : Int32)), (.int (13 : Int32)), (.ref b4), (.ref b4)])) _
    refine st22 _ ?_
    show Steps p.tables e below (T22.setTop (mkF m 84 #[vI p1, vI p2, vI p3, vU] [(.ref b4)])) _
    refine XS.dup X22.here hx rfl (hb hby d43_84) rfl rfl ?_
    refine XS.bipush X22.here hx rfl (hb hby d43_85) ?_
    refine XS.bipush X22.here hx rfl (hb hby d43_87) ?_
    show Steps p.tables e below (T22.setTop (mkF m 89 #[vI p1, vI p2, vI p3, vU] [(.int (110 : Int32)), (.int (14 : Int32)), (.ref b4), (.ref b4)])) _
    refine st23 _ ?_
    show Steps p.tables e below (T23.setTop (mkF m 90 #[vI p1, vI p2, vI p3, vU] [(.ref b4)])) _
    refine XS.dup X23.here hx rfl (hb hby d43_90) rfl rfl ?_
    refine XS.bipush X23.here hx rfl (hb hby d43_91) ?_
    refine XS.bipush X23.here hx rfl (hb hby d43_93) ?_
    show Steps p.tables e below (T23.setTop (mkF m 95 #[vI p1, vI p2, vI p3, vU] [(.int (110 : Int32)), (.int (15 : Int32)), (.ref b4), (.ref b4)])) _
    refine st24 _ ?_
    show Steps p.tables e below (T24.setTop (mkF m 96 #[vI p1, vI p2, vI p3, vU] [(.ref b4)])) _
    refine XS.dup X24.here hx rfl (hb hby d43_96) rfl rfl ?_
    refine XS.bipush X24.here hx rfl (hb hby d43_97) ?_
    refine XS.bipush X24.here hx rfl (hb hby d43_99) ?_
    show Steps p.tables e below (T24.setTop (mkF m 101 #[vI p1, vI p2, vI p3, vU] [(.int (101 : Int32)), (.int (16 : Int32)), (.ref b4), (.ref b4)])) _
    refine st25 _ ?_
    show Steps p.tables e below (T25.setTop (mkF m 102 #[vI p1, vI p2, vI p3, vU] [(.ref b4)])) _
    refine XS.dup X25.here hx rfl (hb hby d43_102) rfl rfl ?_
    refine XS.bipush X25.here hx rfl (hb hby d43_103) ?_
    refine XS.bipush X25.here hx rfl (hb hby d43_105) ?_
    show Steps p.tables e below (T25.setTop (mkF m 107 #[vI p1, vI p2, vI p3, vU] [(.int (99 : Int32)), (.int (17 : Int32)), (.ref b4), (.ref b4)])) _
    refine st27 _ ?_
    show Steps p.tables e below (T27.setTop (mkF m 108 #[vI p1, vI p2, vI p3, vU] [(.ref b4)])) _
    refine XS.dup X27.here hx rfl (hb hby d43_108) rfl rfl ?_
    refine XS.bipush X27.here hx rfl (hb hby d43_109) ?_
    refine XS.bipush X27.here hx rfl (hb hby d43_111) ?_
    show Steps p.tables e below (T27.setTop (mkF m 113 #[vI p1, vI p2, vI p3, vU] [(.int (116 : Int32)), (.int (18 : Int32)), (.ref b4), (.ref b4)])) _
    refine st28 _ ?_
    show Steps p.tables e below (T28.setTop (mkF m 114 #[vI p1, vI p2, vI p3, vU] [(.ref b4)])) _
    refine XS.dup X28.here hx rfl (hb hby d43_114) rfl rfl ?_
    refine XS.bipush X28.here hx rfl (hb hby d43_115) ?_
    refine XS.bipush X28.here hx rfl (hb hby d43_117) ?_
    show Steps p.tables e below (T28.setTop (mkF m 119 #[vI p1, vI p2, vI p3, vU] [(.int (105 : Int32)), (.int (19 : Int32)), (.ref b4), (.ref b4)])) _
    refine st29 _ ?_
    show Steps p.tables e below (T29.setTop (mkF m 120 #[vI p1, vI p2, vI p3, vU] [(.ref b4)])) _
    refine XS.dup X29.here hx rfl (hb hby d43_120) rfl rfl ?_
    refine XS.bipush X29.here hx rfl (hb hby d43_121) ?_
    refine XS.bipush X29.here hx rfl (hb hby d43_123) ?_
    show Steps p.tables e below (T29.setTop (mkF m 125 #[vI p1, vI p2, vI p3, vU] [(.int (111 : Int32)), (.int (20 : Int32)), (.ref b4), (.ref b4)])) _
    refine st30 _ ?_
    show Steps p.tables e below (T30.setTop (mkF m 126 #[vI p1, vI p2, vI p3, vU] [(.ref b4)])) _
    refine XS.dup X30.here hx rfl (hb hby d43_126) rfl rfl ?_
    refine XS.bipush X30.here hx rfl (hb hby d43_127) ?_
    refine XS.bipush X30.here hx rfl (hb hby d43_129) ?_
    show Steps p.tables e below (T30.setTop (mkF m 131 #[vI p1, vI p2, vI p3, vU] [(.int (110 : Int32)), (.int (21 : Int32)), (.ref b4), (.ref b4)])) _
    refine st31 _ ?_
    show Steps p.tables e below (T31.setTop (mkF m 132 #[vI p1, vI p2, vI p3, vU] [(.ref b4)])) _
    refine XS.dup X31.here hx rfl (hb hby d43_132) rfl rfl ?_
    refine XS.bipush X31.here hx rfl (hb hby d43_133) ?_
    refine XS.bipush X31.here hx rfl (hb hby d43_135) ?_
    show Steps p.tables e below (T31.setTop (mkF m 137 #[vI p1, vI p2, vI p3, vU] [(.int (115 : Int32)), (.int (22 : Int32)), (.ref b4), (.ref b4)])) _
    refine st33 _ ?_
    show Steps p.tables e below (T33.setTop (mkF m 138 #[vI p1, vI p2, vI p3, vU] [(.ref b4)])) _
    refine XS.dup X33.here hx rfl (hb hby d43_138) rfl rfl ?_
    refine XS.bipush X33.here hx rfl (hb hby d43_139) ?_
    refine XS.bipush X33.here hx rfl (hb hby d43_141) ?_
    show Steps p.tables e below (T33.setTop (mkF m 143 #[vI p1, vI p2, vI p3, vU] [(.int (61 : Int32)), (.int (23 : Int32)), (.ref b4), (.ref b4)])) _
    refine st34 _ ?_
    show Steps p.tables e below (T34.setTop (mkF m 144 #[vI p1, vI p2, vI p3, vU] [(.ref b4)])) _
    refine XS.dup X34.here hx rfl (hb hby d43_144) rfl rfl ?_
    refine XS.bipush X34.here hx rfl (hb hby d43_145) ?_
    refine XS.bipush X34.here hx rfl (hb hby d43_147) ?_
    show Steps p.tables e below (T34.setTop (mkF m 149 #[vI p1, vI p2, vI p3, vU] [(.int (45 : Int32)), (.int (24 : Int32)), (.ref b4), (.ref b4)])) _
    refine st35 _ ?_
    show Steps p.tables e below (T35.setTop (mkF m 150 #[vI p1, vI p2, vI p3, vU] [(.ref b4)])) _
    refine XS.dup X35.here hx rfl (hb hby d43_150) rfl rfl ?_
    refine XS.bipush X35.here hx rfl (hb hby d43_151) ?_
    refine XS.iloadN X35.here hx rfl (hb hby d43_153) rfl ?_
    show Steps p.tables e below (T35.setTop (mkF m 154 #[vI p1, vI p2, vI p3, vU] [(.int p2), (.int (25 : Int32)), (.ref b4), (.ref b4)])) _
    refine st36 _ ?_
    show Steps p.tables e below (T36.setTop (mkF m 157 #[vI p1, vI p2, vI p3, vU] [(.int ((((48 : Int32) + p2).toUInt32.toUInt16.toUInt32.toInt32).toUInt32.toUInt16.toUInt32.toInt32)), (.int (25 : Int32)), (.ref b4), (.ref b4)])) _
    refine st37 _ ?_
    show Steps p.tables e below (T37.setTop (mkF m 158 #[vI p1, vI p2, vI p3, vU] [(.ref b4)])) _
    refine XS.dup X37.here hx rfl (hb hby d43_158) rfl rfl ?_
    refine XS.bipush X37.here hx rfl (hb hby d43_159) ?_
    refine XS.bipush X37.here hx rfl (hb hby d43_161) ?_
    show Steps p.tables e below (T37.setTop (mkF m 163 #[vI p1, vI p2, vI p3, vU] [(.int (32 : Int32)), (.int (26 : Int32)), (.ref b4), (.ref b4)])) _
    refine st38 _ ?_
    show Steps p.tables e below (T38.setTop (mkF m 164 #[vI p1, vI p2, vI p3, vU] [(.ref b4)])) _
    refine XS.dup X38.here hx rfl (hb hby d43_164) rfl rfl ?_
    refine XS.bipush X38.here hx rfl (hb hby d43_165) ?_
    refine XS.bipush X38.here hx rfl (hb hby d43_167) ?_
    show Steps p.tables e below (T38.setTop (mkF m 169 #[vI p1, vI p2, vI p3, vU] [(.int (115 : Int32)), (.int (27 : Int32)), (.ref b4), (.ref b4)])) _
    refine st40 _ ?_
    show Steps p.tables e below (T40.setTop (mkF m 170 #[vI p1, vI p2, vI p3, vU] [(.ref b4)])) _
    refine XS.dup X40.here hx rfl (hb hby d43_170) rfl rfl ?_
    refine XS.bipush X40.here hx rfl (hb hby d43_171) ?_
    refine XS.bipush X40.here hx rfl (hb hby d43_173) ?_
    show Steps p.tables e below (T40.setTop (mkF m 175 #[vI p1, vI p2, vI p3, vU] [(.int (116 : Int32)), (.int (28 : Int32)), (.ref b4), (.ref b4)])) _
    refine st41 _ ?_
    show Steps p.tables e below (T41.setTop (mkF m 176 #[vI p1, vI p2, vI p3, vU] [(.ref b4)])) _
    refine XS.dup X41.here hx rfl (hb hby d43_176) rfl rfl ?_
    refine XS.bipush X41.here hx rfl (hb hby d43_177) ?_
    refine XS.bipush X41.here hx rfl (hb hby d43_179) ?_
    show Steps p.tables e below (T41.setTop (mkF m 181 #[vI p1, vI p2, vI p3, vU] [(.int (97 : Int32)), (.int (29 : Int32)), (.ref b4), (.ref b4)])) _
    refine st42 _ ?_
    show Steps p.tables e below (T42.setTop (mkF m 182 #[vI p1, vI p2, vI p3, vU] [(.ref b4)])) _
    refine XS.dup X42.here hx rfl (hb hby d43_182) rfl rfl ?_
    refine XS.bipush X42.here hx rfl (hb hby d43_183) ?_
    refine XS.bipush X42.here hx rfl (hb hby d43_185) ?_
    show Steps p.tables e below (T42.setTop (mkF m 187 #[vI p1, vI p2, vI p3, vU] [(.int (116 : Int32)), (.int (30 : Int32)), (.ref b4), (.ref b4)])) _
    refine st43 _ ?_
    show Steps p.tables e below (T43.setTop (mkF m 188 #[vI p1, vI p2, vI p3, vU] [(.ref b4)])) _
    refine XS.dup X43.here hx rfl (hb hby d43_188) rfl rfl ?_
    refine XS.bipush X43.here hx rfl (hb hby d43_189) ?_
    refine XS.bipush X43.here hx rfl (hb hby d43_191) ?_
    show Steps p.tables e below (T43.setTop (mkF m 193 #[vI p1, vI p2, vI p3, vU] [(.int (101 : Int32)), (.int (31 : Int32)), (.ref b4), (.ref b4)])) _
    refine st44 _ ?_
    show Steps p.tables e below (T44.setTop (mkF m 194 #[vI p1, vI p2, vI p3, vU] [(.ref b4)])) _
    refine XS.dup X44.here hx rfl (hb hby d43_194) rfl rfl ?_
    refine XS.bipush X44.here hx rfl (hb hby d43_195) ?_
    refine XS.bipush X44.here hx rfl (hb hby d43_197) ?_
    show Steps p.tables e below (T44.setTop (mkF m 199 #[vI p1, vI p2, vI p3, vU] [(.int (109 : Int32)), (.int (32 : Int32)), (.ref b4), (.ref b4)])) _
    refine st46 _ ?_
    show Steps p.tables e below (T46.setTop (mkF m 200 #[vI p1, vI p2, vI p3, vU] [(.ref b4)])) _
    refine XS.dup X46.here hx rfl (hb hby d43_200) rfl rfl ?_
    refine XS.bipush X46.here hx rfl (hb hby d43_201) ?_
    refine XS.bipush X46.here hx rfl (hb hby d43_203) ?_
    show Steps p.tables e below (T46.setTop (mkF m 205 #[vI p1, vI p2, vI p3, vU] [(.int (101 : Int32)), (.int (33 : Int32)), (.ref b4), (.ref b4)])) _
    refine st47 _ ?_
    show Steps p.tables e below (T47.setTop (mkF m 206 #[vI p1, vI p2, vI p3, vU] [(.ref b4)])) _
    refine XS.dup X47.here hx rfl (hb hby d43_206) rfl rfl ?_
    refine XS.bipush X47.here hx rfl (hb hby d43_207) ?_
    refine XS.bipush X47.here hx rfl (hb hby d43_209) ?_
    show Steps p.tables e below (T47.setTop (mkF m 211 #[vI p1, vI p2, vI p3, vU] [(.int (110 : Int32)), (.int (34 : Int32)), (.ref b4), (.ref b4)])) _
    refine st48 _ ?_
    show Steps p.tables e below (T48.setTop (mkF m 212 #[vI p1, vI p2, vI p3, vU] [(.ref b4)])) _
    refine XS.dup X48.here hx rfl (hb hby d43_212) rfl rfl ?_
    refine XS.bipush X48.here hx rfl (hb hby d43_213) ?_
    refine XS.bipush X48.here hx rfl (hb hby d43_215) ?_
    show Steps p.tables e below (T48.setTop (mkF m 217 #[vI p1, vI p2, vI p3, vU] [(.int (116 : Int32)), (.int (35 : Int32)), (.ref b4), (.ref b4)])) _
    refine st49 _ ?_
    show Steps p.tables e below (T49.setTop (mkF m 218 #[vI p1, vI p2, vI p3, vU] [(.ref b4)])) _
    refine XS.dup X49.here hx rfl (hb hby d43_218) rfl rfl ?_
    refine XS.bipush X49.here hx rfl (hb hby d43_219) ?_
    refine XS.bipush X49.here hx rfl (hb hby d43_221) ?_
    show Steps p.tables e below (T49.setTop (mkF m 223 #[vI p1, vI p2, vI p3, vU] [(.int (115 : Int32)), (.int (36 : Int32)), (.ref b4), (.ref b4)])) _
    refine st50 _ ?_
    show Steps p.tables e below (T50.setTop (mkF m 224 #[vI p1, vI p2, vI p3, vU] [(.ref b4)])) _
    refine XS.dup X50.here hx rfl (hb hby d43_224) rfl rfl ?_
    refine XS.bipush X50.here hx rfl (hb hby d43_225) ?_
    refine XS.bipush X50.here hx rfl (hb hby d43_227) ?_
    show Steps p.tables e below (T50.setTop (mkF m 229 #[vI p1, vI p2, vI p3, vU] [(.int (61 : Int32)), (.int (37 : Int32)), (.ref b4), (.ref b4)])) _
    refine st52 _ ?_
    show Steps p.tables e below (T52.setTop (mkF m 230 #[vI p1, vI p2, vI p3, vU] [(.ref b4)])) _
    refine XS.dup X52.here hx rfl (hb hby d43_230) rfl rfl ?_
    refine XS.bipush X52.here hx rfl (hb hby d43_231) ?_
    refine XS.bipush X52.here hx rfl (hb hby d43_233) ?_
    show Steps p.tables e below (T52.setTop (mkF m 235 #[vI p1, vI p2, vI p3, vU] [(.int (45 : Int32)), (.int (38 : Int32)), (.ref b4), (.ref b4)])) _
    refine st53 _ ?_
    show Steps p.tables e below (T53.setTop (mkF m 236 #[vI p1, vI p2, vI p3, vU] [(.ref b4)])) _
    refine XS.dup X53.here hx rfl (hb hby d43_236) rfl rfl ?_
    refine XS.bipush X53.here hx rfl (hb hby d43_237) ?_
    refine XS.iloadN X53.here hx rfl (hb hby d43_239) rfl ?_
    show Steps p.tables e below (T53.setTop (mkF m 240 #[vI p1, vI p2, vI p3, vU] [(.int p3), (.int (39 : Int32)), (.ref b4), (.ref b4)])) _
    refine st54 _ ?_
    show Steps p.tables e below (T54.setTop (mkF m 243 #[vI p1, vI p2, vI p3, vU] [(.int ((((48 : Int32) + p3).toUInt32.toUInt16.toUInt32.toInt32).toUInt32.toUInt16.toUInt32.toInt32)), (.int (39 : Int32)), (.ref b4), (.ref b4)])) _
    refine st55 _ ?_
    show Steps p.tables e below (T55.setTop (mkF m 244 #[vI p1, vI p2, vI p3, vU] [(.ref b4)])) _
    refine XS.astoreN X55.here hx rfl (hb hby d43_244) rfl rfl (l' := #[vI p1, vI p2, vI p3, vR b4]) rfl ?_
    show Steps p.tables e below (T55.setTop (mkF m 245 #[vI p1, vI p2, vI p3, vR b4] [])) _
    refine st56 _ ?_
    show Steps p.tables e below (T56.setTop (mkF m 248 #[vI p1, vI p2, vI p3, vR b4] [(.ref b56)])) _
    refine XS.dup X56.here hx rfl (hb hby d43_248) rfl rfl ?_
    refine XS.aloadN X56.here hx rfl (hb hby d43_249) rfl rfl ?_
    show Steps p.tables e below (T56.setTop (mkF m 250 #[vI p1, vI p2, vI p3, vR b4] [(.ref b4), (.ref b56), (.ref b56)])) _
    refine st58.trans ?_
    show Steps p.tables e below (T58.setTop (mkF m 253 #[vI p1, vI p2, vI p3, vR b4] [(.ref b56)])) _
    exact retOut X58 hx Bd.returns rfl (Or.inr (Or.inr (Or.inr (Or.inr ⟨rfl, rfl, rfl⟩)))) (hb hby d43_253) hr
  · show Q43 Z p1 p2 p3 st_COMPACT_STRINGS h0 n0 _ T58.heap _
    exact ⟨b56, rfl, N58, (K58), own_mkStr (cs := own_neg p1 p2 p3) f58E f58C f58V f58A rfl (by rw [own_ch3 (own_d19_9 hq0_1), own_ch3 (own_d19_9 hq0_2), own_ch3 (own_d19_9 hq0_3)]; rfl) (own_neg_in hq0_1 hq0_2 hq0_3) (Nat.le_of_ble_eq_true rfl)⟩
theorem pd_24 : parseMethodDescriptor "(III)Ljava/lang/String;" = some ⟨[.int, .int, .int], some (.object "java/lang/String")⟩ := by decide +kernel
theorem pd_25 : parseMethodDescriptor "(JJJ)V" = some ⟨[.long, .long, .long], none⟩ := by decide +kernel
theorem pd_26 : parseMethodDescriptor "(Ljava/lang/Object;)Z" = some ⟨[(.object "java/lang/Object")], some .boolean⟩ := by decide +kernel
theorem ef_0 (m : MethodId) (q1 : Int64) (q2 : Int64) (q3 : Int64) (q4 : Int64) (p5 : Int32) (p6 : Int32) : entryFrame m #[(.long q1), (.long q2), (.long q3), (.long q4), (.int p5), (.int p6)] maxLocals = mkF m 0 #[vJ q1, vS, vJ q2, vS, vJ q3, vS, vJ q4, vS, vI p5, vI p6, vU, vU, vU, vU, vU, vU, vU, vU, vU, vU, vU, vU, vU, vU, vU, vU, vU, vU, vU, vU, vU, vU] [] := by first | (simp [entryFrame, mkF, argsToLocals, Value.category, maxLocals]; done) | rfl
def own_ngt (p6 : Int32) : Int32 := (if (p6 &&& (8 : Int32)) = (0 : Int32) then (0 : Int32) else (1 : Int32))
def own_u (p5 : Int32) : Int32 := (p5 &&& (255 : Int32))
def own_v (p5 : Int32) : Int32 := (((p5.toUInt32 >>> ((8 : Int32) &&& 31).toUInt32).toInt32) &&& (255 : Int32))
def own_w (p5 : Int32) : Int32 := (((p5.toUInt32 >>> ((16 : Int32) &&& 31).toUInt32).toInt32) &&& (255 : Int32))
def own_px (p5 : Int32) : Int32 := ((own_u p5) % (10 : Int32))
def own_py (p5 : Int32) : Int32 := ((own_v p5) % (10 : Int32))
def own_pz (p5 : Int32) : Int32 := ((own_w p5) % (10 : Int32))
def own_a2 (q1 : Int64) (q4 : Int64) (p6 : Int32) : Int64 := (if (p6 &&& (1 : Int32)) = (0 : Int32) then q4 else q1)
def own_b2 (q2 : Int64) (q4 : Int64) (p6 : Int32) : Int64 := (if (p6 &&& (2 : Int32)) = (0 : Int32) then q4 else q2)
def own_c2 (q3 : Int64) (q4 : Int64) (p6 : Int32) : Int64 := (if (p6 &&& (4 : Int32)) = (0 : Int32) then q4 else q3)
def own_sm (q1 : Int64) (q2 : Int64) (q3 : Int64) (q4 : Int64) (p6 : Int32) : Int32 := (if q1 = (own_a2 q1 q4 p6) then (if q2 = (own_b2 q2 q4 p6) then (if q3 = (own_c2 q3 q4 p6) then (1 : Int32) else (0 : Int32)) else (0 : Int32)) else (0 : Int32))
def own_nx (p5 : Int32) : Int32 := ((1 : Int32) + ((own_u p5) % (9 : Int32)))
def own_ny (p5 : Int32) : Int32 := ((1 : Int32) + ((own_v p5) % (9 : Int32)))
def own_nz (p5 : Int32) : Int32 := ((1 : Int32) + ((own_w p5) % (9 : Int32)))
theorem own_msk (y : Int32) : 0 ≤ (y &&& (255 : Int32)).toInt := by
  have m : (y &&& (255 : Int32)).toInt = y.toInt % 2 ^ 8 := Jvm.Kit.i32_mask y 255 (k := 8) (by decide) (by decide)
  rw [m]; omega
theorem own_r10 {u : Int32} (h : 0 ≤ u.toInt) : own_d9 (u % (10 : Int32)) := by
  have q := (c_irem u (10 : Int32) 10 rfl).1 h
  unfold own_d9; rw [q]; omega
theorem own_r9 {u : Int32} (h : 0 ≤ u.toInt) : own_d19 ((1 : Int32) + (u % (9 : Int32))) := by
  have q := (c_irem u (9 : Int32) 9 rfl).1 h
  have r := c_iadd (1 : Int32) (u % (9 : Int32))
  have g := rng32 ((1 : Int32) + (u % (9 : Int32)))
  have e : (1 : Int32).toInt = 1 := rfl
  rw [q, e] at r
  unfold own_d19; omega
theorem own_rpx (p5 : Int32) : own_d9 (own_px p5) := own_r10 (own_msk _)
theorem own_rpy (p5 : Int32) : own_d9 (own_py p5) := own_r10 (own_msk _)
theorem own_rpz (p5 : Int32) : own_d9 (own_pz p5) := own_r10 (own_msk _)
theorem own_rnx (p5 : Int32) : own_d19 (own_nx p5) := own_r9 (own_msk _)
theorem own_rny (p5 : Int32) : own_d19 (own_ny p5) := own_r9 (own_msk _)
theorem own_rnz (p5 : Int32) : own_d19 (own_nz p5) := own_r9 (own_msk _)
theorem own_ex {cs ds : List Int32} (h : cs = ds) : ¬ (own_eq cs ds = (0 : Int32)) := by unfold own_eq; rw [if_pos h]; decide
theorem own_fin (q1 q2 q3 q4 : Int64) (p6 : Int32) : (own_eq (own_text q1 q2 q3) (own_text (own_a2 q1 q4 p6) (own_b2 q2 q4 p6) (own_c2 q3 q4 p6))) = (own_sm q1 q2 q3 q4 p6) := by
  unfold own_eq own_sm
  simp only [own_text_inj]
  by_cases h1 : q1 = own_a2 q1 q4 p6
  · by_cases h2 : q2 = own_b2 q2 q4 p6
    · by_cases h3 : q3 = own_c2 q3 q4 p6
      · rw [if_pos ⟨h1, h2, h3⟩, if_pos h1, if_pos h2, if_pos h3]
      · rw [if_neg (fun z => h3 z.2.2), if_pos h1, if_pos h2, if_neg h3]
    · rw [if_neg (fun z => h2 z.2.1), if_pos h1, if_neg h2]
  · rw [if_neg (fun z => h1 z.1), if_neg h1]
def Q0 (Z : State) (q1 : Int64) (q2 : Int64) (q3 : Int64) (q4 : Int64) (p5 : Int32) (p6 : Int32) (st_COMPACT_STRINGS : Int32) (h0 : Heap) (n0 : Nat) (v : Option Value) (h : Heap) (L : List Loc) : Prop := v = some (.int (1 : Int32)) ∧ Fr n0 L
set_option maxRecDepth 65536 in
set_option maxHeartbeats 40000000 in
theorem rm0 (l : Launch) (Z : State) (a0 : Array Value) (hw : ∀ d ∈ tables_1, d.before a0 Z = true) (ws : List Jvm.Cond) (q1 : Int64) (q2 : Int64) (q3 : Int64) (q4 : Int64) (p5 : Int32) (p6 : Int32) (st_COMPACT_STRINGS : Int32) (h0 : Heap) (n0 : Nat) (Z0 : n0 ≤ h0.size) (S_COMPACT_STRINGS : Sta Z h0 "java/lang/String" "COMPACT_STRINGS" "Z" (.int st_COMPACT_STRINGS)) (X00 : Old Z n0 h0) (hDg : own_Dig Z) (hq151_3 : ¬ (st_COMPACT_STRINGS = (0 : Int32))) :
    MetFree l x (head1 (Jvm.Cond.code x code maxLocals ret :: ws) room_1) (fun a U => a = #[(.long q1), (.long q2), (.long q3), (.long q4), (.int p5), (.int p6)] ∧ Z.Warmed39 U.vm ∧ U.heap = h0 ∧ CHv Z own_EL U.vm h0) (fun _ _ _ _ _ => True) (fun _ U o U' => ∃ v L, o = .returned v ∧ Q0 Z q1 q2 q3 q4 p5 p6 st_COMPACT_STRINGS h0 n0 v U'.heap L ∧ ReturnedEndW U o U' L room_1.cells room_1.slots) := by
  refine MetFree.of_bodySF (plainFor_of_name pn_7) hisR ?_
  intro p e s m args below meth c s₁ Bd hml0 hP hK
  obtain ⟨rfl, hZ, hh, hCv⟩ := hP
  have hx := Bd.exec
  have hby := Bd.bytes
  have hml : c.maxLocals = 32 := hml0
  have hown : s.vm.findClass "com/example/vigilant_context/vigilantcontext/finding/LoadCostToStringPinLaw" = some m.cls := findClass_of_methodNamed Bd.named
  have hnm := (name_of_methodNamed Bd.named Bd.method).1
  have X0 : Stand p l e room_1 s m #[(.long q1), (.long q2), (.long q3), (.long q4), (.int p5), (.int p6)] below meth c s₁ [] 0 0 := Stand.of_body Bd
  have e0 : s₁.heap = h0 := by rw [← hh, Bd.state]; rfl
  have N0 := Fr.nil n0
  have hCr0 : CHr Z own_EL s.vm h0 s.vm h0 := CHr.refl hCv
  have pre0 : ∀ t, Steps p.tables e below (s₁.setTop (mkF m 0 #[vJ q1, vS, vJ q2, vS, vJ q3, vS, vJ q4, vS, vI p5, vI p6, vU, vU, vU, vU, vU, vU, vU, vU, vU, vU, vU, vU, vU, vU, vU, vU, vU, vU, vU, vU, vU, vU] [])) t → Steps p.tables e below (s₁.setTop (entryFrame m #[(.long q1), (.long q2), (.long q3), (.long q4), (.int p5), (.int p6)] maxLocals)) t := fun t k => castTop (ef_0 m q1 q2 q3 q4 p5 p6) k
  have jn7 : ∀ t, Steps p.tables e below (s₁.setTop (mkF m 13 #[vJ q1, vS, vJ q2, vS, vJ q3, vS, vJ q4, vS, vI p5, vI p6, vU, vU, vU, vU, vU, vU, vU, vU, vU, vU, vU, vU, vU, vU, vU, vU, vU, vU, vU, vU, vU, vU] [(.int (own_ngt p6))])) t → Steps p.tables e below (s₁.setTop (mkF m 0 #[vJ q1, vS, vJ q2, vS, vJ q3, vS, vJ q4, vS, vI p5, vI p6, vU, vU, vU, vU, vU, vU, vU, vU, vU, vU, vU, vU, vU, vU, vU, vU, vU, vU, vU, vU, vU, vU] [])) t := by
    intro t0 kt0
    have preR7 : ∀ t, Steps p.tables e below (s₁.setTop (mkF m 0 #[vJ q1, vS, vJ q2, vS, vJ q3, vS, vJ q4, vS, vI p5, vI p6, vU, vU, vU, vU, vU, vU, vU, vU, vU, vU, vU, vU, vU, vU, vU, vU, vU, vU, vU, vU, vU, vU] [])) t → Steps p.tables e below (s₁.setTop (mkF m 0 #[vJ q1, vS, vJ q2, vS, vJ q3, vS, vJ q4, vS, vI p5, vI p6, vU, vU, vU, vU, vU, vU, vU, vU, vU, vU, vU, vU, vU, vU, vU, vU, vU, vU, vU, vU, vU, vU] [])) t := fun t kt => kt
    have pre9 : ∀ t, Steps p.tables e below (s₁.setTop (mkF m 5 #[vJ q1, vS, vJ q2, vS, vJ q3, vS, vJ q4, vS, vI p5, vI p6, vU, vU, vU, vU, vU, vU, vU, vU, vU, vU, vU, vU, vU, vU, vU, vU, vU, vU, vU, vU, vU, vU] [(.int (p6 &&& (8 : Int32)))])) t → Steps p.tables e below (s₁.setTop (mkF m 0 #[vJ q1, vS, vJ q2, vS, vJ q3, vS, vJ q4, vS, vI p5, vI p6, vU, vU, vU, vU, vU, vU, vU, vU, vU, vU, vU, vU, vU, vU, vU, vU, vU, vU, vU, vU, vU, vU] [])) t := fun t kt => preR7 t (by
      show Steps p.tables e below (s₁.setTop (mkF m 0 #[vJ q1, vS, vJ q2, vS, vJ q3, vS, vJ q4, vS, vI p5, vI p6, vU, vU, vU, vU, vU, vU, vU, vU, vU, vU, vU, vU, vU, vU, vU, vU, vU, vU, vU, vU, vU, vU] [])) _
      refine XS.iload X0.here hx rfl (hb hby at_0) rfl ?_
      refine XS.bipush X0.here hx rfl (hb hby at_2) ?_
      refine XS.iand X0.here hx rfl (hb hby at_4) rfl ?_
      show Steps p.tables e below (s₁.setTop (mkF m 5 #[vJ q1, vS, vJ q2, vS, vJ q3, vS, vJ q4, vS, vI p5, vI p6, vU, vU, vU, vU, vU, vU, vU, vU, vU, vU, vU, vU, vU, vU, vU, vU, vU, vU, vU, vU, vU, vU] [(.int (p6 &&& (8 : Int32)))])) _
      exact kt)
    by_cases hc5_8 : (p6 &&& (8 : Int32)) = (0 : Int32)
    · have pre10 : ∀ t, Steps p.tables e below (s₁.setTop (mkF m 13 #[vJ q1, vS, vJ q2, vS, vJ q3, vS, vJ q4, vS, vI p5, vI p6, vU, vU, vU, vU, vU, vU, vU, vU, vU, vU, vU, vU, vU, vU, vU, vU, vU, vU, vU, vU, vU, vU] [(.int (0 : Int32))])) t → Steps p.tables e below (s₁.setTop (mkF m 0 #[vJ q1, vS, vJ q2, vS, vJ q3, vS, vJ q4, vS, vI p5, vI p6, vU, vU, vU, vU, vU, vU, vU, vU, vU, vU, vU, vU, vU, vU, vU, vU, vU, vU, vU, vU, vU, vU] [])) t := fun t kt => pre9 t (by
        show Steps p.tables e below (s₁.setTop (mkF m 5 #[vJ q1, vS, vJ q2, vS, vJ q3, vS, vJ q4, vS, vI p5, vI p6, vU, vU, vU, vU, vU, vU, vU, vU, vU, vU, vU, vU, vU, vU, vU, vU, vU, vU, vU, vU, vU, vU] [(.int (p6 &&& (8 : Int32)))])) _
        refine XS.ifYes X0.here hx rfl (pc0 := 5) (pc' := 12) rfl (hb hby at_5) rfl ((if0 _ _).trans (teq hc5_8).1) (by decide) (by decide) ?_
        refine XS.iconst X0.here hx rfl (hb hby at_12) ?_
        show Steps p.tables e below (s₁.setTop (mkF m 13 #[vJ q1, vS, vJ q2, vS, vJ q3, vS, vJ q4, vS, vI p5, vI p6, vU, vU, vU, vU, vU, vU, vU, vU, vU, vU, vU, vU, vU, vU, vU, vU, vU, vU, vU, vU, vU, vU] [(.int (0 : Int32))])) _
        exact kt)
      have qe : own_ngt p6 = (0 : Int32) := by unfold own_ngt; rw [if_pos hc5_8]
      rw [qe] at kt0
      exact pre10 _ kt0
    · have pre11 : ∀ t, Steps p.tables e below (s₁.setTop (mkF m 13 #[vJ q1, vS, vJ q2, vS, vJ q3, vS, vJ q4, vS, vI p5, vI p6, vU, vU, vU, vU, vU, vU, vU, vU, vU, vU, vU, vU, vU, vU, vU, vU, vU, vU, vU, vU, vU, vU] [(.int (1 : Int32))])) t → Steps p.tables e below (s₁.setTop (mkF m 0 #[vJ q1, vS, vJ q2, vS, vJ q3, vS, vJ q4, vS, vI p5, vI p6, vU, vU, vU, vU, vU, vU, vU, vU, vU, vU, vU, vU, vU, vU, vU, vU, vU, vU, vU, vU, vU, vU] [])) t := fun t kt => pre9 t (by
        show Steps p.tables e below (s₁.setTop (mkF m 5 #[vJ q1, vS, vJ q2, vS, vJ q3, vS, vJ q4, vS, vI p5, vI p6, vU, vU, vU, vU, vU, vU, vU, vU, vU, vU, vU, vU, vU, vU, vU, vU, vU, vU, vU, vU, vU, vU] [(.int (p6 &&& (8 : Int32)))])) _
        refine XS.ifNo X0.here hx rfl (hb hby at_5) rfl ((if0 _ _).trans (feq hc5_8).1) ?_
        refine XS.iconst X0.here hx rfl (hb hby at_8) ?_
        refine XS.goto X0.here hx rfl (pc0 := 9) (pc' := 13) rfl (hb hby at_9) (by decide) (by decide) ?_
        show Steps p.tables e below (s₁.setTop (mkF m 13 #[vJ q1, vS, vJ q2, vS, vJ q3, vS, vJ q4, vS, vI p5, vI p6, vU, vU, vU, vU, vU, vU, vU, vU, vU, vU, vU, vU, vU, vU, vU, vU, vU, vU, vU, vU, vU, vU] [(.int (1 : Int32))])) _
        exact kt)
      have qe : own_ngt p6 = (1 : Int32) := by unfold own_ngt; rw [if_neg hc5_8]
      rw [qe] at kt0
      exact pre11 _ kt0
  have pre12 : ∀ t, Steps p.tables e below (s₁.setTop (mkF m 13 #[vJ q1, vS, vJ q2, vS, vJ q3, vS, vJ q4, vS, vI p5, vI p6, vU, vU, vU, vU, vU, vU, vU, vU, vU, vU, vU, vU, vU, vU, vU, vU, vU, vU, vU, vU, vU, vU] [(.int (own_ngt p6))])) t → Steps p.tables e below (s₁.setTop (entryFrame m #[(.long q1), (.long q2), (.long q3), (.long q4), (.int p5), (.int p6)] maxLocals)) t := fun t kt => pre0 t (jn7 t kt)
  have pre14 : ∀ t, Steps p.tables e below (s₁.setTop (mkF m 47 #[vJ q1, vS, vJ q2, vS, vJ q3, vS, vJ q4, vS, vI p5, vI p6, vI (own_ngt p6), vI (own_u p5), vI (own_v p5), vI (own_w p5), vU, vU, vU, vU, vU, vU, vU, vU, vU, vU, vU, vU, vU, vU, vU, vU, vU, vU] [(.int (own_ngt p6))])) t → Steps p.tables e below (s₁.setTop (entryFrame m #[(.long q1), (.long q2), (.long q3), (.long q4), (.int p5), (.int p6)] maxLocals)) t := fun t kt => pre12 t (by
    show Steps p.tables e below (s₁.setTop (mkF m 13 #[vJ q1, vS, vJ q2, vS, vJ q3, vS, vJ q4, vS, vI p5, vI p6, vU, vU, vU, vU, vU, vU, vU, vU, vU, vU, vU, vU, vU, vU, vU, vU, vU, vU, vU, vU, vU, vU] [(.int (own_ngt p6))])) _
    refine XS.istore X0.here hx rfl (hb hby at_13) rfl (l' := #[vJ q1, vS, vJ q2, vS, vJ q3, vS, vJ q4, vS, vI p5, vI p6, vI (own_ngt p6), vU, vU, vU, vU, vU, vU, vU, vU, vU, vU, vU, vU, vU, vU, vU, vU, vU, vU, vU, vU, vU]) rfl ?_
    refine XS.iload X0.here hx rfl (hb hby at_15) rfl ?_
    refine XS.sipush X0.here hx rfl (hb hby at_17) ?_
    refine XS.iand X0.here hx rfl (hb hby at_20) rfl ?_
    refine XS.istore X0.here hx rfl (hb hby at_21) rfl (l' := #[vJ q1, vS, vJ q2, vS, vJ q3, vS, vJ q4, vS, vI p5, vI p6, vI (own_ngt p6), vI (own_u p5), vU, vU, vU, vU, vU, vU, vU, vU, vU, vU, vU, vU, vU, vU, vU, vU, vU, vU, vU, vU]) rfl ?_
    show Steps p.tables e below (s₁.setTop (mkF m 23 #[vJ q1, vS, vJ q2, vS, vJ q3, vS, vJ q4, vS, vI p5, vI p6, vI (own_ngt p6), vI (own_u p5), vU, vU, vU, vU, vU, vU, vU, vU, vU, vU, vU, vU, vU, vU, vU, vU, vU, vU, vU, vU] [])) _
    refine XS.iload X0.here hx rfl (hb hby at_23) rfl ?_
    refine XS.bipush X0.here hx rfl (hb hby at_25) ?_
    refine XS.iushr X0.here hx rfl (hb hby at_27) rfl ?_
    refine XS.sipush X0.here hx rfl (hb hby at_28) ?_
    refine XS.iand X0.here hx rfl (hb hby at_31) rfl ?_
    show Steps p.tables e below (s₁.setTop (mkF m 32 #[vJ q1, vS, vJ q2, vS, vJ q3, vS, vJ q4, vS, vI p5, vI p6, vI (own_ngt p6), vI (own_u p5), vU, vU, vU, vU, vU, vU, vU, vU, vU, vU, vU, vU, vU, vU, vU, vU, vU, vU, vU, vU] [(.int (((p5.toUInt32 >>> ((8 : Int32) &&& 31).toUInt32).toInt32) &&& (255 : Int32)))])) _
    refine XS.istore X0.here hx rfl (hb hby at_32) rfl (l' := #[vJ q1, vS, vJ q2, vS, vJ q3, vS, vJ q4, vS, vI p5, vI p6, vI (own_ngt p6), vI (own_u p5), vI (own_v p5), vU, vU, vU, vU, vU, vU, vU, vU, vU, vU, vU, vU, vU, vU, vU, vU, vU, vU, vU]) rfl ?_
    refine XS.iload X0.here hx rfl (hb hby at_34) rfl ?_
    refine XS.bipush X0.here hx rfl (hb hby at_36) ?_
    refine XS.iushr X0.here hx rfl (hb hby at_38) rfl ?_
    refine XS.sipush X0.here hx rfl (hb hby at_39) ?_
    show Steps p.tables e below (s₁.setTop (mkF m 42 #[vJ q1, vS, vJ q2, vS, vJ q3, vS, vJ q4, vS, vI p5, vI p6, vI (own_ngt p6), vI (own_u p5), vI (own_v p5), vU, vU, vU, vU, vU, vU, vU, vU, vU, vU, vU, vU, vU, vU, vU, vU, vU, vU, vU] [(.int (255 : Int32)), (.int ((p5.toUInt32 >>> ((16 : Int32) &&& 31).toUInt32).toInt32))])) _
    refine XS.iand X0.here hx rfl (hb hby at_42) rfl ?_
    refine XS.istore X0.here hx rfl (hb hby at_43) rfl (l' := #[vJ q1, vS, vJ q2, vS, vJ q3, vS, vJ q4, vS, vI p5, vI p6, vI (own_ngt p6), vI (own_u p5), vI (own_v p5), vI (own_w p5), vU, vU, vU, vU, vU, vU, vU, vU, vU, vU, vU, vU, vU, vU, vU, vU, vU, vU]) rfl ?_
    refine XS.iload X0.here hx rfl (hb hby at_45) rfl ?_
    show Steps p.tables e below (s₁.setTop (mkF m 47 #[vJ q1, vS, vJ q2, vS, vJ q3, vS, vJ q4, vS, vI p5, vI p6, vI (own_ngt p6), vI (own_u p5), vI (own_v p5), vI (own_w p5), vU, vU, vU, vU, vU, vU, vU, vU, vU, vU, vU, vU, vU, vU, vU, vU, vU, vU] [(.int (own_ngt p6))])) _
    exact kt)
  by_cases hc47_13 : (own_ngt p6) = (0 : Int32)
  · obtain ⟨_, _, ⟨T15, L15, k15, n15⟩, -, X15, ⟨Lc15, hQ15, l15, y15, z15⟩, st15⟩ := Jvm.LawKit.callS X0 hx (y := (⟨"com/example/vigilant_context/vigilantcontext/finding/LoadCostToStringPinLaw", "posText", "(III)Ljava/lang/String;"⟩ : MethodName)) hown (mvT hZ (own_wi hw 0 rfl)) (mvT hZ (own_wi hw 1 rfl)) (mvT hZ (own_wi hw 2 rfl)) (mvT hZ (own_wi hw 3 rfl)) (by decide) (backOf (W := 0) (rm1 l Z a0 hw [] (own_px p5) (own_py p5) (own_pz p5) st_COMPACT_STRINGS h0 n0 Z0 S_COMPACT_STRINGS (show own_d9 (own_px p5) from own_rpx p5) (show own_d9 (own_py p5) from own_rpy p5) (show own_d9 (own_pz p5) from own_rpz p5) hq151_3) hZ (own_wi hw 3 rfl) (own_wi hw 2 rfl) (by decide) (by decide)) (g := (mkF m 151 #[vJ q1, vS, vJ q2, vS, vJ q3, vS, vJ q4, vS, vI p5, vI p6, vI (own_ngt p6), vI (own_u p5), vI (own_v p5), vI (own_w p5), vJ ((own_px p5).toInt64), vS, vJ ((own_py p5).toInt64), vS, vJ ((own_pz p5).toInt64), vS, vU, vI (own_px p5), vI (own_py p5), vI (own_pz p5), vU, vU, vU, vU, vU, vU, vU, vU] [(.int (own_pz p5)), (.int (own_py p5)), (.int (own_px p5))])) rfl (by rw [hml]; rfl) (argsL := [(.int (own_px p5)), (.int (own_py p5)), (.int (own_pz p5))]) (rest := []) (lenOf pd_24 rfl) rfl (by show 2 * 0 + _ ≤ _; exact Nat.le_of_eq rfl) (hb hby at_151) (fun _ _ => ⟨rfl, e0, (by decide : 0 + 3 ≤ _), (by decide : 0 + 78 ≤ _)⟩)
    dsimp only [Pt.U, Pt.locs, Pt.cells, Pt.slots] at X15 l15 y15 z15 st15 hQ15
    subst l15 y15 z15
    obtain ⟨x15_0, rfl, N15q, K15q, f15_0⟩ := hQ15
    have al16 : ∀ x ∈ [], Safe Z own_EL s.vm h0 x := all0
    have ch16 := hCr0.trans (CHr.keep K15q al16 hCr0.1)
    have y17 := (own_StaKeep S_COMPACT_STRINGS K15q all0)
    have K15 : Keep h0 T15.heap [] := ((Keep.refl h0 [])).trans K15q all0
    have Z15 : n0 ≤ T15.heap.size := Nat.le_trans Z0 K15q.1
    have N15 := Fr.app N0 N15q
    obtain ⟨T18, h18, X18, e18, E18, A18, D18, -, st18⟩ := newO X15 hx hZ hown (own_wi hw 37 rfl) (own_wi hw 38 rfl) (own_wi hw 39 rfl) rfl (g := (mkF m 158 #[vJ q1, vS, vJ q2, vS, vJ q3, vS, vJ q4, vS, vI p5, vI p6, vI (own_ngt p6), vI (own_u p5), vI (own_v p5), vI (own_w p5), vJ ((own_px p5).toInt64), vS, vJ ((own_py p5).toInt64), vS, vJ ((own_pz p5).toInt64), vS, vR x15_0, vI (own_px p5), vI (own_py p5), vI (own_pz p5), vU, vU, vU, vU, vU, vU, vU, vU] [(.ref x15_0)])) rfl (hb hby at_158) (by decide) (by decide)
    obtain ⟨b18, g18⟩ : ∃ z, z = T15.heap.size := ⟨_, rfl⟩
    rw [← g18] at A18 D18 st18
    have ne_x15_0_b18 : x15_0 ≠ b18 := Nat.ne_of_lt (Nat.lt_of_lt_of_le f15_0.lt (Nat.le_of_eq g18.symm))
    have g_b18 : n0 ≤ b18 := Nat.le_trans Z15 (Nat.le_of_eq g18.symm)
    have sz_b18 : h0.size ≤ b18 := Nat.le_trans (K15).1 (Nat.le_of_eq g18.symm)
    have ch19 := ch16.trans (CHr.ext E18 ch16.1)
    have K18 : Keep h0 h18 [] := (K15).ext E18
    have Z18 : n0 ≤ h18.size := Nat.le_trans Z15 E18.1
    have F_sessions_b18 : Fld Z h18 b18 "com/example/vigilant_context/vigilantcontext/finding/LoadCost" "sessions" "J" (.long (0 : Int64)) := D18 (Or.inr (own_wi hw 50 rfl)) (ty := .long) (by decide)
    have F_connections_b18 : Fld Z h18 b18 "com/example/vigilant_context/vigilantcontext/finding/LoadCost" "connections" "J" (.long (0 : Int64)) := D18 (Or.inr (own_wi hw 52 rfl)) (ty := .long) (by decide)
    have F_statements_b18 : Fld Z h18 b18 "com/example/vigilant_context/vigilantcontext/finding/LoadCost" "statements" "J" (.long (0 : Int64)) := D18 (Or.inr (own_wi hw 54 rfl)) (ty := .long) (by decide)
    obtain ⟨_, _, ⟨T20, L20, k20, n20⟩, -, X20, ⟨Lc20, hQ20, l20, y20, z20⟩, st20⟩ := X18.specialBack hx (y := (⟨"com/example/vigilant_context/vigilantcontext/finding/LoadCost", "<init>", "(JJJ)V"⟩ : MethodName)) rfl hown (mvT hZ (own_wi hw 40 rfl)) (mvT hZ (own_wi hw 41 rfl)) (mvT hZ (own_wi hw 42 rfl)) (by decide) (backOf (W := 2) (rm9 l Z a0 hw [] b18 ((own_px p5).toInt64) ((own_py p5).toInt64) ((own_pz p5).toInt64) (0 : Int64) (0 : Int64) (0 : Int64) h18 n0 Z18 A18 F_sessions_b18 F_connections_b18 F_statements_b18 g_b18) hZ (own_wi hw 42 rfl) (own_wi hw 39 rfl) (by decide) (by decide)) (g := (mkF m 168 #[vJ q1, vS, vJ q2, vS, vJ q3, vS, vJ q4, vS, vI p5, vI p6, vI (own_ngt p6), vI (own_u p5), vI (own_v p5), vI (own_w p5), vJ ((own_px p5).toInt64), vS, vJ ((own_py p5).toInt64), vS, vJ ((own_pz p5).toInt64), vS, vR x15_0, vI (own_px p5), vI (own_py p5), vI (own_pz p5), vU, vU, vU, vU, vU, vU, vU, vU] [(.long ((own_pz p5).toInt64)), (.long ((own_py p5).toInt64)), (.long ((own_px p5).toInt64)), (.ref b18), (.ref b18), (.ref x15_0)])) rfl (by rw [hml]; rfl) (Steps.refl _) (a := b18) (argsL := [(.long ((own_px p5).toInt64)), (.long ((own_py p5).toInt64)), (.long ((own_pz p5).toInt64))]) (rest := [(.ref b18), (.ref x15_0)]) (lenOf pd_25 rfl) rfl (by show 2 * 0 + _ ≤ _; exact Nat.le_of_eq rfl) (hb hby at_168) (fun _ _ => ⟨rfl, e18, (by decide : 4 + 0 ≤ _), (by decide : 81 + 0 ≤ _)⟩)
    dsimp only [Pt.U, Pt.locs, Pt.cells, Pt.slots] at X20 l20 y20 z20 st20 hQ20
    subst l20 y20 z20
    obtain ⟨rfl, N20q, K20q, f20_0, f20_1, f20_2, f20_3⟩ := hQ20
    have al21 : ∀ x ∈ [b18], Safe Z own_EL s.vm h18 x := (allS (P := fun x => Safe Z own_EL s.vm h18 x) (Safe.exa (show Z.vm.Alike s.vm from hZ.alike) A18 (by decide) (by decide)) all0)
    have ch21 := ch19.trans (CHr.keep K20q al21 ch19.1)
    have y22 := (own_StaKeep (y17.ext E18) K20q (allS (P := fun x => ∃ D, Exa Z h18 x D) ⟨_, A18⟩ all0))
    have y23 := (((X00.keep K15q all0).ext E18).keep K20q (allS (P := fun x => n0 ≤ x) g_b18 all0))
    have y24 := (own_Str.keep (a0 := a0) (f15_0.ext E18) K20q (allS (P := fun x => ∃ C n, Exa Z h18 x C ∧ C ≠ "java/lang/String" ∧ (Jvm.Cond.instantiable C n).before a0 Z = true) ⟨_, _, A18, by decide, (own_wi hw 38 rfl)⟩ all0))
    have K20 : Keep h0 T20.heap [] := (K18).trans K20q (allS (P := fun x => x ∈ [] ∨ h0.size ≤ x) (Or.inr sz_b18) all0)
    have Z20 : n0 ≤ T20.heap.size := Nat.le_trans Z18 K20q.1
    have N20 := Fr.app N15 N20q
    obtain ⟨cq25, kq25, q25a, q25b, q25c⟩ := isOf hZ rfl f20_0
    obtain ⟨_, _, ⟨T25, L25, k25, n25⟩, -, X25, hS25q, hgr25, ⟨Lc25, hQ25, l25, y25, z25, hC25q⟩, st25⟩ := X20.virtualBackS hx (y := (⟨"com/example/vigilant_context/vigilantcontext/finding/LoadCost", "toString", "()Ljava/lang/String;"⟩ : MethodName)) (z := (⟨"com/example/vigilant_context/vigilantcontext/finding/LoadCost", "toString", "()Ljava/lang/String;"⟩ : MethodName)) hown (mvT hZ (own_wi hw 55 rfl)) (mvT hZ (own_wi hw 56 rfl)) (notFace_of_selects (args := #[]) (mvT hZ (own_wi hw 58 rfl))) (mvT hZ (own_wi hw 58 rfl)) (mvT hZ (own_wi hw 57 rfl)) (by decide) (backOfSH (s := s) (vm0 := s.vm) (EL := own_EL) (W := 1) (rm11 l Z a0 hw [] b18 ((own_px p5).toInt64) ((own_py p5).toInt64) ((own_pz p5).toInt64) st_COMPACT_STRINGS T20.heap n0 Z20 f20_0 f20_1 f20_2 f20_3 y22 y23 hDg hq151_3) hZ (own_wi hw 59 rfl) (own_wi hw 39 rfl) (by decide) (by decide) (own_EW hw) ch21.1) q25a q25c (g := (mkF m 171 #[vJ q1, vS, vJ q2, vS, vJ q3, vS, vJ q4, vS, vI p5, vI p6, vI (own_ngt p6), vI (own_u p5), vI (own_v p5), vI (own_w p5), vJ ((own_px p5).toInt64), vS, vJ ((own_py p5).toInt64), vS, vJ ((own_pz p5).toInt64), vS, vR x15_0, vI (own_px p5), vI (own_py p5), vI (own_pz p5), vU, vU, vU, vU, vU, vU, vU, vU] [(.ref b18), (.ref x15_0)])) rfl (by rw [hml]; rfl) (Steps.refl _) (argsL := []) (rest := [(.ref x15_0)]) (lenOf pd_21 rfl) rfl (by show 2 * 0 + _ ≤ _; exact Nat.le_of_eq rfl) (hb hby at_171) (fun _ _ => ⟨rfl, rfl, (by decide : 4 + 16 ≤ _), (by decide : 81 + 1433 ≤ _)⟩)
    dsimp only [Pt.U, Pt.locs, Pt.cells, Pt.slots] at X25 l25 y25 z25 st25 hQ25 hS25q hgr25 hC25q
    subst l25 y25 z25
    have X25w := X25
    have hS25 := hS25q
    have hZ25 : Z.Warmed39 (s.setVm T25.vm).vm := State.Warmed39.trans hZ hS25.1
    have hown25 : (s.setVm T25.vm).vm.findClass "com/example/vigilant_context/vigilantcontext/finding/LoadCostToStringPinLaw" = some m.cls := (hS25.1.alike.findClass _ _).trans hown
    obtain ⟨x25_0, rfl, N25q, K25q, f25_0⟩ := hQ25
    have ch25 := ch21.trans hC25q
    have K25 : Keep h0 T25.heap [] := (K20).trans K25q all0
    have Z25 : n0 ≤ T25.heap.size := Nat.le_trans Z20 K25q.1
    have N25 := Fr.app N20 N25q
    obtain ⟨t26a, k26a, E26a, C26a, V26a, A26a, P26a, L26a⟩ := id (own_Str.keep (a0 := a0) y24 K25q all0)
    obtain ⟨t26b, k26b, E26b, C26b, V26b, A26b, P26b, L26b⟩ := id f25_0
    obtain ⟨cq26, kq26, q26a, q26b, q26c⟩ := isOf hZ25 rfl E26a
    obtain ⟨v26, _, ⟨T26, L26, k26, n26⟩, -, X26, ⟨Lc26, hQ26, l26, y26, z26⟩, st26⟩ := X25w.virtualBack hx (y := (⟨"java/lang/String", "equals", "(Ljava/lang/Object;)Z"⟩ : MethodName)) (z := (⟨"java/lang/String", "equals", "(Ljava/lang/Object;)Z"⟩ : MethodName)) hown25 (mvT hZ25 (own_wi hw 213 rfl)) (mvT hZ25 (own_wi hw 214 rfl)) (notFace_of_selects (args := #[]) (mvT hZ25 (own_wi hw 216 rfl))) (mvT hZ25 (own_wi hw 216 rfl)) (mvT hZ25 (own_wi hw 215 rfl)) (by decide) (StrChars.Road.eqW (W := 0) hZ25 (own_we hw) (kI := 4) (own_wi hw 9 rfl) E26a V26a C26a A26a (Or.inl ⟨rfl, rfl, rfl, fun c hc => (P26a c hc).2⟩) (own_up P26a) L26a E26b V26b C26b A26b (Or.inl ⟨rfl, rfl, rfl, fun c hc => (P26b c hc).2⟩) (own_up P26b) L26b (own_StaKeep y22 K25q all0) hq151_3 (by decide) (by decide)) q26a q26c (g := (mkF m 174 #[vJ q1, vS, vJ q2, vS, vJ q3, vS, vJ q4, vS, vI p5, vI p6, vI (own_ngt p6), vI (own_u p5), vI (own_v p5), vI (own_w p5), vJ ((own_px p5).toInt64), vS, vJ ((own_py p5).toInt64), vS, vJ ((own_pz p5).toInt64), vS, vR x15_0, vI (own_px p5), vI (own_py p5), vI (own_pz p5), vU, vU, vU, vU, vU, vU, vU, vU] [(.ref x25_0), (.ref x15_0)])) rfl (by rw [hml]; rfl) (Steps.refl _) (argsL := [(.ref x25_0)]) (rest := []) (lenOf pd_26 rfl) rfl (by show 2 * 0 + _ ≤ _; exact Nat.le_of_eq rfl) (hb hby at_174) (fun _ _ => ⟨rfl, rfl, (by decide : 20 + 0 ≤ _), (by decide : 1514 + 0 ≤ _)⟩)
    dsimp only [Pt.U, Pt.locs, Pt.cells, Pt.slots] at X26 l26 y26 z26 st26 hQ26
    subst l26 y26 z26
    obtain ⟨hv26, rfl, e26⟩ := hQ26
    have hv26' := own_eqv hv26; subst hv26'
    have N26 := Fr.app N25 (Fr.nil n0)
    have pre27 : ∀ t, Steps p.tables e below (T26.setTop (mkF m 179 #[vJ q1, vS, vJ q2, vS, vJ q3, vS, vJ q4, vS, vI p5, vI p6, vI (own_ngt p6), vI (own_u p5), vI (own_v p5), vI (own_w p5), vJ ((own_px p5).toInt64), vS, vJ ((own_py p5).toInt64), vS, vJ ((own_pz p5).toInt64), vS, vR x15_0, vI (own_eq (own_pos (own_px p5) (own_py p5) (own_pz p5)) (own_text ((own_px p5).toInt64) ((own_py p5).toInt64) ((own_pz p5).toInt64))), vI (own_py p5), vI (own_pz p5), vU, vU, vU, vU, vU, vU, vU, vU] [])) t → Steps p.tables e below (s₁.setTop (entryFrame m #[(.long q1), (.long q2), (.long q3), (.long q4), (.int p5), (.int p6)] maxLocals)) t := fun t kt => pre14 t (by
      show Steps p.tables e below (s₁.setTop (mkF m 47 #[vJ q1, vS, vJ q2, vS, vJ q3, vS, vJ q4, vS, vI p5, vI p6, vI (own_ngt p6), vI (own_u p5), vI (own_v p5), vI (own_w p5), vU, vU, vU, vU, vU, vU, vU, vU, vU, vU, vU, vU, vU, vU, vU, vU, vU, vU] [(.int (own_ngt p6))])) _
      refine XS.ifYes X0.here hx rfl (pc0 := 47) (pc' := 109) rfl (hb hby at_47) rfl ((if0 _ _).trans (teq hc47_13).1) (by decide) (by decide) ?_
      refine XS.iload X0.here hx rfl (hb hby at_109) rfl ?_
      refine XS.bipush X0.here hx rfl (hb hby at_111) ?_
      show Steps p.tables e below (s₁.setTop (mkF m 113 #[vJ q1, vS, vJ q2, vS, vJ q3, vS, vJ q4, vS, vI p5, vI p6, vI (own_ngt p6), vI (own_u p5), vI (own_v p5), vI (own_w p5), vU, vU, vU, vU, vU, vU, vU, vU, vU, vU, vU, vU, vU, vU, vU, vU, vU, vU] [(.int (10 : Int32)), (.int (own_u p5))])) _
      refine iremM X0 hx rfl (hb hby at_113) rfl (by decide) ?_
      show Steps p.tables e below (s₁.setTop (mkF m 114 #[vJ q1, vS, vJ q2, vS, vJ q3, vS, vJ q4, vS, vI p5, vI p6, vI (own_ngt p6), vI (own_u p5), vI (own_v p5), vI (own_w p5), vU, vU, vU, vU, vU, vU, vU, vU, vU, vU, vU, vU, vU, vU, vU, vU, vU, vU] [(.int ((own_u p5) % (10 : Int32)))])) _
      refine XS.istore X0.here hx rfl (hb hby at_114) rfl (l' := #[vJ q1, vS, vJ q2, vS, vJ q3, vS, vJ q4, vS, vI p5, vI p6, vI (own_ngt p6), vI (own_u p5), vI (own_v p5), vI (own_w p5), vU, vU, vU, vU, vU, vU, vU, vI (own_px p5), vU, vU, vU, vU, vU, vU, vU, vU, vU, vU]) rfl ?_
      refine XS.iload X0.here hx rfl (hb hby at_116) rfl ?_
      refine XS.bipush X0.here hx rfl (hb hby at_118) ?_
      show Steps p.tables e below (s₁.setTop (mkF m 120 #[vJ q1, vS, vJ q2, vS, vJ q3, vS, vJ q4, vS, vI p5, vI p6, vI (own_ngt p6), vI (own_u p5), vI (own_v p5), vI (own_w p5), vU, vU, vU, vU, vU, vU, vU, vI (own_px p5), vU, vU, vU, vU, vU, vU, vU, vU, vU, vU] [(.int (10 : Int32)), (.int (own_v p5))])) _
      refine iremM X0 hx rfl (hb hby at_120) rfl (by decide) ?_
      show Steps p.tables e below (s₁.setTop (mkF m 121 #[vJ q1, vS, vJ q2, vS, vJ q3, vS, vJ q4, vS, vI p5, vI p6, vI (own_ngt p6), vI (own_u p5), vI (own_v p5), vI (own_w p5), vU, vU, vU, vU, vU, vU, vU, vI (own_px p5), vU, vU, vU, vU, vU, vU, vU, vU, vU, vU] [(.int ((own_v p5) % (10 : Int32)))])) _
      refine XS.istore X0.here hx rfl (hb hby at_121) rfl (l' := #[vJ q1, vS, vJ q2, vS, vJ q3, vS, vJ q4, vS, vI p5, vI p6, vI (own_ngt p6), vI (own_u p5), vI (own_v p5), vI (own_w p5), vU, vU, vU, vU, vU, vU, vU, vI (own_px p5), vI (own_py p5), vU, vU, vU, vU, vU, vU, vU, vU, vU]) rfl ?_
      refine XS.iload X0.here hx rfl (hb hby at_123) rfl ?_
      refine XS.bipush X0.here hx rfl (hb hby at_125) ?_
      show Steps p.tables e below (s₁.setTop (mkF m 127 #[vJ q1, vS, vJ q2, vS, vJ q3, vS, vJ q4, vS, vI p5, vI p6, vI (own_ngt p6), vI (own_u p5), vI (own_v p5), vI (own_w p5), vU, vU, vU, vU, vU, vU, vU, vI (own_px p5), vI (own_py p5), vU, vU, vU, vU, vU, vU, vU, vU, vU] [(.int (10 : Int32)), (.int (own_w p5))])) _
      refine iremM X0 hx rfl (hb hby at_127) rfl (by decide) ?_
      show Steps p.tables e below (s₁.setTop (mkF m 128 #[vJ q1, vS, vJ q2, vS, vJ q3, vS, vJ q4, vS, vI p5, vI p6, vI (own_ngt p6), vI (own_u p5), vI (own_v p5), vI (own_w p5), vU, vU, vU, vU, vU, vU, vU, vI (own_px p5), vI (own_py p5), vU, vU, vU, vU, vU, vU, vU, vU, vU] [(.int ((own_w p5) % (10 : Int32)))])) _
      refine XS.istore X0.here hx rfl (hb hby at_128) rfl (l' := #[vJ q1, vS, vJ q2, vS, vJ q3, vS, vJ q4, vS, vI p5, vI p6, vI (own_ngt p6), vI (own_u p5), vI (own_v p5), vI (own_w p5), vU, vU, vU, vU, vU, vU, vU, vI (own_px p5), vI (own_py p5), vI (own_pz p5), vU, vU, vU, vU, vU, vU, vU, vU]) rfl ?_
      refine XS.iload X0.here hx rfl (hb hby at_130) rfl ?_
      refine XS.i2l X0.here hx rfl (hb hby at_132) rfl ?_
      refine XS.lstore X0.here hx rfl (hb hby at_133) rfl (l' := #[vJ q1, vS, vJ q2, vS, vJ q3, vS, vJ q4, vS, vI p5, vI p6, vI (own_ngt p6), vI (own_u p5), vI (own_v p5), vI (own_w p5), vJ ((own_px p5).toInt64), vS, vU, vU, vU, vU, vU, vI (own_px p5), vI (own_py p5), vI (own_pz p5), vU, vU, vU, vU, vU, vU, vU, vU]) rfl ?_
      refine XS.iload X0.here hx rfl (hb hby at_135) rfl ?_
      show Steps p.tables e below (s₁.setTop (mkF m 137 #[vJ q1, vS, vJ q2, vS, vJ q3, vS, vJ q4, vS, vI p5, vI p6, vI (own_ngt p6), vI (own_u p5), vI (own_v p5), vI (own_w p5), vJ ((own_px p5).toInt64), vS, vU, vU, vU, vU, vU, vI (own_px p5), vI (own_py p5), vI (own_pz p5), vU, vU, vU, vU, vU, vU, vU, vU] [(.int (own_py p5))])) _
      refine XS.i2l X0.here hx rfl (hb hby at_137) rfl ?_
      refine XS.lstore X0.here hx rfl (hb hby at_138) rfl (l' := #[vJ q1, vS, vJ q2, vS, vJ q3, vS, vJ q4, vS, vI p5, vI p6, vI (own_ngt p6), vI (own_u p5), vI (own_v p5), vI (own_w p5), vJ ((own_px p5).toInt64), vS, vJ ((own_py p5).toInt64), vS, vU, vU, vU, vI (own_px p5), vI (own_py p5), vI (own_pz p5), vU, vU, vU, vU, vU, vU, vU, vU]) rfl ?_
      refine XS.iload X0.here hx rfl (hb hby at_140) rfl ?_
      refine XS.i2l X0.here hx rfl (hb hby at_142) rfl ?_
      refine XS.lstore X0.here hx rfl (hb hby at_143) rfl (l' := #[vJ q1, vS, vJ q2, vS, vJ q3, vS, vJ q4, vS, vI p5, vI p6, vI (own_ngt p6), vI (own_u p5), vI (own_v p5), vI (own_w p5), vJ ((own_px p5).toInt64), vS, vJ ((own_py p5).toInt64), vS, vJ ((own_pz p5).toInt64), vS, vU, vI (own_px p5), vI (own_py p5), vI (own_pz p5), vU, vU, vU, vU, vU, vU, vU, vU]) rfl ?_
      show Steps p.tables e below (s₁.setTop (mkF m 145 #[vJ q1, vS, vJ q2, vS, vJ q3, vS, vJ q4, vS, vI p5, vI p6, vI (own_ngt p6), vI (own_u p5), vI (own_v p5), vI (own_w p5), vJ ((own_px p5).toInt64), vS, vJ ((own_py p5).toInt64), vS, vJ ((own_pz p5).toInt64), vS, vU, vI (own_px p5), vI (own_py p5), vI (own_pz p5), vU, vU, vU, vU, vU, vU, vU, vU] [])) _
      refine XS.iload X0.here hx rfl (hb hby at_145) rfl ?_
      refine XS.iload X0.here hx rfl (hb hby at_147) rfl ?_
      refine XS.iload X0.here hx rfl (hb hby at_149) rfl ?_
      show Steps p.tables e below (s₁.setTop (mkF m 151 #[vJ q1, vS, vJ q2, vS, vJ q3, vS, vJ q4, vS, vI p5, vI p6, vI (own_ngt p6), vI (own_u p5), vI (own_v p5), vI (own_w p5), vJ ((own_px p5).toInt64), vS, vJ ((own_py p5).toInt64), vS, vJ ((own_pz p5).toInt64), vS, vU, vI (own_px p5), vI (own_py p5), vI (own_pz p5), vU, vU, vU, vU, vU, vU, vU, vU] [(.int (own_pz p5)), (.int (own_py p5)), (.int (own_px p5))])) _
      refine st15 _ ?_
      show Steps p.tables e below (T15.setTop (mkF m 154 #[vJ q1, vS, vJ q2, vS, vJ q3, vS, vJ q4, vS, vI p5, vI p6, vI (own_ngt p6), vI (own_u p5), vI (own_v p5), vI (own_w p5), vJ ((own_px p5).toInt64), vS, vJ ((own_py p5).toInt64), vS, vJ ((own_pz p5).toInt64), vS, vU, vI (own_px p5), vI (own_py p5), vI (own_pz p5), vU, vU, vU, vU, vU, vU, vU, vU] [(.ref x15_0)])) _
      refine XS.astore X15.here hx rfl (hb hby at_154) rfl rfl (l' := #[vJ q1, vS, vJ q2, vS, vJ q3, vS, vJ q4, vS, vI p5, vI p6, vI (own_ngt p6), vI (own_u p5), vI (own_v p5), vI (own_w p5), vJ ((own_px p5).toInt64), vS, vJ ((own_py p5).toInt64), vS, vJ ((own_pz p5).toInt64), vS, vR x15_0, vI (own_px p5), vI (own_py p5), vI (own_pz p5), vU, vU, vU, vU, vU, vU, vU, vU]) rfl ?_
      refine XS.aload X15.here hx rfl (hb hby at_156) rfl rfl ?_
      show Steps p.tables e below (T15.setTop (mkF m 158 #[vJ q1, vS, vJ q2, vS, vJ q3, vS, vJ q4, vS, vI p5, vI p6, vI (own_ngt p6), vI (own_u p5), vI (own_v p5), vI (own_w p5), vJ ((own_px p5).toInt64), vS, vJ ((own_py p5).toInt64), vS, vJ ((own_pz p5).toInt64), vS, vR x15_0, vI (own_px p5), vI (own_py p5), vI (own_pz p5), vU, vU, vU, vU, vU, vU, vU, vU] [(.ref x15_0)])) _
      refine st18 _ ?_
      show Steps p.tables e below (T18.setTop (mkF m 161 #[vJ q1, vS, vJ q2, vS, vJ q3, vS, vJ q4, vS, vI p5, vI p6, vI (own_ngt p6), vI (own_u p5), vI (own_v p5), vI (own_w p5), vJ ((own_px p5).toInt64), vS, vJ ((own_py p5).toInt64), vS, vJ ((own_pz p5).toInt64), vS, vR x15_0, vI (own_px p5), vI (own_py p5), vI (own_pz p5), vU, vU, vU, vU, vU, vU, vU, vU] [(.ref b18), (.ref x15_0)])) _
      refine XS.dup X18.here hx rfl (hb hby at_161) rfl rfl ?_
      refine XS.lload X18.here hx rfl (hb hby at_162) rfl ?_
      refine XS.lload X18.here hx rfl (hb hby at_164) rfl ?_
      refine XS.lload X18.here hx rfl (hb hby at_166) rfl ?_
      show Steps p.tables e below (T18.setTop (mkF m 168 #[vJ q1, vS, vJ q2, vS, vJ q3, vS, vJ q4, vS, vI p5, vI p6, vI (own_ngt p6), vI (own_u p5), vI (own_v p5), vI (own_w p5), vJ ((own_px p5).toInt64), vS, vJ ((own_py p5).toInt64), vS, vJ ((own_pz p5).toInt64), vS, vR x15_0, vI (own_px p5), vI (own_py p5), vI (own_pz p5), vU, vU, vU, vU, vU, vU, vU, vU] [(.long ((own_pz p5).toInt64)), (.long ((own_py p5).toInt64)), (.long ((own_px p5).toInt64)), (.ref b18), (.ref b18), (.ref x15_0)])) _
      refine st20.trans ?_
      show Steps p.tables e below (T20.setTop (mkF m 171 #[vJ q1, vS, vJ q2, vS, vJ q3, vS, vJ q4, vS, vI p5, vI p6, vI (own_ngt p6), vI (own_u p5), vI (own_v p5), vI (own_w p5), vJ ((own_px p5).toInt64), vS, vJ ((own_py p5).toInt64), vS, vJ ((own_pz p5).toInt64), vS, vR x15_0, vI (own_px p5), vI (own_py p5), vI (own_pz p5), vU, vU, vU, vU, vU, vU, vU, vU] [(.ref b18), (.ref x15_0)])) _
      refine st25.trans ?_
      show Steps p.tables e below (T25.setTop (mkF m 174 #[vJ q1, vS, vJ q2, vS, vJ q3, vS, vJ q4, vS, vI p5, vI p6, vI (own_ngt p6), vI (own_u p5), vI (own_v p5), vI (own_w p5), vJ ((own_px p5).toInt64), vS, vJ ((own_py p5).toInt64), vS, vJ ((own_pz p5).toInt64), vS, vR x15_0, vI (own_px p5), vI (own_py p5), vI (own_pz p5), vU, vU, vU, vU, vU, vU, vU, vU] [(.ref x25_0), (.ref x15_0)])) _
      refine st26.trans ?_
      show Steps p.tables e below (T26.setTop (mkF m 177 #[vJ q1, vS, vJ q2, vS, vJ q3, vS, vJ q4, vS, vI p5, vI p6, vI (own_ngt p6), vI (own_u p5), vI (own_v p5), vI (own_w p5), vJ ((own_px p5).toInt64), vS, vJ ((own_py p5).toInt64), vS, vJ ((own_pz p5).toInt64), vS, vR x15_0, vI (own_px p5), vI (own_py p5), vI (own_pz p5), vU, vU, vU, vU, vU, vU, vU, vU] [(.int (own_eq (own_pos (own_px p5) (own_py p5) (own_pz p5)) (own_text ((own_px p5).toInt64) ((own_py p5).toInt64) ((own_pz p5).toInt64))))])) _
      refine XS.istore X26.here hx rfl (hb hby at_177) rfl (l' := #[vJ q1, vS, vJ q2, vS, vJ q3, vS, vJ q4, vS, vI p5, vI p6, vI (own_ngt p6), vI (own_u p5), vI (own_v p5), vI (own_w p5), vJ ((own_px p5).toInt64), vS, vJ ((own_py p5).toInt64), vS, vJ ((own_pz p5).toInt64), vS, vR x15_0, vI (own_eq (own_pos (own_px p5) (own_py p5) (own_pz p5)) (own_text ((own_px p5).toInt64) ((own_py p5).toInt64) ((own_pz p5).toInt64))), vI (own_py p5), vI (own_pz p5), vU, vU, vU, vU, vU, vU, vU, vU]) rfl ?_
      show Steps p.tables e below (T26.setTop (mkF m 179 #[vJ q1, vS, vJ q2, vS, vJ q3, vS, vJ q4, vS, vI p5, vI p6, vI (own_ngt p6), vI (own_u p5), vI (own_v p5), vI (own_w p5), vJ ((own_px p5).toInt64), vS, vJ ((own_py p5).toInt64), vS, vJ ((own_pz p5).toInt64), vS, vR x15_0, vI (own_eq (own_pos (own_px p5) (own_py p5) (own_pz p5)) (own_text ((own_px p5).toInt64) ((own_py p5).toInt64) ((own_pz p5).toInt64))), vI (own_py p5), vI (own_pz p5), vU, vU, vU, vU, vU, vU, vU, vU] [])) _
      exact kt)
    have jn28 : ∀ t, Steps p.tables e below (T26.setTop (mkF m 192 #[vJ q1, vS, vJ q2, vS, vJ q3, vS, vJ q4, vS, vI p5, vI p6, vI (own_ngt p6), vI (own_u p5), vI (own_v p5), vI (own_w p5), vJ ((own_px p5).toInt64), vS, vJ ((own_py p5).toInt64), vS, vJ ((own_pz p5).toInt64), vS, vR x15_0, vI (own_eq (own_pos (own_px p5) (own_py p5) (own_pz p5)) (own_text ((own_px p5).toInt64) ((own_py p5).toInt64) ((own_pz p5).toInt64))), vI (own_py p5), vI (own_pz p5), vU, vU, vU, vU, vU, vU, vU, vU] [(.long (own_a2 q1 q4 p6))])) t → Steps p.tables e below (T26.setTop (mkF m 179 #[vJ q1, vS, vJ q2, vS, vJ q3, vS, vJ q4, vS, vI p5, vI p6, vI (own_ngt p6), vI (own_u p5), vI (own_v p5), vI (own_w p5), vJ ((own_px p5).toInt64), vS, vJ ((own_py p5).toInt64), vS, vJ ((own_pz p5).toInt64), vS, vR x15_0, vI (own_eq (own_pos (own_px p5) (own_py p5) (own_pz p5)) (own_text ((own_px p5).toInt64) ((own_py p5).toInt64) ((own_pz p5).toInt64))), vI (own_py p5), vI (own_pz p5), vU, vU, vU, vU, vU, vU, vU, vU] [])) t := by
      intro t0 kt0
      have preR28 : ∀ t, Steps p.tables e below (T26.setTop (mkF m 179 #[vJ q1, vS, vJ q2, vS, vJ q3, vS, vJ q4, vS, vI p5, vI p6, vI (own_ngt p6), vI (own_u p5), vI (own_v p5), vI (own_w p5), vJ ((own_px p5).toInt64), vS, vJ ((own_py p5).toInt64), vS, vJ ((own_pz p5).toInt64), vS, vR x15_0, vI (own_eq (own_pos (own_px p5) (own_py p5) (own_pz p5)) (own_text ((own_px p5).toInt64) ((own_py p5).toInt64) ((own_pz p5).toInt64))), vI (own_py p5), vI (own_pz p5), vU, vU, vU, vU, vU, vU, vU, vU] [])) t → Steps p.tables e below (T26.setTop (mkF m 179 #[vJ q1, vS, vJ q2, vS, vJ q3, vS, vJ q4, vS, vI p5, vI p6, vI (own_ngt p6), vI (own_u p5), vI (own_v p5), vI (own_w p5), vJ ((own_px p5).toInt64), vS, vJ ((own_py p5).toInt64), vS, vJ ((own_pz p5).toInt64), vS, vR x15_0, vI (own_eq (own_pos (own_px p5) (own_py p5) (own_pz p5)) (own_text ((own_px p5).toInt64) ((own_py p5).toInt64) ((own_pz p5).toInt64))), vI (own_py p5), vI (own_pz p5), vU, vU, vU, vU, vU, vU, vU, vU] [])) t := fun t kt => kt
      have pre30 : ∀ t, Steps p.tables e below (T26.setTop (mkF m 183 #[vJ q1, vS, vJ q2, vS, vJ q3, vS, vJ q4, vS, vI p5, vI p6, vI (own_ngt p6), vI (own_u p5), vI (own_v p5), vI (own_w p5), vJ ((own_px p5).toInt64), vS, vJ ((own_py p5).toInt64), vS, vJ ((own_pz p5).toInt64), vS, vR x15_0, vI (own_eq (own_pos (own_px p5) (own_py p5) (own_pz p5)) (own_text ((own_px p5).toInt64) ((own_py p5).toInt64) ((own_pz p5).toInt64))), vI (own_py p5), vI (own_pz p5), vU, vU, vU, vU, vU, vU, vU, vU] [(.int (p6 &&& (1 : Int32)))])) t → Steps p.tables e below (T26.setTop (mkF m 179 #[vJ q1, vS, vJ q2, vS, vJ q3, vS, vJ q4, vS, vI p5, vI p6, vI (own_ngt p6), vI (own_u p5), vI (own_v p5), vI (own_w p5), vJ ((own_px p5).toInt64), vS, vJ ((own_py p5).toInt64), vS, vJ ((own_pz p5).toInt64), vS, vR x15_0, vI (own_eq (own_pos (own_px p5) (own_py p5) (own_pz p5)) (own_text ((own_px p5).toInt64) ((own_py p5).toInt64) ((own_pz p5).toInt64))), vI (own_py p5), vI (own_pz p5), vU, vU, vU, vU, vU, vU, vU, vU] [])) t := fun t kt => preR28 t (by
        show Steps p.tables e below (T26.setTop (mkF m 179 #[vJ q1, vS, vJ q2, vS, vJ q3, vS, vJ q4, vS, vI p5, vI p6, vI (own_ngt p6), vI (own_u p5), vI (own_v p5), vI (own_w p5), vJ ((own_px p5).toInt64), vS, vJ ((own_py p5).toInt64), vS, vJ ((own_pz p5).toInt64), vS, vR x15_0, vI (own_eq (own_pos (own_px p5) (own_py p5) (own_pz p5)) (own_text ((own_px p5).toInt64) ((own_py p5).toInt64) ((own_pz p5).toInt64))), vI (own_py p5), vI (own_pz p5), vU, vU, vU, vU, vU, vU, vU, vU] [])) _
        refine XS.iload X26.here hx rfl (hb hby at_179) rfl ?_
        refine XS.iconst X26.here hx rfl (hb hby at_181) ?_
        refine XS.iand X26.here hx rfl (hb hby at_182) rfl ?_
        show Steps p.tables e below (T26.setTop (mkF m 183 #[vJ q1, vS, vJ q2, vS, vJ q3, vS, vJ q4, vS, vI p5, vI p6, vI (own_ngt p6), vI (own_u p5), vI (own_v p5), vI (own_w p5), vJ ((own_px p5).toInt64), vS, vJ ((own_py p5).toInt64), vS, vJ ((own_pz p5).toInt64), vS, vR x15_0, vI (own_eq (own_pos (own_px p5) (own_py p5) (own_pz p5)) (own_text ((own_px p5).toInt64) ((own_py p5).toInt64) ((own_pz p5).toInt64))), vI (own_py p5), vI (own_pz p5), vU, vU, vU, vU, vU, vU, vU, vU] [(.int (p6 &&& (1 : Int32)))])) _
        exact kt)
      by_cases hc183_29 : (p6 &&& (1 : Int32)) = (0 : Int32)
      · have pre31 : ∀ t, Steps p.tables e below (T26.setTop (mkF m 192 #[vJ q1, vS, vJ q2, vS, vJ q3, vS, vJ q4, vS, vI p5, vI p6, vI (own_ngt p6), vI (own_u p5), vI (own_v p5), vI (own_w p5), vJ ((own_px p5).toInt64), vS, vJ ((own_py p5).toInt64), vS, vJ ((own_pz p5).toInt64), vS, vR x15_0, vI (own_eq (own_pos (own_px p5) (own_py p5) (own_pz p5)) (own_text ((own_px p5).toInt64) ((own_py p5).toInt64) ((own_pz p5).toInt64))), vI (own_py p5), vI (own_pz p5), vU, vU, vU, vU, vU, vU, vU, vU] [(.long q4)])) t → Steps p.tables e below (T26.setTop (mkF m 179 #[vJ q1, vS, vJ q2, vS, vJ q3, vS, vJ q4, vS, vI p5, vI p6, vI (own_ngt p6), vI (own_u p5), vI (own_v p5), vI (own_w p5), vJ ((own_px p5).toInt64), vS, vJ ((own_py p5).toInt64), vS, vJ ((own_pz p5).toInt64), vS, vR x15_0, vI (own_eq (own_pos (own_px p5) (own_py p5) (own_pz p5)) (own_text ((own_px p5).toInt64) ((own_py p5).toInt64) ((own_pz p5).toInt64))), vI (own_py p5), vI (own_pz p5), vU, vU, vU, vU, vU, vU, vU, vU] [])) t := fun t kt => pre30 t (by
          show Steps p.tables e below (T26.setTop (mkF m 183 #[vJ q1, vS, vJ q2, vS, vJ q3, vS, vJ q4, vS, vI p5, vI p6, vI (own_ngt p6), vI (own_u p5), vI (own_v p5), vI (own_w p5), vJ ((own_px p5).toInt64), vS, vJ ((own_py p5).toInt64), vS, vJ ((own_pz p5).toInt64), vS, vR x15_0, vI (own_eq (own_pos (own_px p5) (own_py p5) (own_pz p5)) (own_text ((own_px p5).toInt64) ((own_py p5).toInt64) ((own_pz p5).toInt64))), vI (own_py p5), vI (own_pz p5), vU, vU, vU, vU, vU, vU, vU, vU] [(.int (p6 &&& (1 : Int32)))])) _
          refine XS.ifYes X26.here hx rfl (pc0 := 183) (pc' := 190) rfl (hb hby at_183) rfl ((if0 _ _).trans (teq hc183_29).1) (by decide) (by decide) ?_
          refine XS.lload X26.here hx rfl (hb hby at_190) rfl ?_
          show Steps p.tables e below (T26.setTop (mkF m 192 #[vJ q1, vS, vJ q2, vS, vJ q3, vS, vJ q4, vS, vI p5, vI p6, vI (own_ngt p6), vI (own_u p5), vI (own_v p5), vI (own_w p5), vJ ((own_px p5).toInt64), vS, vJ ((own_py p5).toInt64), vS, vJ ((own_pz p5).toInt64), vS, vR x15_0, vI (own_eq (own_pos (own_px p5) (own_py p5) (own_pz p5)) (own_text ((own_px p5).toInt64) ((own_py p5).toInt64) ((own_pz p5).toInt64))), vI (own_py p5), vI (own_pz p5), vU, vU, vU, vU, vU, vU, vU, vU] [(.long q4)])) _
          exact kt)
        have qe : own_a2 q1 q4 p6 = q4 := by unfold own_a2; rw [if_pos hc183_29]
        rw [qe] at kt0
        exact pre31 _ kt0
      · have pre32 : ∀ t, Steps p.tables e below (T26.setTop (mkF m 192 #[vJ q1, vS, vJ q2, vS, vJ q3, vS, vJ q4, vS, vI p5, vI p6, vI (own_ngt p6), vI (own_u p5), vI (own_v p5), vI (own_w p5), vJ ((own_px p5).toInt64), vS, vJ ((own_py p5).toInt64), vS, vJ ((own_pz p5).toInt64), vS, vR x15_0, vI (own_eq (own_pos (own_px p5) (own_py p5) (own_pz p5)) (own_text ((own_px p5).toInt64) ((own_py p5).toInt64) ((own_pz p5).toInt64))), vI (own_py p5), vI (own_pz p5), vU, vU, vU, vU, vU, vU, vU, vU] [(.long q1)])) t → Steps p.tables e below (T26.setTop (mkF m 179 #[vJ q1, vS, vJ q2, vS, vJ q3, vS, vJ q4, vS, vI p5, vI p6, vI (own_ngt p6), vI (own_u p5), vI (own_v p5), vI (own_w p5), vJ ((own_px p5).toInt64), vS, vJ ((own_py p5).toInt64), vS, vJ ((own_pz p5).toInt64), vS, vR x15_0, vI (own_eq (own_pos (own_px p5) (own_py p5) (own_pz p5)) (own_text ((own_px p5).toInt64) ((own_py p5).toInt64) ((own_pz p5).toInt64))), vI (own_py p5), vI (own_pz p5), vU, vU, vU, vU, vU, vU, vU, vU] [])) t := fun t kt => pre30 t (by
          show Steps p.tables e below (T26.setTop (mkF m 183 #[vJ q1, vS, vJ q2, vS, vJ q3, vS, vJ q4, vS, vI p5, vI p6, vI (own_ngt p6), vI (own_u p5), vI (own_v p5), vI (own_w p5), vJ ((own_px p5).toInt64), vS, vJ ((own_py p5).toInt64), vS, vJ ((own_pz p5).toInt64), vS, vR x15_0, vI (own_eq (own_pos (own_px p5) (own_py p5) (own_pz p5)) (own_text ((own_px p5).toInt64) ((own_py p5).toInt64) ((own_pz p5).toInt64))), vI (own_py p5), vI (own_pz p5), vU, vU, vU, vU, vU, vU, vU, vU] [(.int (p6 &&& (1 : Int32)))])) _
          refine XS.ifNo X26.here hx rfl (hb hby at_183) rfl ((if0 _ _).trans (feq hc183_29).1) ?_
          refine XS.lloadN X26.here hx rfl (hb hby at_186) rfl ?_
          refine XS.goto X26.here hx rfl (pc0 := 187) (pc' := 192) rfl (hb hby at_187) (by decide) (by decide) ?_
          show Steps p.tables e below (T26.setTop (mkF m 192 #[vJ q1, vS, vJ q2, vS, vJ q3, vS, vJ q4, vS, vI p5, vI p6, vI (own_ngt p6), vI (own_u p5), vI (own_v p5), vI (own_w p5), vJ ((own_px p5).toInt64), vS, vJ ((own_py p5).toInt64), vS, vJ ((own_pz p5).toInt64), vS, vR x15_0, vI (own_eq (own_pos (own_px p5) (own_py p5) (own_pz p5)) (own_text ((own_px p5).toInt64) ((own_py p5).toInt64) ((own_pz p5).toInt64))), vI (own_py p5), vI (own_pz p5), vU, vU, vU, vU, vU, vU, vU, vU] [(.long q1)])) _
          exact kt)
        have qe : own_a2 q1 q4 p6 = q1 := by unfold own_a2; rw [if_neg hc183_29]
        rw [qe] at kt0
        exact pre32 _ kt0
    have pre33 : ∀ t, Steps p.tables e below (T26.setTop (mkF m 192 #[vJ q1, vS, vJ q2, vS, vJ q3, vS, vJ q4, vS, vI p5, vI p6, vI (own_ngt p6), vI (own_u p5), vI (own_v p5), vI (own_w p5), vJ ((own_px p5).toInt64), vS, vJ ((own_py p5).toInt64), vS, vJ ((own_pz p5).toInt64), vS, vR x15_0, vI (own_eq (own_pos (own_px p5) (own_py p5) (own_pz p5)) (own_text ((own_px p5).toInt64) ((own_py p5).toInt64) ((own_pz p5).toInt64))), vI (own_py p5), vI (own_pz p5), vU, vU, vU, vU, vU, vU, vU, vU] [(.long (own_a2 q1 q4 p6))])) t → Steps p.tables e below (s₁.setTop (entryFrame m #[(.long q1), (.long q2), (.long q3), (.long q4), (.int p5), (.int p6)] maxLocals)) t := fun t kt => pre27 t (jn28 t kt)
    have pre34 : ∀ t, Steps p.tables e below (T26.setTop (mkF m 194 #[vJ q1, vS, vJ q2, vS, vJ q3, vS, vJ q4, vS, vI p5, vI p6, vI (own_ngt p6), vI (own_u p5), vI (own_v p5), vI (own_w p5), vJ ((own_px p5).toInt64), vS, vJ ((own_py p5).toInt64), vS, vJ ((own_pz p5).toInt64), vS, vR x15_0, vI (own_eq (own_pos (own_px p5) (own_py p5) (own_pz p5)) (own_text ((own_px p5).toInt64) ((own_py p5).toInt64) ((own_pz p5).toInt64))), vJ (own_a2 q1 q4 p6), vS, vU, vU, vU, vU, vU, vU, vU, vU] [])) t → Steps p.tables e below (s₁.setTop (entryFrame m #[(.long q1), (.long q2), (.long q3), (.long q4), (.int p5), (.int p6)] maxLocals)) t := fun t kt => pre33 t (by
      show Steps p.tables e below (T26.setTop (mkF m 192 #[vJ q1, vS, vJ q2, vS, vJ q3, vS, vJ q4, vS, vI p5, vI p6, vI (own_ngt p6), vI (own_u p5), vI (own_v p5), vI (own_w p5), vJ ((own_px p5).toInt64), vS, vJ ((own_py p5).toInt64), vS, vJ ((own_pz p5).toInt64), vS, vR x15_0, vI (own_eq (own_pos (own_px p5) (own_py p5) (own_pz p5)) (own_text ((own_px p5).toInt64) ((own_py p5).toInt64) ((own_pz p5).toInt64))), vI (own_py p5), vI (own_pz p5), vU, vU, vU, vU, vU, vU, vU, vU] [(.long (own_a2 q1 q4 p6))])) _
      refine XS.lstore X26.here hx rfl (hb hby at_192) rfl (l' := #[vJ q1, vS, vJ q2, vS, vJ q3, vS, vJ q4, vS, vI p5, vI p6, vI (own_ngt p6), vI (own_u p5), vI (own_v p5), vI (own_w p5), vJ ((own_px p5).toInt64), vS, vJ ((own_py p5).toInt64), vS, vJ ((own_pz p5).toInt64), vS, vR x15_0, vI (own_eq (own_pos (own_px p5) (own_py p5) (own_pz p5)) (own_text ((own_px p5).toInt64) ((own_py p5).toInt64) ((own_pz p5).toInt64))), vJ (own_a2 q1 q4 p6), vS, vU, vU, vU, vU, vU, vU, vU, vU]) rfl ?_
      show Steps p.tables e below (T26.setTop (mkF m 194 #[vJ q1, vS, vJ q2, vS, vJ q3, vS, vJ q4, vS, vI p5, vI p6, vI (own_ngt p6), vI (own_u p5), vI (own_v p5), vI (own_w p5), vJ ((own_px p5).toInt64), vS, vJ ((own_py p5).toInt64), vS, vJ ((own_pz p5).toInt64), vS, vR x15_0, vI (own_eq (own_pos (own_px p5) (own_py p5) (own_pz p5)) (own_text ((own_px p5).toInt64) ((own_py p5).toInt64) ((own_pz p5).toInt64))), vJ (own_a2 q1 q4 p6), vS, vU, vU, vU, vU, vU, vU, vU, vU] [])) _
      exact kt)
    have jn35 : ∀ t, Steps p.tables e below (T26.setTop (mkF m 207 #[vJ q1, vS, vJ q2, vS, vJ q3, vS, vJ q4, vS, vI p5, vI p6, vI (own_ngt p6), vI (own_u p5), vI (own_v p5), vI (own_w p5), vJ ((own_px p5).toInt64), vS, vJ ((own_py p5).toInt64), vS, vJ ((own_pz p5).toInt64), vS, vR x15_0, vI (own_eq (own_pos (own_px p5) (own_py p5) (own_pz p5)) (own_text ((own_px p5).toInt64) ((own_py p5).toInt64) ((own_pz p5).toInt64))), vJ (own_a2 q1 q4 p6), vS, vU, vU, vU, vU, vU, vU, vU, vU] [(.long (own_b2 q2 q4 p6))])) t → Steps p.tables e below (T26.setTop (mkF m 194 #[vJ q1, vS, vJ q2, vS, vJ q3, vS, vJ q4, vS, vI p5, vI p6, vI (own_ngt p6), vI (own_u p5), vI (own_v p5), vI (own_w p5), vJ ((own_px p5).toInt64), vS, vJ ((own_py p5).toInt64), vS, vJ ((own_pz p5).toInt64), vS, vR x15_0, vI (own_eq (own_pos (own_px p5) (own_py p5) (own_pz p5)) (own_text ((own_px p5).toInt64) ((own_py p5).toInt64) ((own_pz p5).toInt64))), vJ (own_a2 q1 q4 p6), vS, vU, vU, vU, vU, vU, vU, vU, vU] [])) t := by
      intro t0 kt0
      have preR35 : ∀ t, Steps p.tables e below (T26.setTop (mkF m 194 #[vJ q1, vS, vJ q2, vS, vJ q3, vS, vJ q4, vS, vI p5, vI p6, vI (own_ngt p6), vI (own_u p5), vI (own_v p5), vI (own_w p5), vJ ((own_px p5).toInt64), vS, vJ ((own_py p5).toInt64), vS, vJ ((own_pz p5).toInt64), vS, vR x15_0, vI (own_eq (own_pos (own_px p5) (own_py p5) (own_pz p5)) (own_text ((own_px p5).toInt64) ((own_py p5).toInt64) ((own_pz p5).toInt64))), vJ (own_a2 q1 q4 p6), vS, vU, vU, vU, vU, vU, vU, vU, vU] [])) t → Steps p.tables e below (T26.setTop (mkF m 194 #[vJ q1, vS, vJ q2, vS, vJ q3, vS, vJ q4, vS, vI p5, vI p6, vI (own_ngt p6), vI (own_u p5), vI (own_v p5), vI (own_w p5), vJ ((own_px p5).toInt64), vS, vJ ((own_py p5).toInt64), vS, vJ ((own_pz p5).toInt64), vS, vR x15_0, vI (own_eq (own_pos (own_px p5) (own_py p5) (own_pz p5)) (own_text ((own_px p5).toInt64) ((own_py p5).toInt64) ((own_pz p5).toInt64))), vJ (own_a2 q1 q4 p6), vS, vU, vU, vU, vU, vU, vU, vU, vU] [])) t := fun t kt => kt
      have pre37 : ∀ t, Steps p.tables e below (T26.setTop (mkF m 198 #[vJ q1, vS, vJ q2, vS, vJ q3, vS, vJ q4, vS, vI p5, vI p6, vI (own_ngt p6), vI (own_u p5), vI (own_v p5), vI (own_w p5), vJ ((own_px p5).toInt64), vS, vJ ((own_py p5).toInt64), vS, vJ ((own_pz p5).toInt64), vS, vR x15_0, vI (own_eq (own_pos (own_px p5) (own_py p5) (own_pz p5)) (own_text ((own_px p5).toInt64) ((own_py p5).toInt64) ((own_pz p5).toInt64))), vJ (own_a2 q1 q4 p6), vS, vU, vU, vU, vU, vU, vU, vU, vU] [(.int (p6 &&& (2 : Int32)))])) t → Steps p.tables e below (T26.setTop (mkF m 194 #[vJ q1, vS, vJ q2, vS, vJ q3, vS, vJ q4, vS, vI p5, vI p6, vI (own_ngt p6), vI (own_u p5), vI (own_v p5), vI (own_w p5), vJ ((own_px p5).toInt64), vS, vJ ((own_py p5).toInt64), vS, vJ ((own_pz p5).toInt64), vS, vR x15_0, vI (own_eq (own_pos (own_px p5) (own_py p5) (own_pz p5)) (own_text ((own_px p5).toInt64) ((own_py p5).toInt64) ((own_pz p5).toInt64))), vJ (own_a2 q1 q4 p6), vS, vU, vU, vU, vU, vU, vU, vU, vU] [])) t := fun t kt => preR35 t (by
        show Steps p.tables e below (T26.setTop (mkF m 194 #[vJ q1, vS, vJ q2, vS, vJ q3, vS, vJ q4, vS, vI p5, vI p6, vI (own_ngt p6), vI (own_u p5), vI (own_v p5), vI (own_w p5), vJ ((own_px p5).toInt64), vS, vJ ((own_py p5).toInt64), vS, vJ ((own_pz p5).toInt64), vS, vR x15_0, vI (own_eq (own_pos (own_px p5) (own_py p5) (own_pz p5)) (own_text ((own_px p5).toInt64) ((own_py p5).toInt64) ((own_pz p5).toInt64))), vJ (own_a2 q1 q4 p6), vS, vU, vU, vU, vU, vU, vU, vU, vU] [])) _
        refine XS.iload X26.here hx rfl (hb hby at_194) rfl ?_
        refine XS.iconst X26.here hx rfl (hb hby at_196) ?_
        refine XS.iand X26.here hx rfl (hb hby at_197) rfl ?_
        show Steps p.tables e below (T26.setTop (mkF m 198 #[vJ q1, vS, vJ q2, vS, vJ q3, vS, vJ q4, vS, vI p5, vI p6, vI (own_ngt p6), vI (own_u p5), vI (own_v p5), vI (own_w p5), vJ ((own_px p5).toInt64), vS, vJ ((own_py p5).toInt64), vS, vJ ((own_pz p5).toInt64), vS, vR x15_0, vI (own_eq (own_pos (own_px p5) (own_py p5) (own_pz p5)) (own_text ((own_px p5).toInt64) ((own_py p5).toInt64) ((own_pz p5).toInt64))), vJ (own_a2 q1 q4 p6), vS, vU, vU, vU, vU, vU, vU, vU, vU] [(.int (p6 &&& (2 : Int32)))])) _
        exact kt)
      by_cases hc198_36 : (p6 &&& (2 : Int32)) = (0 : Int32)
      · have pre38 : ∀ t, Steps p.tables e below (T26.setTop (mkF m 207 #[vJ q1, vS, vJ q2, vS, vJ q3, vS, vJ q4, vS, vI p5, vI p6, vI (own_ngt p6), vI (own_u p5), vI (own_v p5), vI (own_w p5), vJ ((own_px p5).toInt64), vS, vJ ((own_py p5).toInt64), vS, vJ ((own_pz p5).toInt64), vS, vR x15_0, vI (own_eq (own_pos (own_px p5) (own_py p5) (own_pz p5)) (own_text ((own_px p5).toInt64) ((own_py p5).toInt64) ((own_pz p5).toInt64))), vJ (own_a2 q1 q4 p6), vS, vU, vU, vU, vU, vU, vU, vU, vU] [(.long q4)])) t → Steps p.tables e below (T26.setTop (mkF m 194 #[vJ q1, vS, vJ q2, vS, vJ q3, vS, vJ q4, vS, vI p5, vI p6, vI (own_ngt p6), vI (own_u p5), vI (own_v p5), vI (own_w p5), vJ ((own_px p5).toInt64), vS, vJ ((own_py p5).toInt64), vS, vJ ((own_pz p5).toInt64), vS, vR x15_0, vI (own_eq (own_pos (own_px p5) (own_py p5) (own_pz p5)) (own_text ((own_px p5).toInt64) ((own_py p5).toInt64) ((own_pz p5).toInt64))), vJ (own_a2 q1 q4 p6), vS, vU, vU, vU, vU, vU, vU, vU, vU] [])) t := fun t kt => pre37 t (by
          show Steps p.tables e below (T26.setTop (mkF m 198 #[vJ q1, vS, vJ q2, vS, vJ q3, vS, vJ q4, vS, vI p5, vI p6, vI (own_ngt p6), vI (own_u p5), vI (own_v p5), vI (own_w p5), vJ ((own_px p5).toInt64), vS, vJ ((own_py p5).toInt64), vS, vJ ((own_pz p5).toInt64), vS, vR x15_0, vI (own_eq (own_pos (own_px p5) (own_py p5) (own_pz p5)) (own_text ((own_px p5).toInt64) ((own_py p5).toInt64) ((own_pz p5).toInt64))), vJ (own_a2 q1 q4 p6), vS, vU, vU, vU, vU, vU, vU, vU, vU] [(.int (p6 &&& (2 : Int32)))])) _
          refine XS.ifYes X26.here hx rfl (pc0 := 198) (pc' := 205) rfl (hb hby at_198) rfl ((if0 _ _).trans (teq hc198_36).1) (by decide) (by decide) ?_
          refine XS.lload X26.here hx rfl (hb hby at_205) rfl ?_
          show Steps p.tables e below (T26.setTop (mkF m 207 #[vJ q1, vS, vJ q2, vS, vJ q3, vS, vJ q4, vS, vI p5, vI p6, vI (own_ngt p6), vI (own_u p5), vI (own_v p5), vI (own_w p5), vJ ((own_px p5).toInt64), vS, vJ ((own_py p5).toInt64), vS, vJ ((own_pz p5).toInt64), vS, vR x15_0, vI (own_eq (own_pos (own_px p5) (own_py p5) (own_pz p5)) (own_text ((own_px p5).toInt64) ((own_py p5).toInt64) ((own_pz p5).toInt64))), vJ (own_a2 q1 q4 p6), vS, vU, vU, vU, vU, vU, vU, vU, vU] [(.long q4)])) _
          exact kt)
        have qe : own_b2 q2 q4 p6 = q4 := by unfold own_b2; rw [if_pos hc198_36]
        rw [qe] at kt0
        exact pre38 _ kt0
      · have pre39 : ∀ t, Steps p.tables e below (T26.setTop (mkF m 207 #[vJ q1, vS, vJ q2, vS, vJ q3, vS, vJ q4, vS, vI p5, vI p6, vI (own_ngt p6), vI (own_u p5), vI (own_v p5), vI (own_w p5), vJ ((own_px p5).toInt64), vS, vJ ((own_py p5).toInt64), vS, vJ ((own_pz p5).toInt64), vS, vR x15_0, vI (own_eq (own_pos (own_px p5) (own_py p5) (own_pz p5)) (own_text ((own_px p5).toInt64) ((own_py p5).toInt64) ((own_pz p5).toInt64))), vJ (own_a2 q1 q4 p6), vS, vU, vU, vU, vU, vU, vU, vU, vU] [(.long q2)])) t → Steps p.tables e below (T26.setTop (mkF m 194 #[vJ q1, vS, vJ q2, vS, vJ q3, vS, vJ q4, vS, vI p5, vI p6, vI (own_ngt p6), vI (own_u p5), vI (own_v p5), vI (own_w p5), vJ ((own_px p5).toInt64), vS, vJ ((own_py p5).toInt64), vS, vJ ((own_pz p5).toInt64), vS, vR x15_0, vI (own_eq (own_pos (own_px p5) (own_py p5) (own_pz p5)) (own_text ((own_px p5).toInt64) ((own_py p5).toInt64) ((own_pz p5).toInt64))), vJ (own_a2 q1 q4 p6), vS, vU, vU, vU, vU, vU, vU, vU, vU] [])) t := fun t kt => pre37 t (by
          show Steps p.tables e below (T26.setTop (mkF m 198 #[vJ q1, vS, vJ q2, vS, vJ q3, vS, vJ q4, vS, vI p5, vI p6, vI (own_ngt p6), vI (own_u p5), vI (own_v p5), vI (own_w p5), vJ ((own_px p5).toInt64), vS, vJ ((own_py p5).toInt64), vS, vJ ((own_pz p5).toInt64), vS, vR x15_0, vI (own_eq (own_pos (own_px p5) (own_py p5) (own_pz p5)) (own_text ((own_px p5).toInt64) ((own_py p5).toInt64) ((own_pz p5).toInt64))), vJ (own_a2 q1 q4 p6), vS, vU, vU, vU, vU, vU, vU, vU, vU] [(.int (p6 &&& (2 : Int32)))])) _
          refine XS.ifNo X26.here hx rfl (hb hby at_198) rfl ((if0 _ _).trans (feq hc198_36).1) ?_
          refine XS.lloadN X26.here hx rfl (hb hby at_201) rfl ?_
          refine XS.goto X26.here hx rfl (pc0 := 202) (pc' := 207) rfl (hb hby at_202) (by decide) (by decide) ?_
          show Steps p.tables e below (T26.setTop (mkF m 207 #[vJ q1, vS, vJ q2, vS, vJ q3, vS, vJ q4, vS, vI p5, vI p6, vI (own_ngt p6), vI (own_u p5), vI (own_v p5), vI (own_w p5), vJ ((own_px p5).toInt64), vS, vJ ((own_py p5).toInt64), vS, vJ ((own_pz p5).toInt64), vS, vR x15_0, vI (own_eq (own_pos (own_px p5) (own_py p5) (own_pz p5)) (own_text ((own_px p5).toInt64) ((own_py p5).toInt64) ((own_pz p5).toInt64))), vJ (own_a2 q1 q4 p6), vS, vU, vU, vU, vU, vU, vU, vU, vU] [(.long q2)])) _
          exact kt)
        have qe : own_b2 q2 q4 p6 = q2 := by unfold own_b2; rw [if_neg hc198_36]
        rw [qe] at kt0
        exact pre39 _ kt0
    have pre40 : ∀ t, Steps p.tables e below (T26.setTop (mkF m 207 #[vJ q1, vS, vJ q2, vS, vJ q3, vS, vJ q4, vS, vI p5, vI p6, vI (own_ngt p6), vI (own_u p5), vI (own_v p5), vI (own_w p5), vJ ((own_px p5).toInt64), vS, vJ ((own_py p5).toInt64), vS, vJ ((own_pz p5).toInt64), vS, vR x15_0, vI (own_eq (own_pos (own_px p5) (own_py p5) (own_pz p5)) (own_text ((own_px p5).toInt64) ((own_py p5).toInt64) ((own_pz p5).toInt64))), vJ (own_a2 q1 q4 p6), vS, vU, vU, vU, vU, vU, vU, vU, vU] [(.long (own_b2 q2 q4 p6))])) t → Steps p.tables e below (s₁.setTop (entryFrame m #[(.long q1), (.long q2), (.long q3), (.long q4), (.int p5), (.int p6)] maxLocals)) t := fun t kt => pre34 t (jn35 t kt)
    have pre41 : ∀ t, Steps p.tables e below (T26.setTop (mkF m 209 #[vJ q1, vS, vJ q2, vS, vJ q3, vS, vJ q4, vS, vI p5, vI p6, vI (own_ngt p6), vI (own_u p5), vI (own_v p5), vI (own_w p5), vJ ((own_px p5).toInt64), vS, vJ ((own_py p5).toInt64), vS, vJ ((own_pz p5).toInt64), vS, vR x15_0, vI (own_eq (own_pos (own_px p5) (own_py p5) (own_pz p5)) (own_text ((own_px p5).toInt64) ((own_py p5).toInt64) ((own_pz p5).toInt64))), vJ (own_a2 q1 q4 p6), vS, vJ (own_b2 q2 q4 p6), vS, vU, vU, vU, vU, vU, vU] [])) t → Steps p.tables e below (s₁.setTop (entryFrame m #[(.long q1), (.long q2), (.long q3), (.long q4), (.int p5), (.int p6)] maxLocals)) t := fun t kt => pre40 t (by
      show Steps p.tables e below (T26.setTop (mkF m 207 #[vJ q1, vS, vJ q2, vS, vJ q3, vS, vJ q4, vS, vI p5, vI p6, vI (own_ngt p6), vI (own_u p5), vI (own_v p5), vI (own_w p5), vJ ((own_px p5).toInt64), vS, vJ ((own_py p5).toInt64), vS, vJ ((own_pz p5).toInt64), vS, vR x15_0, vI (own_eq (own_pos (own_px p5) (own_py p5) (own_pz p5)) (own_text ((own_px p5).toInt64) ((own_py p5).toInt64) ((own_pz p5).toInt64))), vJ (own_a2 q1 q4 p6), vS, vU, vU, vU, vU, vU, vU, vU, vU] [(.long (own_b2 q2 q4 p6))])) _
      refine XS.lstore X26.here hx rfl (hb hby at_207) rfl (l' := #[vJ q1, vS, vJ q2, vS, vJ q3, vS, vJ q4, vS, vI p5, vI p6, vI (own_ngt p6), vI (own_u p5), vI (own_v p5), vI (own_w p5), vJ ((own_px p5).toInt64), vS, vJ ((own_py p5).toInt64), vS, vJ ((own_pz p5).toInt64), vS, vR x15_0, vI (own_eq (own_pos (own_px p5) (own_py p5) (own_pz p5)) (own_text ((own_px p5).toInt64) ((own_py p5).toInt64) ((own_pz p5).toInt64))), vJ (own_a2 q1 q4 p6), vS, vJ (own_b2 q2 q4 p6), vS, vU, vU, vU, vU, vU, vU]) rfl ?_
      show Steps p.tables e below (T26.setTop (mkF m 209 #[vJ q1, vS, vJ q2, vS, vJ q3, vS, vJ q4, vS, vI p5, vI p6, vI (own_ngt p6), vI (own_u p5), vI (own_v p5), vI (own_w p5), vJ ((own_px p5).toInt64), vS, vJ ((own_py p5).toInt64), vS, vJ ((own_pz p5).toInt64), vS, vR x15_0, vI (own_eq (own_pos (own_px p5) (own_py p5) (own_pz p5)) (own_text ((own_px p5).toInt64) ((own_py p5).toInt64) ((own_pz p5).toInt64))), vJ (own_a2 q1 q4 p6), vS, vJ (own_b2 q2 q4 p6), vS, vU, vU, vU, vU, vU, vU] [])) _
      exact kt)
    have jn42 : ∀ t, Steps p.tables e below (T26.setTop (mkF m 223 #[vJ q1, vS, vJ q2, vS, vJ q3, vS, vJ q4, vS, vI p5, vI p6, vI (own_ngt p6), vI (own_u p5), vI (own_v p5), vI (own_w p5), vJ ((own_px p5).toInt64), vS, vJ ((own_py p5).toInt64), vS, vJ ((own_pz p5).toInt64), vS, vR x15_0, vI (own_eq (own_pos (own_px p5) (own_py p5) (own_pz p5)) (own_text ((own_px p5).toInt64) ((own_py p5).toInt64) ((own_pz p5).toInt64))), vJ (own_a2 q1 q4 p6), vS, vJ (own_b2 q2 q4 p6), vS, vU, vU, vU, vU, vU, vU] [(.long (own_c2 q3 q4 p6))])) t → Steps p.tables e below (T26.setTop (mkF m 209 #[vJ q1, vS, vJ q2, vS, vJ q3, vS, vJ q4, vS, vI p5, vI p6, vI (own_ngt p6), vI (own_u p5), vI (own_v p5), vI (own_w p5), vJ ((own_px p5).toInt64), vS, vJ ((own_py p5).toInt64), vS, vJ ((own_pz p5).toInt64), vS, vR x15_0, vI (own_eq (own_pos (own_px p5) (own_py p5) (own_pz p5)) (own_text ((own_px p5).toInt64) ((own_py p5).toInt64) ((own_pz p5).toInt64))), vJ (own_a2 q1 q4 p6), vS, vJ (own_b2 q2 q4 p6), vS, vU, vU, vU, vU, vU, vU] [])) t := by
      intro t0 kt0
      have preR42 : ∀ t, Steps p.tables e below (T26.setTop (mkF m 209 #[vJ q1, vS, vJ q2, vS, vJ q3, vS, vJ q4, vS, vI p5, vI p6, vI (own_ngt p6), vI (own_u p5), vI (own_v p5), vI (own_w p5), vJ ((own_px p5).toInt64), vS, vJ ((own_py p5).toInt64), vS, vJ ((own_pz p5).toInt64), vS, vR x15_0, vI (own_eq (own_pos (own_px p5) (own_py p5) (own_pz p5)) (own_text ((own_px p5).toInt64) ((own_py p5).toInt64) ((own_pz p5).toInt64))), vJ (own_a2 q1 q4 p6), vS, vJ (own_b2 q2 q4 p6), vS, vU, vU, vU, vU, vU, vU] [])) t → Steps p.tables e below (T26.setTop (mkF m 209 #[vJ q1, vS, vJ q2, vS, vJ q3, vS, vJ q4, vS, vI p5, vI p6, vI (own_ngt p6), vI (own_u p5), vI (own_v p5), vI (own_w p5), vJ ((own_px p5).toInt64), vS, vJ ((own_py p5).toInt64), vS, vJ ((own_pz p5).toInt64), vS, vR x15_0, vI (own_eq (own_pos (own_px p5) (own_py p5) (own_pz p5)) (own_text ((own_px p5).toInt64) ((own_py p5).toInt64) ((own_pz p5).toInt64))), vJ (own_a2 q1 q4 p6), vS, vJ (own_b2 q2 q4 p6), vS, vU, vU, vU, vU, vU, vU] [])) t := fun t kt => kt
      have pre44 : ∀ t, Steps p.tables e below (T26.setTop (mkF m 213 #[vJ q1, vS, vJ q2, vS, vJ q3, vS, vJ q4, vS, vI p5, vI p6, vI (own_ngt p6), vI (own_u p5), vI (own_v p5), vI (own_w p5), vJ ((own_px p5).toInt64), vS, vJ ((own_py p5).toInt64), vS, vJ ((own_pz p5).toInt64), vS, vR x15_0, vI (own_eq (own_pos (own_px p5) (own_py p5) (own_pz p5)) (own_text ((own_px p5).toInt64) ((own_py p5).toInt64) ((own_pz p5).toInt64))), vJ (own_a2 q1 q4 p6), vS, vJ (own_b2 q2 q4 p6), vS, vU, vU, vU, vU, vU, vU] [(.int (p6 &&& (4 : Int32)))])) t → Steps p.tables e below (T26.setTop (mkF m 209 #[vJ q1, vS, vJ q2, vS, vJ q3, vS, vJ q4, vS, vI p5, vI p6, vI (own_ngt p6), vI (own_u p5), vI (own_v p5), vI (own_w p5), vJ ((own_px p5).toInt64), vS, vJ ((own_py p5).toInt64), vS, vJ ((own_pz p5).toInt64), vS, vR x15_0, vI (own_eq (own_pos (own_px p5) (own_py p5) (own_pz p5)) (own_text ((own_px p5).toInt64) ((own_py p5).toInt64) ((own_pz p5).toInt64))), vJ (own_a2 q1 q4 p6), vS, vJ (own_b2 q2 q4 p6), vS, vU, vU, vU, vU, vU, vU] [])) t := fun t kt => preR42 t (by
        show Steps p.tables e below (T26.setTop (mkF m 209 #[vJ q1, vS, vJ q2, vS, vJ q3, vS, vJ q4, vS, vI p5, vI p6, vI (own_ngt p6), vI (own_u p5), vI (own_v p5), vI (own_w p5), vJ ((own_px p5).toInt64), vS, vJ ((own_py p5).toInt64), vS, vJ ((own_pz p5).toInt64), vS, vR x15_0, vI (own_eq (own_pos (own_px p5) (own_py p5) (own_pz p5)) (own_text ((own_px p5).toInt64) ((own_py p5).toInt64) ((own_pz p5).toInt64))), vJ (own_a2 q1 q4 p6), vS, vJ (own_b2 q2 q4 p6), vS, vU, vU, vU, vU, vU, vU] [])) _
        refine XS.iload X26.here hx rfl (hb hby at_209) rfl ?_
        refine XS.iconst X26.here hx rfl (hb hby at_211) ?_
        refine XS.iand X26.here hx rfl (hb hby at_212) rfl ?_
        show Steps p.tables e below (T26.setTop (mkF m 213 #[vJ q1, vS, vJ q2, vS, vJ q3, vS, vJ q4, vS, vI p5, vI p6, vI (own_ngt p6), vI (own_u p5), vI (own_v p5), vI (own_w p5), vJ ((own_px p5).toInt64), vS, vJ ((own_py p5).toInt64), vS, vJ ((own_pz p5).toInt64), vS, vR x15_0, vI (own_eq (own_pos (own_px p5) (own_py p5) (own_pz p5)) (own_text ((own_px p5).toInt64) ((own_py p5).toInt64) ((own_pz p5).toInt64))), vJ (own_a2 q1 q4 p6), vS, vJ (own_b2 q2 q4 p6), vS, vU, vU, vU, vU, vU, vU] [(.int (p6 &&& (4 : Int32)))])) _
        exact kt)
      by_cases hc213_43 : (p6 &&& (4 : Int32)) = (0 : Int32)
      · have pre45 : ∀ t, Steps p.tables e below (T26.setTop (mkF m 223 #[vJ q1, vS, vJ q2, vS, vJ q3, vS, vJ q4, vS, vI p5, vI p6, vI (own_ngt p6), vI (own_u p5), vI (own_v p5), vI (own_w p5), vJ ((own_px p5).toInt64), vS, vJ ((own_py p5).toInt64), vS, vJ ((own_pz p5).toInt64), vS, vR x15_0, vI (own_eq (own_pos (own_px p5) (own_py p5) (own_pz p5)) (own_text ((own_px p5).toInt64) ((own_py p5).toInt64) ((own_pz p5).toInt64))), vJ (own_a2 q1 q4 p6), vS, vJ (own_b2 q2 q4 p6), vS, vU, vU, vU, vU, vU, vU] [(.long q4)])) t → Steps p.tables e below (T26.setTop (mkF m 209 #[vJ q1, vS, vJ q2, vS, vJ q3, vS, vJ q4, vS, vI p5, vI p6, vI (own_ngt p6), vI (own_u p5), vI (own_v p5), vI (own_w p5), vJ ((own_px p5).toInt64), vS, vJ ((own_py p5).toInt64), vS, vJ ((own_pz p5).toInt64), vS, vR x15_0, vI (own_eq (own_pos (own_px p5) (own_py p5) (own_pz p5)) (own_text ((own_px p5).toInt64) ((own_py p5).toInt64) ((own_pz p5).toInt64))), vJ (own_a2 q1 q4 p6), vS, vJ (own_b2 q2 q4 p6), vS, vU, vU, vU, vU, vU, vU] [])) t := fun t kt => pre44 t (by
          show Steps p.tables e below (T26.setTop (mkF m 213 #[vJ q1, vS, vJ q2, vS, vJ q3, vS, vJ q4, vS, vI p5, vI p6, vI (own_ngt p6), vI (own_u p5), vI (own_v p5), vI (own_w p5), vJ ((own_px p5).toInt64), vS, vJ ((own_py p5).toInt64), vS, vJ ((own_pz p5).toInt64), vS, vR x15_0, vI (own_eq (own_pos (own_px p5) (own_py p5) (own_pz p5)) (own_text ((own_px p5).toInt64) ((own_py p5).toInt64) ((own_pz p5).toInt64))), vJ (own_a2 q1 q4 p6), vS, vJ (own_b2 q2 q4 p6), vS, vU, vU, vU, vU, vU, vU] [(.int (p6 &&& (4 : Int32)))])) _
          refine XS.ifYes X26.here hx rfl (pc0 := 213) (pc' := 221) rfl (hb hby at_213) rfl ((if0 _ _).trans (teq hc213_43).1) (by decide) (by decide) ?_
          refine XS.lload X26.here hx rfl (hb hby at_221) rfl ?_
          show Steps p.tables e below (T26.setTop (mkF m 223 #[vJ q1, vS, vJ q2, vS, vJ q3, vS, vJ q4, vS, vI p5, vI p6, vI (own_ngt p6), vI (own_u p5), vI (own_v p5), vI (own_w p5), vJ ((own_px p5).toInt64), vS, vJ ((own_py p5).toInt64), vS, vJ ((own_pz p5).toInt64), vS, vR x15_0, vI (own_eq (own_pos (own_px p5) (own_py p5) (own_pz p5)) (own_text ((own_px p5).toInt64) ((own_py p5).toInt64) ((own_pz p5).toInt64))), vJ (own_a2 q1 q4 p6), vS, vJ (own_b2 q2 q4 p6), vS, vU, vU, vU, vU, vU, vU] [(.long q4)])) _
          exact kt)
        have qe : own_c2 q3 q4 p6 = q4 := by unfold own_c2; rw [if_pos hc213_43]
        rw [qe] at kt0
        exact pre45 _ kt0
      · have pre46 : ∀ t, Steps p.tables e below (T26.setTop (mkF m 223 #[vJ q1, vS, vJ q2, vS, vJ q3, vS, vJ q4, vS, vI p5, vI p6, vI (own_ngt p6), vI (own_u p5), vI (own_v p5), vI (own_w p5), vJ ((own_px p5).toInt64), vS, vJ ((own_py p5).toInt64), vS, vJ ((own_pz p5).toInt64), vS, vR x15_0, vI (own_eq (own_pos (own_px p5) (own_py p5) (own_pz p5)) (own_text ((own_px p5).toInt64) ((own_py p5).toInt64) ((own_pz p5).toInt64))), vJ (own_a2 q1 q4 p6), vS, vJ (own_b2 q2 q4 p6), vS, vU, vU, vU, vU, vU, vU] [(.long q3)])) t → Steps p.tables e below (T26.setTop (mkF m 209 #[vJ q1, vS, vJ q2, vS, vJ q3, vS, vJ q4, vS, vI p5, vI p6, vI (own_ngt p6), vI (own_u p5), vI (own_v p5), vI (own_w p5), vJ ((own_px p5).toInt64), vS, vJ ((own_py p5).toInt64), vS, vJ ((own_pz p5).toInt64), vS, vR x15_0, vI (own_eq (own_pos (own_px p5) (own_py p5) (own_pz p5)) (own_text ((own_px p5).toInt64) ((own_py p5).toInt64) ((own_pz p5).toInt64))), vJ (own_a2 q1 q4 p6), vS, vJ (own_b2 q2 q4 p6), vS, vU, vU, vU, vU, vU, vU] [])) t := fun t kt => pre44 t (by
          show Steps p.tables e below (T26.setTop (mkF m 213 #[vJ q1, vS, vJ q2, vS, vJ q3, vS, vJ q4, vS, vI p5, vI p6, vI (own_ngt p6), vI (own_u p5), vI (own_v p5), vI (own_w p5), vJ ((own_px p5).toInt64), vS, vJ ((own_py p5).toInt64), vS, vJ ((own_pz p5).toInt64), vS, vR x15_0, vI (own_eq (own_pos (own_px p5) (own_py p5) (own_pz p5)) (own_text ((own_px p5).toInt64) ((own_py p5).toInt64) ((own_pz p5).toInt64))), vJ (own_a2 q1 q4 p6), vS, vJ (own_b2 q2 q4 p6), vS, vU, vU, vU, vU, vU, vU] [(.int (p6 &&& (4 : Int32)))])) _
          refine XS.ifNo X26.here hx rfl (hb hby at_213) rfl ((if0 _ _).trans (feq hc213_43).1) ?_
          refine XS.lload X26.here hx rfl (hb hby at_216) rfl ?_
          refine XS.goto X26.here hx rfl (pc0 := 218) (pc' := 223) rfl (hb hby at_218) (by decide) (by decide) ?_
          show Steps p.tables e below (T26.setTop (mkF m 223 #[vJ q1, vS, vJ q2, vS, vJ q3, vS, vJ q4, vS, vI p5, vI p6, vI (own_ngt p6), vI (own_u p5), vI (own_v p5), vI (own_w p5), vJ ((own_px p5).toInt64), vS, vJ ((own_py p5).toInt64), vS, vJ ((own_pz p5).toInt64), vS, vR x15_0, vI (own_eq (own_pos (own_px p5) (own_py p5) (own_pz p5)) (own_text ((own_px p5).toInt64) ((own_py p5).toInt64) ((own_pz p5).toInt64))), vJ (own_a2 q1 q4 p6), vS, vJ (own_b2 q2 q4 p6), vS, vU, vU, vU, vU, vU, vU] [(.long q3)])) _
          exact kt)
        have qe : own_c2 q3 q4 p6 = q3 := by unfold own_c2; rw [if_neg hc213_43]
        rw [qe] at kt0
        exact pre46 _ kt0
    have pre47 : ∀ t, Steps p.tables e below (T26.setTop (mkF m 223 #[vJ q1, vS, vJ q2, vS, vJ q3, vS, vJ q4, vS, vI p5, vI p6, vI (own_ngt p6), vI (own_u p5), vI (own_v p5), vI (own_w p5), vJ ((own_px p5).toInt64), vS, vJ ((own_py p5).toInt64), vS, vJ ((own_pz p5).toInt64), vS, vR x15_0, vI (own_eq (own_pos (own_px p5) (own_py p5) (own_pz p5)) (own_text ((own_px p5).toInt64) ((own_py p5).toInt64) ((own_pz p5).toInt64))), vJ (own_a2 q1 q4 p6), vS, vJ (own_b2 q2 q4 p6), vS, vU, vU, vU, vU, vU, vU] [(.long (own_c2 q3 q4 p6))])) t → Steps p.tables e below (s₁.setTop (entryFrame m #[(.long q1), (.long q2), (.long q3), (.long q4), (.int p5), (.int p6)] maxLocals)) t := fun t kt => pre41 t (jn42 t kt)
    obtain ⟨T48, h48, X48, e48, E48, A48, D48, -, st48⟩ := newO X26 hx hZ25 hown25 (own_wi hw 37 rfl) (own_wi hw 38 rfl) (own_wi hw 39 rfl) e26 (g := (mkF m 225 #[vJ q1, vS, vJ q2, vS, vJ q3, vS, vJ q4, vS, vI p5, vI p6, vI (own_ngt p6), vI (own_u p5), vI (own_v p5), vI (own_w p5), vJ ((own_px p5).toInt64), vS, vJ ((own_py p5).toInt64), vS, vJ ((own_pz p5).toInt64), vS, vR x15_0, vI (own_eq (own_pos (own_px p5) (own_py p5) (own_pz p5)) (own_text ((own_px p5).toInt64) ((own_py p5).toInt64) ((own_pz p5).toInt64))), vJ (own_a2 q1 q4 p6), vS, vJ (own_b2 q2 q4 p6), vS, vJ (own_c2 q3 q4 p6), vS, vU, vU, vU, vU] [])) rfl (hb hby at_225) (by decide) (by decide)
    obtain ⟨b48, g48⟩ : ∃ z, z = T25.heap.size := ⟨_, rfl⟩
    rw [← g48] at A48 D48 st48
    have ne_x15_0_b48 : x15_0 ≠ b48 := Nat.ne_of_lt (Nat.lt_of_lt_of_le (own_Str.keep (a0 := a0) y24 K25q all0).lt (Nat.le_of_eq g48.symm))
    have ne_b18_b48 : b18 ≠ b48 := Nat.ne_of_lt (Nat.lt_of_lt_of_le (f20_0.keep K25q).lt (Nat.le_of_eq g48.symm))
    have ne_x25_0_b48 : x25_0 ≠ b48 := Nat.ne_of_lt (Nat.lt_of_lt_of_le f25_0.lt (Nat.le_of_eq g48.symm))
    have g_b48 : n0 ≤ b48 := Nat.le_trans Z25 (Nat.le_of_eq g48.symm)
    have sz_b48 : h0.size ≤ b48 := Nat.le_trans (K25).1 (Nat.le_of_eq g48.symm)
    have ch49 := ch25.trans (CHr.ext E48 ch25.1)
    have y50 := ((own_Str.keep (a0 := a0) y24 K25q all0).ext E48)
    have K48 : Keep h0 h48 [] := (K25).ext E48
    have Z48 : n0 ≤ h48.size := Nat.le_trans Z25 E48.1
    have F_sessions_b48 : Fld Z h48 b48 "com/example/vigilant_context/vigilantcontext/finding/LoadCost" "sessions" "J" (.long (0 : Int64)) := D48 (Or.inr (own_wi hw 50 rfl)) (ty := .long) (by decide)
    have F_connections_b48 : Fld Z h48 b48 "com/example/vigilant_context/vigilantcontext/finding/LoadCost" "connections" "J" (.long (0 : Int64)) := D48 (Or.inr (own_wi hw 52 rfl)) (ty := .long) (by decide)
    have F_statements_b48 : Fld Z h48 b48 "com/example/vigilant_context/vigilantcontext/finding/LoadCost" "statements" "J" (.long (0 : Int64)) := D48 (Or.inr (own_wi hw 54 rfl)) (ty := .long) (by decide)
    obtain ⟨_, _, ⟨T51, L51, k51, n51⟩, -, X51, ⟨Lc51, hQ51, l51, y51, z51⟩, st51⟩ := X48.specialBack hx (y := (⟨"com/example/vigilant_context/vigilantcontext/finding/LoadCost", "<init>", "(JJJ)V"⟩ : MethodName)) rfl hown25 (mvT hZ25 (own_wi hw 40 rfl)) (mvT hZ25 (own_wi hw 41 rfl)) (mvT hZ25 (own_wi hw 42 rfl)) (by decide) (backOf (W := 1) (rm9 l Z a0 hw [] b48 q1 q2 q3 (0 : Int64) (0 : Int64) (0 : Int64) h48 n0 Z48 A48 F_sessions_b48 F_connections_b48 F_statements_b48 g_b48) hZ25 (own_wi hw 42 rfl) (own_wi hw 39 rfl) (by decide) (by decide)) (g := (mkF m 233 #[vJ q1, vS, vJ q2, vS, vJ q3, vS, vJ q4, vS, vI p5, vI p6, vI (own_ngt p6), vI (own_u p5), vI (own_v p5), vI (own_w p5), vJ ((own_px p5).toInt64), vS, vJ ((own_py p5).toInt64), vS, vJ ((own_pz p5).toInt64), vS, vR x15_0, vI (own_eq (own_pos (own_px p5) (own_py p5) (own_pz p5)) (own_text ((own_px p5).toInt64) ((own_py p5).toInt64) ((own_pz p5).toInt64))), vJ (own_a2 q1 q4 p6), vS, vJ (own_b2 q2 q4 p6), vS, vJ (own_c2 q3 q4 p6), vS, vU, vU, vU, vU] [(.long q3), (.long q2), (.long q1), (.ref b48), (.ref b48)])) rfl (by rw [hml]; rfl) (Steps.refl _) (a := b48) (argsL := [(.long q1), (.long q2), (.long q3)]) (rest := [(.ref b48)]) (lenOf pd_25 rfl) rfl (by show 2 * 0 + _ ≤ _; exact Nat.le_of_eq rfl) (hb hby at_233) (fun _ _ => ⟨rfl, e48, (by decide : 21 + 0 ≤ _), (by decide : 1517 + 0 ≤ _)⟩)
    dsimp only [Pt.U, Pt.locs, Pt.cells, Pt.slots] at X51 l51 y51 z51 st51 hQ51
    subst l51 y51 z51
    obtain ⟨rfl, N51q, K51q, f51_0, f51_1, f51_2, f51_3⟩ := hQ51
    have al52 : ∀ x ∈ [b48], Safe Z own_EL T25.vm h48 x := (allS (P := fun x => Safe Z own_EL T25.vm h48 x) (Safe.exa (show Z.vm.Alike T25.vm from hZ25.alike) A48 (by decide) (by decide)) all0)
    have ch52 := ch49.trans (CHr.keep K51q al52 ch49.1)
    have y53 := (own_StaKeep ((own_StaKeep y22 K25q all0).ext E48) K51q (allS (P := fun x => ∃ D, Exa Z h48 x D) ⟨_, A48⟩ all0))
    have y54 := (((y23.keep K25q all0).ext E48).keep K51q (allS (P := fun x => n0 ≤ x) g_b48 all0))
    have y55 := (own_Str.keep (a0 := a0) y50 K51q (allS (P := fun x => ∃ C n, Exa Z h48 x C ∧ C ≠ "java/lang/String" ∧ (Jvm.Cond.instantiable C n).before a0 Z = true) ⟨_, _, A48, by decide, (own_wi hw 38 rfl)⟩ all0))
    have y56 := (((f20_1.keep K25q nin0).ext E48).keep K51q (ninS ne_b18_b48 nin0))
    have y57 := (((f20_2.keep K25q nin0).ext E48).keep K51q (ninS ne_b18_b48 nin0))
    have y58 := (((f20_3.keep K25q nin0).ext E48).keep K51q (ninS ne_b18_b48 nin0))
    have y59 := (own_Str.keep (a0 := a0) (f25_0.ext E48) K51q (allS (P := fun x => ∃ C n, Exa Z h48 x C ∧ C ≠ "java/lang/String" ∧ (Jvm.Cond.instantiable C n).before a0 Z = true) ⟨_, _, A48, by decide, (own_wi hw 38 rfl)⟩ all0))
    have K51 : Keep h0 T51.heap [] := (K48).trans K51q (allS (P := fun x => x ∈ [] ∨ h0.size ≤ x) (Or.inr sz_b48) all0)
    have Z51 : n0 ≤ T51.heap.size := Nat.le_trans Z48 K51q.1
    have N51 := Fr.app N26 N51q
    obtain ⟨T60, h60, X60, e60, E60, A60, D60, -, st60⟩ := newO X51 hx hZ25 hown25 (own_wi hw 37 rfl) (own_wi hw 38 rfl) (own_wi hw 39 rfl) rfl (g := (mkF m 238 #[vJ q1, vS, vJ q2, vS, vJ q3, vS, vJ q4, vS, vI p5, vI p6, vI (own_ngt p6), vI (own_u p5), vI (own_v p5), vI (own_w p5), vJ ((own_px p5).toInt64), vS, vJ ((own_py p5).toInt64), vS, vJ ((own_pz p5).toInt64), vS, vR x15_0, vI (own_eq (own_pos (own_px p5) (own_py p5) (own_pz p5)) (own_text ((own_px p5).toInt64) ((own_py p5).toInt64) ((own_pz p5).toInt64))), vJ (own_a2 q1 q4 p6), vS, vJ (own_b2 q2 q4 p6), vS, vJ (own_c2 q3 q4 p6), vS, vR b48, vU, vU, vU] [])) rfl (hb hby at_238) (by decide) (by decide)
    obtain ⟨b60, g60⟩ : ∃ z, z = T51.heap.size := ⟨_, rfl⟩
    rw [← g60] at A60 D60 st60
    have ne_x15_0_b60 : x15_0 ≠ b60 := Nat.ne_of_lt (Nat.lt_of_lt_of_le y55.lt (Nat.le_of_eq g60.symm))
    have ne_b18_b60 : b18 ≠ b60 := Nat.ne_of_lt (Nat.lt_of_lt_of_le (((f20_0.keep K25q).ext E48).keep K51q).lt (Nat.le_of_eq g60.symm))
    have ne_x25_0_b60 : x25_0 ≠ b60 := Nat.ne_of_lt (Nat.lt_of_lt_of_le y59.lt (Nat.le_of_eq g60.symm))
    have ne_b48_b60 : b48 ≠ b60 := Nat.ne_of_lt (Nat.lt_of_lt_of_le f51_0.lt (Nat.le_of_eq g60.symm))
    have g_b60 : n0 ≤ b60 := Nat.le_trans Z51 (Nat.le_of_eq g60.symm)
    have sz_b60 : h0.size ≤ b60 := Nat.le_trans (K51).1 (Nat.le_of_eq g60.symm)
    have ch61 := ch52.trans (CHr.ext E60 ch52.1)
    have y62 := ((((f20_0.keep K25q).ext E48).keep K51q).ext E60)
    have K60 : Keep h0 h60 [] := (K51).ext E60
    have Z60 : n0 ≤ h60.size := Nat.le_trans Z51 E60.1
    have F_sessions_b60 : Fld Z h60 b60 "com/example/vigilant_context/vigilantcontext/finding/LoadCost" "sessions" "J" (.long (0 : Int64)) := D60 (Or.inr (own_wi hw 50 rfl)) (ty := .long) (by decide)
    have F_connections_b60 : Fld Z h60 b60 "com/example/vigilant_context/vigilantcontext/finding/LoadCost" "connections" "J" (.long (0 : Int64)) := D60 (Or.inr (own_wi hw 52 rfl)) (ty := .long) (by decide)
    have F_statements_b60 : Fld Z h60 b60 "com/example/vigilant_context/vigilantcontext/finding/LoadCost" "statements" "J" (.long (0 : Int64)) := D60 (Or.inr (own_wi hw 54 rfl)) (ty := .long) (by decide)
    obtain ⟨_, _, ⟨T63, L63, k63, n63⟩, -, X63, ⟨Lc63, hQ63, l63, y63, z63⟩, st63⟩ := X60.specialBack hx (y := (⟨"com/example/vigilant_context/vigilantcontext/finding/LoadCost", "<init>", "(JJJ)V"⟩ : MethodName)) rfl hown25 (mvT hZ25 (own_wi hw 40 rfl)) (mvT hZ25 (own_wi hw 41 rfl)) (mvT hZ25 (own_wi hw 42 rfl)) (by decide) (backOf (W := 1) (rm9 l Z a0 hw [] b60 (own_a2 q1 q4 p6) (own_b2 q2 q4 p6) (own_c2 q3 q4 p6) (0 : Int64) (0 : Int64) (0 : Int64) h60 n0 Z60 A60 F_sessions_b60 F_connections_b60 F_statements_b60 g_b60) hZ25 (own_wi hw 42 rfl) (own_wi hw 39 rfl) (by decide) (by decide)) (g := (mkF m 248 #[vJ q1, vS, vJ q2, vS, vJ q3, vS, vJ q4, vS, vI p5, vI p6, vI (own_ngt p6), vI (own_u p5), vI (own_v p5), vI (own_w p5), vJ ((own_px p5).toInt64), vS, vJ ((own_py p5).toInt64), vS, vJ ((own_pz p5).toInt64), vS, vR x15_0, vI (own_eq (own_pos (own_px p5) (own_py p5) (own_pz p5)) (own_text ((own_px p5).toInt64) ((own_py p5).toInt64) ((own_pz p5).toInt64))), vJ (own_a2 q1 q4 p6), vS, vJ (own_b2 q2 q4 p6), vS, vJ (own_c2 q3 q4 p6), vS, vR b48, vU, vU, vU] [(.long (own_c2 q3 q4 p6)), (.long (own_b2 q2 q4 p6)), (.long (own_a2 q1 q4 p6)), (.ref b60), (.ref b60)])) rfl (by rw [hml]; rfl) (Steps.refl _) (a := b60) (argsL := [(.long (own_a2 q1 q4 p6)), (.long (own_b2 q2 q4 p6)), (.long (own_c2 q3 q4 p6))]) (rest := [(.ref b60)]) (lenOf pd_25 rfl) rfl (by show 2 * 0 + _ ≤ _; exact Nat.le_of_eq rfl) (hb hby at_248) (fun _ _ => ⟨rfl, e60, (by decide : 22 + 0 ≤ _), (by decide : 1520 + 0 ≤ _)⟩)
    dsimp only [Pt.U, Pt.locs, Pt.cells, Pt.slots] at X63 l63 y63 z63 st63 hQ63
    subst l63 y63 z63
    obtain ⟨rfl, N63q, K63q, f63_0, f63_1, f63_2, f63_3⟩ := hQ63
    have al64 : ∀ x ∈ [b60], Safe Z own_EL T25.vm h60 x := (allS (P := fun x => Safe Z own_EL T25.vm h60 x) (Safe.exa (show Z.vm.Alike T25.vm from hZ25.alike) A60 (by decide) (by decide)) all0)
    have ch64 := ch61.trans (CHr.keep K63q al64 ch61.1)
    have y65 := (own_StaKeep (y53.ext E60) K63q (allS (P := fun x => ∃ D, Exa Z h60 x D) ⟨_, A60⟩ all0))
    have y66 := ((y54.ext E60).keep K63q (allS (P := fun x => n0 ≤ x) g_b60 all0))
    have y67 := (own_Str.keep (a0 := a0) (y55.ext E60) K63q (allS (P := fun x => ∃ C n, Exa Z h60 x C ∧ C ≠ "java/lang/String" ∧ (Jvm.Cond.instantiable C n).before a0 Z = true) ⟨_, _, A60, by decide, (own_wi hw 38 rfl)⟩ all0))
    have y68 := ((y56.ext E60).keep K63q (ninS ne_b18_b60 nin0))
    have y69 := ((y57.ext E60).keep K63q (ninS ne_b18_b60 nin0))
    have y70 := ((y58.ext E60).keep K63q (ninS ne_b18_b60 nin0))
    have y71 := (own_Str.keep (a0 := a0) (y59.ext E60) K63q (allS (P := fun x => ∃ C n, Exa Z h60 x C ∧ C ≠ "java/lang/String" ∧ (Jvm.Cond.instantiable C n).before a0 Z = true) ⟨_, _, A60, by decide, (own_wi hw 38 rfl)⟩ all0))
    have y72 := ((f51_1.ext E60).keep K63q (ninS ne_b48_b60 nin0))
    have y73 := ((f51_2.ext E60).keep K63q (ninS ne_b48_b60 nin0))
    have y74 := ((f51_3.ext E60).keep K63q (ninS ne_b48_b60 nin0))
    have K63 : Keep h0 T63.heap [] := (K60).trans K63q (allS (P := fun x => x ∈ [] ∨ h0.size ≤ x) (Or.inr sz_b60) all0)
    have Z63 : n0 ≤ T63.heap.size := Nat.le_trans Z60 K63q.1
    have N63 := Fr.app N51 N63q
    obtain ⟨cq75, kq75, q75a, q75b, q75c⟩ := isOf hZ25 rfl ((f51_0.ext E60).keep K63q)
    obtain ⟨_, _, ⟨T75, L75, k75, n75⟩, -, X75, hS75q, hgr75, ⟨Lc75, hQ75, l75, y75, z75, hC75q⟩, st75⟩ := X63.virtualBackS hx (y := (⟨"com/example/vigilant_context/vigilantcontext/finding/LoadCost", "toString", "()Ljava/lang/String;"⟩ : MethodName)) (z := (⟨"com/example/vigilant_context/vigilantcontext/finding/LoadCost", "toString", "()Ljava/lang/String;"⟩ : MethodName)) hown25 (mvT hZ25 (own_wi hw 55 rfl)) (mvT hZ25 (own_wi hw 56 rfl)) (notFace_of_selects (args := #[]) (mvT hZ25 (own_wi hw 58 rfl))) (mvT hZ25 (own_wi hw 58 rfl)) (mvT hZ25 (own_wi hw 57 rfl)) (by decide) (backOfSH (EL := own_EL) (W := 0) (rm11 l Z a0 hw [] b48 q1 q2 q3 st_COMPACT_STRINGS T63.heap n0 Z63 ((f51_0.ext E60).keep K63q) y72 y73 y74 y65 y66 hDg hq151_3) hZ25 (own_wi hw 59 rfl) (own_wi hw 39 rfl) (by decide) (by decide) (own_EW hw) ch64.1) q75a q75c (g := (mkF m 255 #[vJ q1, vS, vJ q2, vS, vJ q3, vS, vJ q4, vS, vI p5, vI p6, vI (own_ngt p6), vI (own_u p5), vI (own_v p5), vI (own_w p5), vJ ((own_px p5).toInt64), vS, vJ ((own_py p5).toInt64), vS, vJ ((own_pz p5).toInt64), vS, vR x15_0, vI (own_eq (own_pos (own_px p5) (own_py p5) (own_pz p5)) (own_text ((own_px p5).toInt64) ((own_py p5).toInt64) ((own_pz p5).toInt64))), vJ (own_a2 q1 q4 p6), vS, vJ (own_b2 q2 q4 p6), vS, vJ (own_c2 q3 q4 p6), vS, vR b48, vR b60, vU, vU] [(.ref b48)])) rfl (by rw [hml]; rfl) (Steps.refl _) (argsL := []) (rest := []) (lenOf pd_21 rfl) rfl (by show 2 * 0 + _ ≤ _; exact Nat.le_of_eq rfl) (hb hby at_255) (fun _ _ => ⟨rfl, rfl, (by decide : 22 + 16 ≤ _), (by decide : 1520 + 1433 ≤ _)⟩)
    dsimp only [Pt.U, Pt.locs, Pt.cells, Pt.slots] at X75 l75 y75 z75 st75 hQ75 hS75q hgr75 hC75q
    subst l75 y75 z75
    obtain ⟨X75w, hS75, hZ75, hown75⟩ := rebS hS25 (Nat.le_trans (Nat.le_trans (Nat.le_trans (Nat.le_trans (Nat.le_refl _) E48.1) K51q.1) E60.1) K63q.1) X75 hS75q hgr75 hZ25 hown25
    obtain ⟨x75_0, rfl, N75q, K75q, f75_0⟩ := hQ75
    have ch75 := ch64.trans hC75q
    have K75 : Keep h0 T75.heap [] := (K63).trans K75q all0
    have Z75 : n0 ≤ T75.heap.size := Nat.le_trans Z63 K75q.1
    have N75 := Fr.app N63 N75q
    obtain ⟨cq76, kq76, q76a, q76b, q76c⟩ := isOf hZ75 rfl (f63_0.keep K75q)
    obtain ⟨_, _, ⟨T76, L76, k76, n76⟩, -, X76, hS76q, hgr76, ⟨Lc76, hQ76, l76, y76, z76, hC76q⟩, st76⟩ := X75w.virtualBackS hx (y := (⟨"com/example/vigilant_context/vigilantcontext/finding/LoadCost", "toString", "()Ljava/lang/String;"⟩ : MethodName)) (z := (⟨"com/example/vigilant_context/vigilantcontext/finding/LoadCost", "toString", "()Ljava/lang/String;"⟩ : MethodName)) hown75 (mvT hZ75 (own_wi hw 55 rfl)) (mvT hZ75 (own_wi hw 56 rfl)) (notFace_of_selects (args := #[]) (mvT hZ75 (own_wi hw 58 rfl))) (mvT hZ75 (own_wi hw 58 rfl)) (mvT hZ75 (own_wi hw 57 rfl)) (by decide) (backOfSH (EL := own_EL) (W := 1) (rm11 l Z a0 hw [] b60 (own_a2 q1 q4 p6) (own_b2 q2 q4 p6) (own_c2 q3 q4 p6) st_COMPACT_STRINGS T75.heap n0 Z75 (f63_0.keep K75q) (f63_1.keep K75q nin0) (f63_2.keep K75q nin0) (f63_3.keep K75q nin0) (own_StaKeep y65 K75q all0) (y66.keep K75q all0) hDg hq151_3) hZ75 (own_wi hw 59 rfl) (own_wi hw 39 rfl) (by decide) (by decide) (own_EW hw) ch75.1) q76a q76c (g := (mkF m 260 #[vJ q1, vS, vJ q2, vS, vJ q3, vS, vJ q4, vS, vI p5, vI p6, vI (own_ngt p6), vI (own_u p5), vI (own_v p5), vI (own_w p5), vJ ((own_px p5).toInt64), vS, vJ ((own_py p5).toInt64), vS, vJ ((own_pz p5).toInt64), vS, vR x15_0, vI (own_eq (own_pos (own_px p5) (own_py p5) (own_pz p5)) (own_text ((own_px p5).toInt64) ((own_py p5).toInt64) ((own_pz p5).toInt64))), vJ (own_a2 q1 q4 p6), vS, vJ (own_b2 q2 q4 p6), vS, vJ (own_c2 q3 q4 p6), vS, vR b48, vR b60, vU, vU] [(.ref b60), (.ref x75_0)])) rfl (by rw [hml]; rfl) (Steps.refl _) (argsL := []) (rest := [(.ref x75_0)]) (lenOf pd_21 rfl) rfl (by show 2 * 0 + _ ≤ _; exact Nat.le_of_eq rfl) (hb hby at_260) (fun _ _ => ⟨rfl, rfl, (by decide : 38 + 16 ≤ _), (by decide : 2953 + 1433 ≤ _)⟩)
    dsimp only [Pt.U, Pt.locs, Pt.cells, Pt.slots] at X76 l76 y76 z76 st76 hQ76 hS76q hgr76 hC76q
    subst l76 y76 z76
    obtain ⟨X76w, hS76, hZ76, hown76⟩ := rebS hS75 (Nat.le_refl _) X76 hS76q hgr76 hZ75 hown75
    obtain ⟨x76_0, rfl, N76q, K76q, f76_0⟩ := hQ76
    have ch76 := ch75.trans hC76q
    have y77 := (own_StaKeep (own_StaKeep y65 K75q all0) K76q all0)
    have y78 := (own_Str.keep (a0 := a0) (own_Str.keep (a0 := a0) y67 K75q all0) K76q all0)
    have y79 := (own_Str.keep (a0 := a0) (own_Str.keep (a0 := a0) y71 K75q all0) K76q all0)
    have y80 := ((((f51_0.ext E60).keep K63q).keep K75q).keep K76q)
    have y81 := (own_Str.keep (a0 := a0) f75_0 K76q all0)
    have K76 : Keep h0 T76.heap [] := (K75).trans K76q all0
    have Z76 : n0 ≤ T76.heap.size := Nat.le_trans Z75 K76q.1
    have N76 := Fr.app N75 N76q
    obtain ⟨t82a, k82a, E82a, C82a, V82a, A82a, P82a, L82a⟩ := id y81
    obtain ⟨t82b, k82b, E82b, C82b, V82b, A82b, P82b, L82b⟩ := id f76_0
    obtain ⟨cq82, kq82, q82a, q82b, q82c⟩ := isOf hZ76 rfl E82a
    obtain ⟨v82, _, ⟨T82, L82, k82, n82⟩, -, X82, ⟨Lc82, hQ82, l82, y82, z82⟩, st82⟩ := X76w.virtualBack hx (y := (⟨"java/lang/String", "equals", "(Ljava/lang/Object;)Z"⟩ : MethodName)) (z := (⟨"java/lang/String", "equals", "(Ljava/lang/Object;)Z"⟩ : MethodName)) hown76 (mvT hZ76 (own_wi hw 213 rfl)) (mvT hZ76 (own_wi hw 214 rfl)) (notFace_of_selects (args := #[]) (mvT hZ76 (own_wi hw 216 rfl))) (mvT hZ76 (own_wi hw 216 rfl)) (mvT hZ76 (own_wi hw 215 rfl)) (by decide) (StrChars.Road.eqW (W := 0) hZ76 (own_we hw) (kI := 4) (own_wi hw 9 rfl) E82a V82a C82a A82a (Or.inl ⟨rfl, rfl, rfl, fun c hc => (P82a c hc).2⟩) (own_up P82a) L82a E82b V82b C82b A82b (Or.inl ⟨rfl, rfl, rfl, fun c hc => (P82b c hc).2⟩) (own_up P82b) L82b y77 hq151_3 (by decide) (by decide)) q82a q82c (g := (mkF m 263 #[vJ q1, vS, vJ q2, vS, vJ q3, vS, vJ q4, vS, vI p5, vI p6, vI (own_ngt p6), vI (own_u p5), vI (own_v p5), vI (own_w p5), vJ ((own_px p5).toInt64), vS, vJ ((own_py p5).toInt64), vS, vJ ((own_pz p5).toInt64), vS, vR x15_0, vI (own_eq (own_pos (own_px p5) (own_py p5) (own_pz p5)) (own_text ((own_px p5).toInt64) ((own_py p5).toInt64) ((own_pz p5).toInt64))), vJ (own_a2 q1 q4 p6), vS, vJ (own_b2 q2 q4 p6), vS, vJ (own_c2 q3 q4 p6), vS, vR b48, vR b60, vU, vU] [(.ref x76_0), (.ref x75_0)])) rfl (by rw [hml]; rfl) (Steps.refl _) (argsL := [(.ref x76_0)]) (rest := []) (lenOf pd_26 rfl) rfl (by show 2 * 0 + _ ≤ _; exact Nat.le_of_eq rfl) (hb hby at_263) (fun _ _ => ⟨rfl, rfl, (by decide : 54 + 0 ≤ _), (by decide : 4386 + 0 ≤ _)⟩)
    dsimp only [Pt.U, Pt.locs, Pt.cells, Pt.slots] at X82 l82 y82 z82 st82 hQ82
    subst l82 y82 z82
    obtain ⟨hv82, rfl, e82⟩ := hQ82
    have hv82' := own_eqv hv82; subst hv82'
    have N82 := Fr.app N76 (Fr.nil n0)
    have pre83 : ∀ t, Steps p.tables e below (T82.setTop (mkF m 268 #[vJ q1, vS, vJ q2, vS, vJ q3, vS, vJ q4, vS, vI p5, vI p6, vI (own_ngt p6), vI (own_u p5), vI (own_v p5), vI (own_w p5), vJ ((own_px p5).toInt64), vS, vJ ((own_py p5).toInt64), vS, vJ ((own_pz p5).toInt64), vS, vR x15_0, vI (own_eq (own_pos (own_px p5) (own_py p5) (own_pz p5)) (own_text ((own_px p5).toInt64) ((own_py p5).toInt64) ((own_pz p5).toInt64))), vJ (own_a2 q1 q4 p6), vS, vJ (own_b2 q2 q4 p6), vS, vJ (own_c2 q3 q4 p6), vS, vR b48, vR b60, vI (own_eq (own_text q1 q2 q3) (own_text (own_a2 q1 q4 p6) (own_b2 q2 q4 p6) (own_c2 q3 q4 p6))), vU] [])) t → Steps p.tables e below (s₁.setTop (entryFrame m #[(.long q1), (.long q2), (.long q3), (.long q4), (.int p5), (.int p6)] maxLocals)) t := fun t kt => pre47 t (by
      show Steps p.tables e below (T26.setTop (mkF m 223 #[vJ q1, vS, vJ q2, vS, vJ q3, vS, vJ q4, vS, vI p5, vI p6, vI (own_ngt p6), vI (own_u p5), vI (own_v p5), vI (own_w p5), vJ ((own_px p5).toInt64), vS, vJ ((own_py p5).toInt64), vS, vJ ((own_pz p5).toInt64), vS, vR x15_0, vI (own_eq (own_pos (own_px p5) (own_py p5) (own_pz p5)) (own_text ((own_px p5).toInt64) ((own_py p5).toInt64) ((own_pz p5).toInt64))), vJ (own_a2 q1 q4 p6), vS, vJ (own_b2 q2 q4 p6), vS, vU, vU, vU, vU, vU, vU] [(.long (own_c2 q3 q4 p6))])) _
      refine XS.lstore X26.here hx rfl (hb hby at_223) rfl (l' := #[vJ q1, vS, vJ q2, vS, vJ q3, vS, vJ q4, vS, vI p5, vI p6, vI (own_ngt p6), vI (own_u p5), vI (own_v p5), vI (own_w p5), vJ ((own_px p5).toInt64), vS, vJ ((own_py p5).toInt64), vS, vJ ((own_pz p5).toInt64), vS, vR x15_0, vI (own_eq (own_pos (own_px p5) (own_py p5) (own_pz p5)) (own_text ((own_px p5).toInt64) ((own_py p5).toInt64) ((own_pz p5).toInt64))), vJ (own_a2 q1 q4 p6), vS, vJ (own_b2 q2 q4 p6), vS, vJ (own_c2 q3 q4 p6), vS, vU, vU, vU, vU]) rfl ?_
      show Steps p.tables e below (T26.setTop (mkF m 225 #[vJ q1, vS, vJ q2, vS, vJ q3, vS, vJ q4, vS, vI p5, vI p6, vI (own_ngt p6), vI (own_u p5), vI (own_v p5), vI (own_w p5), vJ ((own_px p5).toInt64), vS, vJ ((own_py p5).toInt64), vS, vJ ((own_pz p5).toInt64), vS, vR x15_0, vI (own_eq (own_pos (own_px p5) (own_py p5) (own_pz p5)) (own_text ((own_px p5).toInt64) ((own_py p5).toInt64) ((own_pz p5).toInt64))), vJ (own_a2 q1 q4 p6), vS, vJ (own_b2 q2 q4 p6), vS, vJ (own_c2 q3 q4 p6), vS, vU, vU, vU, vU] [])) _
      refine st48 _ ?_
      show Steps p.tables e below (T48.setTop (mkF m 228 #[vJ q1, vS, vJ q2, vS, vJ q3, vS, vJ q4, vS, vI p5, vI p6, vI (own_ngt p6), vI (own_u p5), vI (own_v p5), vI (own_w p5), vJ ((own_px p5).toInt64), vS, vJ ((own_py p5).toInt64), vS, vJ ((own_pz p5).toInt64), vS, vR x15_0, vI (own_eq (own_pos (own_px p5) (own_py p5) (own_pz p5)) (own_text ((own_px p5).toInt64) ((own_py p5).toInt64) ((own_pz p5).toInt64))), vJ (own_a2 q1 q4 p6), vS, vJ (own_b2 q2 q4 p6), vS, vJ (own_c2 q3 q4 p6), vS, vU, vU, vU, vU] [(.ref b48)])) _
      refine XS.dup X48.here hx rfl (hb hby at_228) rfl rfl ?_
      refine XS.lloadN X48.here hx rfl (hb hby at_229) rfl ?_
      refine XS.lloadN X48.here hx rfl (hb hby at_230) rfl ?_
      refine XS.lload X48.here hx rfl (hb hby at_231) rfl ?_
      show Steps p.tables e below (T48.setTop (mkF m 233 #[vJ q1, vS, vJ q2, vS, vJ q3, vS, vJ q4, vS, vI p5, vI p6, vI (own_ngt p6), vI (own_u p5), vI (own_v p5), vI (own_w p5), vJ ((own_px p5).toInt64), vS, vJ ((own_py p5).toInt64), vS, vJ ((own_pz p5).toInt64), vS, vR x15_0, vI (own_eq (own_pos (own_px p5) (own_py p5) (own_pz p5)) (own_text ((own_px p5).toInt64) ((own_py p5).toInt64) ((own_pz p5).toInt64))), vJ (own_a2 q1 q4 p6), vS, vJ (own_b2 q2 q4 p6), vS, vJ (own_c2 q3 q4 p6), vS, vU, vU, vU, vU] [(.long q3), (.long q2), (.long q1), (.ref b48), (.ref b48)])) _
      refine st51.trans ?_
      show Steps p.tables e below (T51.setTop (mkF m 236 #[vJ q1, vS, vJ q2, vS, vJ q3, vS, vJ q4, vS, vI p5, vI p6, vI (own_ngt p6), vI (own_u p5), vI (own_v p5), vI (own_w p5), vJ ((own_px p5).toInt64), vS, vJ ((own_py p5).toInt64), vS, vJ ((own_pz p5).toInt64), vS, vR x15_0, vI (own_eq (own_pos (own_px p5) (own_py p5) (own_pz p5)) (own_text ((own_px p5).toInt64) ((own_py p5).toInt64) ((own_pz p5).toInt64))), vJ (own_a2 q1 q4 p6), vS, vJ (own_b2 q2 q4 p6), vS, vJ (own_c2 q3 q4 p6), vS, vU, vU, vU, vU] [(.ref b48)])) _
      refine XS.astore X51.here hx rfl (hb hby at_236) rfl rfl (l' := #[vJ q1, vS, vJ q2, vS, vJ q3, vS, vJ q4, vS, vI p5, vI p6, vI (own_ngt p6), vI (own_u p5), vI (own_v p5), vI (own_w p5), vJ ((own_px p5).toInt64), vS, vJ ((own_py p5).toInt64), vS, vJ ((own_pz p5).toInt64), vS, vR x15_0, vI (own_eq (own_pos (own_px p5) (own_py p5) (own_pz p5)) (own_text ((own_px p5).toInt64) ((own_py p5).toInt64) ((own_pz p5).toInt64))), vJ (own_a2 q1 q4 p6), vS, vJ (own_b2 q2 q4 p6), vS, vJ (own_c2 q3 q4 p6), vS, vR b48, vU, vU, vU]) rfl ?_
      show Steps p.tables e below (T51.setTop (mkF m 238 #[vJ q1, vS, vJ q2, vS, vJ q3, vS, vJ q4, vS, vI p5, vI p6, vI (own_ngt p6), vI (own_u p5), vI (own_v p5), vI (own_w p5), vJ ((own_px p5).toInt64), vS, vJ ((own_py p5).toInt64), vS, vJ ((own_pz p5).toInt64), vS, vR x15_0, vI (own_eq (own_pos (own_px p5) (own_py p5) (own_pz p5)) (own_text ((own_px p5).toInt64) ((own_py p5).toInt64) ((own_pz p5).toInt64))), vJ (own_a2 q1 q4 p6), vS, vJ (own_b2 q2 q4 p6), vS, vJ (own_c2 q3 q4 p6), vS, vR b48, vU, vU, vU] [])) _
      refine st60 _ ?_
      show Steps p.tables e below (T60.setTop (mkF m 241 #[vJ q1, vS, vJ q2, vS, vJ q3, vS, vJ q4, vS, vI p5, vI p6, vI (own_ngt p6), vI (own_u p5), vI (own_v p5), vI (own_w p5), vJ ((own_px p5).toInt64), vS, vJ ((own_py p5).toInt64), vS, vJ ((own_pz p5).toInt64), vS, vR x15_0, vI (own_eq (own_pos (own_px p5) (own_py p5) (own_pz p5)) (own_text ((own_px p5).toInt64) ((own_py p5).toInt64) ((own_pz p5).toInt64))), vJ (own_a2 q1 q4 p6), vS, vJ (own_b2 q2 q4 p6), vS, vJ (own_c2 q3 q4 p6), vS, vR b48, vU, vU, vU] [(.ref b60)])) _
      refine XS.dup X60.here hx rfl (hb hby at_241) rfl rfl ?_
      refine XS.lload X60.here hx rfl (hb hby at_242) rfl ?_
      refine XS.lload X60.here hx rfl (hb hby at_244) rfl ?_
      refine XS.lload X60.here hx rfl (hb hby at_246) rfl ?_
      show Steps p.tables e below (T60.setTop (mkF m 248 #[vJ q1, vS, vJ q2, vS, vJ q3, vS, vJ q4, vS, vI p5, vI p6, vI (own_ngt p6), vI (own_u p5), vI (own_v p5), vI (own_w p5), vJ ((own_px p5).toInt64), vS, vJ ((own_py p5).toInt64), vS, vJ ((own_pz p5).toInt64), vS, vR x15_0, vI (own_eq (own_pos (own_px p5) (own_py p5) (own_pz p5)) (own_text ((own_px p5).toInt64) ((own_py p5).toInt64) ((own_pz p5).toInt64))), vJ (own_a2 q1 q4 p6), vS, vJ (own_b2 q2 q4 p6), vS, vJ (own_c2 q3 q4 p6), vS, vR b48, vU, vU, vU] [(.long (own_c2 q3 q4 p6)), (.long (own_b2 q2 q4 p6)), (.long (own_a2 q1 q4 p6)), (.ref b60), (.ref b60)])) _
      refine st63.trans ?_
      show Steps p.tables e below (T63.setTop (mkF m 251 #[vJ q1, vS, vJ q2, vS, vJ q3, vS, vJ q4, vS, vI p5, vI p6, vI (own_ngt p6), vI (own_u p5), vI (own_v p5), vI (own_w p5), vJ ((own_px p5).toInt64), vS, vJ ((own_py p5).toInt64), vS, vJ ((own_pz p5).toInt64), vS, vR x15_0, vI (own_eq (own_pos (own_px p5) (own_py p5) (own_pz p5)) (own_text ((own_px p5).toInt64) ((own_py p5).toInt64) ((own_pz p5).toInt64))), vJ (own_a2 q1 q4 p6), vS, vJ (own_b2 q2 q4 p6), vS, vJ (own_c2 q3 q4 p6), vS, vR b48, vU, vU, vU] [(.ref b60)])) _
      refine XS.astore X63.here hx rfl (hb hby at_251) rfl rfl (l' := #[vJ q1, vS, vJ q2, vS, vJ q3, vS, vJ q4, vS, vI p5, vI p6, vI (own_ngt p6), vI (own_u p5), vI (own_v p5), vI (own_w p5), vJ ((own_px p5).toInt64), vS, vJ ((own_py p5).toInt64), vS, vJ ((own_pz p5).toInt64), vS, vR x15_0, vI (own_eq (own_pos (own_px p5) (own_py p5) (own_pz p5)) (own_text ((own_px p5).toInt64) ((own_py p5).toInt64) ((own_pz p5).toInt64))), vJ (own_a2 q1 q4 p6), vS, vJ (own_b2 q2 q4 p6), vS, vJ (own_c2 q3 q4 p6), vS, vR b48, vR b60, vU, vU]) rfl ?_
      refine XS.aload X63.here hx rfl (hb hby at_253) rfl rfl ?_
      show Steps p.tables e below (T63.setTop (mkF m 255 #[vJ q1, vS, vJ q2, vS, vJ q3, vS, vJ q4, vS, vI p5, vI p6, vI (own_ngt p6), vI (own_u p5), vI (own_v p5), vI (own_w p5), vJ ((own_px p5).toInt64), vS, vJ ((own_py p5).toInt64), vS, vJ ((own_pz p5).toInt64), vS, vR x15_0, vI (own_eq (own_pos (own_px p5) (own_py p5) (own_pz p5)) (own_text ((own_px p5).toInt64) ((own_py p5).toInt64) ((own_pz p5).toInt64))), vJ (own_a2 q1 q4 p6), vS, vJ (own_b2 q2 q4 p6), vS, vJ (own_c2 q3 q4 p6), vS, vR b48, vR b60, vU, vU] [(.ref b48)])) _
      refine st75.trans ?_
      show Steps p.tables e below (T75.setTop (mkF m 258 #[vJ q1, vS, vJ q2, vS, vJ q3, vS, vJ q4, vS, vI p5, vI p6, vI (own_ngt p6), vI (own_u p5), vI (own_v p5), vI (own_w p5), vJ ((own_px p5).toInt64), vS, vJ ((own_py p5).toInt64), vS, vJ ((own_pz p5).toInt64), vS, vR x15_0, vI (own_eq (own_pos (own_px p5) (own_py p5) (own_pz p5)) (own_text ((own_px p5).toInt64) ((own_py p5).toInt64) ((own_pz p5).toInt64))), vJ (own_a2 q1 q4 p6), vS, vJ (own_b2 q2 q4 p6), vS, vJ (own_c2 q3 q4 p6), vS, vR b48, vR b60, vU, vU] [(.ref x75_0)])) _
      refine XS.aload X75w.here hx rfl (hb hby at_258) rfl rfl ?_
      show Steps p.tables e below (T75.setTop (mkF m 260 #[vJ q1, vS, vJ q2, vS, vJ q3, vS, vJ q4, vS, vI p5, vI p6, vI (own_ngt p6), vI (own_u p5), vI (own_v p5), vI (own_w p5), vJ ((own_px p5).toInt64), vS, vJ ((own_py p5).toInt64), vS, vJ ((own_pz p5).toInt64), vS, vR x15_0, vI (own_eq (own_pos (own_px p5) (own_py p5) (own_pz p5)) (own_text ((own_px p5).toInt64) ((own_py p5).toInt64) ((own_pz p5).toInt64))), vJ (own_a2 q1 q4 p6), vS, vJ (own_b2 q2 q4 p6), vS, vJ (own_c2 q3 q4 p6), vS, vR b48, vR b60, vU, vU] [(.ref b60), (.ref x75_0)])) _
      refine st76.trans ?_
      show Steps p.tables e below (T76.setTop (mkF m 263 #[vJ q1, vS, vJ q2, vS, vJ q3, vS, vJ q4, vS, vI p5, vI p6, vI (own_ngt p6), vI (own_u p5), vI (own_v p5), vI (own_w p5), vJ ((own_px p5).toInt64), vS, vJ ((own_py p5).toInt64), vS, vJ ((own_pz p5).toInt64), vS, vR x15_0, vI (own_eq (own_pos (own_px p5) (own_py p5) (own_pz p5)) (own_text ((own_px p5).toInt64) ((own_py p5).toInt64) ((own_pz p5).toInt64))), vJ (own_a2 q1 q4 p6), vS, vJ (own_b2 q2 q4 p6), vS, vJ (own_c2 q3 q4 p6), vS, vR b48, vR b60, vU, vU] [(.ref x76_0), (.ref x75_0)])) _
      refine st82.trans ?_
      show Steps p.tables e below (T82.setTop (mkF m 266 #[vJ q1, vS, vJ q2, vS, vJ q3, vS, vJ q4, vS, vI p5, vI p6, vI (own_ngt p6), vI (own_u p5), vI (own_v p5), vI (own_w p5), vJ ((own_px p5).toInt64), vS, vJ ((own_py p5).toInt64), vS, vJ ((own_pz p5).toInt64), vS, vR x15_0, vI (own_eq (own_pos (own_px p5) (own_py p5) (own_pz p5)) (own_text ((own_px p5).toInt64) ((own_py p5).toInt64) ((own_pz p5).toInt64))), vJ (own_a2 q1 q4 p6), vS, vJ (own_b2 q2 q4 p6), vS, vJ (own_c2 q3 q4 p6), vS, vR b48, vR b60, vU, vU] [(.int (own_eq (own_text q1 q2 q3) (own_text (own_a2 q1 q4 p6) (own_b2 q2 q4 p6) (own_c2 q3 q4 p6))))])) _
      refine XS.istore X82.here hx rfl (hb hby at_266) rfl (l' := #[vJ q1, vS, vJ q2, vS, vJ q3, vS, vJ q4, vS, vI p5, vI p6, vI (own_ngt p6), vI (own_u p5), vI (own_v p5), vI (own_w p5), vJ ((own_px p5).toInt64), vS, vJ ((own_py p5).toInt64), vS, vJ ((own_pz p5).toInt64), vS, vR x15_0, vI (own_eq (own_pos (own_px p5) (own_py p5) (own_pz p5)) (own_text ((own_px p5).toInt64) ((own_py p5).toInt64) ((own_pz p5).toInt64))), vJ (own_a2 q1 q4 p6), vS, vJ (own_b2 q2 q4 p6), vS, vJ (own_c2 q3 q4 p6), vS, vR b48, vR b60, vI (own_eq (own_text q1 q2 q3) (own_text (own_a2 q1 q4 p6) (own_b2 q2 q4 p6) (own_c2 q3 q4 p6))), vU]) rfl ?_
      show Steps p.tables e below (T82.setTop (mkF m 268 #[vJ q1, vS, vJ q2, vS, vJ q3, vS, vJ q4, vS, vI p5, vI p6, vI (own_ngt p6), vI (own_u p5), vI (own_v p5), vI (own_w p5), vJ ((own_px p5).toInt64), vS, vJ ((own_py p5).toInt64), vS, vJ ((own_pz p5).toInt64), vS, vR x15_0, vI (own_eq (own_pos (own_px p5) (own_py p5) (own_pz p5)) (own_text ((own_px p5).toInt64) ((own_py p5).toInt64) ((own_pz p5).toInt64))), vJ (own_a2 q1 q4 p6), vS, vJ (own_b2 q2 q4 p6), vS, vJ (own_c2 q3 q4 p6), vS, vR b48, vR b60, vI (own_eq (own_text q1 q2 q3) (own_text (own_a2 q1 q4 p6) (own_b2 q2 q4 p6) (own_c2 q3 q4 p6))), vU] [])) _
      exact kt)
    have jn84 : ∀ t, Steps p.tables e below (T82.setTop (mkF m 295 #[vJ q1, vS, vJ q2, vS, vJ q3, vS, vJ q4, vS, vI p5, vI p6, vI (own_ngt p6), vI (own_u p5), vI (own_v p5), vI (own_w p5), vJ ((own_px p5).toInt64), vS, vJ ((own_py p5).toInt64), vS, vJ ((own_pz p5).toInt64), vS, vR x15_0, vI (own_eq (own_pos (own_px p5) (own_py p5) (own_pz p5)) (own_text ((own_px p5).toInt64) ((own_py p5).toInt64) ((own_pz p5).toInt64))), vJ (own_a2 q1 q4 p6), vS, vJ (own_b2 q2 q4 p6), vS, vJ (own_c2 q3 q4 p6), vS, vR b48, vR b60, vI (own_eq (own_text q1 q2 q3) (own_text (own_a2 q1 q4 p6) (own_b2 q2 q4 p6) (own_c2 q3 q4 p6))), vU] [(.int (own_sm q1 q2 q3 q4 p6))])) t → Steps p.tables e below (T82.setTop (mkF m 268 #[vJ q1, vS, vJ q2, vS, vJ q3, vS, vJ q4, vS, vI p5, vI p6, vI (own_ngt p6), vI (own_u p5), vI (own_v p5), vI (own_w p5), vJ ((own_px p5).toInt64), vS, vJ ((own_py p5).toInt64), vS, vJ ((own_pz p5).toInt64), vS, vR x15_0, vI (own_eq (own_pos (own_px p5) (own_py p5) (own_pz p5)) (own_text ((own_px p5).toInt64) ((own_py p5).toInt64) ((own_pz p5).toInt64))), vJ (own_a2 q1 q4 p6), vS, vJ (own_b2 q2 q4 p6), vS, vJ (own_c2 q3 q4 p6), vS, vR b48, vR b60, vI (own_eq (own_text q1 q2 q3) (own_text (own_a2 q1 q4 p6) (own_b2 q2 q4 p6) (own_c2 q3 q4 p6))), vU] [])) t := by
      intro t0 kt0
      have preR84 : ∀ t, Steps p.tables e below (T82.setTop (mkF m 268 #[vJ q1, vS, vJ q2, vS, vJ q3, vS, vJ q4, vS, vI p5, vI p6, vI (own_ngt p6), vI (own_u p5), vI (own_v p5), vI (own_w p5), vJ ((own_px p5).toInt64), vS, vJ ((own_py p5).toInt64), vS, vJ ((own_pz p5).toInt64), vS, vR x15_0, vI (own_eq (own_pos (own_px p5) (own_py p5) (own_pz p5)) (own_text ((own_px p5).toInt64) ((own_py p5).toInt64) ((own_pz p5).toInt64))), vJ (own_a2 q1 q4 p6), vS, vJ (own_b2 q2 q4 p6), vS, vJ (own_c2 q3 q4 p6), vS, vR b48, vR b60, vI (own_eq (own_text q1 q2 q3) (own_text (own_a2 q1 q4 p6) (own_b2 q2 q4 p6) (own_c2 q3 q4 p6))), vU] [])) t → Steps p.tables e below (T82.setTop (mkF m 268 #[vJ q1, vS, vJ q2, vS, vJ q3, vS, vJ q4, vS, vI p5, vI p6, vI (own_ngt p6), vI (own_u p5), vI (own_v p5), vI (own_w p5), vJ ((own_px p5).toInt64), vS, vJ ((own_py p5).toInt64), vS, vJ ((own_pz p5).toInt64), vS, vR x15_0, vI (own_eq (own_pos (own_px p5) (own_py p5) (own_pz p5)) (own_text ((own_px p5).toInt64) ((own_py p5).toInt64) ((own_pz p5).toInt64))), vJ (own_a2 q1 q4 p6), vS, vJ (own_b2 q2 q4 p6), vS, vJ (own_c2 q3 q4 p6), vS, vR b48, vR b60, vI (own_eq (own_text q1 q2 q3) (own_text (own_a2 q1 q4 p6) (own_b2 q2 q4 p6) (own_c2 q3 q4 p6))), vU] [])) t := fun t kt => kt
      have pre86 : ∀ t, Steps p.tables e below (T82.setTop (mkF m 272 #[vJ q1, vS, vJ q2, vS, vJ q3, vS, vJ q4, vS, vI p5, vI p6, vI (own_ngt p6), vI (own_u p5), vI (own_v p5), vI (own_w p5), vJ ((own_px p5).toInt64), vS, vJ ((own_py p5).toInt64), vS, vJ ((own_pz p5).toInt64), vS, vR x15_0, vI (own_eq (own_pos (own_px p5) (own_py p5) (own_pz p5)) (own_text ((own_px p5).toInt64) ((own_py p5).toInt64) ((own_pz p5).toInt64))), vJ (own_a2 q1 q4 p6), vS, vJ (own_b2 q2 q4 p6), vS, vJ (own_c2 q3 q4 p6), vS, vR b48, vR b60, vI (own_eq (own_text q1 q2 q3) (own_text (own_a2 q1 q4 p6) (own_b2 q2 q4 p6) (own_c2 q3 q4 p6))), vU] [(.int (lcmpW q1 (own_a2 q1 q4 p6)))])) t → Steps p.tables e below (T82.setTop (mkF m 268 #[vJ q1, vS, vJ q2, vS, vJ q3, vS, vJ q4, vS, vI p5, vI p6, vI (own_ngt p6), vI (own_u p5), vI (own_v p5), vI (own_w p5), vJ ((own_px p5).toInt64), vS, vJ ((own_py p5).toInt64), vS, vJ ((own_pz p5).toInt64), vS, vR x15_0, vI (own_eq (own_pos (own_px p5) (own_py p5) (own_pz p5)) (own_text ((own_px p5).toInt64) ((own_py p5).toInt64) ((own_pz p5).toInt64))), vJ (own_a2 q1 q4 p6), vS, vJ (own_b2 q2 q4 p6), vS, vJ (own_c2 q3 q4 p6), vS, vR b48, vR b60, vI (own_eq (own_text q1 q2 q3) (own_text (own_a2 q1 q4 p6) (own_b2 q2 q4 p6) (own_c2 q3 q4 p6))), vU] [])) t := fun t kt => preR84 t (by
        show Steps p.tables e below (T82.setTop (mkF m 268 #[vJ q1, vS, vJ q2, vS, vJ q3, vS, vJ q4, vS, vI p5, vI p6, vI (own_ngt p6), vI (own_u p5), vI (own_v p5), vI (own_w p5), vJ ((own_px p5).toInt64), vS, vJ ((own_py p5).toInt64), vS, vJ ((own_pz p5).toInt64), vS, vR x15_0, vI (own_eq (own_pos (own_px p5) (own_py p5) (own_pz p5)) (own_text ((own_px p5).toInt64) ((own_py p5).toInt64) ((own_pz p5).toInt64))), vJ (own_a2 q1 q4 p6), vS, vJ (own_b2 q2 q4 p6), vS, vJ (own_c2 q3 q4 p6), vS, vR b48, vR b60, vI (own_eq (own_text q1 q2 q3) (own_text (own_a2 q1 q4 p6) (own_b2 q2 q4 p6) (own_c2 q3 q4 p6))), vU] [])) _
        refine XS.lloadN X82.here hx rfl (hb hby at_268) rfl ?_
        refine XS.lload X82.here hx rfl (hb hby at_269) rfl ?_
        refine XS.lcmp X82.here hx rfl (hb hby at_271) rfl ?_
        show Steps p.tables e below (T82.setTop (mkF m 272 #[vJ q1, vS, vJ q2, vS, vJ q3, vS, vJ q4, vS, vI p5, vI p6, vI (own_ngt p6), vI (own_u p5), vI (own_v p5), vI (own_w p5), vJ ((own_px p5).toInt64), vS, vJ ((own_py p5).toInt64), vS, vJ ((own_pz p5).toInt64), vS, vR x15_0, vI (own_eq (own_pos (own_px p5) (own_py p5) (own_pz p5)) (own_text ((own_px p5).toInt64) ((own_py p5).toInt64) ((own_pz p5).toInt64))), vJ (own_a2 q1 q4 p6), vS, vJ (own_b2 q2 q4 p6), vS, vJ (own_c2 q3 q4 p6), vS, vR b48, vR b60, vI (own_eq (own_text q1 q2 q3) (own_text (own_a2 q1 q4 p6) (own_b2 q2 q4 p6) (own_c2 q3 q4 p6))), vU] [(.int (lcmpW q1 (own_a2 q1 q4 p6)))])) _
        exact kt)
      by_cases hc272_85 : q1 = (own_a2 q1 q4 p6)
      · have pre88 : ∀ t, Steps p.tables e below (T82.setTop (mkF m 279 #[vJ q1, vS, vJ q2, vS, vJ q3, vS, vJ q4, vS, vI p5, vI p6, vI (own_ngt p6), vI (own_u p5), vI (own_v p5), vI (own_w p5), vJ ((own_px p5).toInt64), vS, vJ ((own_py p5).toInt64), vS, vJ ((own_pz p5).toInt64), vS, vR x15_0, vI (own_eq (own_pos (own_px p5) (own_py p5) (own_pz p5)) (own_text ((own_px p5).toInt64) ((own_py p5).toInt64) ((own_pz p5).toInt64))), vJ (own_a2 q1 q4 p6), vS, vJ (own_b2 q2 q4 p6), vS, vJ (own_c2 q3 q4 p6), vS, vR b48, vR b60, vI (own_eq (own_text q1 q2 q3) (own_text (own_a2 q1 q4 p6) (own_b2 q2 q4 p6) (own_c2 q3 q4 p6))), vU] [(.int (lcmpW q2 (own_b2 q2 q4 p6)))])) t → Steps p.tables e below (T82.setTop (mkF m 268 #[vJ q1, vS, vJ q2, vS, vJ q3, vS, vJ q4, vS, vI p5, vI p6, vI (own_ngt p6), vI (own_u p5), vI (own_v p5), vI (own_w p5), vJ ((own_px p5).toInt64), vS, vJ ((own_py p5).toInt64), vS, vJ ((own_pz p5).toInt64), vS, vR x15_0, vI (own_eq (own_pos (own_px p5) (own_py p5) (own_pz p5)) (own_text ((own_px p5).toInt64) ((own_py p5).toInt64) ((own_pz p5).toInt64))), vJ (own_a2 q1 q4 p6), vS, vJ (own_b2 q2 q4 p6), vS, vJ (own_c2 q3 q4 p6), vS, vR b48, vR b60, vI (own_eq (own_text q1 q2 q3) (own_text (own_a2 q1 q4 p6) (own_b2 q2 q4 p6) (own_c2 q3 q4 p6))), vU] [])) t := fun t kt => pre86 t (by
          show Steps p.tables e below (T82.setTop (mkF m 272 #[vJ q1, vS, vJ q2, vS, vJ q3, vS, vJ q4, vS, vI p5, vI p6, vI (own_ngt p6), vI (own_u p5), vI (own_v p5), vI (own_w p5), vJ ((own_px p5).toInt64), vS, vJ ((own_py p5).toInt64), vS, vJ ((own_pz p5).toInt64), vS, vR x15_0, vI (own_eq (own_pos (own_px p5) (own_py p5) (own_pz p5)) (own_text ((own_px p5).toInt64) ((own_py p5).toInt64) ((own_pz p5).toInt64))), vJ (own_a2 q1 q4 p6), vS, vJ (own_b2 q2 q4 p6), vS, vJ (own_c2 q3 q4 p6), vS, vR b48, vR b60, vI (own_eq (own_text q1 q2 q3) (own_text (own_a2 q1 q4 p6) (own_b2 q2 q4 p6) (own_c2 q3 q4 p6))), vU] [(.int (lcmpW q1 (own_a2 q1 q4 p6)))])) _
          refine XS.ifNo X82.here hx rfl (hb hby at_272) rfl ((if0 _ _).trans (teq ((lw_eq q1 (own_a2 q1 q4 p6)).mpr hc272_85)).2) ?_
          refine XS.lloadN X82.here hx rfl (hb hby at_275) rfl ?_
          refine XS.lload X82.here hx rfl (hb hby at_276) rfl ?_
          refine XS.lcmp X82.here hx rfl (hb hby at_278) rfl ?_
          show Steps p.tables e below (T82.setTop (mkF m 279 #[vJ q1, vS, vJ q2, vS, vJ q3, vS, vJ q4, vS, vI p5, vI p6, vI (own_ngt p6), vI (own_u p5), vI (own_v p5), vI (own_w p5), vJ ((own_px p5).toInt64), vS, vJ ((own_py p5).toInt64), vS, vJ ((own_pz p5).toInt64), vS, vR x15_0, vI (own_eq (own_pos (own_px p5) (own_py p5) (own_pz p5)) (own_text ((own_px p5).toInt64) ((own_py p5).toInt64) ((own_pz p5).toInt64))), vJ (own_a2 q1 q4 p6), vS, vJ (own_b2 q2 q4 p6), vS, vJ (own_c2 q3 q4 p6), vS, vR b48, vR b60, vI (own_eq (own_text q1 q2 q3) (own_text (own_a2 q1 q4 p6) (own_b2 q2 q4 p6) (own_c2 q3 q4 p6))), vU] [(.int (lcmpW q2 (own_b2 q2 q4 p6)))])) _
          exact kt)
        by_cases hc279_87 : q2 = (own_b2 q2 q4 p6)
        · have pre90 : ∀ t, Steps p.tables e below (T82.setTop (mkF m 287 #[vJ q1, vS, vJ q2, vS, vJ q3, vS, vJ q4, vS, vI p5, vI p6, vI (own_ngt p6), vI (own_u p5), vI (own_v p5), vI (own_w p5), vJ ((own_px p5).toInt64), vS, vJ ((own_py p5).toInt64), vS, vJ ((own_pz p5).toInt64), vS, vR x15_0, vI (own_eq (own_pos (own_px p5) (own_py p5) (own_pz p5)) (own_text ((own_px p5).toInt64) ((own_py p5).toInt64) ((own_pz p5).toInt64))), vJ (own_a2 q1 q4 p6), vS, vJ (own_b2 q2 q4 p6), vS, vJ (own_c2 q3 q4 p6), vS, vR b48, vR b60, vI (own_eq (own_text q1 q2 q3) (own_text (own_a2 q1 q4 p6) (own_b2 q2 q4 p6) (own_c2 q3 q4 p6))), vU] [(.int (lcmpW q3 (own_c2 q3 q4 p6)))])) t → Steps p.tables e below (T82.setTop (mkF m 268 #[vJ q1, vS, vJ q2, vS, vJ q3, vS, vJ q4, vS, vI p5, vI p6, vI (own_ngt p6), vI (own_u p5), vI (own_v p5), vI (own_w p5), vJ ((own_px p5).toInt64), vS, vJ ((own_py p5).toInt64), vS, vJ ((own_pz p5).toInt64), vS, vR x15_0, vI (own_eq (own_pos (own_px p5) (own_py p5) (own_pz p5)) (own_text ((own_px p5).toInt64) ((own_py p5).toInt64) ((own_pz p5).toInt64))), vJ (own_a2 q1 q4 p6), vS, vJ (own_b2 q2 q4 p6), vS, vJ (own_c2 q3 q4 p6), vS, vR b48, vR b60, vI (own_eq (own_text q1 q2 q3) (own_text (own_a2 q1 q4 p6) (own_b2 q2 q4 p6) (own_c2 q3 q4 p6))), vU] [])) t := fun t kt => pre88 t (by
            show Steps p.tables e below (T82.setTop (mkF m 279 #[vJ q1, vS, vJ q2, vS, vJ q3, vS, vJ q4, vS, vI p5, vI p6, vI (own_ngt p6), vI (own_u p5), vI (own_v p5), vI (own_w p5), vJ ((own_px p5).toInt64), vS, vJ ((own_py p5).toInt64), vS, vJ ((own_pz p5).toInt64), vS, vR x15_0, vI (own_eq (own_pos (own_px p5) (own_py p5) (own_pz p5)) (own_text ((own_px p5).toInt64) ((own_py p5).toInt64) ((own_pz p5).toInt64))), vJ (own_a2 q1 q4 p6), vS, vJ (own_b2 q2 q4 p6), vS, vJ (own_c2 q3 q4 p6), vS, vR b48, vR b60, vI (own_eq (own_text q1 q2 q3) (own_text (own_a2 q1 q4 p6) (own_b2 q2 q4 p6) (own_c2 q3 q4 p6))), vU] [(.int (lcmpW q2 (own_b2 q2 q4 p6)))])) _
            refine XS.ifNo X82.here hx rfl (hb hby at_279) rfl ((if0 _ _).trans (teq ((lw_eq q2 (own_b2 q2 q4 p6)).mpr hc279_87)).2) ?_
            refine XS.lload X82.here hx rfl (hb hby at_282) rfl ?_
            refine XS.lload X82.here hx rfl (hb hby at_284) rfl ?_
            refine XS.lcmp X82.here hx rfl (hb hby at_286) rfl ?_
            show Steps p.tables e below (T82.setTop (mkF m 287 #[vJ q1, vS, vJ q2, vS, vJ q3, vS, vJ q4, vS, vI p5, vI p6, vI (own_ngt p6), vI (own_u p5), vI (own_v p5), vI (own_w p5), vJ ((own_px p5).toInt64), vS, vJ ((own_py p5).toInt64), vS, vJ ((own_pz p5).toInt64), vS, vR x15_0, vI (own_eq (own_pos (own_px p5) (own_py p5) (own_pz p5)) (own_text ((own_px p5).toInt64) ((own_py p5).toInt64) ((own_pz p5).toInt64))), vJ (own_a2 q1 q4 p6), vS, vJ (own_b2 q2 q4 p6), vS, vJ (own_c2 q3 q4 p6), vS, vR b48, vR b60, vI (own_eq (own_text q1 q2 q3) (own_text (own_a2 q1 q4 p6) (own_b2 q2 q4 p6) (own_c2 q3 q4 p6))), vU] [(.int (lcmpW q3 (own_c2 q3 q4 p6)))])) _
            exact kt)
          by_cases hc287_89 : q3 = (own_c2 q3 q4 p6)
          · have pre91 : ∀ t, Steps p.tables e below (T82.setTop (mkF m 295 #[vJ q1, vS, vJ q2, vS, vJ q3, vS, vJ q4, vS, vI p5, vI p6, vI (own_ngt p6), vI (own_u p5), vI (own_v p5), vI (own_w p5), vJ ((own_px p5).toInt64), vS, vJ ((own_py p5).toInt64), vS, vJ ((own_pz p5).toInt64), vS, vR x15_0, vI (own_eq (own_pos (own_px p5) (own_py p5) (own_pz p5)) (own_text ((own_px p5).toInt64) ((own_py p5).toInt64) ((own_pz p5).toInt64))), vJ (own_a2 q1 q4 p6), vS, vJ (own_b2 q2 q4 p6), vS, vJ (own_c2 q3 q4 p6), vS, vR b48, vR b60, vI (own_eq (own_text q1 q2 q3) (own_text (own_a2 q1 q4 p6) (own_b2 q2 q4 p6) (own_c2 q3 q4 p6))), vU] [(.int (1 : Int32))])) t → Steps p.tables e below (T82.setTop (mkF m 268 #[vJ q1, vS, vJ q2, vS, vJ q3, vS, vJ q4, vS, vI p5, vI p6, vI (own_ngt p6), vI (own_u p5), vI (own_v p5), vI (own_w p5), vJ ((own_px p5).toInt64), vS, vJ ((own_py p5).toInt64), vS, vJ ((own_pz p5).toInt64), vS, vR x15_0, vI (own_eq (own_pos (own_px p5) (own_py p5) (own_pz p5)) (own_text ((own_px p5).toInt64) ((own_py p5).toInt64) ((own_pz p5).toInt64))), vJ (own_a2 q1 q4 p6), vS, vJ (own_b2 q2 q4 p6), vS, vJ (own_c2 q3 q4 p6), vS, vR b48, vR b60, vI (own_eq (own_text q1 q2 q3) (own_text (own_a2 q1 q4 p6) (own_b2 q2 q4 p6) (own_c2 q3 q4 p6))), vU] [])) t := fun t kt => pre90 t (by
              show Steps p.tables e below (T82.setTop (mkF m 287 #[vJ q1, vS, vJ q2, vS, vJ q3, vS, vJ q4, vS, vI p5, vI p6, vI (own_ngt p6), vI (own_u p5), vI (own_v p5), vI (own_w p5), vJ ((own_px p5).toInt64), vS, vJ ((own_py p5).toInt64), vS, vJ ((own_pz p5).toInt64), vS, vR x15_0, vI (own_eq (own_pos (own_px p5) (own_py p5) (own_pz p5)) (own_text ((own_px p5).toInt64) ((own_py p5).toInt64) ((own_pz p5).toInt64))), vJ (own_a2 q1 q4 p6), vS, vJ (own_b2 q2 q4 p6), vS, vJ (own_c2 q3 q4 p6), vS, vR b48, vR b60, vI (own_eq (own_text q1 q2 q3) (own_text (own_a2 q1 q4 p6) (own_b2 q2 q4 p6) (own_c2 q3 q4 p6))), vU] [(.int (lcmpW q3 (own_c2 q3 q4 p6)))])) _
              refine XS.ifNo X82.here hx rfl (hb hby at_287) rfl ((if0 _ _).trans (teq ((lw_eq q3 (own_c2 q3 q4 p6)).mpr hc287_89)).2) ?_
              refine XS.iconst X82.here hx rfl (hb hby at_290) ?_
              refine XS.goto X82.here hx rfl (pc0 := 291) (pc' := 295) rfl (hb hby at_291) (by decide) (by decide) ?_
              show Steps p.tables e below (T82.setTop (mkF m 295 #[vJ q1, vS, vJ q2, vS, vJ q3, vS, vJ q4, vS, vI p5, vI p6, vI (own_ngt p6), vI (own_u p5), vI (own_v p5), vI (own_w p5), vJ ((own_px p5).toInt64), vS, vJ ((own_py p5).toInt64), vS, vJ ((own_pz p5).toInt64), vS, vR x15_0, vI (own_eq (own_pos (own_px p5) (own_py p5) (own_pz p5)) (own_text ((own_px p5).toInt64) ((own_py p5).toInt64) ((own_pz p5).toInt64))), vJ (own_a2 q1 q4 p6), vS, vJ (own_b2 q2 q4 p6), vS, vJ (own_c2 q3 q4 p6), vS, vR b48, vR b60, vI (own_eq (own_text q1 q2 q3) (own_text (own_a2 q1 q4 p6) (own_b2 q2 q4 p6) (own_c2 q3 q4 p6))), vU] [(.int (1 : Int32))])) _
              exact kt)
            have qe : own_sm q1 q2 q3 q4 p6 = (1 : Int32) := by unfold own_sm; rw [if_pos hc272_85, if_pos hc279_87, if_pos hc287_89]
            rw [qe] at kt0
            exact pre91 _ kt0
          · have pre92 : ∀ t, Steps p.tables e below (T82.setTop (mkF m 295 #[vJ q1, vS, vJ q2, vS, vJ q3, vS, vJ q4, vS, vI p5, vI p6, vI (own_ngt p6), vI (own_u p5), vI (own_v p5), vI (own_w p5), vJ ((own_px p5).toInt64), vS, vJ ((own_py p5).toInt64), vS, vJ ((own_pz p5).toInt64), vS, vR x15_0, vI (own_eq (own_pos (own_px p5) (own_py p5) (own_pz p5)) (own_text ((own_px p5).toInt64) ((own_py p5).toInt64) ((own_pz p5).toInt64))), vJ (own_a2 q1 q4 p6), vS, vJ (own_b2 q2 q4 p6), vS, vJ (own_c2 q3 q4 p6), vS, vR b48, vR b60, vI (own_eq (own_text q1 q2 q3) (own_text (own_a2 q1 q4 p6) (own_b2 q2 q4 p6) (own_c2 q3 q4 p6))), vU] [(.int (0 : Int32))])) t → Steps p.tables e below (T82.setTop (mkF m 268 #[vJ q1, vS, vJ q2, vS, vJ q3, vS, vJ q4, vS, vI p5, vI p6, vI (own_ngt p6), vI (own_u p5), vI (own_v p5), vI (own_w p5), vJ ((own_px p5).toInt64), vS, vJ ((own_py p5).toInt64), vS, vJ ((own_pz p5).toInt64), vS, vR x15_0, vI (own_eq (own_pos (own_px p5) (own_py p5) (own_pz p5)) (own_text ((own_px p5).toInt64) ((own_py p5).toInt64) ((own_pz p5).toInt64))), vJ (own_a2 q1 q4 p6), vS, vJ (own_b2 q2 q4 p6), vS, vJ (own_c2 q3 q4 p6), vS, vR b48, vR b60, vI (own_eq (own_text q1 q2 q3) (own_text (own_a2 q1 q4 p6) (own_b2 q2 q4 p6) (own_c2 q3 q4 p6))), vU] [])) t := fun t kt => pre90 t (by
              show Steps p.tables e below (T82.setTop (mkF m 287 #[vJ q1, vS, vJ q2, vS, vJ q3, vS, vJ q4, vS, vI p5, vI p6, vI (own_ngt p6), vI (own_u p5), vI (own_v p5), vI (own_w p5), vJ ((own_px p5).toInt64), vS, vJ ((own_py p5).toInt64), vS, vJ ((own_pz p5).toInt64), vS, vR x15_0, vI (own_eq (own_pos (own_px p5) (own_py p5) (own_pz p5)) (own_text ((own_px p5).toInt64) ((own_py p5).toInt64) ((own_pz p5).toInt64))), vJ (own_a2 q1 q4 p6), vS, vJ (own_b2 q2 q4 p6), vS, vJ (own_c2 q3 q4 p6), vS, vR b48, vR b60, vI (own_eq (own_text q1 q2 q3) (own_text (own_a2 q1 q4 p6) (own_b2 q2 q4 p6) (own_c2 q3 q4 p6))), vU] [(.int (lcmpW q3 (own_c2 q3 q4 p6)))])) _
              refine XS.ifYes X82.here hx rfl (pc0 := 287) (pc' := 294) rfl (hb hby at_287) rfl ((if0 _ _).trans (feq (mt (lw_eq q3 (own_c2 q3 q4 p6)).mp hc287_89)).2) (by decide) (by decide) ?_
              refine XS.iconst X82.here hx rfl (hb hby at_294) ?_
              show Steps p.tables e below (T82.setTop (mkF m 295 #[vJ q1, vS, vJ q2, vS, vJ q3, vS, vJ q4, vS, vI p5, vI p6, vI (own_ngt p6), vI (own_u p5), vI (own_v p5), vI (own_w p5), vJ ((own_px p5).toInt64), vS, vJ ((own_py p5).toInt64), vS, vJ ((own_pz p5).toInt64), vS, vR x15_0, vI (own_eq (own_pos (own_px p5) (own_py p5) (own_pz p5)) (own_text ((own_px p5).toInt64) ((own_py p5).toInt64) ((own_pz p5).toInt64))), vJ (own_a2 q1 q4 p6), vS, vJ (own_b2 q2 q4 p6), vS, vJ (own_c2 q3 q4 p6), vS, vR b48, vR b60, vI (own_eq (own_text q1 q2 q3) (own_text (own_a2 q1 q4 p6) (own_b2 q2 q4 p6) (own_c2 q3 q4 p6))), vU] [(.int (0 : Int32))])) _
              exact kt)
            have qe : own_sm q1 q2 q3 q4 p6 = (0 : Int32) := by unfold own_sm; rw [if_pos hc272_85, if_pos hc279_87, if_neg hc287_89]
            rw [qe] at kt0
            exact pre92 _ kt0
        · have pre93 : ∀ t, Steps p.tables e below (T82.setTop (mkF m 295 #[vJ q1, vS, vJ q2, vS, vJ q3, vS, vJ q4, vS, vI p5, vI p6, vI (own_ngt p6), vI (own_u p5), vI (own_v p5), vI (own_w p5), vJ ((own_px p5).toInt64), vS, vJ ((own_py p5).toInt64), vS, vJ ((own_pz p5).toInt64), vS, vR x15_0, vI (own_eq (own_pos (own_px p5) (own_py p5) (own_pz p5)) (own_text ((own_px p5).toInt64) ((own_py p5).toInt64) ((own_pz p5).toInt64))), vJ (own_a2 q1 q4 p6), vS, vJ (own_b2 q2 q4 p6), vS, vJ (own_c2 q3 q4 p6), vS, vR b48, vR b60, vI (own_eq (own_text q1 q2 q3) (own_text (own_a2 q1 q4 p6) (own_b2 q2 q4 p6) (own_c2 q3 q4 p6))), vU] [(.int (0 : Int32))])) t → Steps p.tables e below (T82.setTop (mkF m 268 #[vJ q1, vS, vJ q2, vS, vJ q3, vS, vJ q4, vS, vI p5, vI p6, vI (own_ngt p6), vI (own_u p5), vI (own_v p5), vI (own_w p5), vJ ((own_px p5).toInt64), vS, vJ ((own_py p5).toInt64), vS, vJ ((own_pz p5).toInt64), vS, vR x15_0, vI (own_eq (own_pos (own_px p5) (own_py p5) (own_pz p5)) (own_text ((own_px p5).toInt64) ((own_py p5).toInt64) ((own_pz p5).toInt64))), vJ (own_a2 q1 q4 p6), vS, vJ (own_b2 q2 q4 p6), vS, vJ (own_c2 q3 q4 p6), vS, vR b48, vR b60, vI (own_eq (own_text q1 q2 q3) (own_text (own_a2 q1 q4 p6) (own_b2 q2 q4 p6) (own_c2 q3 q4 p6))), vU] [])) t := fun t kt => pre88 t (by
            show Steps p.tables e below (T82.setTop (mkF m 279 #[vJ q1, vS, vJ q2, vS, vJ q3, vS, vJ q4, vS, vI p5, vI p6, vI (own_ngt p6), vI (own_u p5), vI (own_v p5), vI (own_w p5), vJ ((own_px p5).toInt64), vS, vJ ((own_py p5).toInt64), vS, vJ ((own_pz p5).toInt64), vS, vR x15_0, vI (own_eq (own_pos (own_px p5) (own_py p5) (own_pz p5)) (own_text ((own_px p5).toInt64) ((own_py p5).toInt64) ((own_pz p5).toInt64))), vJ (own_a2 q1 q4 p6), vS, vJ (own_b2 q2 q4 p6), vS, vJ (own_c2 q3 q4 p6), vS, vR b48, vR b60, vI (own_eq (own_text q1 q2 q3) (own_text (own_a2 q1 q4 p6) (own_b2 q2 q4 p6) (own_c2 q3 q4 p6))), vU] [(.int (lcmpW q2 (own_b2 q2 q4 p6)))])) _
            refine XS.ifYes X82.here hx rfl (pc0 := 279) (pc' := 294) rfl (hb hby at_279) rfl ((if0 _ _).trans (feq (mt (lw_eq q2 (own_b2 q2 q4 p6)).mp hc279_87)).2) (by decide) (by decide) ?_
            refine XS.iconst X82.here hx rfl (hb hby at_294) ?_
            show Steps p.tables e below (T82.setTop (mkF m 295 #[vJ q1, vS, vJ q2, vS, vJ q3, vS, vJ q4, vS, vI p5, vI p6, vI (own_ngt p6), vI (own_u p5), vI (own_v p5), vI (own_w p5), vJ ((own_px p5).toInt64), vS, vJ ((own_py p5).toInt64), vS, vJ ((own_pz p5).toInt64), vS, vR x15_0, vI (own_eq (own_pos (own_px p5) (own_py p5) (own_pz p5)) (own_text ((own_px p5).toInt64) ((own_py p5).toInt64) ((own_pz p5).toInt64))), vJ (own_a2 q1 q4 p6), vS, vJ (own_b2 q2 q4 p6), vS, vJ (own_c2 q3 q4 p6), vS, vR b48, vR b60, vI (own_eq (own_text q1 q2 q3) (own_text (own_a2 q1 q4 p6) (own_b2 q2 q4 p6) (own_c2 q3 q4 p6))), vU] [(.int (0 : Int32))])) _
            exact kt)
          have qe : own_sm q1 q2 q3 q4 p6 = (0 : Int32) := by unfold own_sm; rw [if_pos hc272_85, if_neg hc279_87]
          rw [qe] at kt0
          exact pre93 _ kt0
      · have pre94 : ∀ t, Steps p.tables e below (T82.setTop (mkF m 295 #[vJ q1, vS, vJ q2, vS, vJ q3, vS, vJ q4, vS, vI p5, vI p6, vI (own_ngt p6), vI (own_u p5), vI (own_v p5), vI (own_w p5), vJ ((own_px p5).toInt64), vS, vJ ((own_py p5).toInt64), vS, vJ ((own_pz p5).toInt64), vS, vR x15_0, vI (own_eq (own_pos (own_px p5) (own_py p5) (own_pz p5)) (own_text ((own_px p5).toInt64) ((own_py p5).toInt64) ((own_pz p5).toInt64))), vJ (own_a2 q1 q4 p6), vS, vJ (own_b2 q2 q4 p6), vS, vJ (own_c2 q3 q4 p6), vS, vR b48, vR b60, vI (own_eq (own_text q1 q2 q3) (own_text (own_a2 q1 q4 p6) (own_b2 q2 q4 p6) (own_c2 q3 q4 p6))), vU] [(.int (0 : Int32))])) t → Steps p.tables e below (T82.setTop (mkF m 268 #[vJ q1, vS, vJ q2, vS, vJ q3, vS, vJ q4, vS, vI p5, vI p6, vI (own_ngt p6), vI (own_u p5), vI (own_v p5), vI (own_w p5), vJ ((own_px p5).toInt64), vS, vJ ((own_py p5).toInt64), vS, vJ ((own_pz p5).toInt64), vS, vR x15_0, vI (own_eq (own_pos (own_px p5) (own_py p5) (own_pz p5)) (own_text ((own_px p5).toInt64) ((own_py p5).toInt64) ((own_pz p5).toInt64))), vJ (own_a2 q1 q4 p6), vS, vJ (own_b2 q2 q4 p6), vS, vJ (own_c2 q3 q4 p6), vS, vR b48, vR b60, vI (own_eq (own_text q1 q2 q3) (own_text (own_a2 q1 q4 p6) (own_b2 q2 q4 p6) (own_c2 q3 q4 p6))), vU] [])) t := fun t kt => pre86 t (by
          show Steps p.tables e below (T82.setTop (mkF m 272 #[vJ q1, vS, vJ q2, vS, vJ q3, vS, vJ q4, vS, vI p5, vI p6, vI (own_ngt p6), vI (own_u p5), vI (own_v p5), vI (own_w p5), vJ ((own_px p5).toInt64), vS, vJ ((own_py p5).toInt64), vS, vJ ((own_pz p5).toInt64), vS, vR x15_0, vI (own_eq (own_pos (own_px p5) (own_py p5) (own_pz p5)) (own_text ((own_px p5).toInt64) ((own_py p5).toInt64) ((own_pz p5).toInt64))), vJ (own_a2 q1 q4 p6), vS, vJ (own_b2 q2 q4 p6), vS, vJ (own_c2 q3 q4 p6), vS, vR b48, vR b60, vI (own_eq (own_text q1 q2 q3) (own_text (own_a2 q1 q4 p6) (own_b2 q2 q4 p6) (own_c2 q3 q4 p6))), vU] [(.int (lcmpW q1 (own_a2 q1 q4 p6)))])) _
          refine XS.ifYes X82.here hx rfl (pc0 := 272) (pc' := 294) rfl (hb hby at_272) rfl ((if0 _ _).trans (feq (mt (lw_eq q1 (own_a2 q1 q4 p6)).mp hc272_85)).2) (by decide) (by decide) ?_
          refine XS.iconst X82.here hx rfl (hb hby at_294) ?_
          show Steps p.tables e below (T82.setTop (mkF m 295 #[vJ q1, vS, vJ q2, vS, vJ q3, vS, vJ q4, vS, vI p5, vI p6, vI (own_ngt p6), vI (own_u p5), vI (own_v p5), vI (own_w p5), vJ ((own_px p5).toInt64), vS, vJ ((own_py p5).toInt64), vS, vJ ((own_pz p5).toInt64), vS, vR x15_0, vI (own_eq (own_pos (own_px p5) (own_py p5) (own_pz p5)) (own_text ((own_px p5).toInt64) ((own_py p5).toInt64) ((own_pz p5).toInt64))), vJ (own_a2 q1 q4 p6), vS, vJ (own_b2 q2 q4 p6), vS, vJ (own_c2 q3 q4 p6), vS, vR b48, vR b60, vI (own_eq (own_text q1 q2 q3) (own_text (own_a2 q1 q4 p6) (own_b2 q2 q4 p6) (own_c2 q3 q4 p6))), vU] [(.int (0 : Int32))])) _
          exact kt)
        have qe : own_sm q1 q2 q3 q4 p6 = (0 : Int32) := by unfold own_sm; rw [if_neg hc272_85]
        rw [qe] at kt0
        exact pre94 _ kt0
    have pre95 : ∀ t, Steps p.tables e below (T82.setTop (mkF m 295 #[vJ q1, vS, vJ q2, vS, vJ q3, vS, vJ q4, vS, vI p5, vI p6, vI (own_ngt p6), vI (own_u p5), vI (own_v p5), vI (own_w p5), vJ ((own_px p5).toInt64), vS, vJ ((own_py p5).toInt64), vS, vJ ((own_pz p5).toInt64), vS, vR x15_0, vI (own_eq (own_pos (own_px p5) (own_py p5) (own_pz p5)) (own_text ((own_px p5).toInt64) ((own_py p5).toInt64) ((own_pz p5).toInt64))), vJ (own_a2 q1 q4 p6), vS, vJ (own_b2 q2 q4 p6), vS, vJ (own_c2 q3 q4 p6), vS, vR b48, vR b60, vI (own_eq (own_text q1 q2 q3) (own_text (own_a2 q1 q4 p6) (own_b2 q2 q4 p6) (own_c2 q3 q4 p6))), vU] [(.int (own_sm q1 q2 q3 q4 p6))])) t → Steps p.tables e below (s₁.setTop (entryFrame m #[(.long q1), (.long q2), (.long q3), (.long q4), (.int p5), (.int p6)] maxLocals)) t := fun t kt => pre83 t (jn84 t kt)
    have hc299_96 : ¬ ((own_eq (own_pos (own_px p5) (own_py p5) (own_pz p5)) (own_text ((own_px p5).toInt64) ((own_py p5).toInt64) ((own_pz p5).toInt64))) = (0 : Int32)) := own_ex (own_pos_text (own_rpx p5) (own_rpy p5) (own_rpz p5))
    have hc306_97 : (own_eq (own_text q1 q2 q3) (own_text (own_a2 q1 q4 p6) (own_b2 q2 q4 p6) (own_c2 q3 q4 p6))) = (own_sm q1 q2 q3 q4 p6) := own_fin q1 q2 q3 q4 p6
    obtain ⟨fs, hr, hrun, hended, hEW⟩ := X82.leaveW hS76 (by rw [e82]; exact (Nat.le_refl _)) (v := some (.int (1 : Int32))) (fun h => by rw [Bd.returns] at h; cases h)
    refine ⟨_, _, pre95 _ ?_, hrun, hended, _, _, rfl, ?_, ⟨_, rfl⟩, hEW.2.1, hEW.2.2.1, hEW.2.2.2.mono (by decide) (by decide)⟩
    · show Steps p.tables e below (T82.setTop (mkF m 295 #[vJ q1, vS, vJ q2, vS, vJ q3, vS, vJ q4, vS, vI p5, vI p6, vI (own_ngt p6), vI (own_u p5), vI (own_v p5), vI (own_w p5), vJ ((own_px p5).toInt64), vS, vJ ((own_py p5).toInt64), vS, vJ ((own_pz p5).toInt64), vS, vR x15_0, vI (own_eq (own_pos (own_px p5) (own_py p5) (own_pz p5)) (own_text ((own_px p5).toInt64) ((own_py p5).toInt64) ((own_pz p5).toInt64))), vJ (own_a2 q1 q4 p6), vS, vJ (own_b2 q2 q4 p6), vS, vJ (own_c2 q3 q4 p6), vS, vR b48, vR b60, vI (own_eq (own_text q1 q2 q3) (own_text (own_a2 q1 q4 p6) (own_b2 q2 q4 p6) (own_c2 q3 q4 p6))), vU] [(.int (own_sm q1 q2 q3 q4 p6))])) _
      refine XS.istore X82.here hx rfl (hb hby at_295) rfl (l' := #[vJ q1, vS, vJ q2, vS, vJ q3, vS, vJ q4, vS, vI p5, vI p6, vI (own_ngt p6), vI (own_u p5), vI (own_v p5), vI (own_w p5), vJ ((own_px p5).toInt64), vS, vJ ((own_py p5).toInt64), vS, vJ ((own_pz p5).toInt64), vS, vR x15_0, vI (own_eq (own_pos (own_px p5) (own_py p5) (own_pz p5)) (own_text ((own_px p5).toInt64) ((own_py p5).toInt64) ((own_pz p5).toInt64))), vJ (own_a2 q1 q4 p6), vS, vJ (own_b2 q2 q4 p6), vS, vJ (own_c2 q3 q4 p6), vS, vR b48, vR b60, vI (own_eq (own_text q1 q2 q3) (own_text (own_a2 q1 q4 p6) (own_b2 q2 q4 p6) (own_c2 q3 q4 p6))), vI (own_sm q1 q2 q3 q4 p6)]) rfl ?_
      refine XS.iload X82.here hx rfl (hb hby at_297) rfl ?_
      show Steps p.tables e below (T82.setTop (mkF m 299 #[vJ q1, vS, vJ q2, vS, vJ q3, vS, vJ q4, vS, vI p5, vI p6, vI (own_ngt p6), vI (own_u p5), vI (own_v p5), vI (own_w p5), vJ ((own_px p5).toInt64), vS, vJ ((own_py p5).toInt64), vS, vJ ((own_pz p5).toInt64), vS, vR x15_0, vI (own_eq (own_pos (own_px p5) (own_py p5) (own_pz p5)) (own_text ((own_px p5).toInt64) ((own_py p5).toInt64) ((own_pz p5).toInt64))), vJ (own_a2 q1 q4 p6), vS, vJ (own_b2 q2 q4 p6), vS, vJ (own_c2 q3 q4 p6), vS, vR b48, vR b60, vI (own_eq (own_text q1 q2 q3) (own_text (own_a2 q1 q4 p6) (own_b2 q2 q4 p6) (own_c2 q3 q4 p6))), vI (own_sm q1 q2 q3 q4 p6)] [(.int (own_eq (own_pos (own_px p5) (own_py p5) (own_pz p5)) (own_text ((own_px p5).toInt64) ((own_py p5).toInt64) ((own_pz p5).toInt64))))])) _
      refine XS.ifNo X82.here hx rfl (hb hby at_299) rfl ((if0 _ _).trans (feq hc299_96).1) ?_
      refine XS.iload X82.here hx rfl (hb hby at_302) rfl ?_
      refine XS.iload X82.here hx rfl (hb hby at_304) rfl ?_
      show Steps p.tables e below (T82.setTop (mkF m 306 #[vJ q1, vS, vJ q2, vS, vJ q3, vS, vJ q4, vS, vI p5, vI p6, vI (own_ngt p6), vI (own_u p5), vI (own_v p5), vI (own_w p5), vJ ((own_px p5).toInt64), vS, vJ ((own_py p5).toInt64), vS, vJ ((own_pz p5).toInt64), vS, vR x15_0, vI (own_eq (own_pos (own_px p5) (own_py p5) (own_pz p5)) (own_text ((own_px p5).toInt64) ((own_py p5).toInt64) ((own_pz p5).toInt64))), vJ (own_a2 q1 q4 p6), vS, vJ (own_b2 q2 q4 p6), vS, vJ (own_c2 q3 q4 p6), vS, vR b48, vR b60, vI (own_eq (own_text q1 q2 q3) (own_text (own_a2 q1 q4 p6) (own_b2 q2 q4 p6) (own_c2 q3 q4 p6))), vI (own_sm q1 q2 q3 q4 p6)] [(.int (own_sm q1 q2 q3 q4 p6)), (.int (own_eq (own_text q1 q2 q3) (own_text (own_a2 q1 q4 p6) (own_b2 q2 q4 p6) (own_c2 q3 q4 p6))))])) _
      refine XS.icmpNo X82.here hx rfl (hb hby at_306) rfl (teq hc306_97).2 ?_
      refine XS.iconst X82.here hx rfl (hb hby at_309) ?_
      refine XS.goto X82.here hx rfl (pc0 := 310) (pc' := 314) rfl (hb hby at_310) (by decide) (by decide) ?_
      show Steps p.tables e below (T82.setTop (mkF m 314 #[vJ q1, vS, vJ q2, vS, vJ q3, vS, vJ q4, vS, vI p5, vI p6, vI (own_ngt p6), vI (own_u p5), vI (own_v p5), vI (own_w p5), vJ ((own_px p5).toInt64), vS, vJ ((own_py p5).toInt64), vS, vJ ((own_pz p5).toInt64), vS, vR x15_0, vI (own_eq (own_pos (own_px p5) (own_py p5) (own_pz p5)) (own_text ((own_px p5).toInt64) ((own_py p5).toInt64) ((own_pz p5).toInt64))), vJ (own_a2 q1 q4 p6), vS, vJ (own_b2 q2 q4 p6), vS, vJ (own_c2 q3 q4 p6), vS, vR b48, vR b60, vI (own_eq (own_text q1 q2 q3) (own_text (own_a2 q1 q4 p6) (own_b2 q2 q4 p6) (own_c2 q3 q4 p6))), vI (own_sm q1 q2 q3 q4 p6)] [(.int (1 : Int32))])) _
      exact retN X82 hx (t := .boolean) Bd.returns (by simp) (hb hby at_314) hr
    · show Q0 Z q1 q2 q3 q4 p5 p6 st_COMPACT_STRINGS h0 n0 _ T82.heap _
      rw [e82]
      exact ⟨rfl, N82⟩
  · obtain ⟨_, _, ⟨T98, L98, k98, n98⟩, -, X98, ⟨Lc98, hQ98, l98, y98, z98⟩, st98⟩ := Jvm.LawKit.callS X0 hx (y := (⟨"com/example/vigilant_context/vigilantcontext/finding/LoadCostToStringPinLaw", "negText", "(III)Ljava/lang/String;"⟩ : MethodName)) hown (mvT hZ (own_wi hw 226 rfl)) (mvT hZ (own_wi hw 227 rfl)) (mvT hZ (own_wi hw 2 rfl)) (mvT hZ (own_wi hw 228 rfl)) (by decide) (backOf (W := 0) (rm43 l Z a0 hw [] (own_nx p5) (own_ny p5) (own_nz p5) st_COMPACT_STRINGS h0 n0 Z0 S_COMPACT_STRINGS (show own_d19 (own_nx p5) from own_rnx p5) (show own_d19 (own_ny p5) from own_rny p5) (show own_d19 (own_nz p5) from own_rnz p5) hq151_3) hZ (own_wi hw 228 rfl) (own_wi hw 2 rfl) (by decide) (by decide)) (g := (mkF m 101 #[vJ q1, vS, vJ q2, vS, vJ q3, vS, vJ q4, vS, vI p5, vI p6, vI (own_ngt p6), vI (own_u p5), vI (own_v p5), vI (own_w p5), vJ ((-(own_nx p5)).toInt64), vS, vJ ((-(own_ny p5)).toInt64), vS, vJ ((-(own_nz p5)).toInt64), vS, vU, vI (own_nx p5), vI (own_ny p5), vI (own_nz p5), vU, vU, vU, vU, vU, vU, vU, vU] [(.int (own_nz p5)), (.int (own_ny p5)), (.int (own_nx p5))])) rfl (by rw [hml]; rfl) (argsL := [(.int (own_nx p5)), (.int (own_ny p5)), (.int (own_nz p5))]) (rest := []) (lenOf pd_24 rfl) rfl (by show 2 * 0 + _ ≤ _; exact Nat.le_of_eq rfl) (hb hby at_101) (fun _ _ => ⟨rfl, e0, (by decide : 0 + 3 ≤ _), (by decide : 0 + 84 ≤ _)⟩)
    dsimp only [Pt.U, Pt.locs, Pt.cells, Pt.slots] at X98 l98 y98 z98 st98 hQ98
    subst l98 y98 z98
    obtain ⟨x98_0, rfl, N98q, K98q, f98_0⟩ := hQ98
    have al99 : ∀ x ∈ [], Safe Z own_EL s.vm h0 x := all0
    have ch99 := hCr0.trans (CHr.keep K98q al99 hCr0.1)
    have y100 := (own_StaKeep S_COMPACT_STRINGS K98q all0)
    have K98 : Keep h0 T98.heap [] := ((Keep.refl h0 [])).trans K98q all0
    have Z98 : n0 ≤ T98.heap.size := Nat.le_trans Z0 K98q.1
    have N98 := Fr.app N0 N98q
    obtain ⟨T101, h101, X101, e101, E101, A101, D101, -, st101⟩ := newO X98 hx hZ hown (own_wi hw 37 rfl) (own_wi hw 38 rfl) (own_wi hw 39 rfl) rfl (g := (mkF m 158 #[vJ q1, vS, vJ q2, vS, vJ q3, vS, vJ q4, vS, vI p5, vI p6, vI (own_ngt p6), vI (own_u p5), vI (own_v p5), vI (own_w p5), vJ ((-(own_nx p5)).toInt64), vS, vJ ((-(own_ny p5)).toInt64), vS, vJ ((-(own_nz p5)).toInt64), vS, vR x98_0, vI (own_nx p5), vI (own_ny p5), vI (own_nz p5), vU, vU, vU, vU, vU, vU, vU, vU] [(.ref x98_0)])) rfl (hb hby at_158) (by decide) (by decide)
    obtain ⟨b101, g101⟩ : ∃ z, z = T98.heap.size := ⟨_, rfl⟩
    rw [← g101] at A101 D101 st101
    have ne_x98_0_b101 : x98_0 ≠ b101 := Nat.ne_of_lt (Nat.lt_of_lt_of_le f98_0.lt (Nat.le_of_eq g101.symm))
    have g_b101 : n0 ≤ b101 := Nat.le_trans Z98 (Nat.le_of_eq g101.symm)
    have sz_b101 : h0.size ≤ b101 := Nat.le_trans (K98).1 (Nat.le_of_eq g101.symm)
    have ch102 := ch99.trans (CHr.ext E101 ch99.1)
    have K101 : Keep h0 h101 [] := (K98).ext E101
    have Z101 : n0 ≤ h101.size := Nat.le_trans Z98 E101.1
    have F_sessions_b101 : Fld Z h101 b101 "com/example/vigilant_context/vigilantcontext/finding/LoadCost" "sessions" "J" (.long (0 : Int64)) := D101 (Or.inr (own_wi hw 50 rfl)) (ty := .long) (by decide)
    have F_connections_b101 : Fld Z h101 b101 "com/example/vigilant_context/vigilantcontext/finding/LoadCost" "connections" "J" (.long (0 : Int64)) := D101 (Or.inr (own_wi hw 52 rfl)) (ty := .long) (by decide)
    have F_statements_b101 : Fld Z h101 b101 "com/example/vigilant_context/vigilantcontext/finding/LoadCost" "statements" "J" (.long (0 : Int64)) := D101 (Or.inr (own_wi hw 54 rfl)) (ty := .long) (by decide)
    obtain ⟨_, _, ⟨T103, L103, k103, n103⟩, -, X103, ⟨Lc103, hQ103, l103, y103, z103⟩, st103⟩ := X101.specialBack hx (y := (⟨"com/example/vigilant_context/vigilantcontext/finding/LoadCost", "<init>", "(JJJ)V"⟩ : MethodName)) rfl hown (mvT hZ (own_wi hw 40 rfl)) (mvT hZ (own_wi hw 41 rfl)) (mvT hZ (own_wi hw 42 rfl)) (by decide) (backOf (W := 2) (rm9 l Z a0 hw [] b101 ((-(own_nx p5)).toInt64) ((-(own_ny p5)).toInt64) ((-(own_nz p5)).toInt64) (0 : Int64) (0 : Int64) (0 : Int64) h101 n0 Z101 A101 F_sessions_b101 F_connections_b101 F_statements_b101 g_b101) hZ (own_wi hw 42 rfl) (own_wi hw 39 rfl) (by decide) (by decide)) (g := (mkF m 168 #[vJ q1, vS, vJ q2, vS, vJ q3, vS, vJ q4, vS, vI p5, vI p6, vI (own_ngt p6), vI (own_u p5), vI (own_v p5), vI (own_w p5), vJ ((-(own_nx p5)).toInt64), vS, vJ ((-(own_ny p5)).toInt64), vS, vJ ((-(own_nz p5)).toInt64), vS, vR x98_0, vI (own_nx p5), vI (own_ny p5), vI (own_nz p5), vU, vU, vU, vU, vU, vU, vU, vU] [(.long ((-(own_nz p5)).toInt64)), (.long ((-(own_ny p5)).toInt64)), (.long ((-(own_nx p5)).toInt64)), (.ref b101), (.ref b101), (.ref x98_0)])) rfl (by rw [hml]; rfl) (Steps.refl _) (a := b101) (argsL := [(.long ((-(own_nx p5)).toInt64)), (.long ((-(own_ny p5)).toInt64)), (.long ((-(own_nz p5)).toInt64))]) (rest := [(.ref b101), (.ref x98_0)]) (lenOf pd_25 rfl) rfl (by show 2 * 0 + _ ≤ _; exact Nat.le_of_eq rfl) (hb hby at_168) (fun _ _ => ⟨rfl, e101, (by decide : 4 + 0 ≤ _), (by decide : 87 + 0 ≤ _)⟩)
    dsimp only [Pt.U, Pt.locs, Pt.cells, Pt.slots] at X103 l103 y103 z103 st103 hQ103
    subst l103 y103 z103
    obtain ⟨rfl, N103q, K103q, f103_0, f103_1, f103_2, f103_3⟩ := hQ103
    have al104 : ∀ x ∈ [b101], Safe Z own_EL s.vm h101 x := (allS (P := fun x => Safe Z own_EL s.vm h101 x) (Safe.exa (show Z.vm.Alike s.vm from hZ.alike) A101 (by decide) (by decide)) all0)
    have ch104 := ch102.trans (CHr.keep K103q al104 ch102.1)
    have y105 := (own_StaKeep (y100.ext E101) K103q (allS (P := fun x => ∃ D, Exa Z h101 x D) ⟨_, A101⟩ all0))
    have y106 := (((X00.keep K98q all0).ext E101).keep K103q (allS (P := fun x => n0 ≤ x) g_b101 all0))
    have y107 := (own_Str.keep (a0 := a0) (f98_0.ext E101) K103q (allS (P := fun x => ∃ C n, Exa Z h101 x C ∧ C ≠ "java/lang/String" ∧ (Jvm.Cond.instantiable C n).before a0 Z = true) ⟨_, _, A101, by decide, (own_wi hw 38 rfl)⟩ all0))
    have K103 : Keep h0 T103.heap [] := (K101).trans K103q (allS (P := fun x => x ∈ [] ∨ h0.size ≤ x) (Or.inr sz_b101) all0)
    have Z103 : n0 ≤ T103.heap.size := Nat.le_trans Z101 K103q.1
    have N103 := Fr.app N98 N103q
    obtain ⟨cq108, kq108, q108a, q108b, q108c⟩ := isOf hZ rfl f103_0
    obtain ⟨_, _, ⟨T108, L108, k108, n108⟩, -, X108, hS108q, hgr108, ⟨Lc108, hQ108, l108, y108, z108, hC108q⟩, st108⟩ := X103.virtualBackS hx (y := (⟨"com/example/vigilant_context/vigilantcontext/finding/LoadCost", "toString", "()Ljava/lang/String;"⟩ : MethodName)) (z := (⟨"com/example/vigilant_context/vigilantcontext/finding/LoadCost", "toString", "()Ljava/lang/String;"⟩ : MethodName)) hown (mvT hZ (own_wi hw 55 rfl)) (mvT hZ (own_wi hw 56 rfl)) (notFace_of_selects (args := #[]) (mvT hZ (own_wi hw 58 rfl))) (mvT hZ (own_wi hw 58 rfl)) (mvT hZ (own_wi hw 57 rfl)) (by decide) (backOfSH (s := s) (vm0 := s.vm) (EL := own_EL) (W := 1) (rm11 l Z a0 hw [] b101 ((-(own_nx p5)).toInt64) ((-(own_ny p5)).toInt64) ((-(own_nz p5)).toInt64) st_COMPACT_STRINGS T103.heap n0 Z103 f103_0 f103_1 f103_2 f103_3 y105 y106 hDg hq151_3) hZ (own_wi hw 59 rfl) (own_wi hw 39 rfl) (by decide) (by decide) (own_EW hw) ch104.1) q108a q108c (g := (mkF m 171 #[vJ q1, vS, vJ q2, vS, vJ q3, vS, vJ q4, vS, vI p5, vI p6, vI (own_ngt p6), vI (own_u p5), vI (own_v p5), vI (own_w p5), vJ ((-(own_nx p5)).toInt64), vS, vJ ((-(own_ny p5)).toInt64), vS, vJ ((-(own_nz p5)).toInt64), vS, vR x98_0, vI (own_nx p5), vI (own_ny p5), vI (own_nz p5), vU, vU, vU, vU, vU, vU, vU, vU] [(.ref b101), (.ref x98_0)])) rfl (by rw [hml]; rfl) (Steps.refl _) (argsL := []) (rest := [(.ref x98_0)]) (lenOf pd_21 rfl) rfl (by show 2 * 0 + _ ≤ _; exact Nat.le_of_eq rfl) (hb hby at_171) (fun _ _ => ⟨rfl, rfl, (by decide : 4 + 16 ≤ _), (by decide : 87 + 1433 ≤ _)⟩)
    dsimp only [Pt.U, Pt.locs, Pt.cells, Pt.slots] at X108 l108 y108 z108 st108 hQ108 hS108q hgr108 hC108q
    subst l108 y108 z108
    have X108w := X108
    have hS108 := hS108q
    have hZ108 : Z.Warmed39 (s.setVm T108.vm).vm := State.Warmed39.trans hZ hS108.1
    have hown108 : (s.setVm T108.vm).vm.findClass "com/example/vigilant_context/vigilantcontext/finding/LoadCostToStringPinLaw" = some m.cls := (hS108.1.alike.findClass _ _).trans hown
    obtain ⟨x108_0, rfl, N108q, K108q, f108_0⟩ := hQ108
    have ch108 := ch104.trans hC108q
    have y109 := (own_Str.keep (a0 := a0) y107 K108q all0)
    have K108 : Keep h0 T108.heap [] := (K103).trans K108q all0
    have Z108 : n0 ≤ T108.heap.size := Nat.le_trans Z103 K108q.1
    have N108 := Fr.app N103 N108q
    obtain ⟨t110a, k110a, E110a, C110a, V110a, A110a, P110a, L110a⟩ := id y109
    obtain ⟨t110b, k110b, E110b, C110b, V110b, A110b, P110b, L110b⟩ := id f108_0
    obtain ⟨cq110, kq110, q110a, q110b, q110c⟩ := isOf hZ108 rfl E110a
    obtain ⟨v110, _, ⟨T110, L110, k110, n110⟩, -, X110, ⟨Lc110, hQ110, l110, y110, z110⟩, st110⟩ := X108w.virtualBack hx (y := (⟨"java/lang/String", "equals", "(Ljava/lang/Object;)Z"⟩ : MethodName)) (z := (⟨"java/lang/String", "equals", "(Ljava/lang/Object;)Z"⟩ : MethodName)) hown108 (mvT hZ108 (own_wi hw 213 rfl)) (mvT hZ108 (own_wi hw 214 rfl)) (notFace_of_selects (args := #[]) (mvT hZ108 (own_wi hw 216 rfl))) (mvT hZ108 (own_wi hw 216 rfl)) (mvT hZ108 (own_wi hw 215 rfl)) (by decide) (StrChars.Road.eqW (W := 0) hZ108 (own_we hw) (kI := 4) (own_wi hw 9 rfl) E110a V110a C110a A110a (Or.inl ⟨rfl, rfl, rfl, fun c hc => (P110a c hc).2⟩) (own_up P110a) L110a E110b V110b C110b A110b (Or.inl ⟨rfl, rfl, rfl, fun c hc => (P110b c hc).2⟩) (own_up P110b) L110b (own_StaKeep y105 K108q all0) hq151_3 (by decide) (by decide)) q110a q110c (g := (mkF m 174 #[vJ q1, vS, vJ q2, vS, vJ q3, vS, vJ q4, vS, vI p5, vI p6, vI (own_ngt p6), vI (own_u p5), vI (own_v p5), vI (own_w p5), vJ ((-(own_nx p5)).toInt64), vS, vJ ((-(own_ny p5)).toInt64), vS, vJ ((-(own_nz p5)).toInt64), vS, vR x98_0, vI (own_nx p5), vI (own_ny p5), vI (own_nz p5), vU, vU, vU, vU, vU, vU, vU, vU] [(.ref x108_0), (.ref x98_0)])) rfl (by rw [hml]; rfl) (Steps.refl _) (argsL := [(.ref x108_0)]) (rest := []) (lenOf pd_26 rfl) rfl (by show 2 * 0 + _ ≤ _; exact Nat.le_of_eq rfl) (hb hby at_174) (fun _ _ => ⟨rfl, rfl, (by decide : 20 + 0 ≤ _), (by decide : 1520 + 0 ≤ _)⟩)
    dsimp only [Pt.U, Pt.locs, Pt.cells, Pt.slots] at X110 l110 y110 z110 st110 hQ110
    subst l110 y110 z110
    obtain ⟨hv110, rfl, e110⟩ := hQ110
    have hv110' := own_eqv hv110; subst hv110'
    have N110 := Fr.app N108 (Fr.nil n0)
    have pre111 : ∀ t, Steps p.tables e below (T110.setTop (mkF m 179 #[vJ q1, vS, vJ q2, vS, vJ q3, vS, vJ q4, vS, vI p5, vI p6, vI (own_ngt p6), vI (own_u p5), vI (own_v p5), vI (own_w p5), vJ ((-(own_nx p5)).toInt64), vS, vJ ((-(own_ny p5)).toInt64), vS, vJ ((-(own_nz p5)).toInt64), vS, vR x98_0, vI (own_eq (own_neg (own_nx p5) (own_ny p5) (own_nz p5)) (own_text ((-(own_nx p5)).toInt64) ((-(own_ny p5)).toInt64) ((-(own_nz p5)).toInt64))), vI (own_ny p5), vI (own_nz p5), vU, vU, vU, vU, vU, vU, vU, vU] [])) t → Steps p.tables e below (s₁.setTop (entryFrame m #[(.long q1), (.long q2), (.long q3), (.long q4), (.int p5), (.int p6)] maxLocals)) t := fun t kt => pre14 t (by
      show Steps p.tables e below (s₁.setTop (mkF m 47 #[vJ q1, vS, vJ q2, vS, vJ q3, vS, vJ q4, vS, vI p5, vI p6, vI (own_ngt p6), vI (own_u p5), vI (own_v p5), vI (own_w p5), vU, vU, vU, vU, vU, vU, vU, vU, vU, vU, vU, vU, vU, vU, vU, vU, vU, vU] [(.int (own_ngt p6))])) _
      refine XS.ifNo X0.here hx rfl (hb hby at_47) rfl ((if0 _ _).trans (feq hc47_13).1) ?_
      refine XS.iconst X0.here hx rfl (hb hby at_50) ?_
      refine XS.iload X0.here hx rfl (hb hby at_51) rfl ?_
      refine XS.bipush X0.here hx rfl (hb hby at_53) ?_
      show Steps p.tables e below (s₁.setTop (mkF m 55 #[vJ q1, vS, vJ q2, vS, vJ q3, vS, vJ q4, vS, vI p5, vI p6, vI (own_ngt p6), vI (own_u p5), vI (own_v p5), vI (own_w p5), vU, vU, vU, vU, vU, vU, vU, vU, vU, vU, vU, vU, vU, vU, vU, vU, vU, vU] [(.int (9 : Int32)), (.int (own_u p5)), (.int (1 : Int32))])) _
      refine iremM X0 hx rfl (hb hby at_55) rfl (by decide) ?_
      show Steps p.tables e below (s₁.setTop (mkF m 56 #[vJ q1, vS, vJ q2, vS, vJ q3, vS, vJ q4, vS, vI p5, vI p6, vI (own_ngt p6), vI (own_u p5), vI (own_v p5), vI (own_w p5), vU, vU, vU, vU, vU, vU, vU, vU, vU, vU, vU, vU, vU, vU, vU, vU, vU, vU] [(.int ((own_u p5) % (9 : Int32))), (.int (1 : Int32))])) _
      refine XS.iadd X0.here hx rfl (hb hby at_56) rfl ?_
      refine XS.istore X0.here hx rfl (hb hby at_57) rfl (l' := #[vJ q1, vS, vJ q2, vS, vJ q3, vS, vJ q4, vS, vI p5, vI p6, vI (own_ngt p6), vI (own_u p5), vI (own_v p5), vI (own_w p5), vU, vU, vU, vU, vU, vU, vU, vI (own_nx p5), vU, vU, vU, vU, vU, vU, vU, vU, vU, vU]) rfl ?_
      refine XS.iconst X0.here hx rfl (hb hby at_59) ?_
      refine XS.iload X0.here hx rfl (hb hby at_60) rfl ?_
      refine XS.bipush X0.here hx rfl (hb hby at_62) ?_
      show Steps p.tables e below (s₁.setTop (mkF m 64 #[vJ q1, vS, vJ q2, vS, vJ q3, vS, vJ q4, vS, vI p5, vI p6, vI (own_ngt p6), vI (own_u p5), vI (own_v p5), vI (own_w p5), vU, vU, vU, vU, vU, vU, vU, vI (own_nx p5), vU, vU, vU, vU, vU, vU, vU, vU, vU, vU] [(.int (9 : Int32)), (.int (own_v p5)), (.int (1 : Int32))])) _
      refine iremM X0 hx rfl (hb hby at_64) rfl (by decide) ?_
      show Steps p.tables e below (s₁.setTop (mkF m 65 #[vJ q1, vS, vJ q2, vS, vJ q3, vS, vJ q4, vS, vI p5, vI p6, vI (own_ngt p6), vI (own_u p5), vI (own_v p5), vI (own_w p5), vU, vU, vU, vU, vU, vU, vU, vI (own_nx p5), vU, vU, vU, vU, vU, vU, vU, vU, vU, vU] [(.int ((own_v p5) % (9 : Int32))), (.int (1 : Int32))])) _
      refine XS.iadd X0.here hx rfl (hb hby at_65) rfl ?_
      refine XS.istore X0.here hx rfl (hb hby at_66) rfl (l' := #[vJ q1, vS, vJ q2, vS, vJ q3, vS, vJ q4, vS, vI p5, vI p6, vI (own_ngt p6), vI (own_u p5), vI (own_v p5), vI (own_w p5), vU, vU, vU, vU, vU, vU, vU, vI (own_nx p5), vI (own_ny p5), vU, vU, vU, vU, vU, vU, vU, vU, vU]) rfl ?_
      refine XS.iconst X0.here hx rfl (hb hby at_68) ?_
      refine XS.iload X0.here hx rfl (hb hby at_69) rfl ?_
      refine XS.bipush X0.here hx rfl (hb hby at_71) ?_
      show Steps p.tables e below (s₁.setTop (mkF m 73 #[vJ q1, vS, vJ q2, vS, vJ q3, vS, vJ q4, vS, vI p5, vI p6, vI (own_ngt p6), vI (own_u p5), vI (own_v p5), vI (own_w p5), vU, vU, vU, vU, vU, vU, vU, vI (own_nx p5), vI (own_ny p5), vU, vU, vU, vU, vU, vU, vU, vU, vU] [(.int (9 : Int32)), (.int (own_w p5)), (.int (1 : Int32))])) _
      refine iremM X0 hx rfl (hb hby at_73) rfl (by decide) ?_
      show Steps p.tables e below (s₁.setTop (mkF m 74 #[vJ q1, vS, vJ q2, vS, vJ q3, vS, vJ q4, vS, vI p5, vI p6, vI (own_ngt p6), vI (own_u p5), vI (own_v p5), vI (own_w p5), vU, vU, vU, vU, vU, vU, vU, vI (own_nx p5), vI (own_ny p5), vU, vU, vU, vU, vU, vU, vU, vU, vU] [(.int ((own_w p5) % (9 : Int32))), (.int (1 : Int32))])) _
      refine XS.iadd X0.here hx rfl (hb hby at_74) rfl ?_
      refine XS.istore X0.here hx rfl (hb hby at_75) rfl (l' := #[vJ q1, vS, vJ q2, vS, vJ q3, vS, vJ q4, vS, vI p5, vI p6, vI (own_ngt p6), vI (own_u p5), vI (own_v p5), vI (own_w p5), vU, vU, vU, vU, vU, vU, vU, vI (own_nx p5), vI (own_ny p5), vI (own_nz p5), vU, vU, vU, vU, vU, vU, vU, vU]) rfl ?_
      refine XS.iload X0.here hx rfl (hb hby at_77) rfl ?_
      refine XS.ineg X0.here hx rfl (hb hby at_79) rfl ?_
      refine XS.i2l X0.here hx rfl (hb hby at_80) rfl ?_
      show Steps p.tables e below (s₁.setTop (mkF m 81 #[vJ q1, vS, vJ q2, vS, vJ q3, vS, vJ q4, vS, vI p5, vI p6, vI (own_ngt p6), vI (own_u p5), vI (own_v p5), vI (own_w p5), vU, vU, vU, vU, vU, vU, vU, vI (own_nx p5), vI (own_ny p5), vI (own_nz p5), vU, vU, vU, vU, vU, vU, vU, vU] [(.long ((-(own_nx p5)).toInt64))])) _
      refine XS.lstore X0.here hx rfl (hb hby at_81) rfl (l' := #[vJ q1, vS, vJ q2, vS, vJ q3, vS, vJ q4, vS, vI p5, vI p6, vI (own_ngt p6), vI (own_u p5), vI (own_v p5), vI (own_w p5), vJ ((-(own_nx p5)).toInt64), vS, vU, vU, vU, vU, vU, vI (own_nx p5), vI (own_ny p5), vI (own_nz p5), vU, vU, vU, vU, vU, vU, vU, vU]) rfl ?_
      refine XS.iload X0.here hx rfl (hb hby at_83) rfl ?_
      refine XS.ineg X0.here hx rfl (hb hby at_85) rfl ?_
      refine XS.i2l X0.here hx rfl (hb hby at_86) rfl ?_
      refine XS.lstore X0.here hx rfl (hb hby at_87) rfl (l' := #[vJ q1, vS, vJ q2, vS, vJ q3, vS, vJ q4, vS, vI p5, vI p6, vI (own_ngt p6), vI (own_u p5), vI (own_v p5), vI (own_w p5), vJ ((-(own_nx p5)).toInt64), vS, vJ ((-(own_ny p5)).toInt64), vS, vU, vU, vU, vI (own_nx p5), vI (own_ny p5), vI (own_nz p5), vU, vU, vU, vU, vU, vU, vU, vU]) rfl ?_
      show Steps p.tables e below (s₁.setTop (mkF m 89 #[vJ q1, vS, vJ q2, vS, vJ q3, vS, vJ q4, vS, vI p5, vI p6, vI (own_ngt p6), vI (own_u p5), vI (own_v p5), vI (own_w p5), vJ ((-(own_nx p5)).toInt64), vS, vJ ((-(own_ny p5)).toInt64), vS, vU, vU, vU, vI (own_nx p5), vI (own_ny p5), vI (own_nz p5), vU, vU, vU, vU, vU, vU, vU, vU] [])) _
      refine XS.iload X0.here hx rfl (hb hby at_89) rfl ?_
      refine XS.ineg X0.here hx rfl (hb hby at_91) rfl ?_
      refine XS.i2l X0.here hx rfl (hb hby at_92) rfl ?_
      refine XS.lstore X0.here hx rfl (hb hby at_93) rfl (l' := #[vJ q1, vS, vJ q2, vS, vJ q3, vS, vJ q4, vS, vI p5, vI p6, vI (own_ngt p6), vI (own_u p5), vI (own_v p5), vI (own_w p5), vJ ((-(own_nx p5)).toInt64), vS, vJ ((-(own_ny p5)).toInt64), vS, vJ ((-(own_nz p5)).toInt64), vS, vU, vI (own_nx p5), vI (own_ny p5), vI (own_nz p5), vU, vU, vU, vU, vU, vU, vU, vU]) rfl ?_
      refine XS.iload X0.here hx rfl (hb hby at_95) rfl ?_
      show Steps p.tables e below (s₁.setTop (mkF m 97 #[vJ q1, vS, vJ q2, vS, vJ q3, vS, vJ q4, vS, vI p5, vI p6, vI (own_ngt p6), vI (own_u p5), vI (own_v p5), vI (own_w p5), vJ ((-(own_nx p5)).toInt64), vS, vJ ((-(own_ny p5)).toInt64), vS, vJ ((-(own_nz p5)).toInt64), vS, vU, vI (own_nx p5), vI (own_ny p5), vI (own_nz p5), vU, vU, vU, vU, vU, vU, vU, vU] [(.int (own_nx p5))])) _
      refine XS.iload X0.here hx rfl (hb hby at_97) rfl ?_
      refine XS.iload X0.here hx rfl (hb hby at_99) rfl ?_
      show Steps p.tables e below (s₁.setTop (mkF m 101 #[vJ q1, vS, vJ q2, vS, vJ q3, vS, vJ q4, vS, vI p5, vI p6, vI (own_ngt p6), vI (own_u p5), vI (own_v p5), vI (own_w p5), vJ ((-(own_nx p5)).toInt64), vS, vJ ((-(own_ny p5)).toInt64), vS, vJ ((-(own_nz p5)).toInt64), vS, vU, vI (own_nx p5), vI (own_ny p5), vI (own_nz p5), vU, vU, vU, vU, vU, vU, vU, vU] [(.int (own_nz p5)), (.int (own_ny p5)), (.int (own_nx p5))])) _
      refine st98 _ ?_
      show Steps p.tables e below (T98.setTop (mkF m 104 #[vJ q1, vS, vJ q2, vS, vJ q3, vS, vJ q4, vS, vI p5, vI p6, vI (own_ngt p6), vI (own_u p5), vI (own_v p5), vI (own_w p5), vJ ((-(own_nx p5)).toInt64), vS, vJ ((-(own_ny p5)).toInt64), vS, vJ ((-(own_nz p5)).toInt64), vS, vU, vI (own_nx p5), vI (own_ny p5), vI (own_nz p5), vU, vU, vU, vU, vU, vU, vU, vU] [(.ref x98_0)])) _
      refine XS.astore X98.here hx rfl (hb hby at_104) rfl rfl (l' := #[vJ q1, vS, vJ q2, vS, vJ q3, vS, vJ q4, vS, vI p5, vI p6, vI (own_ngt p6), vI (own_u p5), vI (own_v p5), vI (own_w p5), vJ ((-(own_nx p5)).toInt64), vS, vJ ((-(own_ny p5)).toInt64), vS, vJ ((-(own_nz p5)).toInt64), vS, vR x98_0, vI (own_nx p5), vI (own_ny p5), vI (own_nz p5), vU, vU, vU, vU, vU, vU, vU, vU]) rfl ?_
      refine XS.goto X98.here hx rfl (pc0 := 106) (pc' := 156) rfl (hb hby at_106) (by decide) (by decide) ?_
      refine XS.aload X98.here hx rfl (hb hby at_156) rfl rfl ?_
      show Steps p.tables e below (T98.setTop (mkF m 158 #[vJ q1, vS, vJ q2, vS, vJ q3, vS, vJ q4, vS, vI p5, vI p6, vI (own_ngt p6), vI (own_u p5), vI (own_v p5), vI (own_w p5), vJ ((-(own_nx p5)).toInt64), vS, vJ ((-(own_ny p5)).toInt64), vS, vJ ((-(own_nz p5)).toInt64), vS, vR x98_0, vI (own_nx p5), vI (own_ny p5), vI (own_nz p5), vU, vU, vU, vU, vU, vU, vU, vU] [(.ref x98_0)])) _
      refine st101 _ ?_
      show Steps p.tables e below (T101.setTop (mkF m 161 #[vJ q1, vS, vJ q2, vS, vJ q3, vS, vJ q4, vS, vI p5, vI p6, vI (own_ngt p6), vI (own_u p5), vI (own_v p5), vI (own_w p5), vJ ((-(own_nx p5)).toInt64), vS, vJ ((-(own_ny p5)).toInt64), vS, vJ ((-(own_nz p5)).toInt64), vS, vR x98_0, vI (own_nx p5), vI (own_ny p5), vI (own_nz p5), vU, vU, vU, vU, vU, vU, vU, vU] [(.ref b101), (.ref x98_0)])) _
      refine XS.dup X101.here hx rfl (hb hby at_161) rfl rfl ?_
      refine XS.lload X101.here hx rfl (hb hby at_162) rfl ?_
      refine XS.lload X101.here hx rfl (hb hby at_164) rfl ?_
      refine XS.lload X101.here hx rfl (hb hby at_166) rfl ?_
      show Steps p.tables e below (T101.setTop (mkF m 168 #[vJ q1, vS, vJ q2, vS, vJ q3, vS, vJ q4, vS, vI p5, vI p6, vI (own_ngt p6), vI (own_u p5), vI (own_v p5), vI (own_w p5), vJ ((-(own_nx p5)).toInt64), vS, vJ ((-(own_ny p5)).toInt64), vS, vJ ((-(own_nz p5)).toInt64), vS, vR x98_0, vI (own_nx p5), vI (own_ny p5), vI (own_nz p5), vU, vU, vU, vU, vU, vU, vU, vU] [(.long ((-(own_nz p5)).toInt64)), (.long ((-(own_ny p5)).toInt64)), (.long ((-(own_nx p5)).toInt64)), (.ref b101), (.ref b101), (.ref x98_0)])) _
      refine st103.trans ?_
      show Steps p.tables e below (T103.setTop (mkF m 171 #[vJ q1, vS, vJ q2, vS, vJ q3, vS, vJ q4, vS, vI p5, vI p6, vI (own_ngt p6), vI (own_u p5), vI (own_v p5), vI (own_w p5), vJ ((-(own_nx p5)).toInt64), vS, vJ ((-(own_ny p5)).toInt64), vS, vJ ((-(own_nz p5)).toInt64), vS, vR x98_0, vI (own_nx p5), vI (own_ny p5), vI (own_nz p5), vU, vU, vU, vU, vU, vU, vU, vU] [(.ref b101), (.ref x98_0)])) _
      refine st108.trans ?_
      show Steps p.tables e below (T108.setTop (mkF m 174 #[vJ q1, vS, vJ q2, vS, vJ q3, vS, vJ q4, vS, vI p5, vI p6, vI (own_ngt p6), vI (own_u p5), vI (own_v p5), vI (own_w p5), vJ ((-(own_nx p5)).toInt64), vS, vJ ((-(own_ny p5)).toInt64), vS, vJ ((-(own_nz p5)).toInt64), vS, vR x98_0, vI (own_nx p5), vI (own_ny p5), vI (own_nz p5), vU, vU, vU, vU, vU, vU, vU, vU] [(.ref x108_0), (.ref x98_0)])) _
      refine st110.trans ?_
      show Steps p.tables e below (T110.setTop (mkF m 177 #[vJ q1, vS, vJ q2, vS, vJ q3, vS, vJ q4, vS, vI p5, vI p6, vI (own_ngt p6), vI (own_u p5), vI (own_v p5), vI (own_w p5), vJ ((-(own_nx p5)).toInt64), vS, vJ ((-(own_ny p5)).toInt64), vS, vJ ((-(own_nz p5)).toInt64), vS, vR x98_0, vI (own_nx p5), vI (own_ny p5), vI (own_nz p5), vU, vU, vU, vU, vU, vU, vU, vU] [(.int (own_eq (own_neg (own_nx p5) (own_ny p5) (own_nz p5)) (own_text ((-(own_nx p5)).toInt64) ((-(own_ny p5)).toInt64) ((-(own_nz p5)).toInt64))))])) _
      refine XS.istore X110.here hx rfl (hb hby at_177) rfl (l' := #[vJ q1, vS, vJ q2, vS, vJ q3, vS, vJ q4, vS, vI p5, vI p6, vI (own_ngt p6), vI (own_u p5), vI (own_v p5), vI (own_w p5), vJ ((-(own_nx p5)).toInt64), vS, vJ ((-(own_ny p5)).toInt64), vS, vJ ((-(own_nz p5)).toInt64), vS, vR x98_0, vI (own_eq (own_neg (own_nx p5) (own_ny p5) (own_nz p5)) (own_text ((-(own_nx p5)).toInt64) ((-(own_ny p5)).toInt64) ((-(own_nz p5)).toInt64))), vI (own_ny p5), vI (own_nz p5), vU, vU, vU, vU, vU, vU, vU, vU]) rfl ?_
      show Steps p.tables e below (T110.setTop (mkF m 179 #[vJ q1, vS, vJ q2, vS, vJ q3, vS, vJ q4, vS, vI p5, vI p6, vI (own_ngt p6), vI (own_u p5), vI (own_v p5), vI (own_w p5), vJ ((-(own_nx p5)).toInt64), vS, vJ ((-(own_ny p5)).toInt64), vS, vJ ((-(own_nz p5)).toInt64), vS, vR x98_0, vI (own_eq (own_neg (own_nx p5) (own_ny p5) (own_nz p5)) (own_text ((-(own_nx p5)).toInt64) ((-(own_ny p5)).toInt64) ((-(own_nz p5)).toInt64))), vI (own_ny p5), vI (own_nz p5), vU, vU, vU, vU, vU, vU, vU, vU] [])) _
      exact kt)
    have jn112 : ∀ t, Steps p.tables e below (T110.setTop (mkF m 192 #[vJ q1, vS, vJ q2, vS, vJ q3, vS, vJ q4, vS, vI p5, vI p6, vI (own_ngt p6), vI (own_u p5), vI (own_v p5), vI (own_w p5), vJ ((-(own_nx p5)).toInt64), vS, vJ ((-(own_ny p5)).toInt64), vS, vJ ((-(own_nz p5)).toInt64), vS, vR x98_0, vI (own_eq (own_neg (own_nx p5) (own_ny p5) (own_nz p5)) (own_text ((-(own_nx p5)).toInt64) ((-(own_ny p5)).toInt64) ((-(own_nz p5)).toInt64))), vI (own_ny p5), vI (own_nz p5), vU, vU, vU, vU, vU, vU, vU, vU] [(.long (own_a2 q1 q4 p6))])) t → Steps p.tables e below (T110.setTop (mkF m 179 #[vJ q1, vS, vJ q2, vS, vJ q3, vS, vJ q4, vS, vI p5, vI p6, vI (own_ngt p6), vI (own_u p5), vI (own_v p5), vI (own_w p5), vJ ((-(own_nx p5)).toInt64), vS, vJ ((-(own_ny p5)).toInt64), vS, vJ ((-(own_nz p5)).toInt64), vS, vR x98_0, vI (own_eq (own_neg (own_nx p5) (own_ny p5) (own_nz p5)) (own_text ((-(own_nx p5)).toInt64) ((-(own_ny p5)).toInt64) ((-(own_nz p5)).toInt64))), vI (own_ny p5), vI (own_nz p5), vU, vU, vU, vU, vU, vU, vU, vU] [])) t := by
      intro t0 kt0
      have preR112 : ∀ t, Steps p.tables e below (T110.setTop (mkF m 179 #[vJ q1, vS, vJ q2, vS, vJ q3, vS, vJ q4, vS, vI p5, vI p6, vI (own_ngt p6), vI (own_u p5), vI (own_v p5), vI (own_w p5), vJ ((-(own_nx p5)).toInt64), vS, vJ ((-(own_ny p5)).toInt64), vS, vJ ((-(own_nz p5)).toInt64), vS, vR x98_0, vI (own_eq (own_neg (own_nx p5) (own_ny p5) (own_nz p5)) (own_text ((-(own_nx p5)).toInt64) ((-(own_ny p5)).toInt64) ((-(own_nz p5)).toInt64))), vI (own_ny p5), vI (own_nz p5), vU, vU, vU, vU, vU, vU, vU, vU] [])) t → Steps p.tables e below (T110.setTop (mkF m 179 #[vJ q1, vS, vJ q2, vS, vJ q3, vS, vJ q4, vS, vI p5, vI p6, vI (own_ngt p6), vI (own_u p5), vI (own_v p5), vI (own_w p5), vJ ((-(own_nx p5)).toInt64), vS, vJ ((-(own_ny p5)).toInt64), vS, vJ ((-(own_nz p5)).toInt64), vS, vR x98_0, vI (own_eq (own_neg (own_nx p5) (own_ny p5) (own_nz p5)) (own_text ((-(own_nx p5)).toInt64) ((-(own_ny p5)).toInt64) ((-(own_nz p5)).toInt64))), vI (own_ny p5), vI (own_nz p5), vU, vU, vU, vU, vU, vU, vU, vU] [])) t := fun t kt => kt
      have pre114 : ∀ t, Steps p.tables e below (T110.setTop (mkF m 183 #[vJ q1, vS, vJ q2, vS, vJ q3, vS, vJ q4, vS, vI p5, vI p6, vI (own_ngt p6), vI (own_u p5), vI (own_v p5), vI (own_w p5), vJ ((-(own_nx p5)).toInt64), vS, vJ ((-(own_ny p5)).toInt64), vS, vJ ((-(own_nz p5)).toInt64), vS, vR x98_0, vI (own_eq (own_neg (own_nx p5) (own_ny p5) (own_nz p5)) (own_text ((-(own_nx p5)).toInt64) ((-(own_ny p5)).toInt64) ((-(own_nz p5)).toInt64))), vI (own_ny p5), vI (own_nz p5), vU, vU, vU, vU, vU, vU, vU, vU] [(.int (p6 &&& (1 : Int32)))])) t → Steps p.tables e below (T110.setTop (mkF m 179 #[vJ q1, vS, vJ q2, vS, vJ q3, vS, vJ q4, vS, vI p5, vI p6, vI (own_ngt p6), vI (own_u p5), vI (own_v p5), vI (own_w p5), vJ ((-(own_nx p5)).toInt64), vS, vJ ((-(own_ny p5)).toInt64), vS, vJ ((-(own_nz p5)).toInt64), vS, vR x98_0, vI (own_eq (own_neg (own_nx p5) (own_ny p5) (own_nz p5)) (own_text ((-(own_nx p5)).toInt64) ((-(own_ny p5)).toInt64) ((-(own_nz p5)).toInt64))), vI (own_ny p5), vI (own_nz p5), vU, vU, vU, vU, vU, vU, vU, vU] [])) t := fun t kt => preR112 t (by
        show Steps p.tables e below (T110.setTop (mkF m 179 #[vJ q1, vS, vJ q2, vS, vJ q3, vS, vJ q4, vS, vI p5, vI p6, vI (own_ngt p6), vI (own_u p5), vI (own_v p5), vI (own_w p5), vJ ((-(own_nx p5)).toInt64), vS, vJ ((-(own_ny p5)).toInt64), vS, vJ ((-(own_nz p5)).toInt64), vS, vR x98_0, vI (own_eq (own_neg (own_nx p5) (own_ny p5) (own_nz p5)) (own_text ((-(own_nx p5)).toInt64) ((-(own_ny p5)).toInt64) ((-(own_nz p5)).toInt64))), vI (own_ny p5), vI (own_nz p5), vU, vU, vU, vU, vU, vU, vU, vU] [])) _
        refine XS.iload X110.here hx rfl (hb hby at_179) rfl ?_
        refine XS.iconst X110.here hx rfl (hb hby at_181) ?_
        refine XS.iand X110.here hx rfl (hb hby at_182) rfl ?_
        show Steps p.tables e below (T110.setTop (mkF m 183 #[vJ q1, vS, vJ q2, vS, vJ q3, vS, vJ q4, vS, vI p5, vI p6, vI (own_ngt p6), vI (own_u p5), vI (own_v p5), vI (own_w p5), vJ ((-(own_nx p5)).toInt64), vS, vJ ((-(own_ny p5)).toInt64), vS, vJ ((-(own_nz p5)).toInt64), vS, vR x98_0, vI (own_eq (own_neg (own_nx p5) (own_ny p5) (own_nz p5)) (own_text ((-(own_nx p5)).toInt64) ((-(own_ny p5)).toInt64) ((-(own_nz p5)).toInt64))), vI (own_ny p5), vI (own_nz p5), vU, vU, vU, vU, vU, vU, vU, vU] [(.int (p6 &&& (1 : Int32)))])) _
        exact kt)
      by_cases hc183_113 : (p6 &&& (1 : Int32)) = (0 : Int32)
      · have pre115 : ∀ t, Steps p.tables e below (T110.setTop (mkF m 192 #[vJ q1, vS, vJ q2, vS, vJ q3, vS, vJ q4, vS, vI p5, vI p6, vI (own_ngt p6), vI (own_u p5), vI (own_v p5), vI (own_w p5), vJ ((-(own_nx p5)).toInt64), vS, vJ ((-(own_ny p5)).toInt64), vS, vJ ((-(own_nz p5)).toInt64), vS, vR x98_0, vI (own_eq (own_neg (own_nx p5) (own_ny p5) (own_nz p5)) (own_text ((-(own_nx p5)).toInt64) ((-(own_ny p5)).toInt64) ((-(own_nz p5)).toInt64))), vI (own_ny p5), vI (own_nz p5), vU, vU, vU, vU, vU, vU, vU, vU] [(.long q4)])) t → Steps p.tables e below (T110.setTop (mkF m 179 #[vJ q1, vS, vJ q2, vS, vJ q3, vS, vJ q4, vS, vI p5, vI p6, vI (own_ngt p6), vI (own_u p5), vI (own_v p5), vI (own_w p5), vJ ((-(own_nx p5)).toInt64), vS, vJ ((-(own_ny p5)).toInt64), vS, vJ ((-(own_nz p5)).toInt64), vS, vR x98_0, vI (own_eq (own_neg (own_nx p5) (own_ny p5) (own_nz p5)) (own_text ((-(own_nx p5)).toInt64) ((-(own_ny p5)).toInt64) ((-(own_nz p5)).toInt64))), vI (own_ny p5), vI (own_nz p5), vU, vU, vU, vU, vU, vU, vU, vU] [])) t := fun t kt => pre114 t (by
          show Steps p.tables e below (T110.setTop (mkF m 183 #[vJ q1, vS, vJ q2, vS, vJ q3, vS, vJ q4, vS, vI p5, vI p6, vI (own_ngt p6), vI (own_u p5), vI (own_v p5), vI (own_w p5), vJ ((-(own_nx p5)).toInt64), vS, vJ ((-(own_ny p5)).toInt64), vS, vJ ((-(own_nz p5)).toInt64), vS, vR x98_0, vI (own_eq (own_neg (own_nx p5) (own_ny p5) (own_nz p5)) (own_text ((-(own_nx p5)).toInt64) ((-(own_ny p5)).toInt64) ((-(own_nz p5)).toInt64))), vI (own_ny p5), vI (own_nz p5), vU, vU, vU, vU, vU, vU, vU, vU] [(.int (p6 &&& (1 : Int32)))])) _
          refine XS.ifYes X110.here hx rfl (pc0 := 183) (pc' := 190) rfl (hb hby at_183) rfl ((if0 _ _).trans (teq hc183_113).1) (by decide) (by decide) ?_
          refine XS.lload X110.here hx rfl (hb hby at_190) rfl ?_
          show Steps p.tables e below (T110.setTop (mkF m 192 #[vJ q1, vS, vJ q2, vS, vJ q3, vS, vJ q4, vS, vI p5, vI p6, vI (own_ngt p6), vI (own_u p5), vI (own_v p5), vI (own_w p5), vJ ((-(own_nx p5)).toInt64), vS, vJ ((-(own_ny p5)).toInt64), vS, vJ ((-(own_nz p5)).toInt64), vS, vR x98_0, vI (own_eq (own_neg (own_nx p5) (own_ny p5) (own_nz p5)) (own_text ((-(own_nx p5)).toInt64) ((-(own_ny p5)).toInt64) ((-(own_nz p5)).toInt64))), vI (own_ny p5), vI (own_nz p5), vU, vU, vU, vU, vU, vU, vU, vU] [(.long q4)])) _
          exact kt)
        have qe : own_a2 q1 q4 p6 = q4 := by unfold own_a2; rw [if_pos hc183_113]
        rw [qe] at kt0
        exact pre115 _ kt0
      · have pre116 : ∀ t, Steps p.tables e below (T110.setTop (mkF m 192 #[vJ q1, vS, vJ q2, vS, vJ q3, vS, vJ q4, vS, vI p5, vI p6, vI (own_ngt p6), vI (own_u p5), vI (own_v p5), vI (own_w p5), vJ ((-(own_nx p5)).toInt64), vS, vJ ((-(own_ny p5)).toInt64), vS, vJ ((-(own_nz p5)).toInt64), vS, vR x98_0, vI (own_eq (own_neg (own_nx p5) (own_ny p5) (own_nz p5)) (own_text ((-(own_nx p5)).toInt64) ((-(own_ny p5)).toInt64) ((-(own_nz p5)).toInt64))), vI (own_ny p5), vI (own_nz p5), vU, vU, vU, vU, vU, vU, vU, vU] [(.long q1)])) t → Steps p.tables e below (T110.setTop (mkF m 179 #[vJ q1, vS, vJ q2, vS, vJ q3, vS, vJ q4, vS, vI p5, vI p6, vI (own_ngt p6), vI (own_u p5), vI (own_v p5), vI (own_w p5), vJ ((-(own_nx p5)).toInt64), vS, vJ ((-(own_ny p5)).toInt64), vS, vJ ((-(own_nz p5)).toInt64), vS, vR x98_0, vI (own_eq (own_neg (own_nx p5) (own_ny p5) (own_nz p5)) (own_text ((-(own_nx p5)).toInt64) ((-(own_ny p5)).toInt64) ((-(own_nz p5)).toInt64))), vI (own_ny p5), vI (own_nz p5), vU, vU, vU, vU, vU, vU, vU, vU] [])) t := fun t kt => pre114 t (by
          show Steps p.tables e below (T110.setTop (mkF m 183 #[vJ q1, vS, vJ q2, vS, vJ q3, vS, vJ q4, vS, vI p5, vI p6, vI (own_ngt p6), vI (own_u p5), vI (own_v p5), vI (own_w p5), vJ ((-(own_nx p5)).toInt64), vS, vJ ((-(own_ny p5)).toInt64), vS, vJ ((-(own_nz p5)).toInt64), vS, vR x98_0, vI (own_eq (own_neg (own_nx p5) (own_ny p5) (own_nz p5)) (own_text ((-(own_nx p5)).toInt64) ((-(own_ny p5)).toInt64) ((-(own_nz p5)).toInt64))), vI (own_ny p5), vI (own_nz p5), vU, vU, vU, vU, vU, vU, vU, vU] [(.int (p6 &&& (1 : Int32)))])) _
          refine XS.ifNo X110.here hx rfl (hb hby at_183) rfl ((if0 _ _).trans (feq hc183_113).1) ?_
          refine XS.lloadN X110.here hx rfl (hb hby at_186) rfl ?_
          refine XS.goto X110.here hx rfl (pc0 := 187) (pc' := 192) rfl (hb hby at_187) (by decide) (by decide) ?_
          show Steps p.tables e below (T110.setTop (mkF m 192 #[vJ q1, vS, vJ q2, vS, vJ q3, vS, vJ q4, vS, vI p5, vI p6, vI (own_ngt p6), vI (own_u p5), vI (own_v p5), vI (own_w p5), vJ ((-(own_nx p5)).toInt64), vS, vJ ((-(own_ny p5)).toInt64), vS, vJ ((-(own_nz p5)).toInt64), vS, vR x98_0, vI (own_eq (own_neg (own_nx p5) (own_ny p5) (own_nz p5)) (own_text ((-(own_nx p5)).toInt64) ((-(own_ny p5)).toInt64) ((-(own_nz p5)).toInt64))), vI (own_ny p5), vI (own_nz p5), vU, vU, vU, vU, vU, vU, vU, vU] [(.long q1)])) _
          exact kt)
        have qe : own_a2 q1 q4 p6 = q1 := by unfold own_a2; rw [if_neg hc183_113]
        rw [qe] at kt0
        exact pre116 _ kt0
    have pre117 : ∀ t, Steps p.tables e below (T110.setTop (mkF m 192 #[vJ q1, vS, vJ q2, vS, vJ q3, vS, vJ q4, vS, vI p5, vI p6, vI (own_ngt p6), vI (own_u p5), vI (own_v p5), vI (own_w p5), vJ ((-(own_nx p5)).toInt64), vS, vJ ((-(own_ny p5)).toInt64), vS, vJ ((-(own_nz p5)).toInt64), vS, vR x98_0, vI (own_eq (own_neg (own_nx p5) (own_ny p5) (own_nz p5)) (own_text ((-(own_nx p5)).toInt64) ((-(own_ny p5)).toInt64) ((-(own_nz p5)).toInt64))), vI (own_ny p5), vI (own_nz p5), vU, vU, vU, vU, vU, vU, vU, vU] [(.long (own_a2 q1 q4 p6))])) t → Steps p.tables e below (s₁.setTop (entryFrame m #[(.long q1), (.long q2), (.long q3), (.long q4), (.int p5), (.int p6)] maxLocals)) t := fun t kt => pre111 t (jn112 t kt)
    have pre118 : ∀ t, Steps p.tables e below (T110.setTop (mkF m 194 #[vJ q1, vS, vJ q2, vS, vJ q3, vS, vJ q4, vS, vI p5, vI p6, vI (own_ngt p6), vI (own_u p5), vI (own_v p5), vI (own_w p5), vJ ((-(own_nx p5)).toInt64), vS, vJ ((-(own_ny p5)).toInt64), vS, vJ ((-(own_nz p5)).toInt64), vS, vR x98_0, vI (own_eq (own_neg (own_nx p5) (own_ny p5) (own_nz p5)) (own_text ((-(own_nx p5)).toInt64) ((-(own_ny p5)).toInt64) ((-(own_nz p5)).toInt64))), vJ (own_a2 q1 q4 p6), vS, vU, vU, vU, vU, vU, vU, vU, vU] [])) t → Steps p.tables e below (s₁.setTop (entryFrame m #[(.long q1), (.long q2), (.long q3), (.long q4), (.int p5), (.int p6)] maxLocals)) t := fun t kt => pre117 t (by
      show Steps p.tables e below (T110.setTop (mkF m 192 #[vJ q1, vS, vJ q2, vS, vJ q3, vS, vJ q4, vS, vI p5, vI p6, vI (own_ngt p6), vI (own_u p5), vI (own_v p5), vI (own_w p5), vJ ((-(own_nx p5)).toInt64), vS, vJ ((-(own_ny p5)).toInt64), vS, vJ ((-(own_nz p5)).toInt64), vS, vR x98_0, vI (own_eq (own_neg (own_nx p5) (own_ny p5) (own_nz p5)) (own_text ((-(own_nx p5)).toInt64) ((-(own_ny p5)).toInt64) ((-(own_nz p5)).toInt64))), vI (own_ny p5), vI (own_nz p5), vU, vU, vU, vU, vU, vU, vU, vU] [(.long (own_a2 q1 q4 p6))])) _
      refine XS.lstore X110.here hx rfl (hb hby at_192) rfl (l' := #[vJ q1, vS, vJ q2, vS, vJ q3, vS, vJ q4, vS, vI p5, vI p6, vI (own_ngt p6), vI (own_u p5), vI (own_v p5), vI (own_w p5), vJ ((-(own_nx p5)).toInt64), vS, vJ ((-(own_ny p5)).toInt64), vS, vJ ((-(own_nz p5)).toInt64), vS, vR x98_0, vI (own_eq (own_neg (own_nx p5) (own_ny p5) (own_nz p5)) (own_text ((-(own_nx p5)).toInt64) ((-(own_ny p5)).toInt64) ((-(own_nz p5)).toInt64))), vJ (own_a2 q1 q4 p6), vS, vU, vU, vU, vU, vU, vU, vU, vU]) rfl ?_
      show Steps p.tables e below (T110.setTop (mkF m 194 #[vJ q1, vS, vJ q2, vS, vJ q3, vS, vJ q4, vS, vI p5, vI p6, vI (own_ngt p6), vI (own_u p5), vI (own_v p5), vI (own_w p5), vJ ((-(own_nx p5)).toInt64), vS, vJ ((-(own_ny p5)).toInt64), vS, vJ ((-(own_nz p5)).toInt64), vS, vR x98_0, vI (own_eq (own_neg (own_nx p5) (own_ny p5) (own_nz p5)) (own_text ((-(own_nx p5)).toInt64) ((-(own_ny p5)).toInt64) ((-(own_nz p5)).toInt64))), vJ (own_a2 q1 q4 p6), vS, vU, vU, vU, vU, vU, vU, vU, vU] [])) _
      exact kt)
    have jn119 : ∀ t, Steps p.tables e below (T110.setTop (mkF m 207 #[vJ q1, vS, vJ q2, vS, vJ q3, vS, vJ q4, vS, vI p5, vI p6, vI (own_ngt p6), vI (own_u p5), vI (own_v p5), vI (own_w p5), vJ ((-(own_nx p5)).toInt64), vS, vJ ((-(own_ny p5)).toInt64), vS, vJ ((-(own_nz p5)).toInt64), vS, vR x98_0, vI (own_eq (own_neg (own_nx p5) (own_ny p5) (own_nz p5)) (own_text ((-(own_nx p5)).toInt64) ((-(own_ny p5)).toInt64) ((-(own_nz p5)).toInt64))), vJ (own_a2 q1 q4 p6), vS, vU, vU, vU, vU, vU, vU, vU, vU] [(.long (own_b2 q2 q4 p6))])) t → Steps p.tables e below (T110.setTop (mkF m 194 #[vJ q1, vS, vJ q2, vS, vJ q3, vS, vJ q4, vS, vI p5, vI p6, vI (own_ngt p6), vI (own_u p5), vI (own_v p5), vI (own_w p5), vJ ((-(own_nx p5)).toInt64), vS, vJ ((-(own_ny p5)).toInt64), vS, vJ ((-(own_nz p5)).toInt64), vS, vR x98_0, vI (own_eq (own_neg (own_nx p5) (own_ny p5) (own_nz p5)) (own_text ((-(own_nx p5)).toInt64) ((-(own_ny p5)).toInt64) ((-(own_nz p5)).toInt64))), vJ (own_a2 q1 q4 p6), vS, vU, vU, vU, vU, vU, vU, vU, vU] [])) t := by
      intro t0 kt0
      have preR119 : ∀ t, Steps p.tables e below (T110.setTop (mkF m 194 #[vJ q1, vS, vJ q2, vS, vJ q3, vS, vJ q4, vS, vI p5, vI p6, vI (own_ngt p6), vI (own_u p5), vI (own_v p5), vI (own_w p5), vJ ((-(own_nx p5)).toInt64), vS, vJ ((-(own_ny p5)).toInt64), vS, vJ ((-(own_nz p5)).toInt64), vS, vR x98_0, vI (own_eq (own_neg (own_nx p5) (own_ny p5) (own_nz p5)) (own_text ((-(own_nx p5)).toInt64) ((-(own_ny p5)).toInt64) ((-(own_nz p5)).toInt64))), vJ (own_a2 q1 q4 p6), vS, vU, vU, vU, vU, vU, vU, vU, vU] [])) t → Steps p.tables e below (T110.setTop (mkF m 194 #[vJ q1, vS, vJ q2, vS, vJ q3, vS, vJ q4, vS, vI p5, vI p6, vI (own_ngt p6), vI (own_u p5), vI (own_v p5), vI (own_w p5), vJ ((-(own_nx p5)).toInt64), vS, vJ ((-(own_ny p5)).toInt64), vS, vJ ((-(own_nz p5)).toInt64), vS, vR x98_0, vI (own_eq (own_neg (own_nx p5) (own_ny p5) (own_nz p5)) (own_text ((-(own_nx p5)).toInt64) ((-(own_ny p5)).toInt64) ((-(own_nz p5)).toInt64))), vJ (own_a2 q1 q4 p6), vS, vU, vU, vU, vU, vU, vU, vU, vU] [])) t := fun t kt => kt
      have pre121 : ∀ t, Steps p.tables e below (T110.setTop (mkF m 198 #[vJ q1, vS, vJ q2, vS, vJ q3, vS, vJ q4, vS, vI p5, vI p6, vI (own_ngt p6), vI (own_u p5), vI (own_v p5), vI (own_w p5), vJ ((-(own_nx p5)).toInt64), vS, vJ ((-(own_ny p5)).toInt64), vS, vJ ((-(own_nz p5)).toInt64), vS, vR x98_0, vI (own_eq (own_neg (own_nx p5) (own_ny p5) (own_nz p5)) (own_text ((-(own_nx p5)).toInt64) ((-(own_ny p5)).toInt64) ((-(own_nz p5)).toInt64))), vJ (own_a2 q1 q4 p6), vS, vU, vU, vU, vU, vU, vU, vU, vU] [(.int (p6 &&& (2 : Int32)))])) t → Steps p.tables e below (T110.setTop (mkF m 194 #[vJ q1, vS, vJ q2, vS, vJ q3, vS, vJ q4, vS, vI p5, vI p6, vI (own_ngt p6), vI (own_u p5), vI (own_v p5), vI (own_w p5), vJ ((-(own_nx p5)).toInt64), vS, vJ ((-(own_ny p5)).toInt64), vS, vJ ((-(own_nz p5)).toInt64), vS, vR x98_0, vI (own_eq (own_neg (own_nx p5) (own_ny p5) (own_nz p5)) (own_text ((-(own_nx p5)).toInt64) ((-(own_ny p5)).toInt64) ((-(own_nz p5)).toInt64))), vJ (own_a2 q1 q4 p6), vS, vU, vU, vU, vU, vU, vU, vU, vU] [])) t := fun t kt => preR119 t (by
        show Steps p.tables e below (T110.setTop (mkF m 194 #[vJ q1, vS, vJ q2, vS, vJ q3, vS, vJ q4, vS, vI p5, vI p6, vI (own_ngt p6), vI (own_u p5), vI (own_v p5), vI (own_w p5), vJ ((-(own_nx p5)).toInt64), vS, vJ ((-(own_ny p5)).toInt64), vS, vJ ((-(own_nz p5)).toInt64), vS, vR x98_0, vI (own_eq (own_neg (own_nx p5) (own_ny p5) (own_nz p5)) (own_text ((-(own_nx p5)).toInt64) ((-(own_ny p5)).toInt64) ((-(own_nz p5)).toInt64))), vJ (own_a2 q1 q4 p6), vS, vU, vU, vU, vU, vU, vU, vU, vU] [])) _
        refine XS.iload X110.here hx rfl (hb hby at_194) rfl ?_
        refine XS.iconst X110.here hx rfl (hb hby at_196) ?_
        refine XS.iand X110.here hx rfl (hb hby at_197) rfl ?_
        show Steps p.tables e below (T110.setTop (mkF m 198 #[vJ q1, vS, vJ q2, vS, vJ q3, vS, vJ q4, vS, vI p5, vI p6, vI (own_ngt p6), vI (own_u p5), vI (own_v p5), vI (own_w p5), vJ ((-(own_nx p5)).toInt64), vS, vJ ((-(own_ny p5)).toInt64), vS, vJ ((-(own_nz p5)).toInt64), vS, vR x98_0, vI (own_eq (own_neg (own_nx p5) (own_ny p5) (own_nz p5)) (own_text ((-(own_nx p5)).toInt64) ((-(own_ny p5)).toInt64) ((-(own_nz p5)).toInt64))), vJ (own_a2 q1 q4 p6), vS, vU, vU, vU, vU, vU, vU, vU, vU] [(.int (p6 &&& (2 : Int32)))])) _
        exact kt)
      by_cases hc198_120 : (p6 &&& (2 : Int32)) = (0 : Int32)
      · have pre122 : ∀ t, Steps p.tables e below (T110.setTop (mkF m 207 #[vJ q1, vS, vJ q2, vS, vJ q3, vS, vJ q4, vS, vI p5, vI p6, vI (own_ngt p6), vI (own_u p5), vI (own_v p5), vI (own_w p5), vJ ((-(own_nx p5)).toInt64), vS, vJ ((-(own_ny p5)).toInt64), vS, vJ ((-(own_nz p5)).toInt64), vS, vR x98_0, vI (own_eq (own_neg (own_nx p5) (own_ny p5) (own_nz p5)) (own_text ((-(own_nx p5)).toInt64) ((-(own_ny p5)).toInt64) ((-(own_nz p5)).toInt64))), vJ (own_a2 q1 q4 p6), vS, vU, vU, vU, vU, vU, vU, vU, vU] [(.long q4)])) t → Steps p.tables e below (T110.setTop (mkF m 194 #[vJ q1, vS, vJ q2, vS, vJ q3, vS, vJ q4, vS, vI p5, vI p6, vI (own_ngt p6), vI (own_u p5), vI (own_v p5), vI (own_w p5), vJ ((-(own_nx p5)).toInt64), vS, vJ ((-(own_ny p5)).toInt64), vS, vJ ((-(own_nz p5)).toInt64), vS, vR x98_0, vI (own_eq (own_neg (own_nx p5) (own_ny p5) (own_nz p5)) (own_text ((-(own_nx p5)).toInt64) ((-(own_ny p5)).toInt64) ((-(own_nz p5)).toInt64))), vJ (own_a2 q1 q4 p6), vS, vU, vU, vU, vU, vU, vU, vU, vU] [])) t := fun t kt => pre121 t (by
          show Steps p.tables e below (T110.setTop (mkF m 198 #[vJ q1, vS, vJ q2, vS, vJ q3, vS, vJ q4, vS, vI p5, vI p6, vI (own_ngt p6), vI (own_u p5), vI (own_v p5), vI (own_w p5), vJ ((-(own_nx p5)).toInt64), vS, vJ ((-(own_ny p5)).toInt64), vS, vJ ((-(own_nz p5)).toInt64), vS, vR x98_0, vI (own_eq (own_neg (own_nx p5) (own_ny p5) (own_nz p5)) (own_text ((-(own_nx p5)).toInt64) ((-(own_ny p5)).toInt64) ((-(own_nz p5)).toInt64))), vJ (own_a2 q1 q4 p6), vS, vU, vU, vU, vU, vU, vU, vU, vU] [(.int (p6 &&& (2 : Int32)))])) _
          refine XS.ifYes X110.here hx rfl (pc0 := 198) (pc' := 205) rfl (hb hby at_198) rfl ((if0 _ _).trans (teq hc198_120).1) (by decide) (by decide) ?_
          refine XS.lload X110.here hx rfl (hb hby at_205) rfl ?_
          show Steps p.tables e below (T110.setTop (mkF m 207 #[vJ q1, vS, vJ q2, vS, vJ q3, vS, vJ q4, vS, vI p5, vI p6, vI (own_ngt p6), vI (own_u p5), vI (own_v p5), vI (own_w p5), vJ ((-(own_nx p5)).toInt64), vS, vJ ((-(own_ny p5)).toInt64), vS, vJ ((-(own_nz p5)).toInt64), vS, vR x98_0, vI (own_eq (own_neg (own_nx p5) (own_ny p5) (own_nz p5)) (own_text ((-(own_nx p5)).toInt64) ((-(own_ny p5)).toInt64) ((-(own_nz p5)).toInt64))), vJ (own_a2 q1 q4 p6), vS, vU, vU, vU, vU, vU, vU, vU, vU] [(.long q4)])) _
          exact kt)
        have qe : own_b2 q2 q4 p6 = q4 := by unfold own_b2; rw [if_pos hc198_120]
        rw [qe] at kt0
        exact pre122 _ kt0
      · have pre123 : ∀ t, Steps p.tables e below (T110.setTop (mkF m 207 #[vJ q1, vS, vJ q2, vS, vJ q3, vS, vJ q4, vS, vI p5, vI p6, vI (own_ngt p6), vI (own_u p5), vI (own_v p5), vI (own_w p5), vJ ((-(own_nx p5)).toInt64), vS, vJ ((-(own_ny p5)).toInt64), vS, vJ ((-(own_nz p5)).toInt64), vS, vR x98_0, vI (own_eq (own_neg (own_nx p5) (own_ny p5) (own_nz p5)) (own_text ((-(own_nx p5)).toInt64) ((-(own_ny p5)).toInt64) ((-(own_nz p5)).toInt64))), vJ (own_a2 q1 q4 p6), vS, vU, vU, vU, vU, vU, vU, vU, vU] [(.long q2)])) t → Steps p.tables e below (T110.setTop (mkF m 194 #[vJ q1, vS, vJ q2, vS, vJ q3, vS, vJ q4, vS, vI p5, vI p6, vI (own_ngt p6), vI (own_u p5), vI (own_v p5), vI (own_w p5), vJ ((-(own_nx p5)).toInt64), vS, vJ ((-(own_ny p5)).toInt64), vS, vJ ((-(own_nz p5)).toInt64), vS, vR x98_0, vI (own_eq (own_neg (own_nx p5) (own_ny p5) (own_nz p5)) (own_text ((-(own_nx p5)).toInt64) ((-(own_ny p5)).toInt64) ((-(own_nz p5)).toInt64))), vJ (own_a2 q1 q4 p6), vS, vU, vU, vU, vU, vU, vU, vU, vU] [])) t := fun t kt => pre121 t (by
          show Steps p.tables e below (T110.setTop (mkF m 198 #[vJ q1, vS, vJ q2, vS, vJ q3, vS, vJ q4, vS, vI p5, vI p6, vI (own_ngt p6), vI (own_u p5), vI (own_v p5), vI (own_w p5), vJ ((-(own_nx p5)).toInt64), vS, vJ ((-(own_ny p5)).toInt64), vS, vJ ((-(own_nz p5)).toInt64), vS, vR x98_0, vI (own_eq (own_neg (own_nx p5) (own_ny p5) (own_nz p5)) (own_text ((-(own_nx p5)).toInt64) ((-(own_ny p5)).toInt64) ((-(own_nz p5)).toInt64))), vJ (own_a2 q1 q4 p6), vS, vU, vU, vU, vU, vU, vU, vU, vU] [(.int (p6 &&& (2 : Int32)))])) _
          refine XS.ifNo X110.here hx rfl (hb hby at_198) rfl ((if0 _ _).trans (feq hc198_120).1) ?_
          refine XS.lloadN X110.here hx rfl (hb hby at_201) rfl ?_
          refine XS.goto X110.here hx rfl (pc0 := 202) (pc' := 207) rfl (hb hby at_202) (by decide) (by decide) ?_
          show Steps p.tables e below (T110.setTop (mkF m 207 #[vJ q1, vS, vJ q2, vS, vJ q3, vS, vJ q4, vS, vI p5, vI p6, vI (own_ngt p6), vI (own_u p5), vI (own_v p5), vI (own_w p5), vJ ((-(own_nx p5)).toInt64), vS, vJ ((-(own_ny p5)).toInt64), vS, vJ ((-(own_nz p5)).toInt64), vS, vR x98_0, vI (own_eq (own_neg (own_nx p5) (own_ny p5) (own_nz p5)) (own_text ((-(own_nx p5)).toInt64) ((-(own_ny p5)).toInt64) ((-(own_nz p5)).toInt64))), vJ (own_a2 q1 q4 p6), vS, vU, vU, vU, vU, vU, vU, vU, vU] [(.long q2)])) _
          exact kt)
        have qe : own_b2 q2 q4 p6 = q2 := by unfold own_b2; rw [if_neg hc198_120]
        rw [qe] at kt0
        exact pre123 _ kt0
    have pre124 : ∀ t, Steps p.tables e below (T110.setTop (mkF m 207 #[vJ q1, vS, vJ q2, vS, vJ q3, vS, vJ q4, vS, vI p5, vI p6, vI (own_ngt p6), vI (own_u p5), vI (own_v p5), vI (own_w p5), vJ ((-(own_nx p5)).toInt64), vS, vJ ((-(own_ny p5)).toInt64), vS, vJ ((-(own_nz p5)).toInt64), vS, vR x98_0, vI (own_eq (own_neg (own_nx p5) (own_ny p5) (own_nz p5)) (own_text ((-(own_nx p5)).toInt64) ((-(own_ny p5)).toInt64) ((-(own_nz p5)).toInt64))), vJ (own_a2 q1 q4 p6), vS, vU, vU, vU, vU, vU, vU, vU, vU] [(.long (own_b2 q2 q4 p6))])) t → Steps p.tables e below (s₁.setTop (entryFrame m #[(.long q1), (.long q2), (.long q3), (.long q4), (.int p5), (.int p6)] maxLocals)) t := fun t kt => pre118 t (jn119 t kt)
    have pre125 : ∀ t, Steps p.tables e below (T110.setTop (mkF m 209 #[vJ q1, vS, vJ q2, vS, vJ q3, vS, vJ q4, vS, vI p5, vI p6, vI (own_ngt p6), vI (own_u p5), vI (own_v p5), vI (own_w p5), vJ ((-(own_nx p5)).toInt64), vS, vJ ((-(own_ny p5)).toInt64), vS, vJ ((-(own_nz p5)).toInt64), vS, vR x98_0, vI (own_eq (own_neg (own_nx p5) (own_ny p5) (own_nz p5)) (own_text ((-(own_nx p5)).toInt64) ((-(own_ny p5)).toInt64) ((-(own_nz p5)).toInt64))), vJ (own_a2 q1 q4 p6), vS, vJ (own_b2 q2 q4 p6), vS, vU, vU, vU, vU, vU, vU] [])) t → Steps p.tables e below (s₁.setTop (entryFrame m #[(.long q1), (.long q2), (.long q3), (.long q4), (.int p5), (.int p6)] maxLocals)) t := fun t kt => pre124 t (by
      show Steps p.tables e below (T110.setTop (mkF m 207 #[vJ q1, vS, vJ q2, vS, vJ q3, vS, vJ q4, vS, vI p5, vI p6, vI (own_ngt p6), vI (own_u p5), vI (own_v p5), vI (own_w p5), vJ ((-(own_nx p5)).toInt64), vS, vJ ((-(own_ny p5)).toInt64), vS, vJ ((-(own_nz p5)).toInt64), vS, vR x98_0, vI (own_eq (own_neg (own_nx p5) (own_ny p5) (own_nz p5)) (own_text ((-(own_nx p5)).toInt64) ((-(own_ny p5)).toInt64) ((-(own_nz p5)).toInt64))), vJ (own_a2 q1 q4 p6), vS, vU, vU, vU, vU, vU, vU, vU, vU] [(.long (own_b2 q2 q4 p6))])) _
      refine XS.lstore X110.here hx rfl (hb hby at_207) rfl (l' := #[vJ q1, vS, vJ q2, vS, vJ q3, vS, vJ q4, vS, vI p5, vI p6, vI (own_ngt p6), vI (own_u p5), vI (own_v p5), vI (own_w p5), vJ ((-(own_nx p5)).toInt64), vS, vJ ((-(own_ny p5)).toInt64), vS, vJ ((-(own_nz p5)).toInt64), vS, vR x98_0, vI (own_eq (own_neg (own_nx p5) (own_ny p5) (own_nz p5)) (own_text ((-(own_nx p5)).toInt64) ((-(own_ny p5)).toInt64) ((-(own_nz p5)).toInt64))), vJ (own_a2 q1 q4 p6), vS, vJ (own_b2 q2 q4 p6), vS, vU, vU, vU, vU, vU, vU]) rfl ?_
      show Steps p.tables e below (T110.setTop (mkF m 209 #[vJ q1, vS, vJ q2, vS, vJ q3, vS, vJ q4, vS, vI p5, vI p6, vI (own_ngt p6), vI (own_u p5), vI (own_v p5), vI (own_w p5), vJ ((-(own_nx p5)).toInt64), vS, vJ ((-(own_ny p5)).toInt64), vS, vJ ((-(own_nz p5)).toInt64), vS, vR x98_0, vI (own_eq (own_neg (own_nx p5) (own_ny p5) (own_nz p5)) (own_text ((-(own_nx p5)).toInt64) ((-(own_ny p5)).toInt64) ((-(own_nz p5)).toInt64))), vJ (own_a2 q1 q4 p6), vS, vJ (own_b2 q2 q4 p6), vS, vU, vU, vU, vU, vU, vU] [])) _
      exact kt)
    have jn126 : ∀ t, Steps p.tables e below (T110.setTop (mkF m 223 #[vJ q1, vS, vJ q2, vS, vJ q3, vS, vJ q4, vS, vI p5, vI p6, vI (own_ngt p6), vI (own_u p5), vI (own_v p5), vI (own_w p5), vJ ((-(own_nx p5)).toInt64), vS, vJ ((-(own_ny p5)).toInt64), vS, vJ ((-(own_nz p5)).toInt64), vS, vR x98_0, vI (own_eq (own_neg (own_nx p5) (own_ny p5) (own_nz p5)) (own_text ((-(own_nx p5)).toInt64) ((-(own_ny p5)).toInt64) ((-(own_nz p5)).toInt64))), vJ (own_a2 q1 q4 p6), vS, vJ (own_b2 q2 q4 p6), vS, vU, vU, vU, vU, vU, vU] [(.long (own_c2 q3 q4 p6))])) t → Steps p.tables e below (T110.setTop (mkF m 209 #[vJ q1, vS, vJ q2, vS, vJ q3, vS, vJ q4, vS, vI p5, vI p6, vI (own_ngt p6), vI (own_u p5), vI (own_v p5), vI (own_w p5), vJ ((-(own_nx p5)).toInt64), vS, vJ ((-(own_ny p5)).toInt64), vS, vJ ((-(own_nz p5)).toInt64), vS, vR x98_0, vI (own_eq (own_neg (own_nx p5) (own_ny p5) (own_nz p5)) (own_text ((-(own_nx p5)).toInt64) ((-(own_ny p5)).toInt64) ((-(own_nz p5)).toInt64))), vJ (own_a2 q1 q4 p6), vS, vJ (own_b2 q2 q4 p6), vS, vU, vU, vU, vU, vU, vU] [])) t := by
      intro t0 kt0
      have preR126 : ∀ t, Steps p.tables e below (T110.setTop (mkF m 209 #[vJ q1, vS, vJ q2, vS, vJ q3, vS, vJ q4, vS, vI p5, vI p6, vI (own_ngt p6), vI (own_u p5), vI (own_v p5), vI (own_w p5), vJ ((-(own_nx p5)).toInt64), vS, vJ ((-(own_ny p5)).toInt64), vS, vJ ((-(own_nz p5)).toInt64), vS, vR x98_0, vI (own_eq (own_neg (own_nx p5) (own_ny p5) (own_nz p5)) (own_text ((-(own_nx p5)).toInt64) ((-(own_ny p5)).toInt64) ((-(own_nz p5)).toInt64))), vJ (own_a2 q1 q4 p6), vS, vJ (own_b2 q2 q4 p6), vS, vU, vU, vU, vU, vU, vU] [])) t → Steps p.tables e below (T110.setTop (mkF m 209 #[vJ q1, vS, vJ q2, vS, vJ q3, vS, vJ q4, vS, vI p5, vI p6, vI (own_ngt p6), vI (own_u p5), vI (own_v p5), vI (own_w p5), vJ ((-(own_nx p5)).toInt64), vS, vJ ((-(own_ny p5)).toInt64), vS, vJ ((-(own_nz p5)).toInt64), vS, vR x98_0, vI (own_eq (own_neg (own_nx p5) (own_ny p5) (own_nz p5)) (own_text ((-(own_nx p5)).toInt64) ((-(own_ny p5)).toInt64) ((-(own_nz p5)).toInt64))), vJ (own_a2 q1 q4 p6), vS, vJ (own_b2 q2 q4 p6), vS, vU, vU, vU, vU, vU, vU] [])) t := fun t kt => kt
      have pre128 : ∀ t, Steps p.tables e below (T110.setTop (mkF m 213 #[vJ q1, vS, vJ q2, vS, vJ q3, vS, vJ q4, vS, vI p5, vI p6, vI (own_ngt p6), vI (own_u p5), vI (own_v p5), vI (own_w p5), vJ ((-(own_nx p5)).toInt64), vS, vJ ((-(own_ny p5)).toInt64), vS, vJ ((-(own_nz p5)).toInt64), vS, vR x98_0, vI (own_eq (own_neg (own_nx p5) (own_ny p5) (own_nz p5)) (own_text ((-(own_nx p5)).toInt64) ((-(own_ny p5)).toInt64) ((-(own_nz p5)).toInt64))), vJ (own_a2 q1 q4 p6), vS, vJ (own_b2 q2 q4 p6), vS, vU, vU, vU, vU, vU, vU] [(.int (p6 &&& (4 : Int32)))])) t → Steps p.tables e below (T110.setTop (mkF m 209 #[vJ q1, vS, vJ q2, vS, vJ q3, vS, vJ q4, vS, vI p5, vI p6, vI (own_ngt p6), vI (own_u p5), vI (own_v p5), vI (own_w p5), vJ ((-(own_nx p5)).toInt64), vS, vJ ((-(own_ny p5)).toInt64), vS, vJ ((-(own_nz p5)).toInt64), vS, vR x98_0, vI (own_eq (own_neg (own_nx p5) (own_ny p5) (own_nz p5)) (own_text ((-(own_nx p5)).toInt64) ((-(own_ny p5)).toInt64) ((-(own_nz p5)).toInt64))), vJ (own_a2 q1 q4 p6), vS, vJ (own_b2 q2 q4 p6), vS, vU, vU, vU, vU, vU, vU] [])) t := fun t kt => preR126 t (by
        show Steps p.tables e below (T110.setTop (mkF m 209 #[vJ q1, vS, vJ q2, vS, vJ q3, vS, vJ q4, vS, vI p5, vI p6, vI (own_ngt p6), vI (own_u p5), vI (own_v p5), vI (own_w p5), vJ ((-(own_nx p5)).toInt64), vS, vJ ((-(own_ny p5)).toInt64), vS, vJ ((-(own_nz p5)).toInt64), vS, vR x98_0, vI (own_eq (own_neg (own_nx p5) (own_ny p5) (own_nz p5)) (own_text ((-(own_nx p5)).toInt64) ((-(own_ny p5)).toInt64) ((-(own_nz p5)).toInt64))), vJ (own_a2 q1 q4 p6), vS, vJ (own_b2 q2 q4 p6), vS, vU, vU, vU, vU, vU, vU] [])) _
        refine XS.iload X110.here hx rfl (hb hby at_209) rfl ?_
        refine XS.iconst X110.here hx rfl (hb hby at_211) ?_
        refine XS.iand X110.here hx rfl (hb hby at_212) rfl ?_
        show Steps p.tables e below (T110.setTop (mkF m 213 #[vJ q1, vS, vJ q2, vS, vJ q3, vS, vJ q4, vS, vI p5, vI p6, vI (own_ngt p6), vI (own_u p5), vI (own_v p5), vI (own_w p5), vJ ((-(own_nx p5)).toInt64), vS, vJ ((-(own_ny p5)).toInt64), vS, vJ ((-(own_nz p5)).toInt64), vS, vR x98_0, vI (own_eq (own_neg (own_nx p5) (own_ny p5) (own_nz p5)) (own_text ((-(own_nx p5)).toInt64) ((-(own_ny p5)).toInt64) ((-(own_nz p5)).toInt64))), vJ (own_a2 q1 q4 p6), vS, vJ (own_b2 q2 q4 p6), vS, vU, vU, vU, vU, vU, vU] [(.int (p6 &&& (4 : Int32)))])) _
        exact kt)
      by_cases hc213_127 : (p6 &&& (4 : Int32)) = (0 : Int32)
      · have pre129 : ∀ t, Steps p.tables e below (T110.setTop (mkF m 223 #[vJ q1, vS, vJ q2, vS, vJ q3, vS, vJ q4, vS, vI p5, vI p6, vI (own_ngt p6), vI (own_u p5), vI (own_v p5), vI (own_w p5), vJ ((-(own_nx p5)).toInt64), vS, vJ ((-(own_ny p5)).toInt64), vS, vJ ((-(own_nz p5)).toInt64), vS, vR x98_0, vI (own_eq (own_neg (own_nx p5) (own_ny p5) (own_nz p5)) (own_text ((-(own_nx p5)).toInt64) ((-(own_ny p5)).toInt64) ((-(own_nz p5)).toInt64))), vJ (own_a2 q1 q4 p6), vS, vJ (own_b2 q2 q4 p6), vS, vU, vU, vU, vU, vU, vU] [(.long q4)])) t → Steps p.tables e below (T110.setTop (mkF m 209 #[vJ q1, vS, vJ q2, vS, vJ q3, vS, vJ q4, vS, vI p5, vI p6, vI (own_ngt p6), vI (own_u p5), vI (own_v p5), vI (own_w p5), vJ ((-(own_nx p5)).toInt64), vS, vJ ((-(own_ny p5)).toInt64), vS, vJ ((-(own_nz p5)).toInt64), vS, vR x98_0, vI (own_eq (own_neg (own_nx p5) (own_ny p5) (own_nz p5)) (own_text ((-(own_nx p5)).toInt64) ((-(own_ny p5)).toInt64) ((-(own_nz p5)).toInt64))), vJ (own_a2 q1 q4 p6), vS, vJ (own_b2 q2 q4 p6), vS, vU, vU, vU, vU, vU, vU] [])) t := fun t kt => pre128 t (by
          show Steps p.tables e below (T110.setTop (mkF m 213 #[vJ q1, vS, vJ q2, vS, vJ q3, vS, vJ q4, vS, vI p5, vI p6, vI (own_ngt p6), vI (own_u p5), vI (own_v p5), vI (own_w p5), vJ ((-(own_nx p5)).toInt64), vS, vJ ((-(own_ny p5)).toInt64), vS, vJ ((-(own_nz p5)).toInt64), vS, vR x98_0, vI (own_eq (own_neg (own_nx p5) (own_ny p5) (own_nz p5)) (own_text ((-(own_nx p5)).toInt64) ((-(own_ny p5)).toInt64) ((-(own_nz p5)).toInt64))), vJ (own_a2 q1 q4 p6), vS, vJ (own_b2 q2 q4 p6), vS, vU, vU, vU, vU, vU, vU] [(.int (p6 &&& (4 : Int32)))])) _
          refine XS.ifYes X110.here hx rfl (pc0 := 213) (pc' := 221) rfl (hb hby at_213) rfl ((if0 _ _).trans (teq hc213_127).1) (by decide) (by decide) ?_
          refine XS.lload X110.here hx rfl (hb hby at_221) rfl ?_
          show Steps p.tables e below (T110.setTop (mkF m 223 #[vJ q1, vS, vJ q2, vS, vJ q3, vS, vJ q4, vS, vI p5, vI p6, vI (own_ngt p6), vI (own_u p5), vI (own_v p5), vI (own_w p5), vJ ((-(own_nx p5)).toInt64), vS, vJ ((-(own_ny p5)).toInt64), vS, vJ ((-(own_nz p5)).toInt64), vS, vR x98_0, vI (own_eq (own_neg (own_nx p5) (own_ny p5) (own_nz p5)) (own_text ((-(own_nx p5)).toInt64) ((-(own_ny p5)).toInt64) ((-(own_nz p5)).toInt64))), vJ (own_a2 q1 q4 p6), vS, vJ (own_b2 q2 q4 p6), vS, vU, vU, vU, vU, vU, vU] [(.long q4)])) _
          exact kt)
        have qe : own_c2 q3 q4 p6 = q4 := by unfold own_c2; rw [if_pos hc213_127]
        rw [qe] at kt0
        exact pre129 _ kt0
      · have pre130 : ∀ t, Steps p.tables e below (T110.setTop (mkF m 223 #[vJ q1, vS, vJ q2, vS, vJ q3, vS, vJ q4, vS, vI p5, vI p6, vI (own_ngt p6), vI (own_u p5), vI (own_v p5), vI (own_w p5), vJ ((-(own_nx p5)).toInt64), vS, vJ ((-(own_ny p5)).toInt64), vS, vJ ((-(own_nz p5)).toInt64), vS, vR x98_0, vI (own_eq (own_neg (own_nx p5) (own_ny p5) (own_nz p5)) (own_text ((-(own_nx p5)).toInt64) ((-(own_ny p5)).toInt64) ((-(own_nz p5)).toInt64))), vJ (own_a2 q1 q4 p6), vS, vJ (own_b2 q2 q4 p6), vS, vU, vU, vU, vU, vU, vU] [(.long q3)])) t → Steps p.tables e below (T110.setTop (mkF m 209 #[vJ q1, vS, vJ q2, vS, vJ q3, vS, vJ q4, vS, vI p5, vI p6, vI (own_ngt p6), vI (own_u p5), vI (own_v p5), vI (own_w p5), vJ ((-(own_nx p5)).toInt64), vS, vJ ((-(own_ny p5)).toInt64), vS, vJ ((-(own_nz p5)).toInt64), vS, vR x98_0, vI (own_eq (own_neg (own_nx p5) (own_ny p5) (own_nz p5)) (own_text ((-(own_nx p5)).toInt64) ((-(own_ny p5)).toInt64) ((-(own_nz p5)).toInt64))), vJ (own_a2 q1 q4 p6), vS, vJ (own_b2 q2 q4 p6), vS, vU, vU, vU, vU, vU, vU] [])) t := fun t kt => pre128 t (by
          show Steps p.tables e below (T110.setTop (mkF m 213 #[vJ q1, vS, vJ q2, vS, vJ q3, vS, vJ q4, vS, vI p5, vI p6, vI (own_ngt p6), vI (own_u p5), vI (own_v p5), vI (own_w p5), vJ ((-(own_nx p5)).toInt64), vS, vJ ((-(own_ny p5)).toInt64), vS, vJ ((-(own_nz p5)).toInt64), vS, vR x98_0, vI (own_eq (own_neg (own_nx p5) (own_ny p5) (own_nz p5)) (own_text ((-(own_nx p5)).toInt64) ((-(own_ny p5)).toInt64) ((-(own_nz p5)).toInt64))), vJ (own_a2 q1 q4 p6), vS, vJ (own_b2 q2 q4 p6), vS, vU, vU, vU, vU, vU, vU] [(.int (p6 &&& (4 : Int32)))])) _
          refine XS.ifNo X110.here hx rfl (hb hby at_213) rfl ((if0 _ _).trans (feq hc213_127).1) ?_
          refine XS.lload X110.here hx rfl (hb hby at_216) rfl ?_
          refine XS.goto X110.here hx rfl (pc0 := 218) (pc' := 223) rfl (hb hby at_218) (by decide) (by decide) ?_
          show Steps p.tables e below (T110.setTop (mkF m 223 #[vJ q1, vS, vJ q2, vS, vJ q3, vS, vJ q4, vS, vI p5, vI p6, vI (own_ngt p6), vI (own_u p5), vI (own_v p5), vI (own_w p5), vJ ((-(own_nx p5)).toInt64), vS, vJ ((-(own_ny p5)).toInt64), vS, vJ ((-(own_nz p5)).toInt64), vS, vR x98_0, vI (own_eq (own_neg (own_nx p5) (own_ny p5) (own_nz p5)) (own_text ((-(own_nx p5)).toInt64) ((-(own_ny p5)).toInt64) ((-(own_nz p5)).toInt64))), vJ (own_a2 q1 q4 p6), vS, vJ (own_b2 q2 q4 p6), vS, vU, vU, vU, vU, vU, vU] [(.long q3)])) _
          exact kt)
        have qe : own_c2 q3 q4 p6 = q3 := by unfold own_c2; rw [if_neg hc213_127]
        rw [qe] at kt0
        exact pre130 _ kt0
    have pre131 : ∀ t, Steps p.tables e below (T110.setTop (mkF m 223 #[vJ q1, vS, vJ q2, vS, vJ q3, vS, vJ q4, vS, vI p5, vI p6, vI (own_ngt p6), vI (own_u p5), vI (own_v p5), vI (own_w p5), vJ ((-(own_nx p5)).toInt64), vS, vJ ((-(own_ny p5)).toInt64), vS, vJ ((-(own_nz p5)).toInt64), vS, vR x98_0, vI (own_eq (own_neg (own_nx p5) (own_ny p5) (own_nz p5)) (own_text ((-(own_nx p5)).toInt64) ((-(own_ny p5)).toInt64) ((-(own_nz p5)).toInt64))), vJ (own_a2 q1 q4 p6), vS, vJ (own_b2 q2 q4 p6), vS, vU, vU, vU, vU, vU, vU] [(.long (own_c2 q3 q4 p6))])) t → Steps p.tables e below (s₁.setTop (entryFrame m #[(.long q1), (.long q2), (.long q3), (.long q4), (.int p5), (.int p6)] maxLocals)) t := fun t kt => pre125 t (jn126 t kt)
    obtain ⟨T132, h132, X132, e132, E132, A132, D132, -, st132⟩ := newO X110 hx hZ108 hown108 (own_wi hw 37 rfl) (own_wi hw 38 rfl) (own_wi hw 39 rfl) e110 (g := (mkF m 225 #[vJ q1, vS, vJ q2, vS, vJ q3, vS, vJ q4, vS, vI p5, vI p6, vI (own_ngt p6), vI (own_u p5), vI (own_v p5), vI (own_w p5), vJ ((-(own_nx p5)).toInt64), vS, vJ ((-(own_ny p5)).toInt64), vS, vJ ((-(own_nz p5)).toInt64), vS, vR x98_0, vI (own_eq (own_neg (own_nx p5) (own_ny p5) (own_nz p5)) (own_text ((-(own_nx p5)).toInt64) ((-(own_ny p5)).toInt64) ((-(own_nz p5)).toInt64))), vJ (own_a2 q1 q4 p6), vS, vJ (own_b2 q2 q4 p6), vS, vJ (own_c2 q3 q4 p6), vS, vU, vU, vU, vU] [])) rfl (hb hby at_225) (by decide) (by decide)
    obtain ⟨b132, g132⟩ : ∃ z, z = T108.heap.size := ⟨_, rfl⟩
    rw [← g132] at A132 D132 st132
    have ne_x98_0_b132 : x98_0 ≠ b132 := Nat.ne_of_lt (Nat.lt_of_lt_of_le y109.lt (Nat.le_of_eq g132.symm))
    have ne_b101_b132 : b101 ≠ b132 := Nat.ne_of_lt (Nat.lt_of_lt_of_le (f103_0.keep K108q).lt (Nat.le_of_eq g132.symm))
    have ne_x108_0_b132 : x108_0 ≠ b132 := Nat.ne_of_lt (Nat.lt_of_lt_of_le f108_0.lt (Nat.le_of_eq g132.symm))
    have g_b132 : n0 ≤ b132 := Nat.le_trans Z108 (Nat.le_of_eq g132.symm)
    have sz_b132 : h0.size ≤ b132 := Nat.le_trans (K108).1 (Nat.le_of_eq g132.symm)
    have ch133 := ch108.trans (CHr.ext E132 ch108.1)
    have K132 : Keep h0 h132 [] := (K108).ext E132
    have Z132 : n0 ≤ h132.size := Nat.le_trans Z108 E132.1
    have F_sessions_b132 : Fld Z h132 b132 "com/example/vigilant_context/vigilantcontext/finding/LoadCost" "sessions" "J" (.long (0 : Int64)) := D132 (Or.inr (own_wi hw 50 rfl)) (ty := .long) (by decide)
    have F_connections_b132 : Fld Z h132 b132 "com/example/vigilant_context/vigilantcontext/finding/LoadCost" "connections" "J" (.long (0 : Int64)) := D132 (Or.inr (own_wi hw 52 rfl)) (ty := .long) (by decide)
    have F_statements_b132 : Fld Z h132 b132 "com/example/vigilant_context/vigilantcontext/finding/LoadCost" "statements" "J" (.long (0 : Int64)) := D132 (Or.inr (own_wi hw 54 rfl)) (ty := .long) (by decide)
    obtain ⟨_, _, ⟨T134, L134, k134, n134⟩, -, X134, ⟨Lc134, hQ134, l134, y134, z134⟩, st134⟩ := X132.specialBack hx (y := (⟨"com/example/vigilant_context/vigilantcontext/finding/LoadCost", "<init>", "(JJJ)V"⟩ : MethodName)) rfl hown108 (mvT hZ108 (own_wi hw 40 rfl)) (mvT hZ108 (own_wi hw 41 rfl)) (mvT hZ108 (own_wi hw 42 rfl)) (by decide) (backOf (W := 1) (rm9 l Z a0 hw [] b132 q1 q2 q3 (0 : Int64) (0 : Int64) (0 : Int64) h132 n0 Z132 A132 F_sessions_b132 F_connections_b132 F_statements_b132 g_b132) hZ108 (own_wi hw 42 rfl) (own_wi hw 39 rfl) (by decide) (by decide)) (g := (mkF m 233 #[vJ q1, vS, vJ q2, vS, vJ q3, vS, vJ q4, vS, vI p5, vI p6, vI (own_ngt p6), vI (own_u p5), vI (own_v p5), vI (own_w p5), vJ ((-(own_nx p5)).toInt64), vS, vJ ((-(own_ny p5)).toInt64), vS, vJ ((-(own_nz p5)).toInt64), vS, vR x98_0, vI (own_eq (own_neg (own_nx p5) (own_ny p5) (own_nz p5)) (own_text ((-(own_nx p5)).toInt64) ((-(own_ny p5)).toInt64) ((-(own_nz p5)).toInt64))), vJ (own_a2 q1 q4 p6), vS, vJ (own_b2 q2 q4 p6), vS, vJ (own_c2 q3 q4 p6), vS, vU, vU, vU, vU] [(.long q3), (.long q2), (.long q1), (.ref b132), (.ref b132)])) rfl (by rw [hml]; rfl) (Steps.refl _) (a := b132) (argsL := [(.long q1), (.long q2), (.long q3)]) (rest := [(.ref b132)]) (lenOf pd_25 rfl) rfl (by show 2 * 0 + _ ≤ _; exact Nat.le_of_eq rfl) (hb hby at_233) (fun _ _ => ⟨rfl, e132, (by decide : 21 + 0 ≤ _), (by decide : 1523 + 0 ≤ _)⟩)
    dsimp only [Pt.U, Pt.locs, Pt.cells, Pt.slots] at X134 l134 y134 z134 st134 hQ134
    subst l134 y134 z134
    obtain ⟨rfl, N134q, K134q, f134_0, f134_1, f134_2, f134_3⟩ := hQ134
    have al135 : ∀ x ∈ [b132], Safe Z own_EL T108.vm h132 x := (allS (P := fun x => Safe Z own_EL T108.vm h132 x) (Safe.exa (show Z.vm.Alike T108.vm from hZ108.alike) A132 (by decide) (by decide)) all0)
    have ch135 := ch133.trans (CHr.keep K134q al135 ch133.1)
    have y136 := (own_StaKeep ((own_StaKeep y105 K108q all0).ext E132) K134q (allS (P := fun x => ∃ D, Exa Z h132 x D) ⟨_, A132⟩ all0))
    have y137 := (((y106.keep K108q all0).ext E132).keep K134q (allS (P := fun x => n0 ≤ x) g_b132 all0))
    have y138 := (own_Str.keep (a0 := a0) (y109.ext E132) K134q (allS (P := fun x => ∃ C n, Exa Z h132 x C ∧ C ≠ "java/lang/String" ∧ (Jvm.Cond.instantiable C n).before a0 Z = true) ⟨_, _, A132, by decide, (own_wi hw 38 rfl)⟩ all0))
    have y139 := (((f103_0.keep K108q).ext E132).keep K134q)
    have y140 := (((f103_1.keep K108q nin0).ext E132).keep K134q (ninS ne_b101_b132 nin0))
    have y141 := (((f103_2.keep K108q nin0).ext E132).keep K134q (ninS ne_b101_b132 nin0))
    have y142 := (((f103_3.keep K108q nin0).ext E132).keep K134q (ninS ne_b101_b132 nin0))
    have y143 := (own_Str.keep (a0 := a0) (f108_0.ext E132) K134q (allS (P := fun x => ∃ C n, Exa Z h132 x C ∧ C ≠ "java/lang/String" ∧ (Jvm.Cond.instantiable C n).before a0 Z = true) ⟨_, _, A132, by decide, (own_wi hw 38 rfl)⟩ all0))
    have K134 : Keep h0 T134.heap [] := (K132).trans K134q (allS (P := fun x => x ∈ [] ∨ h0.size ≤ x) (Or.inr sz_b132) all0)
    have Z134 : n0 ≤ T134.heap.size := Nat.le_trans Z132 K134q.1
    have N134 := Fr.app N110 N134q
    obtain ⟨T144, h144, X144, e144, E144, A144, D144, -, st144⟩ := newO X134 hx hZ108 hown108 (own_wi hw 37 rfl) (own_wi hw 38 rfl) (own_wi hw 39 rfl) rfl (g := (mkF m 238 #[vJ q1, vS, vJ q2, vS, vJ q3, vS, vJ q4, vS, vI p5, vI p6, vI (own_ngt p6), vI (own_u p5), vI (own_v p5), vI (own_w p5), vJ ((-(own_nx p5)).toInt64), vS, vJ ((-(own_ny p5)).toInt64), vS, vJ ((-(own_nz p5)).toInt64), vS, vR x98_0, vI (own_eq (own_neg (own_nx p5) (own_ny p5) (own_nz p5)) (own_text ((-(own_nx p5)).toInt64) ((-(own_ny p5)).toInt64) ((-(own_nz p5)).toInt64))), vJ (own_a2 q1 q4 p6), vS, vJ (own_b2 q2 q4 p6), vS, vJ (own_c2 q3 q4 p6), vS, vR b132, vU, vU, vU] [])) rfl (hb hby at_238) (by decide) (by decide)
    obtain ⟨b144, g144⟩ : ∃ z, z = T134.heap.size := ⟨_, rfl⟩
    rw [← g144] at A144 D144 st144
    have ne_x98_0_b144 : x98_0 ≠ b144 := Nat.ne_of_lt (Nat.lt_of_lt_of_le y138.lt (Nat.le_of_eq g144.symm))
    have ne_b101_b144 : b101 ≠ b144 := Nat.ne_of_lt (Nat.lt_of_lt_of_le y139.lt (Nat.le_of_eq g144.symm))
    have ne_x108_0_b144 : x108_0 ≠ b144 := Nat.ne_of_lt (Nat.lt_of_lt_of_le y143.lt (Nat.le_of_eq g144.symm))
    have ne_b132_b144 : b132 ≠ b144 := Nat.ne_of_lt (Nat.lt_of_lt_of_le f134_0.lt (Nat.le_of_eq g144.symm))
    have g_b144 : n0 ≤ b144 := Nat.le_trans Z134 (Nat.le_of_eq g144.symm)
    have sz_b144 : h0.size ≤ b144 := Nat.le_trans (K134).1 (Nat.le_of_eq g144.symm)
    have ch145 := ch135.trans (CHr.ext E144 ch135.1)
    have K144 : Keep h0 h144 [] := (K134).ext E144
    have Z144 : n0 ≤ h144.size := Nat.le_trans Z134 E144.1
    have F_sessions_b144 : Fld Z h144 b144 "com/example/vigilant_context/vigilantcontext/finding/LoadCost" "sessions" "J" (.long (0 : Int64)) := D144 (Or.inr (own_wi hw 50 rfl)) (ty := .long) (by decide)
    have F_connections_b144 : Fld Z h144 b144 "com/example/vigilant_context/vigilantcontext/finding/LoadCost" "connections" "J" (.long (0 : Int64)) := D144 (Or.inr (own_wi hw 52 rfl)) (ty := .long) (by decide)
    have F_statements_b144 : Fld Z h144 b144 "com/example/vigilant_context/vigilantcontext/finding/LoadCost" "statements" "J" (.long (0 : Int64)) := D144 (Or.inr (own_wi hw 54 rfl)) (ty := .long) (by decide)
    obtain ⟨_, _, ⟨T146, L146, k146, n146⟩, -, X146, ⟨Lc146, hQ146, l146, y146, z146⟩, st146⟩ := X144.specialBack hx (y := (⟨"com/example/vigilant_context/vigilantcontext/finding/LoadCost", "<init>", "(JJJ)V"⟩ : MethodName)) rfl hown108 (mvT hZ108 (own_wi hw 40 rfl)) (mvT hZ108 (own_wi hw 41 rfl)) (mvT hZ108 (own_wi hw 42 rfl)) (by decide) (backOf (W := 1) (rm9 l Z a0 hw [] b144 (own_a2 q1 q4 p6) (own_b2 q2 q4 p6) (own_c2 q3 q4 p6) (0 : Int64) (0 : Int64) (0 : Int64) h144 n0 Z144 A144 F_sessions_b144 F_connections_b144 F_statements_b144 g_b144) hZ108 (own_wi hw 42 rfl) (own_wi hw 39 rfl) (by decide) (by decide)) (g := (mkF m 248 #[vJ q1, vS, vJ q2, vS, vJ q3, vS, vJ q4, vS, vI p5, vI p6, vI (own_ngt p6), vI (own_u p5), vI (own_v p5), vI (own_w p5), vJ ((-(own_nx p5)).toInt64), vS, vJ ((-(own_ny p5)).toInt64), vS, vJ ((-(own_nz p5)).toInt64), vS, vR x98_0, vI (own_eq (own_neg (own_nx p5) (own_ny p5) (own_nz p5)) (own_text ((-(own_nx p5)).toInt64) ((-(own_ny p5)).toInt64) ((-(own_nz p5)).toInt64))), vJ (own_a2 q1 q4 p6), vS, vJ (own_b2 q2 q4 p6), vS, vJ (own_c2 q3 q4 p6), vS, vR b132, vU, vU, vU] [(.long (own_c2 q3 q4 p6)), (.long (own_b2 q2 q4 p6)), (.long (own_a2 q1 q4 p6)), (.ref b144), (.ref b144)])) rfl (by rw [hml]; rfl) (Steps.refl _) (a := b144) (argsL := [(.long (own_a2 q1 q4 p6)), (.long (own_b2 q2 q4 p6)), (.long (own_c2 q3 q4 p6))]) (rest := [(.ref b144)]) (lenOf pd_25 rfl) rfl (by show 2 * 0 + _ ≤ _; exact Nat.le_of_eq rfl) (hb hby at_248) (fun _ _ => ⟨rfl, e144, (by decide : 22 + 0 ≤ _), (by decide : 1526 + 0 ≤ _)⟩)
    dsimp only [Pt.U, Pt.locs, Pt.cells, Pt.slots] at X146 l146 y146 z146 st146 hQ146
    subst l146 y146 z146
    obtain ⟨rfl, N146q, K146q, f146_0, f146_1, f146_2, f146_3⟩ := hQ146
    have al147 : ∀ x ∈ [b144], Safe Z own_EL T108.vm h144 x := (allS (P := fun x => Safe Z own_EL T108.vm h144 x) (Safe.exa (show Z.vm.Alike T108.vm from hZ108.alike) A144 (by decide) (by decide)) all0)
    have ch147 := ch145.trans (CHr.keep K146q al147 ch145.1)
    have y148 := (own_StaKeep (y136.ext E144) K146q (allS (P := fun x => ∃ D, Exa Z h144 x D) ⟨_, A144⟩ all0))
    have y149 := ((y137.ext E144).keep K146q (allS (P := fun x => n0 ≤ x) g_b144 all0))
    have y150 := (own_Str.keep (a0 := a0) (y138.ext E144) K146q (allS (P := fun x => ∃ C n, Exa Z h144 x C ∧ C ≠ "java/lang/String" ∧ (Jvm.Cond.instantiable C n).before a0 Z = true) ⟨_, _, A144, by decide, (own_wi hw 38 rfl)⟩ all0))
    have y151 := ((y140.ext E144).keep K146q (ninS ne_b101_b144 nin0))
    have y152 := ((y141.ext E144).keep K146q (ninS ne_b101_b144 nin0))
    have y153 := ((y142.ext E144).keep K146q (ninS ne_b101_b144 nin0))
    have y154 := (own_Str.keep (a0 := a0) (y143.ext E144) K146q (allS (P := fun x => ∃ C n, Exa Z h144 x C ∧ C ≠ "java/lang/String" ∧ (Jvm.Cond.instantiable C n).before a0 Z = true) ⟨_, _, A144, by decide, (own_wi hw 38 rfl)⟩ all0))
    have y155 := ((f134_1.ext E144).keep K146q (ninS ne_b132_b144 nin0))
    have y156 := ((f134_2.ext E144).keep K146q (ninS ne_b132_b144 nin0))
    have y157 := ((f134_3.ext E144).keep K146q (ninS ne_b132_b144 nin0))
    have K146 : Keep h0 T146.heap [] := (K144).trans K146q (allS (P := fun x => x ∈ [] ∨ h0.size ≤ x) (Or.inr sz_b144) all0)
    have Z146 : n0 ≤ T146.heap.size := Nat.le_trans Z144 K146q.1
    have N146 := Fr.app N134 N146q
    obtain ⟨cq158, kq158, q158a, q158b, q158c⟩ := isOf hZ108 rfl ((f134_0.ext E144).keep K146q)
    obtain ⟨_, _, ⟨T158, L158, k158, n158⟩, -, X158, hS158q, hgr158, ⟨Lc158, hQ158, l158, y158, z158, hC158q⟩, st158⟩ := X146.virtualBackS hx (y := (⟨"com/example/vigilant_context/vigilantcontext/finding/LoadCost", "toString", "()Ljava/lang/String;"⟩ : MethodName)) (z := (⟨"com/example/vigilant_context/vigilantcontext/finding/LoadCost", "toString", "()Ljava/lang/String;"⟩ : MethodName)) hown108 (mvT hZ108 (own_wi hw 55 rfl)) (mvT hZ108 (own_wi hw 56 rfl)) (notFace_of_selects (args := #[]) (mvT hZ108 (own_wi hw 58 rfl))) (mvT hZ108 (own_wi hw 58 rfl)) (mvT hZ108 (own_wi hw 57 rfl)) (by decide) (backOfSH (EL := own_EL) (W := 0) (rm11 l Z a0 hw [] b132 q1 q2 q3 st_COMPACT_STRINGS T146.heap n0 Z146 ((f134_0.ext E144).keep K146q) y155 y156 y157 y148 y149 hDg hq151_3) hZ108 (own_wi hw 59 rfl) (own_wi hw 39 rfl) (by decide) (by decide) (own_EW hw) ch147.1) q158a q158c (g := (mkF m 255 #[vJ q1, vS, vJ q2, vS, vJ q3, vS, vJ q4, vS, vI p5, vI p6, vI (own_ngt p6), vI (own_u p5), vI (own_v p5), vI (own_w p5), vJ ((-(own_nx p5)).toInt64), vS, vJ ((-(own_ny p5)).toInt64), vS, vJ ((-(own_nz p5)).toInt64), vS, vR x98_0, vI (own_eq (own_neg (own_nx p5) (own_ny p5) (own_nz p5)) (own_text ((-(own_nx p5)).toInt64) ((-(own_ny p5)).toInt64) ((-(own_nz p5)).toInt64))), vJ (own_a2 q1 q4 p6), vS, vJ (own_b2 q2 q4 p6), vS, vJ (own_c2 q3 q4 p6), vS, vR b132, vR b144, vU, vU] [(.ref b132)])) rfl (by rw [hml]; rfl) (Steps.refl _) (argsL := []) (rest := []) (lenOf pd_21 rfl) rfl (by show 2 * 0 + _ ≤ _; exact Nat.le_of_eq rfl) (hb hby at_255) (fun _ _ => ⟨rfl, rfl, (by decide : 22 + 16 ≤ _), (by decide : 1526 + 1433 ≤ _)⟩)
    dsimp only [Pt.U, Pt.locs, Pt.cells, Pt.slots] at X158 l158 y158 z158 st158 hQ158 hS158q hgr158 hC158q
    subst l158 y158 z158
    obtain ⟨X158w, hS158, hZ158, hown158⟩ := rebS hS108 (Nat.le_trans (Nat.le_trans (Nat.le_trans (Nat.le_trans (Nat.le_refl _) E132.1) K134q.1) E144.1) K146q.1) X158 hS158q hgr158 hZ108 hown108
    obtain ⟨x158_0, rfl, N158q, K158q, f158_0⟩ := hQ158
    have ch158 := ch147.trans hC158q
    have y159 := (own_Str.keep (a0 := a0) y150 K158q all0)
    have y160 := (((y139.ext E144).keep K146q).keep K158q)
    have y161 := (own_Str.keep (a0 := a0) y154 K158q all0)
    have y162 := (((f134_0.ext E144).keep K146q).keep K158q)
    have K158 : Keep h0 T158.heap [] := (K146).trans K158q all0
    have Z158 : n0 ≤ T158.heap.size := Nat.le_trans Z146 K158q.1
    have N158 := Fr.app N146 N158q
    obtain ⟨cq163, kq163, q163a, q163b, q163c⟩ := isOf hZ158 rfl (f146_0.keep K158q)
    obtain ⟨_, _, ⟨T163, L163, k163, n163⟩, -, X163, hS163q, hgr163, ⟨Lc163, hQ163, l163, y163, z163, hC163q⟩, st163⟩ := X158w.virtualBackS hx (y := (⟨"com/example/vigilant_context/vigilantcontext/finding/LoadCost", "toString", "()Ljava/lang/String;"⟩ : MethodName)) (z := (⟨"com/example/vigilant_context/vigilantcontext/finding/LoadCost", "toString", "()Ljava/lang/String;"⟩ : MethodName)) hown158 (mvT hZ158 (own_wi hw 55 rfl)) (mvT hZ158 (own_wi hw 56 rfl)) (notFace_of_selects (args := #[]) (mvT hZ158 (own_wi hw 58 rfl))) (mvT hZ158 (own_wi hw 58 rfl)) (mvT hZ158 (own_wi hw 57 rfl)) (by decide) (backOfSH (EL := own_EL) (W := 1) (rm11 l Z a0 hw [] b144 (own_a2 q1 q4 p6) (own_b2 q2 q4 p6) (own_c2 q3 q4 p6) st_COMPACT_STRINGS T158.heap n0 Z158 (f146_0.keep K158q) (f146_1.keep K158q nin0) (f146_2.keep K158q nin0) (f146_3.keep K158q nin0) (own_StaKeep y148 K158q all0) (y149.keep K158q all0) hDg hq151_3) hZ158 (own_wi hw 59 rfl) (own_wi hw 39 rfl) (by decide) (by decide) (own_EW hw) ch158.1) q163a q163c (g := (mkF m 260 #[vJ q1, vS, vJ q2, vS, vJ q3, vS, vJ q4, vS, vI p5, vI p6, vI (own_ngt p6), vI (own_u p5), vI (own_v p5), vI (own_w p5), vJ ((-(own_nx p5)).toInt64), vS, vJ ((-(own_ny p5)).toInt64), vS, vJ ((-(own_nz p5)).toInt64), vS, vR x98_0, vI (own_eq (own_neg (own_nx p5) (own_ny p5) (own_nz p5)) (own_text ((-(own_nx p5)).toInt64) ((-(own_ny p5)).toInt64) ((-(own_nz p5)).toInt64))), vJ (own_a2 q1 q4 p6), vS, vJ (own_b2 q2 q4 p6), vS, vJ (own_c2 q3 q4 p6), vS, vR b132, vR b144, vU, vU] [(.ref b144), (.ref x158_0)])) rfl (by rw [hml]; rfl) (Steps.refl _) (argsL := []) (rest := [(.ref x158_0)]) (lenOf pd_21 rfl) rfl (by show 2 * 0 + _ ≤ _; exact Nat.le_of_eq rfl) (hb hby at_260) (fun _ _ => ⟨rfl, rfl, (by decide : 38 + 16 ≤ _), (by decide : 2959 + 1433 ≤ _)⟩)
    dsimp only [Pt.U, Pt.locs, Pt.cells, Pt.slots] at X163 l163 y163 z163 st163 hQ163 hS163q hgr163 hC163q
    subst l163 y163 z163
    obtain ⟨X163w, hS163, hZ163, hown163⟩ := rebS hS158 (Nat.le_refl _) X163 hS163q hgr163 hZ158 hown158
    obtain ⟨x163_0, rfl, N163q, K163q, f163_0⟩ := hQ163
    have ch163 := ch158.trans hC163q
    have y164 := (own_StaKeep (own_StaKeep y148 K158q all0) K163q all0)
    have y165 := (own_Str.keep (a0 := a0) y159 K163q all0)
    have y166 := (own_Str.keep (a0 := a0) y161 K163q all0)
    have y167 := ((f146_1.keep K158q nin0).keep K163q nin0)
    have y168 := ((f146_2.keep K158q nin0).keep K163q nin0)
    have y169 := ((f146_3.keep K158q nin0).keep K163q nin0)
    have y170 := (own_Str.keep (a0 := a0) f158_0 K163q all0)
    have K163 : Keep h0 T163.heap [] := (K158).trans K163q all0
    have Z163 : n0 ≤ T163.heap.size := Nat.le_trans Z158 K163q.1
    have N163 := Fr.app N158 N163q
    obtain ⟨t171a, k171a, E171a, C171a, V171a, A171a, P171a, L171a⟩ := id y170
    obtain ⟨t171b, k171b, E171b, C171b, V171b, A171b, P171b, L171b⟩ := id f163_0
    obtain ⟨cq171, kq171, q171a, q171b, q171c⟩ := isOf hZ163 rfl E171a
    obtain ⟨v171, _, ⟨T171, L171, k171, n171⟩, -, X171, ⟨Lc171, hQ171, l171, y171, z171⟩, st171⟩ := X163w.virtualBack hx (y := (⟨"java/lang/String", "equals", "(Ljava/lang/Object;)Z"⟩ : MethodName)) (z := (⟨"java/lang/String", "equals", "(Ljava/lang/Object;)Z"⟩ : MethodName)) hown163 (mvT hZ163 (own_wi hw 213 rfl)) (mvT hZ163 (own_wi hw 214 rfl)) (notFace_of_selects (args := #[]) (mvT hZ163 (own_wi hw 216 rfl))) (mvT hZ163 (own_wi hw 216 rfl)) (mvT hZ163 (own_wi hw 215 rfl)) (by decide) (StrChars.Road.eqW (W := 0) hZ163 (own_we hw) (kI := 4) (own_wi hw 9 rfl) E171a V171a C171a A171a (Or.inl ⟨rfl, rfl, rfl, fun c hc => (P171a c hc).2⟩) (own_up P171a) L171a E171b V171b C171b A171b (Or.inl ⟨rfl, rfl, rfl, fun c hc => (P171b c hc).2⟩) (own_up P171b) L171b y164 hq151_3 (by decide) (by decide)) q171a q171c (g := (mkF m 263 #[vJ q1, vS, vJ q2, vS, vJ q3, vS, vJ q4, vS, vI p5, vI p6, vI (own_ngt p6), vI (own_u p5), vI (own_v p5), vI (own_w p5), vJ ((-(own_nx p5)).toInt64), vS, vJ ((-(own_ny p5)).toInt64), vS, vJ ((-(own_nz p5)).toInt64), vS, vR x98_0, vI (own_eq (own_neg (own_nx p5) (own_ny p5) (own_nz p5)) (own_text ((-(own_nx p5)).toInt64) ((-(own_ny p5)).toInt64) ((-(own_nz p5)).toInt64))), vJ (own_a2 q1 q4 p6), vS, vJ (own_b2 q2 q4 p6), vS, vJ (own_c2 q3 q4 p6), vS, vR b132, vR b144, vU, vU] [(.ref x163_0), (.ref x158_0)])) rfl (by rw [hml]; rfl) (Steps.refl _) (argsL := [(.ref x163_0)]) (rest := []) (lenOf pd_26 rfl) rfl (by show 2 * 0 + _ ≤ _; exact Nat.le_of_eq rfl) (hb hby at_263) (fun _ _ => ⟨rfl, rfl, (by decide : 54 + 0 ≤ _), (by decide : 4392 + 0 ≤ _)⟩)
    dsimp only [Pt.U, Pt.locs, Pt.cells, Pt.slots] at X171 l171 y171 z171 st171 hQ171
    subst l171 y171 z171
    obtain ⟨hv171, rfl, e171⟩ := hQ171
    have hv171' := own_eqv hv171; subst hv171'
    have N171 := Fr.app N163 (Fr.nil n0)
    have pre172 : ∀ t, Steps p.tables e below (T171.setTop (mkF m 268 #[vJ q1, vS, vJ q2, vS, vJ q3, vS, vJ q4, vS, vI p5, vI p6, vI (own_ngt p6), vI (own_u p5), vI (own_v p5), vI (own_w p5), vJ ((-(own_nx p5)).toInt64), vS, vJ ((-(own_ny p5)).toInt64), vS, vJ ((-(own_nz p5)).toInt64), vS, vR x98_0, vI (own_eq (own_neg (own_nx p5) (own_ny p5) (own_nz p5)) (own_text ((-(own_nx p5)).toInt64) ((-(own_ny p5)).toInt64) ((-(own_nz p5)).toInt64))), vJ (own_a2 q1 q4 p6), vS, vJ (own_b2 q2 q4 p6), vS, vJ (own_c2 q3 q4 p6), vS, vR b132, vR b144, vI (own_eq (own_text q1 q2 q3) (own_text (own_a2 q1 q4 p6) (own_b2 q2 q4 p6) (own_c2 q3 q4 p6))), vU] [])) t → Steps p.tables e below (s₁.setTop (entryFrame m #[(.long q1), (.long q2), (.long q3), (.long q4), (.int p5), (.int p6)] maxLocals)) t := fun t kt => pre131 t (by
      show Steps p.tables e below (T110.setTop (mkF m 223 #[vJ q1, vS, vJ q2, vS, vJ q3, vS, vJ q4, vS, vI p5, vI p6, vI (own_ngt p6), vI (own_u p5), vI (own_v p5), vI (own_w p5), vJ ((-(own_nx p5)).toInt64), vS, vJ ((-(own_ny p5)).toInt64), vS, vJ ((-(own_nz p5)).toInt64), vS, vR x98_0, vI (own_eq (own_neg (own_nx p5) (own_ny p5) (own_nz p5)) (own_text ((-(own_nx p5)).toInt64) ((-(own_ny p5)).toInt64) ((-(own_nz p5)).toInt64))), vJ (own_a2 q1 q4 p6), vS, vJ (own_b2 q2 q4 p6), vS, vU, vU, vU, vU, vU, vU] [(.long (own_c2 q3 q4 p6))])) _
      refine XS.lstore X110.here hx rfl (hb hby at_223) rfl (l' := #[vJ q1, vS, vJ q2, vS, vJ q3, vS, vJ q4, vS, vI p5, vI p6, vI (own_ngt p6), vI (own_u p5), vI (own_v p5), vI (own_w p5), vJ ((-(own_nx p5)).toInt64), vS, vJ ((-(own_ny p5)).toInt64), vS, vJ ((-(own_nz p5)).toInt64), vS, vR x98_0, vI (own_eq (own_neg (own_nx p5) (own_ny p5) (own_nz p5)) (own_text ((-(own_nx p5)).toInt64) ((-(own_ny p5)).toInt64) ((-(own_nz p5)).toInt64))), vJ (own_a2 q1 q4 p6), vS, vJ (own_b2 q2 q4 p6), vS, vJ (own_c2 q3 q4 p6), vS, vU, vU, vU, vU]) rfl ?_
      show Steps p.tables e below (T110.setTop (mkF m 225 #[vJ q1, vS, vJ q2, vS, vJ q3, vS, vJ q4, vS, vI p5, vI p6, vI (own_ngt p6), vI (own_u p5), vI (own_v p5), vI (own_w p5), vJ ((-(own_nx p5)).toInt64), vS, vJ ((-(own_ny p5)).toInt64), vS, vJ ((-(own_nz p5)).toInt64), vS, vR x98_0, vI (own_eq (own_neg (own_nx p5) (own_ny p5) (own_nz p5)) (own_text ((-(own_nx p5)).toInt64) ((-(own_ny p5)).toInt64) ((-(own_nz p5)).toInt64))), vJ (own_a2 q1 q4 p6), vS, vJ (own_b2 q2 q4 p6), vS, vJ (own_c2 q3 q4 p6), vS, vU, vU, vU, vU] [])) _
      refine st132 _ ?_
      show Steps p.tables e below (T132.setTop (mkF m 228 #[vJ q1, vS, vJ q2, vS, vJ q3, vS, vJ q4, vS, vI p5, vI p6, vI (own_ngt p6), vI (own_u p5), vI (own_v p5), vI (own_w p5), vJ ((-(own_nx p5)).toInt64), vS, vJ ((-(own_ny p5)).toInt64), vS, vJ ((-(own_nz p5)).toInt64), vS, vR x98_0, vI (own_eq (own_neg (own_nx p5) (own_ny p5) (own_nz p5)) (own_text ((-(own_nx p5)).toInt64) ((-(own_ny p5)).toInt64) ((-(own_nz p5)).toInt64))), vJ (own_a2 q1 q4 p6), vS, vJ (own_b2 q2 q4 p6), vS, vJ (own_c2 q3 q4 p6), vS, vU, vU, vU, vU] [(.ref b132)])) _
      refine XS.dup X132.here hx rfl (hb hby at_228) rfl rfl ?_
      refine XS.lloadN X132.here hx rfl (hb hby at_229) rfl ?_
      refine XS.lloadN X132.here hx rfl (hb hby at_230) rfl ?_
      refine XS.lload X132.here hx rfl (hb hby at_231) rfl ?_
      show Steps p.tables e below (T132.setTop (mkF m 233 #[vJ q1, vS, vJ q2, vS, vJ q3, vS, vJ q4, vS, vI p5, vI p6, vI (own_ngt p6), vI (own_u p5), vI (own_v p5), vI (own_w p5), vJ ((-(own_nx p5)).toInt64), vS, vJ ((-(own_ny p5)).toInt64), vS, vJ ((-(own_nz p5)).toInt64), vS, vR x98_0, vI (own_eq (own_neg (own_nx p5) (own_ny p5) (own_nz p5)) (own_text ((-(own_nx p5)).toInt64) ((-(own_ny p5)).toInt64) ((-(own_nz p5)).toInt64))), vJ (own_a2 q1 q4 p6), vS, vJ (own_b2 q2 q4 p6), vS, vJ (own_c2 q3 q4 p6), vS, vU, vU, vU, vU] [(.long q3), (.long q2), (.long q1), (.ref b132), (.ref b132)])) _
      refine st134.trans ?_
      show Steps p.tables e below (T134.setTop (mkF m 236 #[vJ q1, vS, vJ q2, vS, vJ q3, vS, vJ q4, vS, vI p5, vI p6, vI (own_ngt p6), vI (own_u p5), vI (own_v p5), vI (own_w p5), vJ ((-(own_nx p5)).toInt64), vS, vJ ((-(own_ny p5)).toInt64), vS, vJ ((-(own_nz p5)).toInt64), vS, vR x98_0, vI (own_eq (own_neg (own_nx p5) (own_ny p5) (own_nz p5)) (own_text ((-(own_nx p5)).toInt64) ((-(own_ny p5)).toInt64) ((-(own_nz p5)).toInt64))), vJ (own_a2 q1 q4 p6), vS, vJ (own_b2 q2 q4 p6), vS, vJ (own_c2 q3 q4 p6), vS, vU, vU, vU, vU] [(.ref b132)])) _
      refine XS.astore X134.here hx rfl (hb hby at_236) rfl rfl (l' := #[vJ q1, vS, vJ q2, vS, vJ q3, vS, vJ q4, vS, vI p5, vI p6, vI (own_ngt p6), vI (own_u p5), vI (own_v p5), vI (own_w p5), vJ ((-(own_nx p5)).toInt64), vS, vJ ((-(own_ny p5)).toInt64), vS, vJ ((-(own_nz p5)).toInt64), vS, vR x98_0, vI (own_eq (own_neg (own_nx p5) (own_ny p5) (own_nz p5)) (own_text ((-(own_nx p5)).toInt64) ((-(own_ny p5)).toInt64) ((-(own_nz p5)).toInt64))), vJ (own_a2 q1 q4 p6), vS, vJ (own_b2 q2 q4 p6), vS, vJ (own_c2 q3 q4 p6), vS, vR b132, vU, vU, vU]) rfl ?_
      show Steps p.tables e below (T134.setTop (mkF m 238 #[vJ q1, vS, vJ q2, vS, vJ q3, vS, vJ q4, vS, vI p5, vI p6, vI (own_ngt p6), vI (own_u p5), vI (own_v p5), vI (own_w p5), vJ ((-(own_nx p5)).toInt64), vS, vJ ((-(own_ny p5)).toInt64), vS, vJ ((-(own_nz p5)).toInt64), vS, vR x98_0, vI (own_eq (own_neg (own_nx p5) (own_ny p5) (own_nz p5)) (own_text ((-(own_nx p5)).toInt64) ((-(own_ny p5)).toInt64) ((-(own_nz p5)).toInt64))), vJ (own_a2 q1 q4 p6), vS, vJ (own_b2 q2 q4 p6), vS, vJ (own_c2 q3 q4 p6), vS, vR b132, vU, vU, vU] [])) _
      refine st144 _ ?_
      show Steps p.tables e below (T144.setTop (mkF m 241 #[vJ q1, vS, vJ q2, vS, vJ q3, vS, vJ q4, vS, vI p5, vI p6, vI (own_ngt p6), vI (own_u p5), vI (own_v p5), vI (own_w p5), vJ ((-(own_nx p5)).toInt64), vS, vJ ((-(own_ny p5)).toInt64), vS, vJ ((-(own_nz p5)).toInt64), vS, vR x98_0, vI (own_eq (own_neg (own_nx p5) (own_ny p5) (own_nz p5)) (own_text ((-(own_nx p5)).toInt64) ((-(own_ny p5)).toInt64) ((-(own_nz p5)).toInt64))), vJ (own_a2 q1 q4 p6), vS, vJ (own_b2 q2 q4 p6), vS, vJ (own_c2 q3 q4 p6), vS, vR b132, vU, vU, vU] [(.ref b144)])) _
      refine XS.dup X144.here hx rfl (hb hby at_241) rfl rfl ?_
      refine XS.lload X144.here hx rfl (hb hby at_242) rfl ?_
      refine XS.lload X144.here hx rfl (hb hby at_244) rfl ?_
      refine XS.lload X144.here hx rfl (hb hby at_246) rfl ?_
      show Steps p.tables e below (T144.setTop (mkF m 248 #[vJ q1, vS, vJ q2, vS, vJ q3, vS, vJ q4, vS, vI p5, vI p6, vI (own_ngt p6), vI (own_u p5), vI (own_v p5), vI (own_w p5), vJ ((-(own_nx p5)).toInt64), vS, vJ ((-(own_ny p5)).toInt64), vS, vJ ((-(own_nz p5)).toInt64), vS, vR x98_0, vI (own_eq (own_neg (own_nx p5) (own_ny p5) (own_nz p5)) (own_text ((-(own_nx p5)).toInt64) ((-(own_ny p5)).toInt64) ((-(own_nz p5)).toInt64))), vJ (own_a2 q1 q4 p6), vS, vJ (own_b2 q2 q4 p6), vS, vJ (own_c2 q3 q4 p6), vS, vR b132, vU, vU, vU] [(.long (own_c2 q3 q4 p6)), (.long (own_b2 q2 q4 p6)), (.long (own_a2 q1 q4 p6)), (.ref b144), (.ref b144)])) _
      refine st146.trans ?_
      show Steps p.tables e below (T146.setTop (mkF m 251 #[vJ q1, vS, vJ q2, vS, vJ q3, vS, vJ q4, vS, vI p5, vI p6, vI (own_ngt p6), vI (own_u p5), vI (own_v p5), vI (own_w p5), vJ ((-(own_nx p5)).toInt64), vS, vJ ((-(own_ny p5)).toInt64), vS, vJ ((-(own_nz p5)).toInt64), vS, vR x98_0, vI (own_eq (own_neg (own_nx p5) (own_ny p5) (own_nz p5)) (own_text ((-(own_nx p5)).toInt64) ((-(own_ny p5)).toInt64) ((-(own_nz p5)).toInt64))), vJ (own_a2 q1 q4 p6), vS, vJ (own_b2 q2 q4 p6), vS, vJ (own_c2 q3 q4 p6), vS, vR b132, vU, vU, vU] [(.ref b144)])) _
      refine XS.astore X146.here hx rfl (hb hby at_251) rfl rfl (l' := #[vJ q1, vS, vJ q2, vS, vJ q3, vS, vJ q4, vS, vI p5, vI p6, vI (own_ngt p6), vI (own_u p5), vI (own_v p5), vI (own_w p5), vJ ((-(own_nx p5)).toInt64), vS, vJ ((-(own_ny p5)).toInt64), vS, vJ ((-(own_nz p5)).toInt64), vS, vR x98_0, vI (own_eq (own_neg (own_nx p5) (own_ny p5) (own_nz p5)) (own_text ((-(own_nx p5)).toInt64) ((-(own_ny p5)).toInt64) ((-(own_nz p5)).toInt64))), vJ (own_a2 q1 q4 p6), vS, vJ (own_b2 q2 q4 p6), vS, vJ (own_c2 q3 q4 p6), vS, vR b132, vR b144, vU, vU]) rfl ?_
      refine XS.aload X146.here hx rfl (hb hby at_253) rfl rfl ?_
      show Steps p.tables e below (T146.setTop (mkF m 255 #[vJ q1, vS, vJ q2, vS, vJ q3, vS, vJ q4, vS, vI p5, vI p6, vI (own_ngt p6), vI (own_u p5), vI (own_v p5), vI (own_w p5), vJ ((-(own_nx p5)).toInt64), vS, vJ ((-(own_ny p5)).toInt64), vS, vJ ((-(own_nz p5)).toInt64), vS, vR x98_0, vI (own_eq (own_neg (own_nx p5) (own_ny p5) (own_nz p5)) (own_text ((-(own_nx p5)).toInt64) ((-(own_ny p5)).toInt64) ((-(own_nz p5)).toInt64))), vJ (own_a2 q1 q4 p6), vS, vJ (own_b2 q2 q4 p6), vS, vJ (own_c2 q3 q4 p6), vS, vR b132, vR b144, vU, vU] [(.ref b132)])) _
      refine st158.trans ?_
      show Steps p.tables e below (T158.setTop (mkF m 258 #[vJ q1, vS, vJ q2, vS, vJ q3, vS, vJ q4, vS, vI p5, vI p6, vI (own_ngt p6), vI (own_u p5), vI (own_v p5), vI (own_w p5), vJ ((-(own_nx p5)).toInt64), vS, vJ ((-(own_ny p5)).toInt64), vS, vJ ((-(own_nz p5)).toInt64), vS, vR x98_0, vI (own_eq (own_neg (own_nx p5) (own_ny p5) (own_nz p5)) (own_text ((-(own_nx p5)).toInt64) ((-(own_ny p5)).toInt64) ((-(own_nz p5)).toInt64))), vJ (own_a2 q1 q4 p6), vS, vJ (own_b2 q2 q4 p6), vS, vJ (own_c2 q3 q4 p6), vS, vR b132, vR b144, vU, vU] [(.ref x158_0)])) _
      refine XS.aload X158w.here hx rfl (hb hby at_258) rfl rfl ?_
      show Steps p.tables e below (T158.setTop (mkF m 260 #[vJ q1, vS, vJ q2, vS, vJ q3, vS, vJ q4, vS, vI p5, vI p6, vI (own_ngt p6), vI (own_u p5), vI (own_v p5), vI (own_w p5), vJ ((-(own_nx p5)).toInt64), vS, vJ ((-(own_ny p5)).toInt64), vS, vJ ((-(own_nz p5)).toInt64), vS, vR x98_0, vI (own_eq (own_neg (own_nx p5) (own_ny p5) (own_nz p5)) (own_text ((-(own_nx p5)).toInt64) ((-(own_ny p5)).toInt64) ((-(own_nz p5)).toInt64))), vJ (own_a2 q1 q4 p6), vS, vJ (own_b2 q2 q4 p6), vS, vJ (own_c2 q3 q4 p6), vS, vR b132, vR b144, vU, vU] [(.ref b144), (.ref x158_0)])) _
      refine st163.trans ?_
      show Steps p.tables e below (T163.setTop (mkF m 263 #[vJ q1, vS, vJ q2, vS, vJ q3, vS, vJ q4, vS, vI p5, vI p6, vI (own_ngt p6), vI (own_u p5), vI (own_v p5), vI (own_w p5), vJ ((-(own_nx p5)).toInt64), vS, vJ ((-(own_ny p5)).toInt64), vS, vJ ((-(own_nz p5)).toInt64), vS, vR x98_0, vI (own_eq (own_neg (own_nx p5) (own_ny p5) (own_nz p5)) (own_text ((-(own_nx p5)).toInt64) ((-(own_ny p5)).toInt64) ((-(own_nz p5)).toInt64))), vJ (own_a2 q1 q4 p6), vS, vJ (own_b2 q2 q4 p6), vS, vJ (own_c2 q3 q4 p6), vS, vR b132, vR b144, vU, vU] [(.ref x163_0), (.ref x158_0)])) _
      refine st171.trans ?_
      show Steps p.tables e below (T171.setTop (mkF m 266 #[vJ q1, vS, vJ q2, vS, vJ q3, vS, vJ q4, vS, vI p5, vI p6, vI (own_ngt p6), vI (own_u p5), vI (own_v p5), vI (own_w p5), vJ ((-(own_nx p5)).toInt64), vS, vJ ((-(own_ny p5)).toInt64), vS, vJ ((-(own_nz p5)).toInt64), vS, vR x98_0, vI (own_eq (own_neg (own_nx p5) (own_ny p5) (own_nz p5)) (own_text ((-(own_nx p5)).toInt64) ((-(own_ny p5)).toInt64) ((-(own_nz p5)).toInt64))), vJ (own_a2 q1 q4 p6), vS, vJ (own_b2 q2 q4 p6), vS, vJ (own_c2 q3 q4 p6), vS, vR b132, vR b144, vU, vU] [(.int (own_eq (own_text q1 q2 q3) (own_text (own_a2 q1 q4 p6) (own_b2 q2 q4 p6) (own_c2 q3 q4 p6))))])) _
      refine XS.istore X171.here hx rfl (hb hby at_266) rfl (l' := #[vJ q1, vS, vJ q2, vS, vJ q3, vS, vJ q4, vS, vI p5, vI p6, vI (own_ngt p6), vI (own_u p5), vI (own_v p5), vI (own_w p5), vJ ((-(own_nx p5)).toInt64), vS, vJ ((-(own_ny p5)).toInt64), vS, vJ ((-(own_nz p5)).toInt64), vS, vR x98_0, vI (own_eq (own_neg (own_nx p5) (own_ny p5) (own_nz p5)) (own_text ((-(own_nx p5)).toInt64) ((-(own_ny p5)).toInt64) ((-(own_nz p5)).toInt64))), vJ (own_a2 q1 q4 p6), vS, vJ (own_b2 q2 q4 p6), vS, vJ (own_c2 q3 q4 p6), vS, vR b132, vR b144, vI (own_eq (own_text q1 q2 q3) (own_text (own_a2 q1 q4 p6) (own_b2 q2 q4 p6) (own_c2 q3 q4 p6))), vU]) rfl ?_
      show Steps p.tables e below (T171.setTop (mkF m 268 #[vJ q1, vS, vJ q2, vS, vJ q3, vS, vJ q4, vS, vI p5, vI p6, vI (own_ngt p6), vI (own_u p5), vI (own_v p5), vI (own_w p5), vJ ((-(own_nx p5)).toInt64), vS, vJ ((-(own_ny p5)).toInt64), vS, vJ ((-(own_nz p5)).toInt64), vS, vR x98_0, vI (own_eq (own_neg (own_nx p5) (own_ny p5) (own_nz p5)) (own_text ((-(own_nx p5)).toInt64) ((-(own_ny p5)).toInt64) ((-(own_nz p5)).toInt64))), vJ (own_a2 q1 q4 p6), vS, vJ (own_b2 q2 q4 p6), vS, vJ (own_c2 q3 q4 p6), vS, vR b132, vR b144, vI (own_eq (own_text q1 q2 q3) (own_text (own_a2 q1 q4 p6) (own_b2 q2 q4 p6) (own_c2 q3 q4 p6))), vU] [])) _
      exact kt)
    have jn173 : ∀ t, Steps p.tables e below (T171.setTop (mkF m 295 #[vJ q1, vS, vJ q2, vS, vJ q3, vS, vJ q4, vS, vI p5, vI p6, vI (own_ngt p6), vI (own_u p5), vI (own_v p5), vI (own_w p5), vJ ((-(own_nx p5)).toInt64), vS, vJ ((-(own_ny p5)).toInt64), vS, vJ ((-(own_nz p5)).toInt64), vS, vR x98_0, vI (own_eq (own_neg (own_nx p5) (own_ny p5) (own_nz p5)) (own_text ((-(own_nx p5)).toInt64) ((-(own_ny p5)).toInt64) ((-(own_nz p5)).toInt64))), vJ (own_a2 q1 q4 p6), vS, vJ (own_b2 q2 q4 p6), vS, vJ (own_c2 q3 q4 p6), vS, vR b132, vR b144, vI (own_eq (own_text q1 q2 q3) (own_text (own_a2 q1 q4 p6) (own_b2 q2 q4 p6) (own_c2 q3 q4 p6))), vU] [(.int (own_sm q1 q2 q3 q4 p6))])) t → Steps p.tables e below (T171.setTop (mkF m 268 #[vJ q1, vS, vJ q2, vS, vJ q3, vS, vJ q4, vS, vI p5, vI p6, vI (own_ngt p6), vI (own_u p5), vI (own_v p5), vI (own_w p5), vJ ((-(own_nx p5)).toInt64), vS, vJ ((-(own_ny p5)).toInt64), vS, vJ ((-(own_nz p5)).toInt64), vS, vR x98_0, vI (own_eq (own_neg (own_nx p5) (own_ny p5) (own_nz p5)) (own_text ((-(own_nx p5)).toInt64) ((-(own_ny p5)).toInt64) ((-(own_nz p5)).toInt64))), vJ (own_a2 q1 q4 p6), vS, vJ (own_b2 q2 q4 p6), vS, vJ (own_c2 q3 q4 p6), vS, vR b132, vR b144, vI (own_eq (own_text q1 q2 q3) (own_text (own_a2 q1 q4 p6) (own_b2 q2 q4 p6) (own_c2 q3 q4 p6))), vU] [])) t := by
      intro t0 kt0
      have preR173 : ∀ t, Steps p.tables e below (T171.setTop (mkF m 268 #[vJ q1, vS, vJ q2, vS, vJ q3, vS, vJ q4, vS, vI p5, vI p6, vI (own_ngt p6), vI (own_u p5), vI (own_v p5), vI (own_w p5), vJ ((-(own_nx p5)).toInt64), vS, vJ ((-(own_ny p5)).toInt64), vS, vJ ((-(own_nz p5)).toInt64), vS, vR x98_0, vI (own_eq (own_neg (own_nx p5) (own_ny p5) (own_nz p5)) (own_text ((-(own_nx p5)).toInt64) ((-(own_ny p5)).toInt64) ((-(own_nz p5)).toInt64))), vJ (own_a2 q1 q4 p6), vS, vJ (own_b2 q2 q4 p6), vS, vJ (own_c2 q3 q4 p6), vS, vR b132, vR b144, vI (own_eq (own_text q1 q2 q3) (own_text (own_a2 q1 q4 p6) (own_b2 q2 q4 p6) (own_c2 q3 q4 p6))), vU] [])) t → Steps p.tables e below (T171.setTop (mkF m 268 #[vJ q1, vS, vJ q2, vS, vJ q3, vS, vJ q4, vS, vI p5, vI p6, vI (own_ngt p6), vI (own_u p5), vI (own_v p5), vI (own_w p5), vJ ((-(own_nx p5)).toInt64), vS, vJ ((-(own_ny p5)).toInt64), vS, vJ ((-(own_nz p5)).toInt64), vS, vR x98_0, vI (own_eq (own_neg (own_nx p5) (own_ny p5) (own_nz p5)) (own_text ((-(own_nx p5)).toInt64) ((-(own_ny p5)).toInt64) ((-(own_nz p5)).toInt64))), vJ (own_a2 q1 q4 p6), vS, vJ (own_b2 q2 q4 p6), vS, vJ (own_c2 q3 q4 p6), vS, vR b132, vR b144, vI (own_eq (own_text q1 q2 q3) (own_text (own_a2 q1 q4 p6) (own_b2 q2 q4 p6) (own_c2 q3 q4 p6))), vU] [])) t := fun t kt => kt
      have pre175 : ∀ t, Steps p.tables e below (T171.setTop (mkF m 272 #[vJ q1, vS, vJ q2, vS, vJ q3, vS, vJ q4, vS, vI p5, vI p6, vI (own_ngt p6), vI (own_u p5), vI (own_v p5), vI (own_w p5), vJ ((-(own_nx p5)).toInt64), vS, vJ ((-(own_ny p5)).toInt64), vS, vJ ((-(own_nz p5)).toInt64), vS, vR x98_0, vI (own_eq (own_neg (own_nx p5) (own_ny p5) (own_nz p5)) (own_text ((-(own_nx p5)).toInt64) ((-(own_ny p5)).toInt64) ((-(own_nz p5)).toInt64))), vJ (own_a2 q1 q4 p6), vS, vJ (own_b2 q2 q4 p6), vS, vJ (own_c2 q3 q4 p6), vS, vR b132, vR b144, vI (own_eq (own_text q1 q2 q3) (own_text (own_a2 q1 q4 p6) (own_b2 q2 q4 p6) (own_c2 q3 q4 p6))), vU] [(.int (lcmpW q1 (own_a2 q1 q4 p6)))])) t → Steps p.tables e below (T171.setTop (mkF m 268 #[vJ q1, vS, vJ q2, vS, vJ q3, vS, vJ q4, vS, vI p5, vI p6, vI (own_ngt p6), vI (own_u p5), vI (own_v p5), vI (own_w p5), vJ ((-(own_nx p5)).toInt64), vS, vJ ((-(own_ny p5)).toInt64), vS, vJ ((-(own_nz p5)).toInt64), vS, vR x98_0, vI (own_eq (own_neg (own_nx p5) (own_ny p5) (own_nz p5)) (own_text ((-(own_nx p5)).toInt64) ((-(own_ny p5)).toInt64) ((-(own_nz p5)).toInt64))), vJ (own_a2 q1 q4 p6), vS, vJ (own_b2 q2 q4 p6), vS, vJ (own_c2 q3 q4 p6), vS, vR b132, vR b144, vI (own_eq (own_text q1 q2 q3) (own_text (own_a2 q1 q4 p6) (own_b2 q2 q4 p6) (own_c2 q3 q4 p6))), vU] [])) t := fun t kt => preR173 t (by
        show Steps p.tables e below (T171.setTop (mkF m 268 #[vJ q1, vS, vJ q2, vS, vJ q3, vS, vJ q4, vS, vI p5, vI p6, vI (own_ngt p6), vI (own_u p5), vI (own_v p5), vI (own_w p5), vJ ((-(own_nx p5)).toInt64), vS, vJ ((-(own_ny p5)).toInt64), vS, vJ ((-(own_nz p5)).toInt64), vS, vR x98_0, vI (own_eq (own_neg (own_nx p5) (own_ny p5) (own_nz p5)) (own_text ((-(own_nx p5)).toInt64) ((-(own_ny p5)).toInt64) ((-(own_nz p5)).toInt64))), vJ (own_a2 q1 q4 p6), vS, vJ (own_b2 q2 q4 p6), vS, vJ (own_c2 q3 q4 p6), vS, vR b132, vR b144, vI (own_eq (own_text q1 q2 q3) (own_text (own_a2 q1 q4 p6) (own_b2 q2 q4 p6) (own_c2 q3 q4 p6))), vU] [])) _
        refine XS.lloadN X171.here hx rfl (hb hby at_268) rfl ?_
        refine XS.lload X171.here hx rfl (hb hby at_269) rfl ?_
        refine XS.lcmp X171.here hx rfl (hb hby at_271) rfl ?_
        show Steps p.tables e below (T171.setTop (mkF m 272 #[vJ q1, vS, vJ q2, vS, vJ q3, vS, vJ q4, vS, vI p5, vI p6, vI (own_ngt p6), vI (own_u p5), vI (own_v p5), vI (own_w p5), vJ ((-(own_nx p5)).toInt64), vS, vJ ((-(own_ny p5)).toInt64), vS, vJ ((-(own_nz p5)).toInt64), vS, vR x98_0, vI (own_eq (own_neg (own_nx p5) (own_ny p5) (own_nz p5)) (own_text ((-(own_nx p5)).toInt64) ((-(own_ny p5)).toInt64) ((-(own_nz p5)).toInt64))), vJ (own_a2 q1 q4 p6), vS, vJ (own_b2 q2 q4 p6), vS, vJ (own_c2 q3 q4 p6), vS, vR b132, vR b144, vI (own_eq (own_text q1 q2 q3) (own_text (own_a2 q1 q4 p6) (own_b2 q2 q4 p6) (own_c2 q3 q4 p6))), vU] [(.int (lcmpW q1 (own_a2 q1 q4 p6)))])) _
        exact kt)
      by_cases hc272_174 : q1 = (own_a2 q1 q4 p6)
      · have pre177 : ∀ t, Steps p.tables e below (T171.setTop (mkF m 279 #[vJ q1, vS, vJ q2, vS, vJ q3, vS, vJ q4, vS, vI p5, vI p6, vI (own_ngt p6), vI (own_u p5), vI (own_v p5), vI (own_w p5), vJ ((-(own_nx p5)).toInt64), vS, vJ ((-(own_ny p5)).toInt64), vS, vJ ((-(own_nz p5)).toInt64), vS, vR x98_0, vI (own_eq (own_neg (own_nx p5) (own_ny p5) (own_nz p5)) (own_text ((-(own_nx p5)).toInt64) ((-(own_ny p5)).toInt64) ((-(own_nz p5)).toInt64))), vJ (own_a2 q1 q4 p6), vS, vJ (own_b2 q2 q4 p6), vS, vJ (own_c2 q3 q4 p6), vS, vR b132, vR b144, vI (own_eq (own_text q1 q2 q3) (own_text (own_a2 q1 q4 p6) (own_b2 q2 q4 p6) (own_c2 q3 q4 p6))), vU] [(.int (lcmpW q2 (own_b2 q2 q4 p6)))])) t → Steps p.tables e below (T171.setTop (mkF m 268 #[vJ q1, vS, vJ q2, vS, vJ q3, vS, vJ q4, vS, vI p5, vI p6, vI (own_ngt p6), vI (own_u p5), vI (own_v p5), vI (own_w p5), vJ ((-(own_nx p5)).toInt64), vS, vJ ((-(own_ny p5)).toInt64), vS, vJ ((-(own_nz p5)).toInt64), vS, vR x98_0, vI (own_eq (own_neg (own_nx p5) (own_ny p5) (own_nz p5)) (own_text ((-(own_nx p5)).toInt64) ((-(own_ny p5)).toInt64) ((-(own_nz p5)).toInt64))), vJ (own_a2 q1 q4 p6), vS, vJ (own_b2 q2 q4 p6), vS, vJ (own_c2 q3 q4 p6), vS, vR b132, vR b144, vI (own_eq (own_text q1 q2 q3) (own_text (own_a2 q1 q4 p6) (own_b2 q2 q4 p6) (own_c2 q3 q4 p6))), vU] [])) t := fun t kt => pre175 t (by
          show Steps p.tables e below (T171.setTop (mkF m 272 #[vJ q1, vS, vJ q2, vS, vJ q3, vS, vJ q4, vS, vI p5, vI p6, vI (own_ngt p6), vI (own_u p5), vI (own_v p5), vI (own_w p5), vJ ((-(own_nx p5)).toInt64), vS, vJ ((-(own_ny p5)).toInt64), vS, vJ ((-(own_nz p5)).toInt64), vS, vR x98_0, vI (own_eq (own_neg (own_nx p5) (own_ny p5) (own_nz p5)) (own_text ((-(own_nx p5)).toInt64) ((-(own_ny p5)).toInt64) ((-(own_nz p5)).toInt64))), vJ (own_a2 q1 q4 p6), vS, vJ (own_b2 q2 q4 p6), vS, vJ (own_c2 q3 q4 p6), vS, vR b132, vR b144, vI (own_eq (own_text q1 q2 q3) (own_text (own_a2 q1 q4 p6) (own_b2 q2 q4 p6) (own_c2 q3 q4 p6))), vU] [(.int (lcmpW q1 (own_a2 q1 q4 p6)))])) _
          refine XS.ifNo X171.here hx rfl (hb hby at_272) rfl ((if0 _ _).trans (teq ((lw_eq q1 (own_a2 q1 q4 p6)).mpr hc272_174)).2) ?_
          refine XS.lloadN X171.here hx rfl (hb hby at_275) rfl ?_
          refine XS.lload X171.here hx rfl (hb hby at_276) rfl ?_
          refine XS.lcmp X171.here hx rfl (hb hby at_278) rfl ?_
          show Steps p.tables e below (T171.setTop (mkF m 279 #[vJ q1, vS, vJ q2, vS, vJ q3, vS, vJ q4, vS, vI p5, vI p6, vI (own_ngt p6), vI (own_u p5), vI (own_v p5), vI (own_w p5), vJ ((-(own_nx p5)).toInt64), vS, vJ ((-(own_ny p5)).toInt64), vS, vJ ((-(own_nz p5)).toInt64), vS, vR x98_0, vI (own_eq (own_neg (own_nx p5) (own_ny p5) (own_nz p5)) (own_text ((-(own_nx p5)).toInt64) ((-(own_ny p5)).toInt64) ((-(own_nz p5)).toInt64))), vJ (own_a2 q1 q4 p6), vS, vJ (own_b2 q2 q4 p6), vS, vJ (own_c2 q3 q4 p6), vS, vR b132, vR b144, vI (own_eq (own_text q1 q2 q3) (own_text (own_a2 q1 q4 p6) (own_b2 q2 q4 p6) (own_c2 q3 q4 p6))), vU] [(.int (lcmpW q2 (own_b2 q2 q4 p6)))])) _
          exact kt)
        by_cases hc279_176 : q2 = (own_b2 q2 q4 p6)
        · have pre179 : ∀ t, Steps p.tables e below (T171.setTop (mkF m 287 #[vJ q1, vS, vJ q2, vS, vJ q3, vS, vJ q4, vS, vI p5, vI p6, vI (own_ngt p6), vI (own_u p5), vI (own_v p5), vI (own_w p5), vJ ((-(own_nx p5)).toInt64), vS, vJ ((-(own_ny p5)).toInt64), vS, vJ ((-(own_nz p5)).toInt64), vS, vR x98_0, vI (own_eq (own_neg (own_nx p5) (own_ny p5) (own_nz p5)) (own_text ((-(own_nx p5)).toInt64) ((-(own_ny p5)).toInt64) ((-(own_nz p5)).toInt64))), vJ (own_a2 q1 q4 p6), vS, vJ (own_b2 q2 q4 p6), vS, vJ (own_c2 q3 q4 p6), vS, vR b132, vR b144, vI (own_eq (own_text q1 q2 q3) (own_text (own_a2 q1 q4 p6) (own_b2 q2 q4 p6) (own_c2 q3 q4 p6))), vU] [(.int (lcmpW q3 (own_c2 q3 q4 p6)))])) t → Steps p.tables e below (T171.setTop (mkF m 268 #[vJ q1, vS, vJ q2, vS, vJ q3, vS, vJ q4, vS, vI p5, vI p6, vI (own_ngt p6), vI (own_u p5), vI (own_v p5), vI (own_w p5), vJ ((-(own_nx p5)).toInt64), vS, vJ ((-(own_ny p5)).toInt64), vS, vJ ((-(own_nz p5)).toInt64), vS, vR x98_0, vI (own_eq (own_neg (own_nx p5) (own_ny p5) (own_nz p5)) (own_text ((-(own_nx p5)).toInt64) ((-(own_ny p5)).toInt64) ((-(own_nz p5)).toInt64))), vJ (own_a2 q1 q4 p6), vS, vJ (own_b2 q2 q4 p6), vS, vJ (own_c2 q3 q4 p6), vS, vR b132, vR b144, vI (own_eq (own_text q1 q2 q3) (own_text (own_a2 q1 q4 p6) (own_b2 q2 q4 p6) (own_c2 q3 q4 p6))), vU] [])) t := fun t kt => pre177 t (by
            show Steps p.tables e below (T171.setTop (mkF m 279 #[vJ q1, vS, vJ q2, vS, vJ q3, vS, vJ q4, vS, vI p5, vI p6, vI (own_ngt p6), vI (own_u p5), vI (own_v p5), vI (own_w p5), vJ ((-(own_nx p5)).toInt64), vS, vJ ((-(own_ny p5)).toInt64), vS, vJ ((-(own_nz p5)).toInt64), vS, vR x98_0, vI (own_eq (own_neg (own_nx p5) (own_ny p5) (own_nz p5)) (own_text ((-(own_nx p5)).toInt64) ((-(own_ny p5)).toInt64) ((-(own_nz p5)).toInt64))), vJ (own_a2 q1 q4 p6), vS, vJ (own_b2 q2 q4 p6), vS, vJ (own_c2 q3 q4 p6), vS, vR b132, vR b144, vI (own_eq (own_text q1 q2 q3) (own_text (own_a2 q1 q4 p6) (own_b2 q2 q4 p6) (own_c2 q3 q4 p6))), vU] [(.int (lcmpW q2 (own_b2 q2 q4 p6)))])) _
            refine XS.ifNo X171.here hx rfl (hb hby at_279) rfl ((if0 _ _).trans (teq ((lw_eq q2 (own_b2 q2 q4 p6)).mpr hc279_176)).2) ?_
            refine XS.lload X171.here hx rfl (hb hby at_282) rfl ?_
            refine XS.lload X171.here hx rfl (hb hby at_284) rfl ?_
            refine XS.lcmp X171.here hx rfl (hb hby at_286) rfl ?_
            show Steps p.tables e below (T171.setTop (mkF m 287 #[vJ q1, vS, vJ q2, vS, vJ q3, vS, vJ q4, vS, vI p5, vI p6, vI (own_ngt p6), vI (own_u p5), vI (own_v p5), vI (own_w p5), vJ ((-(own_nx p5)).toInt64), vS, vJ ((-(own_ny p5)).toInt64), vS, vJ ((-(own_nz p5)).toInt64), vS, vR x98_0, vI (own_eq (own_neg (own_nx p5) (own_ny p5) (own_nz p5)) (own_text ((-(own_nx p5)).toInt64) ((-(own_ny p5)).toInt64) ((-(own_nz p5)).toInt64))), vJ (own_a2 q1 q4 p6), vS, vJ (own_b2 q2 q4 p6), vS, vJ (own_c2 q3 q4 p6), vS, vR b132, vR b144, vI (own_eq (own_text q1 q2 q3) (own_text (own_a2 q1 q4 p6) (own_b2 q2 q4 p6) (own_c2 q3 q4 p6))), vU] [(.int (lcmpW q3 (own_c2 q3 q4 p6)))])) _
            exact kt)
          by_cases hc287_178 : q3 = (own_c2 q3 q4 p6)
          · have pre180 : ∀ t, Steps p.tables e below (T171.setTop (mkF m 295 #[vJ q1, vS, vJ q2, vS, vJ q3, vS, vJ q4, vS, vI p5, vI p6, vI (own_ngt p6), vI (own_u p5), vI (own_v p5), vI (own_w p5), vJ ((-(own_nx p5)).toInt64), vS, vJ ((-(own_ny p5)).toInt64), vS, vJ ((-(own_nz p5)).toInt64), vS, vR x98_0, vI (own_eq (own_neg (own_nx p5) (own_ny p5) (own_nz p5)) (own_text ((-(own_nx p5)).toInt64) ((-(own_ny p5)).toInt64) ((-(own_nz p5)).toInt64))), vJ (own_a2 q1 q4 p6), vS, vJ (own_b2 q2 q4 p6), vS, vJ (own_c2 q3 q4 p6), vS, vR b132, vR b144, vI (own_eq (own_text q1 q2 q3) (own_text (own_a2 q1 q4 p6) (own_b2 q2 q4 p6) (own_c2 q3 q4 p6))), vU] [(.int (1 : Int32))])) t → Steps p.tables e below (T171.setTop (mkF m 268 #[vJ q1, vS, vJ q2, vS, vJ q3, vS, vJ q4, vS, vI p5, vI p6, vI (own_ngt p6), vI (own_u p5), vI (own_v p5), vI (own_w p5), vJ ((-(own_nx p5)).toInt64), vS, vJ ((-(own_ny p5)).toInt64), vS, vJ ((-(own_nz p5)).toInt64), vS, vR x98_0, vI (own_eq (own_neg (own_nx p5) (own_ny p5) (own_nz p5)) (own_text ((-(own_nx p5)).toInt64) ((-(own_ny p5)).toInt64) ((-(own_nz p5)).toInt64))), vJ (own_a2 q1 q4 p6), vS, vJ (own_b2 q2 q4 p6), vS, vJ (own_c2 q3 q4 p6), vS, vR b132, vR b144, vI (own_eq (own_text q1 q2 q3) (own_text (own_a2 q1 q4 p6) (own_b2 q2 q4 p6) (own_c2 q3 q4 p6))), vU] [])) t := fun t kt => pre179 t (by
              show Steps p.tables e below (T171.setTop (mkF m 287 #[vJ q1, vS, vJ q2, vS, vJ q3, vS, vJ q4, vS, vI p5, vI p6, vI (own_ngt p6), vI (own_u p5), vI (own_v p5), vI (own_w p5), vJ ((-(own_nx p5)).toInt64), vS, vJ ((-(own_ny p5)).toInt64), vS, vJ ((-(own_nz p5)).toInt64), vS, vR x98_0, vI (own_eq (own_neg (own_nx p5) (own_ny p5) (own_nz p5)) (own_text ((-(own_nx p5)).toInt64) ((-(own_ny p5)).toInt64) ((-(own_nz p5)).toInt64))), vJ (own_a2 q1 q4 p6), vS, vJ (own_b2 q2 q4 p6), vS, vJ (own_c2 q3 q4 p6), vS, vR b132, vR b144, vI (own_eq (own_text q1 q2 q3) (own_text (own_a2 q1 q4 p6) (own_b2 q2 q4 p6) (own_c2 q3 q4 p6))), vU] [(.int (lcmpW q3 (own_c2 q3 q4 p6)))])) _
              refine XS.ifNo X171.here hx rfl (hb hby at_287) rfl ((if0 _ _).trans (teq ((lw_eq q3 (own_c2 q3 q4 p6)).mpr hc287_178)).2) ?_
              refine XS.iconst X171.here hx rfl (hb hby at_290) ?_
              refine XS.goto X171.here hx rfl (pc0 := 291) (pc' := 295) rfl (hb hby at_291) (by decide) (by decide) ?_
              show Steps p.tables e below (T171.setTop (mkF m 295 #[vJ q1, vS, vJ q2, vS, vJ q3, vS, vJ q4, vS, vI p5, vI p6, vI (own_ngt p6), vI (own_u p5), vI (own_v p5), vI (own_w p5), vJ ((-(own_nx p5)).toInt64), vS, vJ ((-(own_ny p5)).toInt64), vS, vJ ((-(own_nz p5)).toInt64), vS, vR x98_0, vI (own_eq (own_neg (own_nx p5) (own_ny p5) (own_nz p5)) (own_text ((-(own_nx p5)).toInt64) ((-(own_ny p5)).toInt64) ((-(own_nz p5)).toInt64))), vJ (own_a2 q1 q4 p6), vS, vJ (own_b2 q2 q4 p6), vS, vJ (own_c2 q3 q4 p6), vS, vR b132, vR b144, vI (own_eq (own_text q1 q2 q3) (own_text (own_a2 q1 q4 p6) (own_b2 q2 q4 p6) (own_c2 q3 q4 p6))), vU] [(.int (1 : Int32))])) _
              exact kt)
            have qe : own_sm q1 q2 q3 q4 p6 = (1 : Int32) := by unfold own_sm; rw [if_pos hc272_174, if_pos hc279_176, if_pos hc287_178]
            rw [qe] at kt0
            exact pre180 _ kt0
          · have pre181 : ∀ t, Steps p.tables e below (T171.setTop (mkF m 295 #[vJ q1, vS, vJ q2, vS, vJ q3, vS, vJ q4, vS, vI p5, vI p6, vI (own_ngt p6), vI (own_u p5), vI (own_v p5), vI (own_w p5), vJ ((-(own_nx p5)).toInt64), vS, vJ ((-(own_ny p5)).toInt64), vS, vJ ((-(own_nz p5)).toInt64), vS, vR x98_0, vI (own_eq (own_neg (own_nx p5) (own_ny p5) (own_nz p5)) (own_text ((-(own_nx p5)).toInt64) ((-(own_ny p5)).toInt64) ((-(own_nz p5)).toInt64))), vJ (own_a2 q1 q4 p6), vS, vJ (own_b2 q2 q4 p6), vS, vJ (own_c2 q3 q4 p6), vS, vR b132, vR b144, vI (own_eq (own_text q1 q2 q3) (own_text (own_a2 q1 q4 p6) (own_b2 q2 q4 p6) (own_c2 q3 q4 p6))), vU] [(.int (0 : Int32))])) t → Steps p.tables e below (T171.setTop (mkF m 268 #[vJ q1, vS, vJ q2, vS, vJ q3, vS, vJ q4, vS, vI p5, vI p6, vI (own_ngt p6), vI (own_u p5), vI (own_v p5), vI (own_w p5), vJ ((-(own_nx p5)).toInt64), vS, vJ ((-(own_ny p5)).toInt64), vS, vJ ((-(own_nz p5)).toInt64), vS, vR x98_0, vI (own_eq (own_neg (own_nx p5) (own_ny p5) (own_nz p5)) (own_text ((-(own_nx p5)).toInt64) ((-(own_ny p5)).toInt64) ((-(own_nz p5)).toInt64))), vJ (own_a2 q1 q4 p6), vS, vJ (own_b2 q2 q4 p6), vS, vJ (own_c2 q3 q4 p6), vS, vR b132, vR b144, vI (own_eq (own_text q1 q2 q3) (own_text (own_a2 q1 q4 p6) (own_b2 q2 q4 p6) (own_c2 q3 q4 p6))), vU] [])) t := fun t kt => pre179 t (by
              show Steps p.tables e below (T171.setTop (mkF m 287 #[vJ q1, vS, vJ q2, vS, vJ q3, vS, vJ q4, vS, vI p5, vI p6, vI (own_ngt p6), vI (own_u p5), vI (own_v p5), vI (own_w p5), vJ ((-(own_nx p5)).toInt64), vS, vJ ((-(own_ny p5)).toInt64), vS, vJ ((-(own_nz p5)).toInt64), vS, vR x98_0, vI (own_eq (own_neg (own_nx p5) (own_ny p5) (own_nz p5)) (own_text ((-(own_nx p5)).toInt64) ((-(own_ny p5)).toInt64) ((-(own_nz p5)).toInt64))), vJ (own_a2 q1 q4 p6), vS, vJ (own_b2 q2 q4 p6), vS, vJ (own_c2 q3 q4 p6), vS, vR b132, vR b144, vI (own_eq (own_text q1 q2 q3) (own_text (own_a2 q1 q4 p6) (own_b2 q2 q4 p6) (own_c2 q3 q4 p6))), vU] [(.int (lcmpW q3 (own_c2 q3 q4 p6)))])) _
              refine XS.ifYes X171.here hx rfl (pc0 := 287) (pc' := 294) rfl (hb hby at_287) rfl ((if0 _ _).trans (feq (mt (lw_eq q3 (own_c2 q3 q4 p6)).mp hc287_178)).2) (by decide) (by decide) ?_
              refine XS.iconst X171.here hx rfl (hb hby at_294) ?_
              show Steps p.tables e below (T171.setTop (mkF m 295 #[vJ q1, vS, vJ q2, vS, vJ q3, vS, vJ q4, vS, vI p5, vI p6, vI (own_ngt p6), vI (own_u p5), vI (own_v p5), vI (own_w p5), vJ ((-(own_nx p5)).toInt64), vS, vJ ((-(own_ny p5)).toInt64), vS, vJ ((-(own_nz p5)).toInt64), vS, vR x98_0, vI (own_eq (own_neg (own_nx p5) (own_ny p5) (own_nz p5)) (own_text ((-(own_nx p5)).toInt64) ((-(own_ny p5)).toInt64) ((-(own_nz p5)).toInt64))), vJ (own_a2 q1 q4 p6), vS, vJ (own_b2 q2 q4 p6), vS, vJ (own_c2 q3 q4 p6), vS, vR b132, vR b144, vI (own_eq (own_text q1 q2 q3) (own_text (own_a2 q1 q4 p6) (own_b2 q2 q4 p6) (own_c2 q3 q4 p6))), vU] [(.int (0 : Int32))])) _
              exact kt)
            have qe : own_sm q1 q2 q3 q4 p6 = (0 : Int32) := by unfold own_sm; rw [if_pos hc272_174, if_pos hc279_176, if_neg hc287_178]
            rw [qe] at kt0
            exact pre181 _ kt0
        · have pre182 : ∀ t, Steps p.tables e below (T171.setTop (mkF m 295 #[vJ q1, vS, vJ q2, vS, vJ q3, vS, vJ q4, vS, vI p5, vI p6, vI (own_ngt p6), vI (own_u p5), vI (own_v p5), vI (own_w p5), vJ ((-(own_nx p5)).toInt64), vS, vJ ((-(own_ny p5)).toInt64), vS, vJ ((-(own_nz p5)).toInt64), vS, vR x98_0, vI (own_eq (own_neg (own_nx p5) (own_ny p5) (own_nz p5)) (own_text ((-(own_nx p5)).toInt64) ((-(own_ny p5)).toInt64) ((-(own_nz p5)).toInt64))), vJ (own_a2 q1 q4 p6), vS, vJ (own_b2 q2 q4 p6), vS, vJ (own_c2 q3 q4 p6), vS, vR b132, vR b144, vI (own_eq (own_text q1 q2 q3) (own_text (own_a2 q1 q4 p6) (own_b2 q2 q4 p6) (own_c2 q3 q4 p6))), vU] [(.int (0 : Int32))])) t → Steps p.tables e below (T171.setTop (mkF m 268 #[vJ q1, vS, vJ q2, vS, vJ q3, vS, vJ q4, vS, vI p5, vI p6, vI (own_ngt p6), vI (own_u p5), vI (own_v p5), vI (own_w p5), vJ ((-(own_nx p5)).toInt64), vS, vJ ((-(own_ny p5)).toInt64), vS, vJ ((-(own_nz p5)).toInt64), vS, vR x98_0, vI (own_eq (own_neg (own_nx p5) (own_ny p5) (own_nz p5)) (own_text ((-(own_nx p5)).toInt64) ((-(own_ny p5)).toInt64) ((-(own_nz p5)).toInt64))), vJ (own_a2 q1 q4 p6), vS, vJ (own_b2 q2 q4 p6), vS, vJ (own_c2 q3 q4 p6), vS, vR b132, vR b144, vI (own_eq (own_text q1 q2 q3) (own_text (own_a2 q1 q4 p6) (own_b2 q2 q4 p6) (own_c2 q3 q4 p6))), vU] [])) t := fun t kt => pre177 t (by
            show Steps p.tables e below (T171.setTop (mkF m 279 #[vJ q1, vS, vJ q2, vS, vJ q3, vS, vJ q4, vS, vI p5, vI p6, vI (own_ngt p6), vI (own_u p5), vI (own_v p5), vI (own_w p5), vJ ((-(own_nx p5)).toInt64), vS, vJ ((-(own_ny p5)).toInt64), vS, vJ ((-(own_nz p5)).toInt64), vS, vR x98_0, vI (own_eq (own_neg (own_nx p5) (own_ny p5) (own_nz p5)) (own_text ((-(own_nx p5)).toInt64) ((-(own_ny p5)).toInt64) ((-(own_nz p5)).toInt64))), vJ (own_a2 q1 q4 p6), vS, vJ (own_b2 q2 q4 p6), vS, vJ (own_c2 q3 q4 p6), vS, vR b132, vR b144, vI (own_eq (own_text q1 q2 q3) (own_text (own_a2 q1 q4 p6) (own_b2 q2 q4 p6) (own_c2 q3 q4 p6))), vU] [(.int (lcmpW q2 (own_b2 q2 q4 p6)))])) _
            refine XS.ifYes X171.here hx rfl (pc0 := 279) (pc' := 294) rfl (hb hby at_279) rfl ((if0 _ _).trans (feq (mt (lw_eq q2 (own_b2 q2 q4 p6)).mp hc279_176)).2) (by decide) (by decide) ?_
            refine XS.iconst X171.here hx rfl (hb hby at_294) ?_
            show Steps p.tables e below (T171.setTop (mkF m 295 #[vJ q1, vS, vJ q2, vS, vJ q3, vS, vJ q4, vS, vI p5, vI p6, vI (own_ngt p6), vI (own_u p5), vI (own_v p5), vI (own_w p5), vJ ((-(own_nx p5)).toInt64), vS, vJ ((-(own_ny p5)).toInt64), vS, vJ ((-(own_nz p5)).toInt64), vS, vR x98_0, vI (own_eq (own_neg (own_nx p5) (own_ny p5) (own_nz p5)) (own_text ((-(own_nx p5)).toInt64) ((-(own_ny p5)).toInt64) ((-(own_nz p5)).toInt64))), vJ (own_a2 q1 q4 p6), vS, vJ (own_b2 q2 q4 p6), vS, vJ (own_c2 q3 q4 p6), vS, vR b132, vR b144, vI (own_eq (own_text q1 q2 q3) (own_text (own_a2 q1 q4 p6) (own_b2 q2 q4 p6) (own_c2 q3 q4 p6))), vU] [(.int (0 : Int32))])) _
            exact kt)
          have qe : own_sm q1 q2 q3 q4 p6 = (0 : Int32) := by unfold own_sm; rw [if_pos hc272_174, if_neg hc279_176]
          rw [qe] at kt0
          exact pre182 _ kt0
      · have pre183 : ∀ t, Steps p.tables e below (T171.setTop (mkF m 295 #[vJ q1, vS, vJ q2, vS, vJ q3, vS, vJ q4, vS, vI p5, vI p6, vI (own_ngt p6), vI (own_u p5), vI (own_v p5), vI (own_w p5), vJ ((-(own_nx p5)).toInt64), vS, vJ ((-(own_ny p5)).toInt64), vS, vJ ((-(own_nz p5)).toInt64), vS, vR x98_0, vI (own_eq (own_neg (own_nx p5) (own_ny p5) (own_nz p5)) (own_text ((-(own_nx p5)).toInt64) ((-(own_ny p5)).toInt64) ((-(own_nz p5)).toInt64))), vJ (own_a2 q1 q4 p6), vS, vJ (own_b2 q2 q4 p6), vS, vJ (own_c2 q3 q4 p6), vS, vR b132, vR b144, vI (own_eq (own_text q1 q2 q3) (own_text (own_a2 q1 q4 p6) (own_b2 q2 q4 p6) (own_c2 q3 q4 p6))), vU] [(.int (0 : Int32))])) t → Steps p.tables e below (T171.setTop (mkF m 268 #[vJ q1, vS, vJ q2, vS, vJ q3, vS, vJ q4, vS, vI p5, vI p6, vI (own_ngt p6), vI (own_u p5), vI (own_v p5), vI (own_w p5), vJ ((-(own_nx p5)).toInt64), vS, vJ ((-(own_ny p5)).toInt64), vS, vJ ((-(own_nz p5)).toInt64), vS, vR x98_0, vI (own_eq (own_neg (own_nx p5) (own_ny p5) (own_nz p5)) (own_text ((-(own_nx p5)).toInt64) ((-(own_ny p5)).toInt64) ((-(own_nz p5)).toInt64))), vJ (own_a2 q1 q4 p6), vS, vJ (own_b2 q2 q4 p6), vS, vJ (own_c2 q3 q4 p6), vS, vR b132, vR b144, vI (own_eq (own_text q1 q2 q3) (own_text (own_a2 q1 q4 p6) (own_b2 q2 q4 p6) (own_c2 q3 q4 p6))), vU] [])) t := fun t kt => pre175 t (by
          show Steps p.tables e below (T171.setTop (mkF m 272 #[vJ q1, vS, vJ q2, vS, vJ q3, vS, vJ q4, vS, vI p5, vI p6, vI (own_ngt p6), vI (own_u p5), vI (own_v p5), vI (own_w p5), vJ ((-(own_nx p5)).toInt64), vS, vJ ((-(own_ny p5)).toInt64), vS, vJ ((-(own_nz p5)).toInt64), vS, vR x98_0, vI (own_eq (own_neg (own_nx p5) (own_ny p5) (own_nz p5)) (own_text ((-(own_nx p5)).toInt64) ((-(own_ny p5)).toInt64) ((-(own_nz p5)).toInt64))), vJ (own_a2 q1 q4 p6), vS, vJ (own_b2 q2 q4 p6), vS, vJ (own_c2 q3 q4 p6), vS, vR b132, vR b144, vI (own_eq (own_text q1 q2 q3) (own_text (own_a2 q1 q4 p6) (own_b2 q2 q4 p6) (own_c2 q3 q4 p6))), vU] [(.int (lcmpW q1 (own_a2 q1 q4 p6)))])) _
          refine XS.ifYes X171.here hx rfl (pc0 := 272) (pc' := 294) rfl (hb hby at_272) rfl ((if0 _ _).trans (feq (mt (lw_eq q1 (own_a2 q1 q4 p6)).mp hc272_174)).2) (by decide) (by decide) ?_
          refine XS.iconst X171.here hx rfl (hb hby at_294) ?_
          show Steps p.tables e below (T171.setTop (mkF m 295 #[vJ q1, vS, vJ q2, vS, vJ q3, vS, vJ q4, vS, vI p5, vI p6, vI (own_ngt p6), vI (own_u p5), vI (own_v p5), vI (own_w p5), vJ ((-(own_nx p5)).toInt64), vS, vJ ((-(own_ny p5)).toInt64), vS, vJ ((-(own_nz p5)).toInt64), vS, vR x98_0, vI (own_eq (own_neg (own_nx p5) (own_ny p5) (own_nz p5)) (own_text ((-(own_nx p5)).toInt64) ((-(own_ny p5)).toInt64) ((-(own_nz p5)).toInt64))), vJ (own_a2 q1 q4 p6), vS, vJ (own_b2 q2 q4 p6), vS, vJ (own_c2 q3 q4 p6), vS, vR b132, vR b144, vI (own_eq (own_text q1 q2 q3) (own_text (own_a2 q1 q4 p6) (own_b2 q2 q4 p6) (own_c2 q3 q4 p6))), vU] [(.int (0 : Int32))])) _
          exact kt)
        have qe : own_sm q1 q2 q3 q4 p6 = (0 : Int32) := by unfold own_sm; rw [if_neg hc272_174]
        rw [qe] at kt0
        exact pre183 _ kt0
    have pre184 : ∀ t, Steps p.tables e below (T171.setTop (mkF m 295 #[vJ q1, vS, vJ q2, vS, vJ q3, vS, vJ q4, vS, vI p5, vI p6, vI (own_ngt p6), vI (own_u p5), vI (own_v p5), vI (own_w p5), vJ ((-(own_nx p5)).toInt64), vS, vJ ((-(own_ny p5)).toInt64), vS, vJ ((-(own_nz p5)).toInt64), vS, vR x98_0, vI (own_eq (own_neg (own_nx p5) (own_ny p5) (own_nz p5)) (own_text ((-(own_nx p5)).toInt64) ((-(own_ny p5)).toInt64) ((-(own_nz p5)).toInt64))), vJ (own_a2 q1 q4 p6), vS, vJ (own_b2 q2 q4 p6), vS, vJ (own_c2 q3 q4 p6), vS, vR b132, vR b144, vI (own_eq (own_text q1 q2 q3) (own_text (own_a2 q1 q4 p6) (own_b2 q2 q4 p6) (own_c2 q3 q4 p6))), vU] [(.int (own_sm q1 q2 q3 q4 p6))])) t → Steps p.tables e below (s₁.setTop (entryFrame m #[(.long q1), (.long q2), (.long q3), (.long q4), (.int p5), (.int p6)] maxLocals)) t := fun t kt => pre172 t (jn173 t kt)
    have hc299_185 : ¬ ((own_eq (own_neg (own_nx p5) (own_ny p5) (own_nz p5)) (own_text ((-(own_nx p5)).toInt64) ((-(own_ny p5)).toInt64) ((-(own_nz p5)).toInt64))) = (0 : Int32)) := own_ex (own_neg_text (own_rnx p5) (own_rny p5) (own_rnz p5))
    have hc306_186 : (own_eq (own_text q1 q2 q3) (own_text (own_a2 q1 q4 p6) (own_b2 q2 q4 p6) (own_c2 q3 q4 p6))) = (own_sm q1 q2 q3 q4 p6) := own_fin q1 q2 q3 q4 p6
    obtain ⟨fs, hr, hrun, hended, hEW⟩ := X171.leaveW hS163 (by rw [e171]; exact (Nat.le_refl _)) (v := some (.int (1 : Int32))) (fun h => by rw [Bd.returns] at h; cases h)
    refine ⟨_, _, pre184 _ ?_, hrun, hended, _, _, rfl, ?_, ⟨_, rfl⟩, hEW.2.1, hEW.2.2.1, hEW.2.2.2.mono (by decide) (by decide)⟩
    · show Steps p.tables e below (T171.setTop (mkF m 295 #[vJ q1, vS, vJ q2, vS, vJ q3, vS, vJ q4, vS, vI p5, vI p6, vI (own_ngt p6), vI (own_u p5), vI (own_v p5), vI (own_w p5), vJ ((-(own_nx p5)).toInt64), vS, vJ ((-(own_ny p5)).toInt64), vS, vJ ((-(own_nz p5)).toInt64), vS, vR x98_0, vI (own_eq (own_neg (own_nx p5) (own_ny p5) (own_nz p5)) (own_text ((-(own_nx p5)).toInt64) ((-(own_ny p5)).toInt64) ((-(own_nz p5)).toInt64))), vJ (own_a2 q1 q4 p6), vS, vJ (own_b2 q2 q4 p6), vS, vJ (own_c2 q3 q4 p6), vS, vR b132, vR b144, vI (own_eq (own_text q1 q2 q3) (own_text (own_a2 q1 q4 p6) (own_b2 q2 q4 p6) (own_c2 q3 q4 p6))), vU] [(.int (own_sm q1 q2 q3 q4 p6))])) _
      refine XS.istore X171.here hx rfl (hb hby at_295) rfl (l' := #[vJ q1, vS, vJ q2, vS, vJ q3, vS, vJ q4, vS, vI p5, vI p6, vI (own_ngt p6), vI (own_u p5), vI (own_v p5), vI (own_w p5), vJ ((-(own_nx p5)).toInt64), vS, vJ ((-(own_ny p5)).toInt64), vS, vJ ((-(own_nz p5)).toInt64), vS, vR x98_0, vI (own_eq (own_neg (own_nx p5) (own_ny p5) (own_nz p5)) (own_text ((-(own_nx p5)).toInt64) ((-(own_ny p5)).toInt64) ((-(own_nz p5)).toInt64))), vJ (own_a2 q1 q4 p6), vS, vJ (own_b2 q2 q4 p6), vS, vJ (own_c2 q3 q4 p6), vS, vR b132, vR b144, vI (own_eq (own_text q1 q2 q3) (own_text (own_a2 q1 q4 p6) (own_b2 q2 q4 p6) (own_c2 q3 q4 p6))), vI (own_sm q1 q2 q3 q4 p6)]) rfl ?_
      refine XS.iload X171.here hx rfl (hb hby at_297) rfl ?_
      show Steps p.tables e below (T171.setTop (mkF m 299 #[vJ q1, vS, vJ q2, vS, vJ q3, vS, vJ q4, vS, vI p5, vI p6, vI (own_ngt p6), vI (own_u p5), vI (own_v p5), vI (own_w p5), vJ ((-(own_nx p5)).toInt64), vS, vJ ((-(own_ny p5)).toInt64), vS, vJ ((-(own_nz p5)).toInt64), vS, vR x98_0, vI (own_eq (own_neg (own_nx p5) (own_ny p5) (own_nz p5)) (own_text ((-(own_nx p5)).toInt64) ((-(own_ny p5)).toInt64) ((-(own_nz p5)).toInt64))), vJ (own_a2 q1 q4 p6), vS, vJ (own_b2 q2 q4 p6), vS, vJ (own_c2 q3 q4 p6), vS, vR b132, vR b144, vI (own_eq (own_text q1 q2 q3) (own_text (own_a2 q1 q4 p6) (own_b2 q2 q4 p6) (own_c2 q3 q4 p6))), vI (own_sm q1 q2 q3 q4 p6)] [(.int (own_eq (own_neg (own_nx p5) (own_ny p5) (own_nz p5)) (own_text ((-(own_nx p5)).toInt64) ((-(own_ny p5)).toInt64) ((-(own_nz p5)).toInt64))))])) _
      refine XS.ifNo X171.here hx rfl (hb hby at_299) rfl ((if0 _ _).trans (feq hc299_185).1) ?_
      refine XS.iload X171.here hx rfl (hb hby at_302) rfl ?_
      refine XS.iload X171.here hx rfl (hb hby at_304) rfl ?_
      show Steps p.tables e below (T171.setTop (mkF m 306 #[vJ q1, vS, vJ q2, vS, vJ q3, vS, vJ q4, vS, vI p5, vI p6, vI (own_ngt p6), vI (own_u p5), vI (own_v p5), vI (own_w p5), vJ ((-(own_nx p5)).toInt64), vS, vJ ((-(own_ny p5)).toInt64), vS, vJ ((-(own_nz p5)).toInt64), vS, vR x98_0, vI (own_eq (own_neg (own_nx p5) (own_ny p5) (own_nz p5)) (own_text ((-(own_nx p5)).toInt64) ((-(own_ny p5)).toInt64) ((-(own_nz p5)).toInt64))), vJ (own_a2 q1 q4 p6), vS, vJ (own_b2 q2 q4 p6), vS, vJ (own_c2 q3 q4 p6), vS, vR b132, vR b144, vI (own_eq (own_text q1 q2 q3) (own_text (own_a2 q1 q4 p6) (own_b2 q2 q4 p6) (own_c2 q3 q4 p6))), vI (own_sm q1 q2 q3 q4 p6)] [(.int (own_sm q1 q2 q3 q4 p6)), (.int (own_eq (own_text q1 q2 q3) (own_text (own_a2 q1 q4 p6) (own_b2 q2 q4 p6) (own_c2 q3 q4 p6))))])) _
      refine XS.icmpNo X171.here hx rfl (hb hby at_306) rfl (teq hc306_186).2 ?_
      refine XS.iconst X171.here hx rfl (hb hby at_309) ?_
      refine XS.goto X171.here hx rfl (pc0 := 310) (pc' := 314) rfl (hb hby at_310) (by decide) (by decide) ?_
      show Steps p.tables e below (T171.setTop (mkF m 314 #[vJ q1, vS, vJ q2, vS, vJ q3, vS, vJ q4, vS, vI p5, vI p6, vI (own_ngt p6), vI (own_u p5), vI (own_v p5), vI (own_w p5), vJ ((-(own_nx p5)).toInt64), vS, vJ ((-(own_ny p5)).toInt64), vS, vJ ((-(own_nz p5)).toInt64), vS, vR x98_0, vI (own_eq (own_neg (own_nx p5) (own_ny p5) (own_nz p5)) (own_text ((-(own_nx p5)).toInt64) ((-(own_ny p5)).toInt64) ((-(own_nz p5)).toInt64))), vJ (own_a2 q1 q4 p6), vS, vJ (own_b2 q2 q4 p6), vS, vJ (own_c2 q3 q4 p6), vS, vR b132, vR b144, vI (own_eq (own_text q1 q2 q3) (own_text (own_a2 q1 q4 p6) (own_b2 q2 q4 p6) (own_c2 q3 q4 p6))), vI (own_sm q1 q2 q3 q4 p6)] [(.int (1 : Int32))])) _
      exact retN X171 hx (t := .boolean) Bd.returns (by simp) (hb hby at_314) hr
    · show Q0 Z q1 q2 q3 q4 p5 p6 st_COMPACT_STRINGS h0 n0 _ T171.heap _
      rw [e171]
      exact ⟨rfl, N171⟩
set_option maxRecDepth 65536 in
set_option maxHeartbeats 40000000 in
theorem comes_1 {Post : Tables → Env → Array Value → State → Outcome → State → Prop} (hpost : ∀ tb e args s v u, (limb_1_1.after args s (.returned v) u = true ∧ limb_1_2.after args s (.returned v) u = true ∧ True) → ReturnedEndW s (.returned v) u (Jvm.fieldLocs frame_1_writes args s ++ Jvm.arrayLocs frame_1_arrays args s ++ Jvm.staticLocs frame_1_statics s) 72 5184 → Post tb e args s (.returned v) u) :
    ArmFor flags0 classFile x code maxLocals ret World_1 tables_1 room_1 Calls_1 rest_1 Pre_1 Post := by
  intro l hfl _ _ p e ha hc hk s m args below hf hA hF happ hP
  obtain ⟨hcalls, hrest, hpre⟩ := hP
  obtain ⟨-, -, -, hnamed, -, -, -, hat⟩ := (Spec.applies_iff hf).mp happ
  obtain ⟨hg, hn⟩ := and_e (Cond.before_iff.mp (show (Jvm.Cond.and given_1 narrow_1).before args s = true from hpre))
  obtain ⟨hcount, hr0⟩ := and_e hg
  obtain ⟨ga0, hr1⟩ := and_e hr0
  obtain ⟨ga1, hr2⟩ := and_e hr1
  obtain ⟨ga2, hr3⟩ := and_e hr2
  obtain ⟨ga3, hr4⟩ := and_e hr3
  obtain ⟨ga4, hr5⟩ := and_e hr4
  obtain ⟨w0, w1, w2, w3, w4, w5, rfl⟩ : ∃ w0 w1 w2 w3 w4 w5 : Value, args = #[w0, w1, w2, w3, w4, w5] := by
    have hs : args.size = 6 := by simpa [Cond.value, given_1] using hcount
    obtain ⟨L⟩ := args
    match L, hs with
    | [w0, w1, w2, w3, w4, w5], _ => exact ⟨w0, w1, w2, w3, w4, w5, rfl⟩
  have hw := fun d (hd : d ∈ tables_1) => atoms_spec (ws := Jvm.Cond.code x code maxLocals ret :: tables_1) hat d (List.mem_cons_of_mem _ hd)
  obtain ⟨i0, ei0⟩ := isL_v ga0
  obtain rfl : w0 = (.long i0) := Option.some.inj ei0
  obtain ⟨i1, ei1⟩ := isL_v ga1
  obtain rfl : w1 = (.long i1) := Option.some.inj ei1
  obtain ⟨i2, ei2⟩ := isL_v ga2
  obtain rfl : w2 = (.long i2) := Option.some.inj ei2
  obtain ⟨i3, ei3⟩ := isL_v ga3
  obtain rfl : w3 = (.long i3) := Option.some.inj ei3
  obtain ⟨i4, ei4⟩ := is_v ga4
  obtain rfl : w4 = (.int i4) := Option.some.inj ei4
  obtain ⟨i5, ei5⟩ := is_v hr5
  obtain rfl : w5 = (.int i5) := Option.some.inj ei5
  obtain ⟨hsets, hown0⟩ := atoms_of _ (rest_1_c_eq ▸ (show rest_1_c.before _ s = true from hrest))
  have n3 := not_v (Cond.before_iff.mp (hsets _ (List.mem_of_getElem? (i := 2) rfl)))
  obtain ⟨iC, eC⟩ := is_v (Cond.before_iff.mp (hsets _ (List.mem_of_getElem? (i := 1) rfl)))
  have S_C : Sta s s.heap "java/lang/String" "COMPACT_STRINGS" "Z" (.int iC) := Sta.start eC (Or.inl (hsets _ (List.mem_of_getElem? (i := 0) rfl)))
  have nzC : ¬ (iC = (0 : Int32)) := gotF (Cond.eq_ints eC (Term.int_eval (0))) n3
  have hCW : Jvm.Lit.compactW.before #[.long i0, .long i1, .long i2, .long i3, .int i4, .int i5] s = true := (hsets _ (List.mem_of_getElem? (i := 2) rfl))
  have hfit : Fit s := fun {y c} hc i hi => by
    obtain ⟨ha, rfl⟩ := Array.getElem?_eq_some_iff.mp hc
    have q := List.all_eq_true.mp ((Array.all_eq_true_iff_forall_mem.mp hF) _ (Array.getElem_mem ha)) i (List.mem_range.mpr hi)
    simpa [Array.getElem?_eq_getElem hi] using q
  obtain ⟨st, d1, D1, d2, D2, t1, o1, t2, o2⟩ := Jvm.SetKit.digits_of (a := #[.long i0, .long i1, .long i2, .long i3, .int i4, .int i5]) (s := s) (fun {x c} hx {i} hi => hfit hx hi) (own_wi hw 26 rfl) (hsets _ (List.mem_of_getElem? (i := 9) rfl)) (hsets _ (List.mem_of_getElem? (i := 10) rfl)) (hsets _ (List.mem_of_getElem? (i := 12) rfl)) (hsets _ (List.mem_of_getElem? (i := 13) rfl)) (hsets _ (List.mem_of_getElem? (i := 14) rfl)) (hsets _ (List.mem_of_getElem? (i := 15) rfl)) (hsets _ (List.mem_of_getElem? (i := 17) rfl)) (hsets _ (List.mem_of_getElem? (i := 18) rfl)) (hsets _ (List.mem_of_getElem? (i := 19) rfl))
  have hDg : own_Dig s := ⟨st, d1, d2, D1, D2, t1, t2, o1, o2⟩
  obtain ⟨n, o, h1, h2, h3, _, L, rfl, ⟨rfl, N⟩, hq⟩ := rm0 l s _ hw tables_1 i0 i1 i2 i3 i4 i5 iC s.heap s.heap.size (Nat.le_refl _) S_C (Old.start s) hDg nzC p e ha hc hk s m _ below hf ((Spec.applies_iff_loose hf).mp happ).1 ⟨rfl, State.Warmed39.refl s, rfl, CHv.start (own_EW hw) (fun p hp => hcalls.1 p hp) hCW (own_wi hw 26 rfl) (own_wi hw 9 rfl)⟩ trivial
  refine ⟨n, _, h1, h2, h3, hpost _ _ _ _ _ _ ⟨Cond.after_iff.mpr rfl, Cond.after_iff.mpr (eq_i res_at (Term.int_eval (1)) (rfl)), trivial⟩ ⟨hq.1, hq.2.1, hq.2.2.1, (hq.2.2.2.sift fun y hy => Or.inr (N y hy)).mono (by decide) (by decide)⟩⟩
theorem main_1_1 : Claimed_1_1 := comes_1 fun _ _ _ _ _ _ h hF => ⟨h.1, hF⟩
theorem main_1_2 : Claimed_1_2 := comes_1 fun _ _ _ _ _ _ h hF => ⟨h.2.1, hF⟩
end Jvm.Pilot.@@N@@
namespace Jvm.Pilot.@@N@@
open Jvm Jvm.ClassFile Sem Op Lib Jvm.Free Jvm.Stand Jvm.Pilot.@@N@@.Jvm.D
/-! MADE BY PROGRAM (witnessworld.py) out of the Statement's table words and the real class files: 30 classes; the members and pool entries that the words name. The judged class is class 1, her method 1. -/
namespace start1
open Jvm.ClassFile
def u (s : String) : CpInfo := .utf8 (stringToUtf16 s)
/-- a pool by its gaps: so many unusable entries, then the entry; so many at the end -/
def gap : Nat → List CpInfo → List CpInfo
  | 0, r => r
  | n + 1, r => .unusable :: gap n r
def poolList (es : List (Nat × CpInfo)) (last : Nat) : List CpInfo := es.foldr (fun e r => gap e.1 (e.2 :: r)) (gap last [])
def pool (es : List (Nat × CpInfo)) (last : Nat) : Array CpInfo := ⟨poolList es last⟩
def fileOf (pool : Array CpInfo) (this : Nat) (attrs : Array Attribute := #[]) (ms : Array MethodInfo := #[]) (fl : Nat := 33) (sup : Nat := 0) (ifs : Array Nat := #[]) (fds : Array FieldInfo := #[]) : ClassFile where
  minorVersion := 0
  majorVersion := 65
  constantPool := pool
  accessFlags := fl
  thisClass := this
  superClass := sup
  interfaces := ifs
  fields := fds
  methods := ms
  attributes := attrs
def plain (name : String) (sup : Option ClassId) : Class where
  name := name
  kind := .ordinary
  loader := none
  accessFlags := 33
  super := sup
  interfaces := #[]
  cf := none
  fields := #[]
  methods := #[]
  instanceTypes := #[]
  staticTypes := #[]
  resolved := #[]
  callSites := []
  init := .initialized
  statics := none
  mirror := none

def pool0 : Array CpInfo := pool [(5, u "<init>"), (0, u "()V"), (1, .class_ 10), (1, u "java/lang/Object"), (85, u "clone"), (0, u "()Ljava/lang/Object;")] 26

def k0c0 : Code := { maxStack := 0, maxLocals := 1, code := object_method_1_code, exceptionTable := #[], attributes := #[] }
def k0m0 : Method := { name := "<init>", desc := "()V", sig := { parameters := [], returnType := none }, accessFlags := 1, code := some k0c0 }
def k0m1 : Method := { name := "clone", desc := "()Ljava/lang/Object;", sig := { parameters := [], returnType := some (.object "java/lang/Object") }, accessFlags := 260, code := none }
/-- java/lang/Object -/
def k0 : Class := { plain "java/lang/Object" none with
  accessFlags := 33
  interfaces := #[]
  cf := some (fileOf pool0 8 #[] #[{ accessFlags := 1, nameIndex := 5, descriptorIndex := 6, attributes := #[] }, { accessFlags := 260, nameIndex := 96, descriptorIndex := 97, attributes := #[] }] 33 0 #[] #[])
  fields := #[]
  methods := #[k0m0, k0m1]
  instanceTypes := #[]
  staticTypes := #[]
  resolved := Array.replicate 124 none
  statics := none }

def pool1 : Array CpInfo := pool [(2, .class_ 4), (1, u "java/lang/Object"), (0, u "<init>"), (0, u "()V"), (0, .methodref 8 9), (0, .class_ 10), (0, .nameAndType 11 12), (0, u "com/example/vigilant_context/vigilantcontext/finding/LoadCostToStringPinLaw"), (0, u "negText"), (0, u "(III)Ljava/lang/String;"), (0, .methodref 8 14), (0, .nameAndType 15 12), (0, u "posText"), (0, .class_ 17), (0, u "com/example/vigilant_context/vigilantcontext/finding/LoadCost"), (0, .methodref 16 19), (0, .nameAndType 5 20), (0, u "(JJJ)V"), (0, .methodref 16 22), (0, .nameAndType 23 24), (0, u "toString"), (0, u "()Ljava/lang/String;"), (0, .methodref 26 27), (0, .class_ 28), (0, .nameAndType 29 30), (0, u "java/lang/String"), (0, u "equals"), (0, u "(Ljava/lang/Object;)Z"), (0, .methodref 8 32), (0, .nameAndType 33 34), (0, u "dig"), (0, u "(I)C"), (0, .methodref 26 36), (0, .nameAndType 5 37), (0, u "([C)V"), (2, u "law"), (0, u "(JJJJII)Z")] 3

def k1m0 : Method := { name := "<init>", desc := "()V", sig := { parameters := [], returnType := none }, accessFlags := 1, code := none }
def k1c1 : Code := { maxStack := 9, maxLocals := 32, code := code, exceptionTable := #[], attributes := #[] }
def k1m1 : Method := { name := "law", desc := "(JJJJII)Z", sig := { parameters := [.long, .long, .long, .long, .int, .int], returnType := some .boolean }, accessFlags := 9, code := some k1c1 }
def k1c2 : Code := { maxStack := 2, maxLocals := 1, code := method_3_code, exceptionTable := #[], attributes := #[] }
def k1m2 : Method := { name := "dig", desc := "(I)C", sig := { parameters := [.int], returnType := some .char }, accessFlags := 10, code := some k1c2 }
def k1c3 : Code := { maxStack := 4, maxLocals := 4, code := method_4_code, exceptionTable := #[], attributes := #[] }
def k1m3 : Method := { name := "posText", desc := "(III)Ljava/lang/String;", sig := { parameters := [.int, .int, .int], returnType := some (.object "java/lang/String") }, accessFlags := 10, code := some k1c3 }
def k1c4 : Code := { maxStack := 4, maxLocals := 4, code := method_5_code, exceptionTable := #[], attributes := #[] }
def k1m4 : Method := { name := "negText", desc := "(III)Ljava/lang/String;", sig := { parameters := [.int, .int, .int], returnType := some (.object "java/lang/String") }, accessFlags := 10, code := some k1c4 }
/-- com/example/vigilant_context/vigilantcontext/finding/LoadCostToStringPinLaw -/
def k1 : Class := { plain "com/example/vigilant_context/vigilantcontext/finding/LoadCostToStringPinLaw" (some 0) with
  accessFlags := 49
  interfaces := #[]
  cf := some (fileOf pool1 8 #[] #[{ accessFlags := 1, nameIndex := 5, descriptorIndex := 6, attributes := #[] }, { accessFlags := 9, nameIndex := 40, descriptorIndex := 41, attributes := #[] }, { accessFlags := 10, nameIndex := 33, descriptorIndex := 34, attributes := #[] }, { accessFlags := 10, nameIndex := 15, descriptorIndex := 12, attributes := #[] }, { accessFlags := 10, nameIndex := 11, descriptorIndex := 12, attributes := #[] }] 49 2 #[] #[])
  fields := #[]
  methods := #[k1m0, k1m1, k1m2, k1m3, k1m4]
  instanceTypes := #[]
  staticTypes := #[]
  resolved := Array.replicate 45 none
  statics := none }

def pool2 : Array CpInfo := pool [(1, .class_ 2), (0, u "java/io/Serializable"), (0, .class_ 4), (0, u "java/lang/Object")] 2

/-- java/io/Serializable -/
def k2 : Class := { plain "java/io/Serializable" (some 0) with
  accessFlags := 1537
  interfaces := #[]
  cf := some (fileOf pool2 1 #[] #[] 1537 3 #[] #[])
  fields := #[]
  methods := #[]
  instanceTypes := #[]
  staticTypes := #[]
  resolved := Array.replicate 7 none
  statics := none }

def pool3 : Array CpInfo := pool [(1, .class_ 2), (0, u "java/lang/Comparable"), (0, .class_ 4), (0, u "java/lang/Object")] 7

/-- java/lang/Comparable -/
def k3 : Class := { plain "java/lang/Comparable" (some 0) with
  accessFlags := 1537
  interfaces := #[]
  cf := some (fileOf pool3 1 #[] #[] 1537 3 #[] #[])
  fields := #[]
  methods := #[]
  instanceTypes := #[]
  staticTypes := #[]
  resolved := Array.replicate 12 none
  statics := none }

def pool4 : Array CpInfo := pool [(2, .class_ 4), (1, u "java/lang/CharSequence"), (42, .class_ 48), (0, u "java/lang/CharSequence$1CodePointIterator"), (10, .class_ 60), (0, u "java/lang/CharSequence$1CharIterator"), (5, .class_ 67), (0, u "java/lang/Object")] 63

/-- java/lang/CharSequence -/
def k4 : Class := { plain "java/lang/CharSequence" (some 0) with
  accessFlags := 1537
  interfaces := #[]
  cf := some (fileOf pool4 2 #[.nestMembers #[47, 59]] #[] 1537 66 #[] #[])
  fields := #[]
  methods := #[]
  instanceTypes := #[]
  staticTypes := #[]
  resolved := Array.replicate 131 none
  statics := none }

def pool5 : Array CpInfo := pool [(1, .class_ 2), (0, u "java/lang/constant/Constable"), (0, .class_ 4), (0, u "java/lang/Object")] 6

/-- java/lang/constant/Constable -/
def k5 : Class := { plain "java/lang/constant/Constable" (some 0) with
  accessFlags := 1537
  interfaces := #[]
  cf := some (fileOf pool5 1 #[] #[] 1537 3 #[] #[])
  fields := #[]
  methods := #[]
  instanceTypes := #[]
  staticTypes := #[]
  resolved := Array.replicate 11 none
  statics := none }

def pool6 : Array CpInfo := pool [(1, .class_ 2), (0, u "java/lang/constant/ConstantDesc"), (0, .class_ 4), (0, u "java/lang/Object")] 32

/-- java/lang/constant/ConstantDesc -/
def k6 : Class := { plain "java/lang/constant/ConstantDesc" (some 0) with
  accessFlags := 1537
  interfaces := #[]
  cf := some (fileOf pool6 1 #[] #[] 1537 3 #[] #[])
  fields := #[]
  methods := #[]
  instanceTypes := #[]
  staticTypes := #[]
  resolved := Array.replicate 37 none
  statics := none }

def pool7 : Array CpInfo := pool [(1, .methodref 2 3), (0, .class_ 4), (0, .nameAndType 5 6), (0, u "java/lang/Object"), (0, u "<init>"), (0, u "()V"), (2, .fieldref 10 11), (0, .class_ 12), (0, .nameAndType 13 14), (0, u "java/lang/String"), (0, u "value"), (0, u "[B"), (0, .fieldref 10 16), (0, .nameAndType 17 18), (0, u "coder"), (0, u "B"), (2, u "hash"), (0, u "I"), (2, u "hashIsZero"), (0, u "Z"), (0, .methodref 10 28), (0, .nameAndType 5 29), (0, u "([CIILjava/lang/Void;)V"), (8, .fieldref 10 39), (0, .nameAndType 40 26), (0, u "COMPACT_STRINGS"), (1, .class_ 44), (1, u "java/lang/StringUTF16"), (0, u "compress"), (1, .methodref 42 48), (0, .nameAndType 49 50), (0, u "coderFromArrayLen"), (0, u "([BI)B"), (3, .methodref 55 56), (0, .class_ 57), (0, .nameAndType 58 59), (0, u "java/util/Arrays"), (0, u "copyOfRange"), (0, u "([BII)[B"), (47, .class_ 109), (1, u "java/lang/StringLatin1"), (32, u "()Z"), (34, .methodref 42 178), (0, .nameAndType 45 179), (0, u "([CII)[B"), (13, .class_ 195), (1, u "java/lang/System"), (16, .methodref 193 213), (0, .nameAndType 214 215), (0, u "arraycopy"), (0, u "(Ljava/lang/Object;ILjava/lang/Object;II)V"), (118, u "()I"), (0, .methodref 10 336), (0, .nameAndType 17 337), (0, u "()B"), (2, u "()[B"), (148, .methodref 10 490), (0, .nameAndType 5 491), (0, u "(Ljava/lang/AbstractStringBuilder;Ljava/lang/Void;)V"), (1, .nameAndType 494 142), (0, u "isLatin1"), (11, .nameAndType 507 334), (0, u "length"), (24, u "getBytes"), (8, .methodref 107 542), (0, .nameAndType 543 544), (0, u "equals"), (0, u "([B[B)Z"), (4, .methodref 550 506), (0, .class_ 551), (0, u "java/lang/AbstractStringBuilder"), (0, .methodref 550 553), (0, .nameAndType 554 340), (0, u "getValue"), (18, u "(Ljava/lang/Object;)Z"), (1, .class_ 576), (0, u "java/lang/CharSequence"), (22, u "CASE_INSENSITIVE_ORDER"), (0, u "Ljava/util/Comparator;"), (220, u "([BIB)V"), (188, u "([C)V"), (36, .methodref 550 493), (53, u "serialPersistentFields"), (0, u "[Ljava/io/ObjectStreamField;"), (0, .class_ 1104), (0, u "java/lang/String$CaseInsensitiveComparator"), (1, .class_ 1107), (0, u "java/io/Serializable"), (0, .class_ 1109), (0, u "java/lang/Comparable"), (0, .class_ 1111), (0, u "java/lang/constant/Constable"), (0, .class_ 1113), (0, u "java/lang/constant/ConstantDesc"), (2, u "serialVersionUID"), (0, u "J"), (3, u "REPL"), (0, u "C"), (2, u "LATIN1"), (1, u "UTF16"), (105, u "(Ljava/lang/StringBuilder;)V")] 217

def k7m0 : Method := { name := "<init>", desc := "()V", sig := { parameters := [], returnType := none }, accessFlags := 1, code := none }
def k7c1 : Code := { maxStack := 5, maxLocals := 2, code := jdk_42_method_3_code, exceptionTable := #[], attributes := #[] }
def k7m1 : Method := { name := "<init>", desc := "([C)V", sig := { parameters := [(.array .char)], returnType := none }, accessFlags := 1, code := some k7c1 }
def k7c2 : Code := { maxStack := 3, maxLocals := 2, code := jdk_42_method_53_code, exceptionTable := #[], attributes := #[] }
def k7m2 : Method := { name := "<init>", desc := "(Ljava/lang/StringBuilder;)V", sig := { parameters := [(.object "java/lang/StringBuilder")], returnType := none }, accessFlags := 1, code := some k7c2 }
def k7c3 : Code := { maxStack := 2, maxLocals := 1, code := jdk_42_method_54_code, exceptionTable := #[], attributes := #[] }
def k7m3 : Method := { name := "length", desc := "()I", sig := { parameters := [], returnType := some .int }, accessFlags := 1, code := some k7c3 }
def k7c4 : Code := { maxStack := 2, maxLocals := 3, code := jdk_42_method_66_code, exceptionTable := #[], attributes := #[] }
def k7m4 : Method := { name := "equals", desc := "(Ljava/lang/Object;)Z", sig := { parameters := [(.object "java/lang/Object")], returnType := some .boolean }, accessFlags := 1, code := some k7c4 }
def k7c5 : Code := { maxStack := 5, maxLocals := 4, code := jdk_42_method_147_code, exceptionTable := #[], attributes := #[] }
def k7m5 : Method := { name := "getBytes", desc := "([BIB)V", sig := { parameters := [(.array .byte), .int, .byte], returnType := none }, accessFlags := 0, code := some k7c5 }
def k7c6 : Code := { maxStack := 4, maxLocals := 6, code := jdk_42_method_149_code, exceptionTable := #[], attributes := #[] }
def k7m6 : Method := { name := "<init>", desc := "([CIILjava/lang/Void;)V", sig := { parameters := [(.array .char), .int, .int, (.object "java/lang/Void")], returnType := none }, accessFlags := 2, code := some k7c6 }
def k7c7 : Code := { maxStack := 5, maxLocals := 5, code := jdk_42_method_150_code, exceptionTable := #[], attributes := #[] }
def k7m7 : Method := { name := "<init>", desc := "(Ljava/lang/AbstractStringBuilder;Ljava/lang/Void;)V", sig := { parameters := [(.object "java/lang/AbstractStringBuilder"), (.object "java/lang/Void")], returnType := none }, accessFlags := 0, code := some k7c7 }
def k7c8 : Code := { maxStack := 1, maxLocals := 1, code := jdk_42_method_152_code, exceptionTable := #[], attributes := #[] }
def k7m8 : Method := { name := "coder", desc := "()B", sig := { parameters := [], returnType := some .byte }, accessFlags := 0, code := some k7c8 }
/-- java/lang/String -/
def k7 : Class := { plain "java/lang/String" (some 0) with
  accessFlags := 49
  interfaces := #[2, 3, 4, 5, 6]
  cf := some (fileOf pool7 10 #[.nestMembers #[1103]] #[{ accessFlags := 1, nameIndex := 5, descriptorIndex := 6, attributes := #[] }, { accessFlags := 1, nameIndex := 5, descriptorIndex := 1010, attributes := #[] }, { accessFlags := 1, nameIndex := 5, descriptorIndex := 1233, attributes := #[] }, { accessFlags := 1, nameIndex := 507, descriptorIndex := 334, attributes := #[] }, { accessFlags := 1, nameIndex := 543, descriptorIndex := 573, attributes := #[] }, { accessFlags := 0, nameIndex := 532, descriptorIndex := 821, attributes := #[] }, { accessFlags := 2, nameIndex := 5, descriptorIndex := 29, attributes := #[] }, { accessFlags := 0, nameIndex := 5, descriptorIndex := 491, attributes := #[] }, { accessFlags := 0, nameIndex := 17, descriptorIndex := 337, attributes := #[] }] 49 2 #[1106, 1108, 575, 1110, 1112] #[{ accessFlags := 18, nameIndex := 13, descriptorIndex := 14, attributes := #[] }, { accessFlags := 18, nameIndex := 17, descriptorIndex := 18, attributes := #[] }, { accessFlags := 2, nameIndex := 21, descriptorIndex := 22, attributes := #[] }, { accessFlags := 2, nameIndex := 25, descriptorIndex := 26, attributes := #[] }, { accessFlags := 26, nameIndex := 1116, descriptorIndex := 1117, attributes := #[] }, { accessFlags := 24, nameIndex := 40, descriptorIndex := 26, attributes := #[] }, { accessFlags := 26, nameIndex := 1101, descriptorIndex := 1102, attributes := #[] }, { accessFlags := 26, nameIndex := 1121, descriptorIndex := 1122, attributes := #[] }, { accessFlags := 25, nameIndex := 599, descriptorIndex := 600, attributes := #[] }, { accessFlags := 24, nameIndex := 1125, descriptorIndex := 18, attributes := #[] }, { accessFlags := 24, nameIndex := 1127, descriptorIndex := 18, attributes := #[] }])
  fields := #[{ name := "value", type := (.array .byte), accessFlags := 18, slot := 0, constantValue := 0 }, { name := "coder", type := .byte, accessFlags := 18, slot := 1, constantValue := 0 }, { name := "hash", type := .int, accessFlags := 2, slot := 2, constantValue := 0 }, { name := "hashIsZero", type := .boolean, accessFlags := 2, slot := 3, constantValue := 0 }, { name := "serialVersionUID", type := .long, accessFlags := 26, slot := 0, constantValue := 0 }, { name := "COMPACT_STRINGS", type := .boolean, accessFlags := 24, slot := 1, constantValue := 0 }, { name := "serialPersistentFields", type := (.array (.object "java/io/ObjectStreamField")), accessFlags := 26, slot := 2, constantValue := 0 }, { name := "REPL", type := .char, accessFlags := 26, slot := 3, constantValue := 0 }, { name := "CASE_INSENSITIVE_ORDER", type := (.object "java/util/Comparator"), accessFlags := 25, slot := 4, constantValue := 0 }, { name := "LATIN1", type := .byte, accessFlags := 24, slot := 5, constantValue := 0 }, { name := "UTF16", type := .byte, accessFlags := 24, slot := 6, constantValue := 0 }]
  methods := #[k7m0, k7m1, k7m2, k7m3, k7m4, k7m5, k7m6, k7m7, k7m8]
  instanceTypes := #[(.array .byte), .byte, .int, .boolean]
  staticTypes := #[.long, .boolean, (.array (.object "java/io/ObjectStreamField")), .char, (.object "java/util/Comparator"), .byte, .byte]
  resolved := Array.replicate 1451 none
  statics := some 0 }

def pool8 : Array CpInfo := pool [(6, .class_ 8), (1, u "java/lang/Object"), (0, u "<init>"), (0, u "()V"), (1, .class_ 14), (1, u "java/lang/StringUTF16"), (31, u "$assertionsDisabled"), (0, u "Z"), (13, u "HI_BYTE_SHIFT"), (0, u "I"), (2, u "LO_BYTE_SHIFT"), (49, .methodref 12 116), (0, .nameAndType 117 118), (0, u "compress"), (0, u "([CI[BII)I"), (3, u "([CII)[B"), (138, u "coderFromArrayLen"), (0, u "([BI)B"), (106, .class_ 371), (1, u "java/lang/StringUTF16$LinesSpliterator"), (58, u "MAX_LENGTH"), (196, .class_ 628), (0, u "java/lang/StringUTF16$CodePointsSpliterator"), (0, .class_ 630), (0, u "java/lang/StringUTF16$CharsSpliterator")] 4

def k8m0 : Method := { name := "<init>", desc := "()V", sig := { parameters := [], returnType := none }, accessFlags := 0, code := none }
def k8c1 : Code := { maxStack := 2, maxLocals := 2, code := jdk_52_method_15_code, exceptionTable := #[], attributes := #[] }
def k8m1 : Method := { name := "coderFromArrayLen", desc := "([BI)B", sig := { parameters := [(.array .byte), .int], returnType := some .byte }, accessFlags := 8, code := some k8c1 }
def k8c2 : Code := { maxStack := 5, maxLocals := 6, code := jdk_52_method_16_code, exceptionTable := #[], attributes := #[] }
def k8m2 : Method := { name := "compress", desc := "([CII)[B", sig := { parameters := [(.array .char), .int, .int], returnType := some (.array .byte) }, accessFlags := 9, code := some k8c2 }
def k8c3 : Code := { maxStack := 3, maxLocals := 7, code := jdk_52_method_21_code, exceptionTable := #[], attributes := #[] }
def k8m3 : Method := { name := "compress", desc := "([CI[BII)I", sig := { parameters := [(.array .char), .int, (.array .byte), .int, .int], returnType := some .int }, accessFlags := 9, code := some k8c3 }
/-- java/lang/StringUTF16 -/
def k8 : Class := { plain "java/lang/StringUTF16" (some 0) with
  accessFlags := 48
  interfaces := #[]
  cf := some (fileOf pool8 12 #[.nestMembers #[627, 629, 369]] #[{ accessFlags := 0, nameIndex := 9, descriptorIndex := 10, attributes := #[] }, { accessFlags := 8, nameIndex := 261, descriptorIndex := 262, attributes := #[] }, { accessFlags := 9, nameIndex := 117, descriptorIndex := 122, attributes := #[] }, { accessFlags := 9, nameIndex := 117, descriptorIndex := 118, attributes := #[] }] 48 6 #[] #[{ accessFlags := 26, nameIndex := 61, descriptorIndex := 62, attributes := #[] }, { accessFlags := 26, nameIndex := 65, descriptorIndex := 62, attributes := #[] }, { accessFlags := 24, nameIndex := 430, descriptorIndex := 62, attributes := #[] }, { accessFlags := 4120, nameIndex := 46, descriptorIndex := 47, attributes := #[] }])
  fields := #[{ name := "HI_BYTE_SHIFT", type := .int, accessFlags := 26, slot := 0, constantValue := 0 }, { name := "LO_BYTE_SHIFT", type := .int, accessFlags := 26, slot := 1, constantValue := 0 }, { name := "MAX_LENGTH", type := .int, accessFlags := 24, slot := 2, constantValue := 0 }, { name := "$assertionsDisabled", type := .boolean, accessFlags := 4120, slot := 3, constantValue := 0 }]
  methods := #[k8m0, k8m1, k8m2, k8m3]
  instanceTypes := #[]
  staticTypes := #[.int, .int, .int, .boolean]
  resolved := Array.replicate 635 none
  statics := none }

def pool9 : Array CpInfo := pool [(1, .methodref 2 3), (0, .class_ 4), (0, .nameAndType 5 6), (0, u "java/lang/Object"), (0, u "<init>"), (0, u "()V"), (0, .class_ 8), (0, u "java/lang/Record")] 13

def k9c0 : Code := { maxStack := 1, maxLocals := 1, code := jdk_30_method_1_code, exceptionTable := #[], attributes := #[] }
def k9m0 : Method := { name := "<init>", desc := "()V", sig := { parameters := [], returnType := none }, accessFlags := 4, code := some k9c0 }
/-- java/lang/Record -/
def k9 : Class := { plain "java/lang/Record" (some 0) with
  accessFlags := 1057
  interfaces := #[]
  cf := some (fileOf pool9 7 #[] #[{ accessFlags := 4, nameIndex := 5, descriptorIndex := 6, attributes := #[] }] 1057 2 #[] #[])
  fields := #[]
  methods := #[k9m0]
  instanceTypes := #[]
  staticTypes := #[]
  resolved := Array.replicate 22 none
  statics := none }

def pool10 : Array CpInfo := pool [(1, .methodref 2 3), (0, .class_ 4), (0, .nameAndType 5 6), (0, u "java/lang/Record"), (0, u "<init>"), (0, u "()V"), (0, .fieldref 8 9), (0, .class_ 10), (0, .nameAndType 11 12), (0, u "com/example/vigilant_context/vigilantcontext/finding/LoadCost"), (0, u "sessions"), (0, u "J"), (0, .fieldref 8 14), (0, .nameAndType 15 12), (0, u "connections"), (0, .fieldref 8 17), (0, .nameAndType 18 12), (0, u "statements"), (2, u "(JJJ)V"), (0, .class_ 23), (0, u "java/lang/StringBuilder"), (0, .methodref 22 3), (0, .string 26), (0, u "sessions="), (0, .methodref 22 28), (0, .nameAndType 29 30), (0, u "append"), (0, u "(Ljava/lang/String;)Ljava/lang/StringBuilder;"), (0, .methodref 22 32), (0, .nameAndType 29 33), (0, u "(J)Ljava/lang/StringBuilder;"), (0, .string 35), (0, u " connections="), (0, .string 37), (0, u " statements="), (0, .methodref 22 39), (0, .nameAndType 40 41), (0, u "toString"), (0, u "()Ljava/lang/String;"), (10, u "NONE"), (0, u "Lcom/example/vigilant_context/vigilantcontext/finding/LoadCost;")] 31

def k10c0 : Code := { maxStack := 3, maxLocals := 7, code := prog_10_method_1_code, exceptionTable := #[], attributes := #[] }
def k10m0 : Method := { name := "<init>", desc := "(JJJ)V", sig := { parameters := [.long, .long, .long], returnType := none }, accessFlags := 1, code := some k10c0 }
def k10c1 : Code := { maxStack := 3, maxLocals := 1, code := prog_10_method_3_code, exceptionTable := #[], attributes := #[] }
def k10m1 : Method := { name := "toString", desc := "()Ljava/lang/String;", sig := { parameters := [], returnType := some (.object "java/lang/String") }, accessFlags := 1, code := some k10c1 }
/-- com/example/vigilant_context/vigilantcontext/finding/LoadCost -/
def k10 : Class := { plain "com/example/vigilant_context/vigilantcontext/finding/LoadCost" (some 9) with
  accessFlags := 49
  interfaces := #[]
  cf := some (fileOf pool10 8 #[] #[{ accessFlags := 1, nameIndex := 5, descriptorIndex := 21, attributes := #[] }, { accessFlags := 1, nameIndex := 40, descriptorIndex := 41, attributes := #[] }] 49 2 #[] #[{ accessFlags := 18, nameIndex := 11, descriptorIndex := 12, attributes := #[] }, { accessFlags := 18, nameIndex := 15, descriptorIndex := 12, attributes := #[] }, { accessFlags := 18, nameIndex := 18, descriptorIndex := 12, attributes := #[] }, { accessFlags := 25, nameIndex := 52, descriptorIndex := 53, attributes := #[] }])
  fields := #[{ name := "sessions", type := .long, accessFlags := 18, slot := 0, constantValue := 0 }, { name := "connections", type := .long, accessFlags := 18, slot := 1, constantValue := 0 }, { name := "statements", type := .long, accessFlags := 18, slot := 2, constantValue := 0 }, { name := "NONE", type := (.object "com/example/vigilant_context/vigilantcontext/finding/LoadCost"), accessFlags := 25, slot := 0, constantValue := 0 }]
  methods := #[k10m0, k10m1]
  instanceTypes := #[.long, .long, .long]
  staticTypes := #[(.object "com/example/vigilant_context/vigilantcontext/finding/LoadCost")]
  resolved := Array.replicate 85 none
  statics := none }

def pool11 : Array CpInfo := pool [(1, .class_ 2), (0, u "java/lang/Appendable"), (0, .class_ 4), (0, u "java/lang/Object")] 9

/-- java/lang/Appendable -/
def k11 : Class := { plain "java/lang/Appendable" (some 0) with
  accessFlags := 1537
  interfaces := #[]
  cf := some (fileOf pool11 1 #[] #[] 1537 3 #[] #[])
  fields := #[]
  methods := #[]
  instanceTypes := #[]
  staticTypes := #[]
  resolved := Array.replicate 14 none
  statics := none }

def pool12 : Array CpInfo := pool [(1, .class_ 2), (0, u "java/lang/String"), (0, .methodref 4 5), (0, .class_ 6), (0, .nameAndType 7 8), (0, u "java/lang/Object"), (0, u "<init>"), (0, u "()V"), (1, .class_ 12), (1, u "java/lang/AbstractStringBuilder"), (0, u "EMPTYVALUE"), (0, u "[B"), (0, .fieldref 10 16), (0, .nameAndType 17 14), (0, u "value"), (0, .fieldref 1 19), (0, .nameAndType 20 21), (0, u "COMPACT_STRINGS"), (0, u "Z"), (0, .fieldref 10 23), (0, .nameAndType 24 25), (0, u "coder"), (0, u "B"), (6, .methodref 1 33), (0, .nameAndType 34 35), (0, u "length"), (0, u "()I"), (3, .integer 2147483647), (0, .methodref 1 41), (0, .nameAndType 24 42), (0, u "()B"), (2, u "append"), (0, u "(Ljava/lang/String;)Ljava/lang/AbstractStringBuilder;"), (1, .class_ 49), (0, u "java/lang/CharSequence"), (19, u "(Ljava/lang/String;)V"), (5, u "maybeLatin1"), (3, .fieldref 10 80), (0, .nameAndType 81 82), (0, u "count"), (0, u "I"), (0, .methodref 10 84), (0, .nameAndType 85 86), (0, u "isLatin1"), (0, u "()Z"), (13, .methodref 10 101), (0, .nameAndType 102 103), (0, u "ensureCapacityInternal"), (0, u "(I)V"), (0, .methodref 10 105), (0, .nameAndType 106 107), (0, u "newCapacity"), (0, u "(I)I"), (0, .methodref 109 110), (0, .class_ 111), (0, .nameAndType 112 113), (0, u "java/util/Arrays"), (0, u "copyOf"), (0, u "([BI)[B"), (0, .methodref 115 116), (0, .class_ 117), (0, .nameAndType 118 119), (0, u "jdk/internal/util/ArraysSupport"), (0, u "newLength"), (0, u "(III)I"), (68, u "getChars"), (19, .methodref 10 209), (0, .nameAndType 210 211), (0, u "putStringAt"), (0, u "(ILjava/lang/String;)V"), (5, u "inflateIfNeededFor"), (2, .nameAndType 221 222), (0, u "getBytes"), (0, u "([BIB)V"), (24, u "stringSize"), (6, .methodref 255 256), (0, .class_ 257), (0, .nameAndType 247 258), (0, u "java/lang/Long"), (0, u "(J)I"), (0, .methodref 255 260), (0, .nameAndType 188 261), (0, u "(JI[B)I"), (135, .methodref 10 398), (0, .nameAndType 217 69), (0, .methodref 1 220), (3, u "()[B"), (40, .class_ 445), (0, u "java/lang/Appendable"), (67, u "(J)Ljava/lang/AbstractStringBuilder;"), (38, u "getValue")] 56

def k12m0 : Method := { name := "<init>", desc := "()V", sig := { parameters := [], returnType := none }, accessFlags := 0, code := none }
def k12c1 : Code := { maxStack := 2, maxLocals := 2, code := jdk_68_method_2_code, exceptionTable := #[], attributes := #[] }
def k12m1 : Method := { name := "<init>", desc := "(I)V", sig := { parameters := [.int], returnType := none }, accessFlags := 0, code := some k12c1 }
def k12c2 : Code := { maxStack := 1, maxLocals := 1, code := jdk_68_method_6_code, exceptionTable := #[], attributes := #[] }
def k12m2 : Method := { name := "length", desc := "()I", sig := { parameters := [], returnType := some .int }, accessFlags := 1, code := some k12c2 }
def k12c3 : Code := { maxStack := 4, maxLocals := 3, code := jdk_68_method_9_code, exceptionTable := #[], attributes := #[] }
def k12m3 : Method := { name := "ensureCapacityInternal", desc := "(I)V", sig := { parameters := [.int], returnType := none }, accessFlags := 2, code := some k12c3 }
def k12c4 : Code := { maxStack := 5, maxLocals := 6, code := jdk_68_method_10_code, exceptionTable := #[], attributes := #[] }
def k12m4 : Method := { name := "newCapacity", desc := "(I)I", sig := { parameters := [.int], returnType := some .int }, accessFlags := 2, code := some k12c4 }
def k12c5 : Code := { maxStack := 3, maxLocals := 3, code := jdk_68_method_22_code, exceptionTable := #[], attributes := #[] }
def k12m5 : Method := { name := "append", desc := "(Ljava/lang/String;)Ljava/lang/AbstractStringBuilder;", sig := { parameters := [(.object "java/lang/String")], returnType := some (.object "java/lang/AbstractStringBuilder") }, accessFlags := 1, code := some k12c5 }
def k12c6 : Code := { maxStack := 5, maxLocals := 5, code := jdk_68_method_33_code, exceptionTable := #[], attributes := #[] }
def k12m6 : Method := { name := "append", desc := "(J)Ljava/lang/AbstractStringBuilder;", sig := { parameters := [.long], returnType := some (.object "java/lang/AbstractStringBuilder") }, accessFlags := 1, code := some k12c6 }
def k12c7 : Code := { maxStack := 1, maxLocals := 1, code := jdk_68_method_64_code, exceptionTable := #[], attributes := #[] }
def k12m7 : Method := { name := "getValue", desc := "()[B", sig := { parameters := [], returnType := some (.array .byte) }, accessFlags := 16, code := some k12c7 }
def k12c8 : Code := { maxStack := 1, maxLocals := 1, code := jdk_68_method_68_code, exceptionTable := #[], attributes := #[] }
def k12m8 : Method := { name := "isLatin1", desc := "()Z", sig := { parameters := [], returnType := some .boolean }, accessFlags := 16, code := some k12c8 }
def k12c9 : Code := { maxStack := 2, maxLocals := 2, code := jdk_68_method_71_code, exceptionTable := #[], attributes := #[] }
def k12m9 : Method := { name := "inflateIfNeededFor", desc := "(Ljava/lang/String;)V", sig := { parameters := [(.object "java/lang/String")], returnType := none }, accessFlags := 2, code := some k12c9 }
def k12c10 : Code := { maxStack := 4, maxLocals := 3, code := jdk_68_method_73_code, exceptionTable := #[], attributes := #[] }
def k12m10 : Method := { name := "putStringAt", desc := "(ILjava/lang/String;)V", sig := { parameters := [.int, (.object "java/lang/String")], returnType := none }, accessFlags := 2, code := some k12c10 }
/-- java/lang/AbstractStringBuilder -/
def k12 : Class := { plain "java/lang/AbstractStringBuilder" (some 0) with
  accessFlags := 1056
  interfaces := #[11, 4]
  cf := some (fileOf pool12 10 #[] #[{ accessFlags := 0, nameIndex := 7, descriptorIndex := 8, attributes := #[] }, { accessFlags := 0, nameIndex := 7, descriptorIndex := 103, attributes := #[] }, { accessFlags := 1, nameIndex := 34, descriptorIndex := 35, attributes := #[] }, { accessFlags := 2, nameIndex := 102, descriptorIndex := 103, attributes := #[] }, { accessFlags := 2, nameIndex := 106, descriptorIndex := 107, attributes := #[] }, { accessFlags := 1, nameIndex := 45, descriptorIndex := 46, attributes := #[] }, { accessFlags := 1, nameIndex := 45, descriptorIndex := 513, attributes := #[] }, { accessFlags := 16, nameIndex := 552, descriptorIndex := 403, attributes := #[] }, { accessFlags := 16, nameIndex := 85, descriptorIndex := 86, attributes := #[] }, { accessFlags := 2, nameIndex := 217, descriptorIndex := 69, attributes := #[] }, { accessFlags := 2, nameIndex := 210, descriptorIndex := 211, attributes := #[] }] 1056 4 #[444, 48] #[{ accessFlags := 0, nameIndex := 17, descriptorIndex := 14, attributes := #[] }, { accessFlags := 0, nameIndex := 24, descriptorIndex := 25, attributes := #[] }, { accessFlags := 0, nameIndex := 75, descriptorIndex := 21, attributes := #[] }, { accessFlags := 0, nameIndex := 81, descriptorIndex := 82, attributes := #[] }, { accessFlags := 26, nameIndex := 13, descriptorIndex := 14, attributes := #[] }])
  fields := #[{ name := "value", type := (.array .byte), accessFlags := 0, slot := 0, constantValue := 0 }, { name := "coder", type := .byte, accessFlags := 0, slot := 1, constantValue := 0 }, { name := "maybeLatin1", type := .boolean, accessFlags := 0, slot := 2, constantValue := 0 }, { name := "count", type := .int, accessFlags := 0, slot := 3, constantValue := 0 }, { name := "EMPTYVALUE", type := (.array .byte), accessFlags := 26, slot := 0, constantValue := 0 }]
  methods := #[k12m0, k12m1, k12m2, k12m3, k12m4, k12m5, k12m6, k12m7, k12m8, k12m9, k12m10]
  instanceTypes := #[(.array .byte), .byte, .boolean, .int]
  staticTypes := #[(.array .byte)]
  resolved := Array.replicate 609 none
  statics := none }

def pool13 : Array CpInfo := pool [(1, .methodref 2 3), (0, .class_ 4), (0, .nameAndType 5 6), (0, u "java/lang/AbstractStringBuilder"), (0, u "<init>"), (0, u "(I)V"), (11, .class_ 20), (1, u "java/lang/String"), (3, .class_ 26), (1, u "java/lang/StringBuilder"), (0, u "append"), (0, u "(Ljava/lang/String;)Ljava/lang/StringBuilder;"), (0, .methodref 2 30), (0, .nameAndType 27 31), (0, u "(Ljava/lang/String;)Ljava/lang/AbstractStringBuilder;"), (24, .methodref 2 57), (0, .nameAndType 27 58), (0, u "(J)Ljava/lang/AbstractStringBuilder;"), (78, .methodref 18 138), (0, .nameAndType 5 139), (0, u "(Ljava/lang/StringBuilder;)V"), (5, u "()V"), (10, u "()I"), (124, u "(J)Ljava/lang/StringBuilder;"), (61, .methodref 2 344), (0, .nameAndType 345 156), (0, u "length"), (3, .class_ 350), (0, u "java/lang/Appendable"), (0, .class_ 352), (0, u "java/io/Serializable"), (0, .class_ 354), (0, u "java/lang/Comparable"), (0, .class_ 356), (0, u "java/lang/CharSequence"), (0, u "serialVersionUID"), (0, u "J"), (40, u "toString"), (0, u "()Ljava/lang/String;")] 21

def k13c0 : Code := { maxStack := 2, maxLocals := 1, code := jdk_67_method_1_code, exceptionTable := #[], attributes := #[] }
def k13m0 : Method := { name := "<init>", desc := "()V", sig := { parameters := [], returnType := none }, accessFlags := 1, code := some k13c0 }
def k13c1 : Code := { maxStack := 2, maxLocals := 2, code := jdk_67_method_7_code, exceptionTable := #[], attributes := #[] }
def k13m1 : Method := { name := "append", desc := "(Ljava/lang/String;)Ljava/lang/StringBuilder;", sig := { parameters := [(.object "java/lang/String")], returnType := some (.object "java/lang/StringBuilder") }, accessFlags := 1, code := some k13c1 }
def k13c2 : Code := { maxStack := 3, maxLocals := 3, code := jdk_67_method_16_code, exceptionTable := #[], attributes := #[] }
def k13m2 : Method := { name := "append", desc := "(J)Ljava/lang/StringBuilder;", sig := { parameters := [.long], returnType := some (.object "java/lang/StringBuilder") }, accessFlags := 1, code := some k13c2 }
def k13c3 : Code := { maxStack := 3, maxLocals := 1, code := jdk_67_method_42_code, exceptionTable := #[], attributes := #[] }
def k13m3 : Method := { name := "toString", desc := "()Ljava/lang/String;", sig := { parameters := [], returnType := some (.object "java/lang/String") }, accessFlags := 1, code := some k13c3 }
def k13c4 : Code := { maxStack := 1, maxLocals := 1, code := jdk_67_method_93_code, exceptionTable := #[], attributes := #[] }
def k13m4 : Method := { name := "length", desc := "()I", sig := { parameters := [], returnType := some .int }, accessFlags := 4161, code := some k13c4 }
/-- java/lang/StringBuilder -/
def k13 : Class := { plain "java/lang/StringBuilder" (some 12) with
  accessFlags := 49
  interfaces := #[11, 2, 3, 4]
  cf := some (fileOf pool13 24 #[] #[{ accessFlags := 1, nameIndex := 5, descriptorIndex := 145, attributes := #[] }, { accessFlags := 1, nameIndex := 27, descriptorIndex := 28, attributes := #[] }, { accessFlags := 1, nameIndex := 27, descriptorIndex := 281, attributes := #[] }, { accessFlags := 1, nameIndex := 399, descriptorIndex := 400, attributes := #[] }, { accessFlags := 4161, nameIndex := 345, descriptorIndex := 156, attributes := #[] }] 49 2 #[349, 351, 353, 355] #[{ accessFlags := 24, nameIndex := 357, descriptorIndex := 358, attributes := #[] }])
  fields := #[{ name := "serialVersionUID", type := .long, accessFlags := 24, slot := 0, constantValue := 0 }]
  methods := #[k13m0, k13m1, k13m2, k13m3, k13m4]
  instanceTypes := #[(.array .byte), .byte, .boolean, .int]
  staticTypes := #[.long]
  resolved := Array.replicate 422 none
  statics := none }

def pool14 : Array CpInfo := pool [(2, .class_ 4), (1, u "java/lang/Object"), (0, u "<init>"), (0, u "()V"), (1, .class_ 10), (1, u "java/lang/System"), (0, u "allowSecurityManager"), (0, u "I"), (16, u "cons"), (0, u "Ljava/io/Console;"), (77, .class_ 110), (1, u "java/lang/System$CallersHolder"), (43, u "initialErrStream"), (0, u "Ljava/io/PrintStream;"), (19, u "security"), (0, u "Ljava/lang/SecurityManager;"), (31, .class_ 209), (0, u "java/lang/System$1"), (7, u "props"), (0, u "Ljava/util/Properties;"), (2, u "lineSeparator"), (0, u "Ljava/lang/String;"), (96, .class_ 321), (1, u "java/lang/System$LoggerFinder"), (5, .class_ 328), (0, u "java/lang/System$Logger"), (67, u "err"), (2, u "out"), (91, u "notSupportedJnuEncoding"), (15, u "in"), (17, u "initialIn"), (0, u "Ljava/io/InputStream;"), (35, u "bootLayer"), (0, u "Ljava/lang/ModuleLayer;"), (99, .class_ 664), (0, u "java/lang/System$2"), (9, u "NEVER"), (2, u "MAYBE"), (49, u "arraycopy"), (0, u "(Ljava/lang/Object;ILjava/lang/Object;II)V"), (72, .class_ 802), (0, u "java/lang/System$Logger$Level")] 31

def k14m0 : Method := { name := "<init>", desc := "()V", sig := { parameters := [], returnType := none }, accessFlags := 2, code := none }
def k14m1 : Method := { name := "arraycopy", desc := "(Ljava/lang/Object;ILjava/lang/Object;II)V", sig := { parameters := [(.object "java/lang/Object"), .int, (.object "java/lang/Object"), .int, .int], returnType := none }, accessFlags := 265, code := none }
/-- java/lang/System -/
def k14 : Class := { plain "java/lang/System" (some 0) with
  accessFlags := 49
  interfaces := #[]
  cf := some (fileOf pool14 8 #[.nestMembers #[319, 327, 801, 108, 663, 208]] #[{ accessFlags := 2, nameIndex := 5, descriptorIndex := 6, attributes := #[] }, { accessFlags := 265, nameIndex := 727, descriptorIndex := 728, attributes := #[] }] 49 2 #[] #[{ accessFlags := 25, nameIndex := 507, descriptorIndex := 526, attributes := #[] }, { accessFlags := 25, nameIndex := 399, descriptorIndex := 155, attributes := #[] }, { accessFlags := 25, nameIndex := 396, descriptorIndex := 155, attributes := #[] }, { accessFlags := 10, nameIndex := 525, descriptorIndex := 526, attributes := #[] }, { accessFlags := 26, nameIndex := 674, descriptorIndex := 12, attributes := #[] }, { accessFlags := 26, nameIndex := 677, descriptorIndex := 12, attributes := #[] }, { accessFlags := 10, nameIndex := 11, descriptorIndex := 12, attributes := #[] }, { accessFlags := 74, nameIndex := 175, descriptorIndex := 176, attributes := #[] }, { accessFlags := 10, nameIndex := 491, descriptorIndex := 222, attributes := #[] }, { accessFlags := 74, nameIndex := 29, descriptorIndex := 30, attributes := #[] }, { accessFlags := 74, nameIndex := 154, descriptorIndex := 155, attributes := #[] }, { accessFlags := 10, nameIndex := 217, descriptorIndex := 218, attributes := #[] }, { accessFlags := 10, nameIndex := 221, descriptorIndex := 222, attributes := #[] }, { accessFlags := 8, nameIndex := 562, descriptorIndex := 563, attributes := #[] }])
  fields := #[{ name := "in", type := (.object "java/io/InputStream"), accessFlags := 25, slot := 0, constantValue := 0 }, { name := "out", type := (.object "java/io/PrintStream"), accessFlags := 25, slot := 1, constantValue := 0 }, { name := "err", type := (.object "java/io/PrintStream"), accessFlags := 25, slot := 2, constantValue := 0 }, { name := "initialIn", type := (.object "java/io/InputStream"), accessFlags := 10, slot := 3, constantValue := 0 }, { name := "NEVER", type := .int, accessFlags := 26, slot := 4, constantValue := 0 }, { name := "MAYBE", type := .int, accessFlags := 26, slot := 5, constantValue := 0 }, { name := "allowSecurityManager", type := .int, accessFlags := 10, slot := 6, constantValue := 0 }, { name := "security", type := (.object "java/lang/SecurityManager"), accessFlags := 74, slot := 7, constantValue := 0 }, { name := "notSupportedJnuEncoding", type := (.object "java/lang/String"), accessFlags := 10, slot := 8, constantValue := 0 }, { name := "cons", type := (.object "java/io/Console"), accessFlags := 74, slot := 9, constantValue := 0 }, { name := "initialErrStream", type := (.object "java/io/PrintStream"), accessFlags := 74, slot := 10, constantValue := 0 }, { name := "props", type := (.object "java/util/Properties"), accessFlags := 10, slot := 11, constantValue := 0 }, { name := "lineSeparator", type := (.object "java/lang/String"), accessFlags := 10, slot := 12, constantValue := 0 }, { name := "bootLayer", type := (.object "java/lang/ModuleLayer"), accessFlags := 8, slot := 13, constantValue := 0 }]
  methods := #[k14m0, k14m1]
  instanceTypes := #[]
  staticTypes := #[(.object "java/io/InputStream"), (.object "java/io/PrintStream"), (.object "java/io/PrintStream"), (.object "java/io/InputStream"), .int, .int, .int, (.object "java/lang/SecurityManager"), (.object "java/lang/String"), (.object "java/io/Console"), (.object "java/io/PrintStream"), (.object "java/util/Properties"), (.object "java/lang/String"), (.object "java/lang/ModuleLayer")]
  resolved := Array.replicate 834 none
  statics := none }

def pool15 : Array CpInfo := pool [(2, .class_ 4), (1, u "java/lang/Object"), (0, u "<init>"), (0, u "()V"), (1, .class_ 10), (1, u "java/lang/Number"), (2, .class_ 14), (0, u "java/io/Serializable"), (0, u "serialVersionUID"), (0, u "J")] 20

def k15m0 : Method := { name := "<init>", desc := "()V", sig := { parameters := [], returnType := none }, accessFlags := 1, code := none }
/-- java/lang/Number -/
def k15 : Class := { plain "java/lang/Number" (some 0) with
  accessFlags := 1057
  interfaces := #[2]
  cf := some (fileOf pool15 8 #[] #[{ accessFlags := 1, nameIndex := 5, descriptorIndex := 6, attributes := #[] }] 1057 2 #[13] #[{ accessFlags := 26, nameIndex := 15, descriptorIndex := 16, attributes := #[] }])
  fields := #[{ name := "serialVersionUID", type := .long, accessFlags := 26, slot := 0, constantValue := 0 }]
  methods := #[k15m0]
  instanceTypes := #[]
  staticTypes := #[.long]
  resolved := Array.replicate 37 none
  statics := none }

def pool16 : Array CpInfo := pool [(1, .class_ 2), (0, u "java/lang/Long"), (15, .class_ 20), (1, u "java/lang/Integer"), (32, .long 10), (47, u "(J)I"), (18, u "stringSize"), (2, u "getChars"), (0, u "(JI[B)I"), (4, .long 18446744071562067968), (1, .long 100), (1, .fieldref 18 134), (0, .nameAndType 135 136), (0, u "DigitOnes"), (0, u "[B"), (0, .fieldref 18 138), (0, .nameAndType 139 136), (0, u "DigitTens"), (0, .long 18446744073709551606), (94, .class_ 237), (1, u "java/lang/Long$LongCache"), (33, .class_ 272), (0, u "java/lang/Number"), (2, u "value"), (0, u "J"), (84, u "TYPE"), (0, u "Ljava/lang/Class;"), (0, .class_ 364), (0, u "java/lang/Comparable"), (0, .class_ 366), (0, u "java/lang/constant/Constable"), (0, .class_ 368), (0, u "java/lang/constant/ConstantDesc"), (0, u "MIN_VALUE"), (1, u "MAX_VALUE"), (4, u "SIZE"), (0, u "I"), (1, u "BYTES"), (1, u "serialVersionUID")] 142

def k16c0 : Code := { maxStack := 4, maxLocals := 11, code := jdk_35_method_14_code, exceptionTable := #[], attributes := #[] }
def k16m0 : Method := { name := "getChars", desc := "(JI[B)I", sig := { parameters := [.long, .int, (.array .byte)], returnType := some .int }, accessFlags := 8, code := some k16c0 }
def k16c1 : Code := { maxStack := 4, maxLocals := 6, code := jdk_35_method_15_code, exceptionTable := #[], attributes := #[] }
def k16m1 : Method := { name := "stringSize", desc := "(J)I", sig := { parameters := [.long], returnType := some .int }, accessFlags := 8, code := some k16c1 }
/-- java/lang/Long -/
def k16 : Class := { plain "java/lang/Long" (some 15) with
  accessFlags := 49
  interfaces := #[3, 5, 6]
  cf := some (fileOf pool16 1 #[.nestMembers #[235]] #[{ accessFlags := 8, nameIndex := 123, descriptorIndex := 124, attributes := #[] }, { accessFlags := 8, nameIndex := 120, descriptorIndex := 101, attributes := #[] }] 49 271 #[363, 365, 367] #[{ accessFlags := 25, nameIndex := 369, descriptorIndex := 276, attributes := #[] }, { accessFlags := 25, nameIndex := 371, descriptorIndex := 276, attributes := #[] }, { accessFlags := 25, nameIndex := 361, descriptorIndex := 362, attributes := #[] }, { accessFlags := 18, nameIndex := 275, descriptorIndex := 276, attributes := #[] }, { accessFlags := 25, nameIndex := 376, descriptorIndex := 377, attributes := #[] }, { accessFlags := 25, nameIndex := 379, descriptorIndex := 377, attributes := #[] }, { accessFlags := 26, nameIndex := 381, descriptorIndex := 276, attributes := #[] }])
  fields := #[{ name := "MIN_VALUE", type := .long, accessFlags := 25, slot := 0, constantValue := 0 }, { name := "MAX_VALUE", type := .long, accessFlags := 25, slot := 1, constantValue := 0 }, { name := "TYPE", type := (.object "java/lang/Class"), accessFlags := 25, slot := 2, constantValue := 0 }, { name := "value", type := .long, accessFlags := 18, slot := 0, constantValue := 0 }, { name := "SIZE", type := .int, accessFlags := 25, slot := 3, constantValue := 0 }, { name := "BYTES", type := .int, accessFlags := 25, slot := 4, constantValue := 0 }, { name := "serialVersionUID", type := .long, accessFlags := 26, slot := 5, constantValue := 0 }]
  methods := #[k16m0, k16m1]
  instanceTypes := #[.long]
  staticTypes := #[.long, .long, (.object "java/lang/Class"), .int, .int, .long]
  resolved := Array.replicate 524 none
  statics := none }

def pool17 : Array CpInfo := pool [(1, .class_ 2), (0, u "java/lang/Integer"), (16, u "digits"), (0, u "[C"), (64, u "DigitOnes"), (0, u "[B"), (2, u "DigitTens"), (99, .class_ 190), (0, u "java/lang/Integer$IntegerCache"), (3, u "I"), (8, .class_ 204), (0, u "java/lang/Number"), (2, u "value"), (94, u "TYPE"), (0, u "Ljava/lang/Class;"), (0, .class_ 305), (0, u "java/lang/Comparable"), (0, .class_ 307), (0, u "java/lang/constant/Constable"), (0, .class_ 309), (0, u "java/lang/constant/ConstantDesc"), (0, u "MIN_VALUE"), (1, u "MAX_VALUE"), (3, u "SIZE"), (1, u "BYTES"), (1, u "serialVersionUID"), (0, u "J")] 131

/-- java/lang/Integer -/
def k17 : Class := { plain "java/lang/Integer" (some 15) with
  accessFlags := 49
  interfaces := #[3, 5, 6]
  cf := some (fileOf pool17 1 #[.nestMembers #[189]] #[] 49 203 #[304, 306, 308] #[{ accessFlags := 25, nameIndex := 310, descriptorIndex := 194, attributes := #[] }, { accessFlags := 25, nameIndex := 312, descriptorIndex := 194, attributes := #[] }, { accessFlags := 25, nameIndex := 302, descriptorIndex := 303, attributes := #[] }, { accessFlags := 24, nameIndex := 19, descriptorIndex := 20, attributes := #[] }, { accessFlags := 24, nameIndex := 89, descriptorIndex := 86, attributes := #[] }, { accessFlags := 24, nameIndex := 85, descriptorIndex := 86, attributes := #[] }, { accessFlags := 18, nameIndex := 207, descriptorIndex := 194, attributes := #[] }, { accessFlags := 25, nameIndex := 316, descriptorIndex := 194, attributes := #[] }, { accessFlags := 25, nameIndex := 318, descriptorIndex := 194, attributes := #[] }, { accessFlags := 26, nameIndex := 320, descriptorIndex := 321, attributes := #[] }])
  fields := #[{ name := "MIN_VALUE", type := .int, accessFlags := 25, slot := 0, constantValue := 0 }, { name := "MAX_VALUE", type := .int, accessFlags := 25, slot := 1, constantValue := 0 }, { name := "TYPE", type := (.object "java/lang/Class"), accessFlags := 25, slot := 2, constantValue := 0 }, { name := "digits", type := (.array .char), accessFlags := 24, slot := 3, constantValue := 0 }, { name := "DigitTens", type := (.array .byte), accessFlags := 24, slot := 4, constantValue := 0 }, { name := "DigitOnes", type := (.array .byte), accessFlags := 24, slot := 5, constantValue := 0 }, { name := "value", type := .int, accessFlags := 18, slot := 0, constantValue := 0 }, { name := "SIZE", type := .int, accessFlags := 25, slot := 6, constantValue := 0 }, { name := "BYTES", type := .int, accessFlags := 25, slot := 7, constantValue := 0 }, { name := "serialVersionUID", type := .long, accessFlags := 26, slot := 8, constantValue := 0 }]
  methods := #[]
  instanceTypes := #[.int]
  staticTypes := #[.int, .int, (.object "java/lang/Class"), (.array .char), (.array .byte), (.array .byte), .int, .int, .long]
  resolved := Array.replicate 453 none
  statics := some 1 }

def pool18 : Array CpInfo := pool [(9, u "<init>"), (6, .class_ 18), (1, u "java/lang/Object"), (0, u "()V"), (1, .class_ 23), (1, u "jdk/internal/util/ArraysSupport"), (0, u "LOG2_ARRAY_LONG_INDEX_SCALE"), (0, u "I"), (2, u "U"), (0, u "Ljdk/internal/misc/Unsafe;"), (8, u "BIG_ENDIAN"), (0, u "Z"), (8, u "LOG2_BYTE_BIT_SIZE"), (4, u "LOG2_ARRAY_INT_INDEX_SCALE"), (54, u "JLA"), (0, u "Ljdk/internal/access/JavaLangAccess;"), (11, u "LOG2_ARRAY_BOOLEAN_INDEX_SCALE"), (9, u "LOG2_ARRAY_BYTE_INDEX_SCALE"), (5, u "LOG2_ARRAY_CHAR_INDEX_SCALE"), (5, u "LOG2_ARRAY_SHORT_INDEX_SCALE"), (18, u "LOG2_ARRAY_FLOAT_INDEX_SCALE"), (24, u "LOG2_ARRAY_DOUBLE_INDEX_SCALE"), (6, .methodref 195 196), (0, .class_ 197), (0, .nameAndType 198 199), (0, u "java/lang/Math"), (0, u "max"), (0, u "(II)I"), (0, .integer 2147483639), (76, u "T_BOOLEAN"), (2, u "T_CHAR"), (1, u "T_FLOAT"), (1, u "T_DOUBLE"), (1, u "T_BYTE"), (1, u "T_SHORT"), (1, u "T_INT"), (1, u "T_LONG"), (1, u "SOFT_MAX_ARRAY_LENGTH"), (56, u "newLength"), (0, u "(III)I")] 25

def k18m0 : Method := { name := "<init>", desc := "()V", sig := { parameters := [], returnType := none }, accessFlags := 2, code := none }
def k18c1 : Code := { maxStack := 3, maxLocals := 4, code := jdk_48_method_27_code, exceptionTable := #[], attributes := #[] }
def k18m1 : Method := { name := "newLength", desc := "(III)I", sig := { parameters := [.int, .int, .int], returnType := some .int }, accessFlags := 9, code := some k18c1 }
/-- jdk/internal/util/ArraysSupport -/
def k18 : Class := { plain "jdk/internal/util/ArraysSupport" (some 0) with
  accessFlags := 33
  interfaces := #[]
  cf := some (fileOf pool18 21 #[] #[{ accessFlags := 2, nameIndex := 9, descriptorIndex := 19, attributes := #[] }, { accessFlags := 9, nameIndex := 351, descriptorIndex := 352, attributes := #[] }] 33 16 #[] #[{ accessFlags := 24, nameIndex := 28, descriptorIndex := 29, attributes := #[] }, { accessFlags := 26, nameIndex := 38, descriptorIndex := 39, attributes := #[] }, { accessFlags := 25, nameIndex := 121, descriptorIndex := 25, attributes := #[] }, { accessFlags := 25, nameIndex := 131, descriptorIndex := 25, attributes := #[] }, { accessFlags := 25, nameIndex := 137, descriptorIndex := 25, attributes := #[] }, { accessFlags := 25, nameIndex := 143, descriptorIndex := 25, attributes := #[] }, { accessFlags := 25, nameIndex := 53, descriptorIndex := 25, attributes := #[] }, { accessFlags := 25, nameIndex := 24, descriptorIndex := 25, attributes := #[] }, { accessFlags := 25, nameIndex := 162, descriptorIndex := 25, attributes := #[] }, { accessFlags := 25, nameIndex := 187, descriptorIndex := 25, attributes := #[] }, { accessFlags := 26, nameIndex := 48, descriptorIndex := 25, attributes := #[] }, { accessFlags := 25, nameIndex := 277, descriptorIndex := 25, attributes := #[] }, { accessFlags := 25, nameIndex := 280, descriptorIndex := 25, attributes := #[] }, { accessFlags := 25, nameIndex := 282, descriptorIndex := 25, attributes := #[] }, { accessFlags := 25, nameIndex := 284, descriptorIndex := 25, attributes := #[] }, { accessFlags := 25, nameIndex := 286, descriptorIndex := 25, attributes := #[] }, { accessFlags := 25, nameIndex := 288, descriptorIndex := 25, attributes := #[] }, { accessFlags := 25, nameIndex := 290, descriptorIndex := 25, attributes := #[] }, { accessFlags := 25, nameIndex := 292, descriptorIndex := 25, attributes := #[] }, { accessFlags := 26, nameIndex := 108, descriptorIndex := 109, attributes := #[] }, { accessFlags := 25, nameIndex := 294, descriptorIndex := 25, attributes := #[] }])
  fields := #[{ name := "U", type := (.object "jdk/internal/misc/Unsafe"), accessFlags := 24, slot := 0, constantValue := 0 }, { name := "BIG_ENDIAN", type := .boolean, accessFlags := 26, slot := 1, constantValue := 0 }, { name := "LOG2_ARRAY_BOOLEAN_INDEX_SCALE", type := .int, accessFlags := 25, slot := 2, constantValue := 0 }, { name := "LOG2_ARRAY_BYTE_INDEX_SCALE", type := .int, accessFlags := 25, slot := 3, constantValue := 0 }, { name := "LOG2_ARRAY_CHAR_INDEX_SCALE", type := .int, accessFlags := 25, slot := 4, constantValue := 0 }, { name := "LOG2_ARRAY_SHORT_INDEX_SCALE", type := .int, accessFlags := 25, slot := 5, constantValue := 0 }, { name := "LOG2_ARRAY_INT_INDEX_SCALE", type := .int, accessFlags := 25, slot := 6, constantValue := 0 }, { name := "LOG2_ARRAY_LONG_INDEX_SCALE", type := .int, accessFlags := 25, slot := 7, constantValue := 0 }, { name := "LOG2_ARRAY_FLOAT_INDEX_SCALE", type := .int, accessFlags := 25, slot := 8, constantValue := 0 }, { name := "LOG2_ARRAY_DOUBLE_INDEX_SCALE", type := .int, accessFlags := 25, slot := 9, constantValue := 0 }, { name := "LOG2_BYTE_BIT_SIZE", type := .int, accessFlags := 26, slot := 10, constantValue := 0 }, { name := "T_BOOLEAN", type := .int, accessFlags := 25, slot := 11, constantValue := 0 }, { name := "T_CHAR", type := .int, accessFlags := 25, slot := 12, constantValue := 0 }, { name := "T_FLOAT", type := .int, accessFlags := 25, slot := 13, constantValue := 0 }, { name := "T_DOUBLE", type := .int, accessFlags := 25, slot := 14, constantValue := 0 }, { name := "T_BYTE", type := .int, accessFlags := 25, slot := 15, constantValue := 0 }, { name := "T_SHORT", type := .int, accessFlags := 25, slot := 16, constantValue := 0 }, { name := "T_INT", type := .int, accessFlags := 25, slot := 17, constantValue := 0 }, { name := "T_LONG", type := .int, accessFlags := 25, slot := 18, constantValue := 0 }, { name := "JLA", type := (.object "jdk/internal/access/JavaLangAccess"), accessFlags := 26, slot := 19, constantValue := 0 }, { name := "SOFT_MAX_ARRAY_LENGTH", type := .int, accessFlags := 25, slot := 20, constantValue := 0 }]
  methods := #[k18m0, k18m1]
  instanceTypes := #[]
  staticTypes := #[(.object "jdk/internal/misc/Unsafe"), .boolean, .int, .int, .int, .int, .int, .int, .int, .int, .int, .int, .int, .int, .int, .int, .int, .int, .int, (.object "jdk/internal/access/JavaLangAccess"), .int]
  resolved := Array.replicate 378 none
  statics := none }

def pool19 : Array CpInfo := pool [(1, .class_ 2), (0, u "java/lang/Math"), (1, .class_ 6), (1, u "java/lang/Object"), (0, u "<init>"), (0, u "()V"), (89, .class_ 100), (1, u "java/lang/Math$RandomNumberGeneratorHolder"), (71, u "negativeZeroFloatBits"), (0, u "J"), (2, u "negativeZeroDoubleBits"), (21, u "max"), (2, u "min"), (43, u "$assertionsDisabled"), (0, u "Z"), (88, u "(II)I"), (2, u "twoToTheDoubleScaleDown"), (0, u "D"), (4, u "twoToTheDoubleScaleUp"), (9, u "E"), (3, u "PI"), (2, u "TAU"), (2, u "DEGREES_TO_RADIANS"), (0, u "RADIANS_TO_DEGREES")] 94

def k19m0 : Method := { name := "<init>", desc := "()V", sig := { parameters := [], returnType := none }, accessFlags := 2, code := none }
def k19c1 : Code := { maxStack := 2, maxLocals := 2, code := jdk_29_method_65_code, exceptionTable := #[], attributes := #[] }
def k19m1 : Method := { name := "max", desc := "(II)I", sig := { parameters := [.int, .int], returnType := some .int }, accessFlags := 9, code := some k19c1 }
def k19c2 : Code := { maxStack := 2, maxLocals := 2, code := jdk_29_method_69_code, exceptionTable := #[], attributes := #[] }
def k19m2 : Method := { name := "min", desc := "(II)I", sig := { parameters := [.int, .int], returnType := some .int }, accessFlags := 9, code := some k19c2 }
/-- java/lang/Math -/
def k19 : Class := { plain "java/lang/Math" (some 0) with
  accessFlags := 49
  interfaces := #[]
  cf := some (fileOf pool19 1 #[.nestMembers #[98]] #[{ accessFlags := 2, nameIndex := 7, descriptorIndex := 8, attributes := #[] }, { accessFlags := 9, nameIndex := 198, descriptorIndex := 335, attributes := #[] }, { accessFlags := 9, nameIndex := 201, descriptorIndex := 335, attributes := #[] }] 49 4 #[] #[{ accessFlags := 25, nameIndex := 354, descriptorIndex := 339, attributes := #[] }, { accessFlags := 25, nameIndex := 358, descriptorIndex := 339, attributes := #[] }, { accessFlags := 25, nameIndex := 361, descriptorIndex := 339, attributes := #[] }, { accessFlags := 26, nameIndex := 364, descriptorIndex := 339, attributes := #[] }, { accessFlags := 26, nameIndex := 365, descriptorIndex := 339, attributes := #[] }, { accessFlags := 26, nameIndex := 172, descriptorIndex := 173, attributes := #[] }, { accessFlags := 26, nameIndex := 176, descriptorIndex := 173, attributes := #[] }, { accessFlags := 8, nameIndex := 344, descriptorIndex := 339, attributes := #[] }, { accessFlags := 8, nameIndex := 338, descriptorIndex := 339, attributes := #[] }, { accessFlags := 4120, nameIndex := 245, descriptorIndex := 246, attributes := #[] }])
  fields := #[{ name := "E", type := .double, accessFlags := 25, slot := 0, constantValue := 0 }, { name := "PI", type := .double, accessFlags := 25, slot := 1, constantValue := 0 }, { name := "TAU", type := .double, accessFlags := 25, slot := 2, constantValue := 0 }, { name := "DEGREES_TO_RADIANS", type := .double, accessFlags := 26, slot := 3, constantValue := 0 }, { name := "RADIANS_TO_DEGREES", type := .double, accessFlags := 26, slot := 4, constantValue := 0 }, { name := "negativeZeroFloatBits", type := .long, accessFlags := 26, slot := 5, constantValue := 0 }, { name := "negativeZeroDoubleBits", type := .long, accessFlags := 26, slot := 6, constantValue := 0 }, { name := "twoToTheDoubleScaleUp", type := .double, accessFlags := 8, slot := 7, constantValue := 0 }, { name := "twoToTheDoubleScaleDown", type := .double, accessFlags := 8, slot := 8, constantValue := 0 }, { name := "$assertionsDisabled", type := .boolean, accessFlags := 4120, slot := 9, constantValue := 0 }]
  methods := #[k19m0, k19m1, k19m2]
  instanceTypes := #[]
  staticTypes := #[.double, .double, .double, .double, .double, .long, .long, .double, .double, .boolean]
  resolved := Array.replicate 460 none
  statics := none }

def pool20 : Array CpInfo := pool [(2, .class_ 4), (1, u "java/lang/Object"), (0, u "<init>"), (0, u "()V"), (7, .class_ 16), (1, u "java/util/Arrays"), (57, .class_ 76), (1, u "java/util/Arrays$NaturalOrder"), (32, u "()Ljava/lang/Object;"), (3, .class_ 115), (1, u "java/util/Arrays$LegacyMergeSort"), (1, u "Z"), (10, .nameAndType 129 109), (0, u "clone"), (9, u "copyOfRange"), (10, .methodref 151 152), (0, .class_ 153), (0, .nameAndType 154 155), (0, u "java/lang/System"), (0, u "arraycopy"), (0, u "(Ljava/lang/Object;ILjava/lang/Object;II)V"), (146, u "copyOf"), (1, .methodref 305 306), (0, .class_ 307), (0, .nameAndType 308 309), (0, u "java/lang/Math"), (0, u "min"), (0, u "(II)I"), (0, .methodref 311 128), (0, .class_ 312), (0, u "[B"), (26, .methodref 14 340), (0, .nameAndType 341 342), (0, u "copyOfRangeByte"), (0, u "([BII)[B"), (0, .methodref 14 344), (0, .nameAndType 345 346), (0, u "checkLength"), (0, u "(II)V"), (28, .class_ 376), (0, u "java/util/Arrays$ArrayList"), (68, u "$assertionsDisabled"), (269, u "MIN_ARRAY_SORT_GRAN"), (0, u "I"), (2, u "INSERTIONSORT_THRESHOLD"), (149, u "([BI)[B"), (105, .class_ 976), (0, u "java/util/Arrays$ArrayItr")] 52

def k20m0 : Method := { name := "<init>", desc := "()V", sig := { parameters := [], returnType := none }, accessFlags := 2, code := none }
def k20c1 : Code := { maxStack := 6, maxLocals := 3, code := jdk_65_method_121_code, exceptionTable := #[], attributes := #[] }
def k20m1 : Method := { name := "copyOf", desc := "([BI)[B", sig := { parameters := [(.array .byte), .int], returnType := some (.array .byte) }, accessFlags := 9, code := some k20c1 }
def k20c2 : Code := { maxStack := 4, maxLocals := 2, code := jdk_65_method_131_code, exceptionTable := #[], attributes := #[] }
def k20m2 : Method := { name := "checkLength", desc := "(II)V", sig := { parameters := [.int, .int], returnType := none }, accessFlags := 10, code := some k20c2 }
def k20c3 : Code := { maxStack := 3, maxLocals := 3, code := jdk_65_method_132_code, exceptionTable := #[], attributes := #[] }
def k20m3 : Method := { name := "copyOfRange", desc := "([BII)[B", sig := { parameters := [(.array .byte), .int, .int], returnType := some (.array .byte) }, accessFlags := 9, code := some k20c3 }
def k20c4 : Code := { maxStack := 6, maxLocals := 5, code := jdk_65_method_133_code, exceptionTable := #[], attributes := #[] }
def k20m4 : Method := { name := "copyOfRangeByte", desc := "([BII)[B", sig := { parameters := [(.array .byte), .int, .int], returnType := some (.array .byte) }, accessFlags := 10, code := some k20c4 }
/-- java/util/Arrays -/
def k20 : Class := { plain "java/util/Arrays" (some 0) with
  accessFlags := 49
  interfaces := #[]
  cf := some (fileOf pool20 14 #[.nestMembers #[975, 375, 113, 74]] #[{ accessFlags := 2, nameIndex := 5, descriptorIndex := 6, attributes := #[] }, { accessFlags := 9, nameIndex := 302, descriptorIndex := 869, attributes := #[] }, { accessFlags := 10, nameIndex := 345, descriptorIndex := 346, attributes := #[] }, { accessFlags := 9, nameIndex := 139, descriptorIndex := 342, attributes := #[] }, { accessFlags := 10, nameIndex := 341, descriptorIndex := 342, attributes := #[] }] 49 2 #[] #[{ accessFlags := 26, nameIndex := 715, descriptorIndex := 716, attributes := #[] }, { accessFlags := 26, nameIndex := 719, descriptorIndex := 716, attributes := #[] }, { accessFlags := 4120, nameIndex := 445, descriptorIndex := 117, attributes := #[] }])
  fields := #[{ name := "MIN_ARRAY_SORT_GRAN", type := .int, accessFlags := 26, slot := 0, constantValue := 0 }, { name := "INSERTIONSORT_THRESHOLD", type := .int, accessFlags := 26, slot := 1, constantValue := 0 }, { name := "$assertionsDisabled", type := .boolean, accessFlags := 4120, slot := 2, constantValue := 0 }]
  methods := #[k20m0, k20m1, k20m2, k20m3, k20m4]
  instanceTypes := #[]
  staticTypes := #[.int, .int, .boolean]
  resolved := Array.replicate 1029 none
  statics := none }

def pool21 : Array CpInfo := pool [(4, .class_ 6), (1, u "java/lang/Object"), (0, u "<init>"), (0, u "()V"), (5, .class_ 16), (1, u "java/lang/StringLatin1"), (104, u "$assertionsDisabled"), (0, u "Z"), (98, .class_ 223), (1, u "java/lang/StringLatin1$LinesSpliterator"), (57, u "equals"), (0, u "([B[B)Z"), (107, .class_ 391), (0, u "java/lang/StringLatin1$CharsSpliterator")] 3

def k21m0 : Method := { name := "<init>", desc := "()V", sig := { parameters := [], returnType := none }, accessFlags := 0, code := none }
def k21c1 : Code := { maxStack := 3, maxLocals := 3, code := jdk_43_method_13_code, exceptionTable := #[], attributes := #[] }
def k21m1 : Method := { name := "equals", desc := "([B[B)Z", sig := { parameters := [(.array .byte), (.array .byte)], returnType := some .boolean }, accessFlags := 9, code := some k21c1 }
/-- java/lang/StringLatin1 -/
def k21 : Class := { plain "java/lang/StringLatin1" (some 0) with
  accessFlags := 48
  interfaces := #[]
  cf := some (fileOf pool21 14 #[.nestMembers #[390, 221]] #[{ accessFlags := 0, nameIndex := 7, descriptorIndex := 8, attributes := #[] }, { accessFlags := 9, nameIndex := 281, descriptorIndex := 282, attributes := #[] }] 48 4 #[] #[{ accessFlags := 4120, nameIndex := 121, descriptorIndex := 122, attributes := #[] }])
  fields := #[{ name := "$assertionsDisabled", type := .boolean, accessFlags := 4120, slot := 0, constantValue := 0 }]
  methods := #[k21m0, k21m1]
  instanceTypes := #[]
  staticTypes := #[.boolean]
  resolved := Array.replicate 395 none
  statics := none }

def pool22 : Array CpInfo := pool [(1, .class_ 2), (0, u "java/lang/Cloneable"), (0, .class_ 4), (0, u "java/lang/Object")] 2

/-- java/lang/Cloneable -/
def k22 : Class := { plain "java/lang/Cloneable" (some 0) with
  accessFlags := 1537
  interfaces := #[]
  cf := some (fileOf pool22 1 #[] #[] 1537 3 #[] #[])
  fields := #[]
  methods := #[]
  instanceTypes := #[]
  staticTypes := #[]
  resolved := Array.replicate 7 none
  statics := none }

def pool23 : Array CpInfo := pool [(2, .class_ 4), (1, u "java/lang/Object"), (0, u "<init>"), (0, u "()V"), (17, .class_ 26), (1, u "jdk/internal/util/Preconditions"), (28, .class_ 56), (0, u "jdk/internal/util/Preconditions$4"), (57, .class_ 115), (0, u "jdk/internal/util/Preconditions$1"), (7, u "SIOOBE_FORMATTER"), (0, u "Ljava/util/function/BiFunction;"), (0, .class_ 126), (0, u "jdk/internal/util/Preconditions$2"), (3, u "AIOOBE_FORMATTER"), (0, .class_ 132), (0, u "jdk/internal/util/Preconditions$3"), (3, u "IOOBE_FORMATTER")] 57

def k23m0 : Method := { name := "<init>", desc := "()V", sig := { parameters := [], returnType := none }, accessFlags := 1, code := none }
/-- jdk/internal/util/Preconditions -/
def k23 : Class := { plain "jdk/internal/util/Preconditions" (some 0) with
  accessFlags := 33
  interfaces := #[]
  cf := some (fileOf pool23 24 #[.nestMembers #[55, 131, 125, 114]] #[{ accessFlags := 1, nameIndex := 5, descriptorIndex := 6, attributes := #[] }] 33 2 #[] #[{ accessFlags := 25, nameIndex := 123, descriptorIndex := 124, attributes := #[] }, { accessFlags := 25, nameIndex := 130, descriptorIndex := 124, attributes := #[] }, { accessFlags := 25, nameIndex := 136, descriptorIndex := 124, attributes := #[] }])
  fields := #[{ name := "SIOOBE_FORMATTER", type := (.object "java/util/function/BiFunction"), accessFlags := 25, slot := 0, constantValue := 0 }, { name := "AIOOBE_FORMATTER", type := (.object "java/util/function/BiFunction"), accessFlags := 25, slot := 1, constantValue := 0 }, { name := "IOOBE_FORMATTER", type := (.object "java/util/function/BiFunction"), accessFlags := 25, slot := 2, constantValue := 0 }]
  methods := #[k23m0]
  instanceTypes := #[]
  staticTypes := #[(.object "java/util/function/BiFunction"), (.object "java/util/function/BiFunction"), (.object "java/util/function/BiFunction")]
  resolved := Array.replicate 194 none
  statics := some 2 }

/-- the primitive byte -/
def k24 : Class := { plain "byte" none with kind := .primitive 'B', accessFlags := 0x411 }
/-- [B -/
def k25 : Class := { plain "[B" (some 0) with kind := .array 24 .byte, interfaces := #[22, 2], accessFlags := 1041 }

/-- the primitive char -/
def k26 : Class := { plain "char" none with kind := .primitive 'C', accessFlags := 0x411 }
/-- [C -/
def k27 : Class := { plain "[C" (some 0) with kind := .array 26 .char, interfaces := #[22, 2], accessFlags := 1041 }

/-- the primitive int -/
def k28 : Class := { plain "int" none with kind := .primitive 'I', accessFlags := 0x411 }
/-- [I -/
def k29 : Class := { plain "[I" (some 0) with kind := .array 28 .int, interfaces := #[22, 2], accessFlags := 1041 }

def heap : Heap := #[{ cls := 7, slots := #[.long 0, .int 1, .null, .int 0, .null, .int 0, .int 0], vm := .statics 7 },
  { cls := 17, slots := #[.int 0, .int 0, .null, .null, .ref 4, .ref 3, .int 0, .int 0, .long 0], vm := .statics 17 },
  { cls := 23, slots := #[.null, .null, .null], vm := .statics 23 },
  { cls := 25, slots := #[.int 48, .int 49, .int 50, .int 51, .int 52, .int 53, .int 54, .int 55, .int 56, .int 57, .int 48, .int 49, .int 50, .int 51, .int 52, .int 53, .int 54, .int 55, .int 56, .int 57, .int 48, .int 49, .int 50, .int 51, .int 52, .int 53, .int 54, .int 55, .int 56, .int 57, .int 48, .int 49, .int 50, .int 51, .int 52, .int 53, .int 54, .int 55, .int 56, .int 57, .int 48, .int 49, .int 50, .int 51, .int 52, .int 53, .int 54, .int 55, .int 56, .int 57, .int 48, .int 49, .int 50, .int 51, .int 52, .int 53, .int 54, .int 55, .int 56, .int 57, .int 48, .int 49, .int 50, .int 51, .int 52, .int 53, .int 54, .int 55, .int 56, .int 57, .int 48, .int 49, .int 50, .int 51, .int 52, .int 53, .int 54, .int 55, .int 56, .int 57, .int 48, .int 49, .int 50, .int 51, .int 52, .int 53, .int 54, .int 55, .int 56, .int 57, .int 48, .int 49, .int 50, .int 51, .int 52, .int 53, .int 54, .int 55, .int 56, .int 57], vm := .none },
  { cls := 25, slots := #[.int 48, .int 48, .int 48, .int 48, .int 48, .int 48, .int 48, .int 48, .int 48, .int 48, .int 49, .int 49, .int 49, .int 49, .int 49, .int 49, .int 49, .int 49, .int 49, .int 49, .int 50, .int 50, .int 50, .int 50, .int 50, .int 50, .int 50, .int 50, .int 50, .int 50, .int 51, .int 51, .int 51, .int 51, .int 51, .int 51, .int 51, .int 51, .int 51, .int 51, .int 52, .int 52, .int 52, .int 52, .int 52, .int 52, .int 52, .int 52, .int 52, .int 52, .int 53, .int 53, .int 53, .int 53, .int 53, .int 53, .int 53, .int 53, .int 53, .int 53, .int 54, .int 54, .int 54, .int 54, .int 54, .int 54, .int 54, .int 54, .int 54, .int 54, .int 55, .int 55, .int 55, .int 55, .int 55, .int 55, .int 55, .int 55, .int 55, .int 55, .int 56, .int 56, .int 56, .int 56, .int 56, .int 56, .int 56, .int 56, .int 56, .int 56, .int 57, .int 57, .int 57, .int 57, .int 57, .int 57, .int 57, .int 57, .int 57, .int 57], vm := .none }]
def classes : Array Class := #[k0, k1, k2, k3, k4, k5, k6, k7, k8, k9, k10, k11, k12, k13, k14, k15, k16, k17, k18, k19, k20, k21, k22, k23, k24, k25, k26, k27, k28, k29]
def interned : List (Array UInt16 × Addr) := []
def slotsUsed : Nat := 219
def theMethod : MethodId := ⟨1, 1⟩
def args0 : Array Value := #[.long 1, .long 2, .long 3, .long 4, .int 5, .int 6]
def aboutOver (below : List Frame) : State where
  vm := { classes := classes, interned := interned.toArray }
  heap := heap
  slotsUsed := slotsUsed
  threads := #[{ frames := .invoking theMethod args0 :: below }]
def below0 : List Frame := [.native { method := ⟨0, 0⟩, args := #[] }]
def about1 : State := aboutOver below0
def p0 : Program := .bare "" "" ""
def e0 : Env := launch0.env 0 0 0
theorem w_frames : about1.frames = Frame.invoking theMethod args0 :: below0 := rfl
set_option maxRecDepth 65536 in
theorem w_args : argsFit about1.vm theMethod args0 = true := by decide +kernel
set_option maxRecDepth 65536 in
theorem w_heap : heapFits about1 = true := by decide +kernel
set_option maxRecDepth 65536 in
theorem w_runnable : about1.curStatus? = some .runnable := by decide +kernel
set_option maxRecDepth 65536 in
theorem w_alone : about1.alone = true := by decide +kernel
set_option maxRecDepth 65536 in
theorem w_named : about1.methodNamed? x = some theMethod := by decide +kernel
set_option maxRecDepth 65536 in
theorem w_hears : about1.hears theMethod below0 = true := by decide +kernel
set_option maxRecDepth 65536 in
theorem w_ripe : about1.ripe theMethod args0 below0 = true := by decide +kernel
theorem w_running : about1.status = .running := rfl
set_option maxRecDepth 65536 in
theorem w_room : about1.hasRoom e0.platform room_1 = true :=
  launch0.hasRoom_least _ room_1 (by decide +kernel) (by decide +kernel) (by decide +kernel) (by decide +kernel) (by decide +kernel) (by decide +kernel)
theorem allAtoms_all (ts : List Jvm.Cond) (a : Array Jvm.Value) (st : Jvm.State) : (allAtoms ts).before a st = ts.all (fun c => c.before a st) := by
  induction ts with
  | nil => rfl
  | cons c t ih =>
    show (Jvm.Cond.and c (allAtoms t)).before a st = _
    rw [Jvm.Cond.before_and, ih, List.all_cons]
def words1 : List Jvm.Cond := Jvm.Cond.code x code maxLocals ret :: tables_1
/-- a 'code' word, met by the world's own term for the bytes: nothing is compared byte by byte -/
theorem code_word {y : MethodName} {bytes : ByteArray} {mx : Nat} {rt : Option FieldType} {a : Array Value} {s : State} {m : MethodId} {meth : Method} {c : Code} (h1 : s.methodNamed? y = some m) (h2 : s.vm.method? m = some meth) (h3 : meth.code = some c) (h4 : c.code = bytes)
    (h5 : (c.maxLocals == mx && c.exceptionTable.isEmpty && decide (c.maxStack ≤ mostOperands) && decide (meth.sig.returnType = rt) && !meth.locks && decide (parseMethodDescriptor y.desc = some meth.sig)) = true) : (Jvm.Cond.code y bytes mx rt).before a s = true := by
  simp only [Bool.and_eq_true, beq_iff_eq, Bool.not_eq_true', decide_eq_true_eq] at h5
  obtain ⟨⟨⟨⟨⟨g1, g2⟩, g3⟩, g4⟩, g5⟩, g6⟩ := h5
  simp [Cond.before, Cond.holds, Cond.value, h1, h2, h3, h4, g1, g2, g3, g4, g5, g6]
def isCode : Jvm.Cond → Bool
  | .code _ _ _ _ => true
  | _ => false
theorem all_split {L : List Jvm.Cond} {P : Jvm.Cond → Bool} (h1 : L.all (fun c => isCode c || P c) = true) (h2 : ∀ c ∈ L.filter isCode, P c = true) : L.all P = true := by
  refine List.all_eq_true.mpr fun c hc => ?_
  have h := List.all_eq_true.mp h1 c hc
  rcases Bool.eq_false_or_eq_true (isCode c) with hi | hi
  · exact h2 c (List.mem_filter.mpr ⟨hc, hi⟩)
  · simpa [hi] using h
set_option maxRecDepth 65536 in
theorem w_c0 : (Jvm.Cond.code x code maxLocals ret).before args0 about1 = true := code_word (m := ⟨1, 1⟩) (meth := k1m1) (c := k1c1) (by decide +kernel) rfl rfl rfl (by decide +kernel)
set_option maxRecDepth 65536 in
theorem w_c1 : (Jvm.Cond.code ({ cls := "com/example/vigilant_context/vigilantcontext/finding/LoadCostToStringPinLaw", name := "posText", desc := "(III)Ljava/lang/String;" } : Jvm.MethodName) method_4_code (4 : Nat) (Option.some (Jvm.ClassFile.FieldType.object "java/lang/String"))).before args0 about1 = true := code_word (m := ⟨1, 3⟩) (meth := k1m3) (c := k1c3) (by decide +kernel) rfl rfl rfl (by decide +kernel)
set_option maxRecDepth 65536 in
theorem w_c2 : (Jvm.Cond.code ({ cls := "com/example/vigilant_context/vigilantcontext/finding/LoadCostToStringPinLaw", name := "dig", desc := "(I)C" } : Jvm.MethodName) method_3_code (1 : Nat) (Option.some Jvm.ClassFile.FieldType.char)).before args0 about1 = true := code_word (m := ⟨1, 2⟩) (meth := k1m2) (c := k1c2) (by decide +kernel) rfl rfl rfl (by decide +kernel)
set_option maxRecDepth 65536 in
theorem w_c3 : (Jvm.Cond.code ({ cls := "java/lang/String", name := "<init>", desc := "([C)V" } : Jvm.MethodName) jdk_42_method_3_code (2 : Nat) (Option.none : Option Jvm.ClassFile.FieldType)).before args0 about1 = true := code_word (m := ⟨7, 1⟩) (meth := k7m1) (c := k7c1) (by decide +kernel) rfl rfl rfl (by decide +kernel)
set_option maxRecDepth 65536 in
theorem w_c4 : (Jvm.Cond.code ({ cls := "java/lang/String", name := "<init>", desc := "([CIILjava/lang/Void;)V" } : Jvm.MethodName) jdk_42_method_149_code (6 : Nat) (Option.none : Option Jvm.ClassFile.FieldType)).before args0 about1 = true := code_word (m := ⟨7, 6⟩) (meth := k7m6) (c := k7c6) (by decide +kernel) rfl rfl rfl (by decide +kernel)
set_option maxRecDepth 65536 in
theorem w_c5 : (Jvm.Cond.code ({ cls := "java/lang/Object", name := "<init>", desc := "()V" } : Jvm.MethodName) object_method_1_code (1 : Nat) (Option.none : Option Jvm.ClassFile.FieldType)).before args0 about1 = true := code_word (m := ⟨0, 0⟩) (meth := k0m0) (c := k0c0) (by decide +kernel) rfl rfl rfl (by decide +kernel)
set_option maxRecDepth 65536 in
theorem w_c6 : (Jvm.Cond.code ({ cls := "java/lang/StringUTF16", name := "compress", desc := "([CII)[B" } : Jvm.MethodName) jdk_52_method_16_code (6 : Nat) (Option.some (Jvm.ClassFile.FieldType.array Jvm.ClassFile.FieldType.byte))).before args0 about1 = true := code_word (m := ⟨8, 2⟩) (meth := k8m2) (c := k8c2) (by decide +kernel) rfl rfl rfl (by decide +kernel)
set_option maxRecDepth 65536 in
theorem w_c7 : (Jvm.Cond.code ({ cls := "java/lang/StringUTF16", name := "compress", desc := "([CI[BII)I" } : Jvm.MethodName) jdk_52_method_21_code (7 : Nat) (Option.some Jvm.ClassFile.FieldType.int)).before args0 about1 = true := code_word (m := ⟨8, 3⟩) (meth := k8m3) (c := k8c3) (by decide +kernel) rfl rfl rfl (by decide +kernel)
set_option maxRecDepth 65536 in
theorem w_c8 : (Jvm.Cond.code ({ cls := "java/lang/StringUTF16", name := "coderFromArrayLen", desc := "([BI)B" } : Jvm.MethodName) jdk_52_method_15_code (2 : Nat) (Option.some Jvm.ClassFile.FieldType.byte)).before args0 about1 = true := code_word (m := ⟨8, 1⟩) (meth := k8m1) (c := k8c1) (by decide +kernel) rfl rfl rfl (by decide +kernel)
set_option maxRecDepth 65536 in
theorem w_c9 : (Jvm.Cond.code ({ cls := "com/example/vigilant_context/vigilantcontext/finding/LoadCost", name := "<init>", desc := "(JJJ)V" } : Jvm.MethodName) prog_10_method_1_code (7 : Nat) (Option.none : Option Jvm.ClassFile.FieldType)).before args0 about1 = true := code_word (m := ⟨10, 0⟩) (meth := k10m0) (c := k10c0) (by decide +kernel) rfl rfl rfl (by decide +kernel)
set_option maxRecDepth 65536 in
theorem w_c10 : (Jvm.Cond.code ({ cls := "java/lang/Record", name := "<init>", desc := "()V" } : Jvm.MethodName) jdk_30_method_1_code (1 : Nat) (Option.none : Option Jvm.ClassFile.FieldType)).before args0 about1 = true := code_word (m := ⟨9, 0⟩) (meth := k9m0) (c := k9c0) (by decide +kernel) rfl rfl rfl (by decide +kernel)
set_option maxRecDepth 65536 in
theorem w_c11 : (Jvm.Cond.code ({ cls := "com/example/vigilant_context/vigilantcontext/finding/LoadCost", name := "toString", desc := "()Ljava/lang/String;" } : Jvm.MethodName) prog_10_method_3_code (1 : Nat) (Option.some (Jvm.ClassFile.FieldType.object "java/lang/String"))).before args0 about1 = true := code_word (m := ⟨10, 1⟩) (meth := k10m1) (c := k10c1) (by decide +kernel) rfl rfl rfl (by decide +kernel)
set_option maxRecDepth 65536 in
theorem w_c12 : (Jvm.Cond.code ({ cls := "java/lang/StringBuilder", name := "<init>", desc := "()V" } : Jvm.MethodName) jdk_67_method_1_code (1 : Nat) (Option.none : Option Jvm.ClassFile.FieldType)).before args0 about1 = true := code_word (m := ⟨13, 0⟩) (meth := k13m0) (c := k13c0) (by decide +kernel) rfl rfl rfl (by decide +kernel)
set_option maxRecDepth 65536 in
theorem w_c13 : (Jvm.Cond.code ({ cls := "java/lang/AbstractStringBuilder", name := "<init>", desc := "(I)V" } : Jvm.MethodName) jdk_68_method_2_code (2 : Nat) (Option.none : Option Jvm.ClassFile.FieldType)).before args0 about1 = true := code_word (m := ⟨12, 1⟩) (meth := k12m1) (c := k12c1) (by decide +kernel) rfl rfl rfl (by decide +kernel)
set_option maxRecDepth 65536 in
theorem w_c14 : (Jvm.Cond.code ({ cls := "java/lang/StringBuilder", name := "append", desc := "(Ljava/lang/String;)Ljava/lang/StringBuilder;" } : Jvm.MethodName) jdk_67_method_7_code (2 : Nat) (Option.some (Jvm.ClassFile.FieldType.object "java/lang/StringBuilder"))).before args0 about1 = true := code_word (m := ⟨13, 1⟩) (meth := k13m1) (c := k13c1) (by decide +kernel) rfl rfl rfl (by decide +kernel)
set_option maxRecDepth 65536 in
theorem w_c15 : (Jvm.Cond.code ({ cls := "java/lang/AbstractStringBuilder", name := "append", desc := "(Ljava/lang/String;)Ljava/lang/AbstractStringBuilder;" } : Jvm.MethodName) jdk_68_method_22_code (3 : Nat) (Option.some (Jvm.ClassFile.FieldType.object "java/lang/AbstractStringBuilder"))).before args0 about1 = true := code_word (m := ⟨12, 5⟩) (meth := k12m5) (c := k12c5) (by decide +kernel) rfl rfl rfl (by decide +kernel)
set_option maxRecDepth 65536 in
theorem w_c16 : (Jvm.Cond.code ({ cls := "java/lang/String", name := "length", desc := "()I" } : Jvm.MethodName) jdk_42_method_54_code (1 : Nat) (Option.some Jvm.ClassFile.FieldType.int)).before args0 about1 = true := code_word (m := ⟨7, 3⟩) (meth := k7m3) (c := k7c3) (by decide +kernel) rfl rfl rfl (by decide +kernel)
set_option maxRecDepth 65536 in
theorem w_c17 : (Jvm.Cond.code ({ cls := "java/lang/String", name := "coder", desc := "()B" } : Jvm.MethodName) jdk_42_method_152_code (1 : Nat) (Option.some Jvm.ClassFile.FieldType.byte)).before args0 about1 = true := code_word (m := ⟨7, 8⟩) (meth := k7m8) (c := k7c8) (by decide +kernel) rfl rfl rfl (by decide +kernel)
set_option maxRecDepth 65536 in
theorem w_c18 : (Jvm.Cond.code ({ cls := "java/lang/AbstractStringBuilder", name := "ensureCapacityInternal", desc := "(I)V" } : Jvm.MethodName) jdk_68_method_9_code (3 : Nat) (Option.none : Option Jvm.ClassFile.FieldType)).before args0 about1 = true := code_word (m := ⟨12, 3⟩) (meth := k12m3) (c := k12c3) (by decide +kernel) rfl rfl rfl (by decide +kernel)
set_option maxRecDepth 65536 in
theorem w_c19 : (Jvm.Cond.code ({ cls := "java/lang/AbstractStringBuilder", name := "putStringAt", desc := "(ILjava/lang/String;)V" } : Jvm.MethodName) jdk_68_method_73_code (3 : Nat) (Option.none : Option Jvm.ClassFile.FieldType)).before args0 about1 = true := code_word (m := ⟨12, 10⟩) (meth := k12m10) (c := k12c10) (by decide +kernel) rfl rfl rfl (by decide +kernel)
set_option maxRecDepth 65536 in
theorem w_c20 : (Jvm.Cond.code ({ cls := "java/lang/AbstractStringBuilder", name := "inflateIfNeededFor", desc := "(Ljava/lang/String;)V" } : Jvm.MethodName) jdk_68_method_71_code (2 : Nat) (Option.none : Option Jvm.ClassFile.FieldType)).before args0 about1 = true := code_word (m := ⟨12, 9⟩) (meth := k12m9) (c := k12c9) (by decide +kernel) rfl rfl rfl (by decide +kernel)
set_option maxRecDepth 65536 in
theorem w_c21 : (Jvm.Cond.code ({ cls := "java/lang/String", name := "getBytes", desc := "([BIB)V" } : Jvm.MethodName) jdk_42_method_147_code (4 : Nat) (Option.none : Option Jvm.ClassFile.FieldType)).before args0 about1 = true := code_word (m := ⟨7, 5⟩) (meth := k7m5) (c := k7c5) (by decide +kernel) rfl rfl rfl (by decide +kernel)
set_option maxRecDepth 65536 in
theorem w_c22 : (Jvm.Cond.code ({ cls := "java/lang/StringBuilder", name := "append", desc := "(J)Ljava/lang/StringBuilder;" } : Jvm.MethodName) jdk_67_method_16_code (3 : Nat) (Option.some (Jvm.ClassFile.FieldType.object "java/lang/StringBuilder"))).before args0 about1 = true := code_word (m := ⟨13, 2⟩) (meth := k13m2) (c := k13c2) (by decide +kernel) rfl rfl rfl (by decide +kernel)
set_option maxRecDepth 65536 in
theorem w_c23 : (Jvm.Cond.code ({ cls := "java/lang/AbstractStringBuilder", name := "append", desc := "(J)Ljava/lang/AbstractStringBuilder;" } : Jvm.MethodName) jdk_68_method_33_code (5 : Nat) (Option.some (Jvm.ClassFile.FieldType.object "java/lang/AbstractStringBuilder"))).before args0 about1 = true := code_word (m := ⟨12, 6⟩) (meth := k12m6) (c := k12c6) (by decide +kernel) rfl rfl rfl (by decide +kernel)
set_option maxRecDepth 65536 in
theorem w_c24 : (Jvm.Cond.code ({ cls := "java/lang/Long", name := "stringSize", desc := "(J)I" } : Jvm.MethodName) jdk_35_method_15_code (6 : Nat) (Option.some Jvm.ClassFile.FieldType.int)).before args0 about1 = true := code_word (m := ⟨16, 1⟩) (meth := k16m1) (c := k16c1) (by decide +kernel) rfl rfl rfl (by decide +kernel)
set_option maxRecDepth 65536 in
theorem w_c25 : (Jvm.Cond.code ({ cls := "java/lang/AbstractStringBuilder", name := "isLatin1", desc := "()Z" } : Jvm.MethodName) jdk_68_method_68_code (1 : Nat) (Option.some Jvm.ClassFile.FieldType.boolean)).before args0 about1 = true := code_word (m := ⟨12, 8⟩) (meth := k12m8) (c := k12c8) (by decide +kernel) rfl rfl rfl (by decide +kernel)
set_option maxRecDepth 65536 in
theorem w_c26 : (Jvm.Cond.code ({ cls := "java/lang/Long", name := "getChars", desc := "(JI[B)I" } : Jvm.MethodName) jdk_35_method_14_code (11 : Nat) (Option.some Jvm.ClassFile.FieldType.int)).before args0 about1 = true := code_word (m := ⟨16, 0⟩) (meth := k16m0) (c := k16c0) (by decide +kernel) rfl rfl rfl (by decide +kernel)
set_option maxRecDepth 65536 in
theorem w_c27 : (Jvm.Cond.code ({ cls := "java/lang/AbstractStringBuilder", name := "newCapacity", desc := "(I)I" } : Jvm.MethodName) jdk_68_method_10_code (6 : Nat) (Option.some Jvm.ClassFile.FieldType.int)).before args0 about1 = true := code_word (m := ⟨12, 4⟩) (meth := k12m4) (c := k12c4) (by decide +kernel) rfl rfl rfl (by decide +kernel)
set_option maxRecDepth 65536 in
theorem w_c28 : (Jvm.Cond.code ({ cls := "jdk/internal/util/ArraysSupport", name := "newLength", desc := "(III)I" } : Jvm.MethodName) jdk_48_method_27_code (4 : Nat) (Option.some Jvm.ClassFile.FieldType.int)).before args0 about1 = true := code_word (m := ⟨18, 1⟩) (meth := k18m1) (c := k18c1) (by decide +kernel) rfl rfl rfl (by decide +kernel)
set_option maxRecDepth 65536 in
theorem w_c29 : (Jvm.Cond.code ({ cls := "java/lang/Math", name := "max", desc := "(II)I" } : Jvm.MethodName) jdk_29_method_65_code (2 : Nat) (Option.some Jvm.ClassFile.FieldType.int)).before args0 about1 = true := code_word (m := ⟨19, 1⟩) (meth := k19m1) (c := k19c1) (by decide +kernel) rfl rfl rfl (by decide +kernel)
set_option maxRecDepth 65536 in
theorem w_c30 : (Jvm.Cond.code ({ cls := "java/util/Arrays", name := "copyOf", desc := "([BI)[B" } : Jvm.MethodName) jdk_65_method_121_code (3 : Nat) (Option.some (Jvm.ClassFile.FieldType.array Jvm.ClassFile.FieldType.byte))).before args0 about1 = true := code_word (m := ⟨20, 1⟩) (meth := k20m1) (c := k20c1) (by decide +kernel) rfl rfl rfl (by decide +kernel)
set_option maxRecDepth 65536 in
theorem w_c31 : (Jvm.Cond.code ({ cls := "java/lang/Math", name := "min", desc := "(II)I" } : Jvm.MethodName) jdk_29_method_69_code (2 : Nat) (Option.some Jvm.ClassFile.FieldType.int)).before args0 about1 = true := code_word (m := ⟨19, 2⟩) (meth := k19m2) (c := k19c2) (by decide +kernel) rfl rfl rfl (by decide +kernel)
set_option maxRecDepth 65536 in
theorem w_c32 : (Jvm.Cond.code ({ cls := "java/lang/StringBuilder", name := "toString", desc := "()Ljava/lang/String;" } : Jvm.MethodName) jdk_67_method_42_code (1 : Nat) (Option.some (Jvm.ClassFile.FieldType.object "java/lang/String"))).before args0 about1 = true := code_word (m := ⟨13, 3⟩) (meth := k13m3) (c := k13c3) (by decide +kernel) rfl rfl rfl (by decide +kernel)
set_option maxRecDepth 65536 in
theorem w_c33 : (Jvm.Cond.code ({ cls := "java/lang/String", name := "<init>", desc := "(Ljava/lang/StringBuilder;)V" } : Jvm.MethodName) jdk_42_method_53_code (2 : Nat) (Option.none : Option Jvm.ClassFile.FieldType)).before args0 about1 = true := code_word (m := ⟨7, 2⟩) (meth := k7m2) (c := k7c2) (by decide +kernel) rfl rfl rfl (by decide +kernel)
set_option maxRecDepth 65536 in
theorem w_c34 : (Jvm.Cond.code ({ cls := "java/lang/String", name := "<init>", desc := "(Ljava/lang/AbstractStringBuilder;Ljava/lang/Void;)V" } : Jvm.MethodName) jdk_42_method_150_code (5 : Nat) (Option.none : Option Jvm.ClassFile.FieldType)).before args0 about1 = true := code_word (m := ⟨7, 7⟩) (meth := k7m7) (c := k7c7) (by decide +kernel) rfl rfl rfl (by decide +kernel)
set_option maxRecDepth 65536 in
theorem w_c35 : (Jvm.Cond.code ({ cls := "java/lang/AbstractStringBuilder", name := "getValue", desc := "()[B" } : Jvm.MethodName) jdk_68_method_64_code (1 : Nat) (Option.some (Jvm.ClassFile.FieldType.array Jvm.ClassFile.FieldType.byte))).before args0 about1 = true := code_word (m := ⟨12, 7⟩) (meth := k12m7) (c := k12c7) (by decide +kernel) rfl rfl rfl (by decide +kernel)
set_option maxRecDepth 65536 in
theorem w_c36 : (Jvm.Cond.code ({ cls := "java/lang/StringBuilder", name := "length", desc := "()I" } : Jvm.MethodName) jdk_67_method_93_code (1 : Nat) (Option.some Jvm.ClassFile.FieldType.int)).before args0 about1 = true := code_word (m := ⟨13, 4⟩) (meth := k13m4) (c := k13c4) (by decide +kernel) rfl rfl rfl (by decide +kernel)
set_option maxRecDepth 65536 in
theorem w_c37 : (Jvm.Cond.code ({ cls := "java/lang/AbstractStringBuilder", name := "length", desc := "()I" } : Jvm.MethodName) jdk_68_method_6_code (1 : Nat) (Option.some Jvm.ClassFile.FieldType.int)).before args0 about1 = true := code_word (m := ⟨12, 2⟩) (meth := k12m2) (c := k12c2) (by decide +kernel) rfl rfl rfl (by decide +kernel)
set_option maxRecDepth 65536 in
theorem w_c38 : (Jvm.Cond.code ({ cls := "java/util/Arrays", name := "copyOfRange", desc := "([BII)[B" } : Jvm.MethodName) jdk_65_method_132_code (3 : Nat) (Option.some (Jvm.ClassFile.FieldType.array Jvm.ClassFile.FieldType.byte))).before args0 about1 = true := code_word (m := ⟨20, 3⟩) (meth := k20m3) (c := k20c3) (by decide +kernel) rfl rfl rfl (by decide +kernel)
set_option maxRecDepth 65536 in
theorem w_c39 : (Jvm.Cond.code ({ cls := "java/util/Arrays", name := "copyOfRangeByte", desc := "([BII)[B" } : Jvm.MethodName) jdk_65_method_133_code (5 : Nat) (Option.some (Jvm.ClassFile.FieldType.array Jvm.ClassFile.FieldType.byte))).before args0 about1 = true := code_word (m := ⟨20, 4⟩) (meth := k20m4) (c := k20c4) (by decide +kernel) rfl rfl rfl (by decide +kernel)
set_option maxRecDepth 65536 in
theorem w_c40 : (Jvm.Cond.code ({ cls := "java/util/Arrays", name := "checkLength", desc := "(II)V" } : Jvm.MethodName) jdk_65_method_131_code (2 : Nat) (Option.none : Option Jvm.ClassFile.FieldType)).before args0 about1 = true := code_word (m := ⟨20, 2⟩) (meth := k20m2) (c := k20c2) (by decide +kernel) rfl rfl rfl (by decide +kernel)
set_option maxRecDepth 65536 in
theorem w_c41 : (Jvm.Cond.code ({ cls := "java/lang/String", name := "equals", desc := "(Ljava/lang/Object;)Z" } : Jvm.MethodName) jdk_42_method_66_code (3 : Nat) (Option.some Jvm.ClassFile.FieldType.boolean)).before args0 about1 = true := code_word (m := ⟨7, 4⟩) (meth := k7m4) (c := k7c4) (by decide +kernel) rfl rfl rfl (by decide +kernel)
set_option maxRecDepth 65536 in
theorem w_c42 : (Jvm.Cond.code ({ cls := "java/lang/StringLatin1", name := "equals", desc := "([B[B)Z" } : Jvm.MethodName) jdk_43_method_13_code (3 : Nat) (Option.some Jvm.ClassFile.FieldType.boolean)).before args0 about1 = true := code_word (m := ⟨21, 1⟩) (meth := k21m1) (c := k21c1) (by decide +kernel) rfl rfl rfl (by decide +kernel)
set_option maxRecDepth 65536 in
theorem w_c43 : (Jvm.Cond.code ({ cls := "com/example/vigilant_context/vigilantcontext/finding/LoadCostToStringPinLaw", name := "negText", desc := "(III)Ljava/lang/String;" } : Jvm.MethodName) method_5_code (4 : Nat) (Option.some (Jvm.ClassFile.FieldType.object "java/lang/String"))).before args0 about1 = true := code_word (m := ⟨1, 4⟩) (meth := k1m4) (c := k1c4) (by decide +kernel) rfl rfl rfl (by decide +kernel)
def codes1 : List Jvm.Cond := [Jvm.Cond.code x code maxLocals ret, Jvm.Cond.code ({ cls := "com/example/vigilant_context/vigilantcontext/finding/LoadCostToStringPinLaw", name := "posText", desc := "(III)Ljava/lang/String;" } : Jvm.MethodName) method_4_code (4 : Nat) (Option.some (Jvm.ClassFile.FieldType.object "java/lang/String")), Jvm.Cond.code ({ cls := "com/example/vigilant_context/vigilantcontext/finding/LoadCostToStringPinLaw", name := "dig", desc := "(I)C" } : Jvm.MethodName) method_3_code (1 : Nat) (Option.some Jvm.ClassFile.FieldType.char), Jvm.Cond.code ({ cls := "java/lang/String", name := "<init>", desc := "([C)V" } : Jvm.MethodName) jdk_42_method_3_code (2 : Nat) (Option.none : Option Jvm.ClassFile.FieldType), Jvm.Cond.code ({ cls := "java/lang/String", name := "<init>", desc := "([CIILjava/lang/Void;)V" } : Jvm.MethodName) jdk_42_method_149_code (6 : Nat) (Option.none : Option Jvm.ClassFile.FieldType), Jvm.Cond.code ({ cls := "java/lang/Object", name := "<init>", desc := "()V" } : Jvm.MethodName) object_method_1_code (1 : Nat) (Option.none : Option Jvm.ClassFile.FieldType), Jvm.Cond.code ({ cls := "java/lang/StringUTF16", name := "compress", desc := "([CII)[B" } : Jvm.MethodName) jdk_52_method_16_code (6 : Nat) (Option.some (Jvm.ClassFile.FieldType.array Jvm.ClassFile.FieldType.byte)), Jvm.Cond.code ({ cls := "java/lang/StringUTF16", name := "compress", desc := "([CI[BII)I" } : Jvm.MethodName) jdk_52_method_21_code (7 : Nat) (Option.some Jvm.ClassFile.FieldType.int), Jvm.Cond.code ({ cls := "java/lang/StringUTF16", name := "coderFromArrayLen", desc := "([BI)B" } : Jvm.MethodName) jdk_52_method_15_code (2 : Nat) (Option.some Jvm.ClassFile.FieldType.byte), Jvm.Cond.code ({ cls := "com/example/vigilant_context/vigilantcontext/finding/LoadCost", name := "<init>", desc := "(JJJ)V" } : Jvm.MethodName) prog_10_method_1_code (7 : Nat) (Option.none : Option Jvm.ClassFile.FieldType), Jvm.Cond.code ({ cls := "java/lang/Record", name := "<init>", desc := "()V" } : Jvm.MethodName) jdk_30_method_1_code (1 : Nat) (Option.none : Option Jvm.ClassFile.FieldType), Jvm.Cond.code ({ cls := "com/example/vigilant_context/vigilantcontext/finding/LoadCost", name := "toString", desc := "()Ljava/lang/String;" } : Jvm.MethodName) prog_10_method_3_code (1 : Nat) (Option.some (Jvm.ClassFile.FieldType.object "java/lang/String")), Jvm.Cond.code ({ cls := "java/lang/StringBuilder", name := "<init>", desc := "()V" } : Jvm.MethodName) jdk_67_method_1_code (1 : Nat) (Option.none : Option Jvm.ClassFile.FieldType), Jvm.Cond.code ({ cls := "java/lang/AbstractStringBuilder", name := "<init>", desc := "(I)V" } : Jvm.MethodName) jdk_68_method_2_code (2 : Nat) (Option.none : Option Jvm.ClassFile.FieldType), Jvm.Cond.code ({ cls := "java/lang/StringBuilder", name := "append", desc := "(Ljava/lang/String;)Ljava/lang/StringBuilder;" } : Jvm.MethodName) jdk_67_method_7_code (2 : Nat) (Option.some (Jvm.ClassFile.FieldType.object "java/lang/StringBuilder")), Jvm.Cond.code ({ cls := "java/lang/AbstractStringBuilder", name := "append", desc := "(Ljava/lang/String;)Ljava/lang/AbstractStringBuilder;" } : Jvm.MethodName) jdk_68_method_22_code (3 : Nat) (Option.some (Jvm.ClassFile.FieldType.object "java/lang/AbstractStringBuilder")), Jvm.Cond.code ({ cls := "java/lang/String", name := "length", desc := "()I" } : Jvm.MethodName) jdk_42_method_54_code (1 : Nat) (Option.some Jvm.ClassFile.FieldType.int), Jvm.Cond.code ({ cls := "java/lang/String", name := "coder", desc := "()B" } : Jvm.MethodName) jdk_42_method_152_code (1 : Nat) (Option.some Jvm.ClassFile.FieldType.byte), Jvm.Cond.code ({ cls := "java/lang/AbstractStringBuilder", name := "ensureCapacityInternal", desc := "(I)V" } : Jvm.MethodName) jdk_68_method_9_code (3 : Nat) (Option.none : Option Jvm.ClassFile.FieldType), Jvm.Cond.code ({ cls := "java/lang/AbstractStringBuilder", name := "putStringAt", desc := "(ILjava/lang/String;)V" } : Jvm.MethodName) jdk_68_method_73_code (3 : Nat) (Option.none : Option Jvm.ClassFile.FieldType), Jvm.Cond.code ({ cls := "java/lang/AbstractStringBuilder", name := "inflateIfNeededFor", desc := "(Ljava/lang/String;)V" } : Jvm.MethodName) jdk_68_method_71_code (2 : Nat) (Option.none : Option Jvm.ClassFile.FieldType), Jvm.Cond.code ({ cls := "java/lang/String", name := "getBytes", desc := "([BIB)V" } : Jvm.MethodName) jdk_42_method_147_code (4 : Nat) (Option.none : Option Jvm.ClassFile.FieldType), Jvm.Cond.code ({ cls := "java/lang/StringBuilder", name := "append", desc := "(J)Ljava/lang/StringBuilder;" } : Jvm.MethodName) jdk_67_method_16_code (3 : Nat) (Option.some (Jvm.ClassFile.FieldType.object "java/lang/StringBuilder")), Jvm.Cond.code ({ cls := "java/lang/AbstractStringBuilder", name := "append", desc := "(J)Ljava/lang/AbstractStringBuilder;" } : Jvm.MethodName) jdk_68_method_33_code (5 : Nat) (Option.some (Jvm.ClassFile.FieldType.object "java/lang/AbstractStringBuilder")), Jvm.Cond.code ({ cls := "java/lang/Long", name := "stringSize", desc := "(J)I" } : Jvm.MethodName) jdk_35_method_15_code (6 : Nat) (Option.some Jvm.ClassFile.FieldType.int), Jvm.Cond.code ({ cls := "java/lang/AbstractStringBuilder", name := "isLatin1", desc := "()Z" } : Jvm.MethodName) jdk_68_method_68_code (1 : Nat) (Option.some Jvm.ClassFile.FieldType.boolean), Jvm.Cond.code ({ cls := "java/lang/Long", name := "getChars", desc := "(JI[B)I" } : Jvm.MethodName) jdk_35_method_14_code (11 : Nat) (Option.some Jvm.ClassFile.FieldType.int), Jvm.Cond.code ({ cls := "java/lang/AbstractStringBuilder", name := "newCapacity", desc := "(I)I" } : Jvm.MethodName) jdk_68_method_10_code (6 : Nat) (Option.some Jvm.ClassFile.FieldType.int), Jvm.Cond.code ({ cls := "jdk/internal/util/ArraysSupport", name := "newLength", desc := "(III)I" } : Jvm.MethodName) jdk_48_method_27_code (4 : Nat) (Option.some Jvm.ClassFile.FieldType.int), Jvm.Cond.code ({ cls := "java/lang/Math", name := "max", desc := "(II)I" } : Jvm.MethodName) jdk_29_method_65_code (2 : Nat) (Option.some Jvm.ClassFile.FieldType.int), Jvm.Cond.code ({ cls := "java/util/Arrays", name := "copyOf", desc := "([BI)[B" } : Jvm.MethodName) jdk_65_method_121_code (3 : Nat) (Option.some (Jvm.ClassFile.FieldType.array Jvm.ClassFile.FieldType.byte)), Jvm.Cond.code ({ cls := "java/lang/Math", name := "min", desc := "(II)I" } : Jvm.MethodName) jdk_29_method_69_code (2 : Nat) (Option.some Jvm.ClassFile.FieldType.int), Jvm.Cond.code ({ cls := "java/lang/StringBuilder", name := "toString", desc := "()Ljava/lang/String;" } : Jvm.MethodName) jdk_67_method_42_code (1 : Nat) (Option.some (Jvm.ClassFile.FieldType.object "java/lang/String")), Jvm.Cond.code ({ cls := "java/lang/String", name := "<init>", desc := "(Ljava/lang/StringBuilder;)V" } : Jvm.MethodName) jdk_42_method_53_code (2 : Nat) (Option.none : Option Jvm.ClassFile.FieldType), Jvm.Cond.code ({ cls := "java/lang/String", name := "<init>", desc := "(Ljava/lang/AbstractStringBuilder;Ljava/lang/Void;)V" } : Jvm.MethodName) jdk_42_method_150_code (5 : Nat) (Option.none : Option Jvm.ClassFile.FieldType), Jvm.Cond.code ({ cls := "java/lang/AbstractStringBuilder", name := "getValue", desc := "()[B" } : Jvm.MethodName) jdk_68_method_64_code (1 : Nat) (Option.some (Jvm.ClassFile.FieldType.array Jvm.ClassFile.FieldType.byte)), Jvm.Cond.code ({ cls := "java/lang/StringBuilder", name := "length", desc := "()I" } : Jvm.MethodName) jdk_67_method_93_code (1 : Nat) (Option.some Jvm.ClassFile.FieldType.int), Jvm.Cond.code ({ cls := "java/lang/AbstractStringBuilder", name := "length", desc := "()I" } : Jvm.MethodName) jdk_68_method_6_code (1 : Nat) (Option.some Jvm.ClassFile.FieldType.int), Jvm.Cond.code ({ cls := "java/util/Arrays", name := "copyOfRange", desc := "([BII)[B" } : Jvm.MethodName) jdk_65_method_132_code (3 : Nat) (Option.some (Jvm.ClassFile.FieldType.array Jvm.ClassFile.FieldType.byte)), Jvm.Cond.code ({ cls := "java/util/Arrays", name := "copyOfRangeByte", desc := "([BII)[B" } : Jvm.MethodName) jdk_65_method_133_code (5 : Nat) (Option.some (Jvm.ClassFile.FieldType.array Jvm.ClassFile.FieldType.byte)), Jvm.Cond.code ({ cls := "java/util/Arrays", name := "checkLength", desc := "(II)V" } : Jvm.MethodName) jdk_65_method_131_code (2 : Nat) (Option.none : Option Jvm.ClassFile.FieldType), Jvm.Cond.code ({ cls := "java/lang/String", name := "equals", desc := "(Ljava/lang/Object;)Z" } : Jvm.MethodName) jdk_42_method_66_code (3 : Nat) (Option.some Jvm.ClassFile.FieldType.boolean), Jvm.Cond.code ({ cls := "java/lang/StringLatin1", name := "equals", desc := "([B[B)Z" } : Jvm.MethodName) jdk_43_method_13_code (3 : Nat) (Option.some Jvm.ClassFile.FieldType.boolean), Jvm.Cond.code ({ cls := "com/example/vigilant_context/vigilantcontext/finding/LoadCostToStringPinLaw", name := "negText", desc := "(III)Ljava/lang/String;" } : Jvm.MethodName) method_5_code (4 : Nat) (Option.some (Jvm.ClassFile.FieldType.object "java/lang/String"))]
set_option maxRecDepth 65536 in
theorem codes_eq : words1.filter isCode = codes1 := rfl
theorem w_codes : ∀ c ∈ words1.filter isCode, c.before args0 about1 = true := by
  rw [codes_eq]
  intro c hc
  simp only [codes1, List.mem_cons, List.not_mem_nil, or_false] at hc
  rcases hc with rfl | rfl | rfl | rfl | rfl | rfl | rfl | rfl | rfl | rfl | rfl | rfl | rfl | rfl | rfl | rfl | rfl | rfl | rfl | rfl | rfl | rfl | rfl | rfl | rfl | rfl | rfl | rfl | rfl | rfl | rfl | rfl | rfl | rfl | rfl | rfl | rfl | rfl | rfl | rfl | rfl | rfl | rfl | rfl
  · exact w_c0
  · exact w_c1
  · exact w_c2
  · exact w_c3
  · exact w_c4
  · exact w_c5
  · exact w_c6
  · exact w_c7
  · exact w_c8
  · exact w_c9
  · exact w_c10
  · exact w_c11
  · exact w_c12
  · exact w_c13
  · exact w_c14
  · exact w_c15
  · exact w_c16
  · exact w_c17
  · exact w_c18
  · exact w_c19
  · exact w_c20
  · exact w_c21
  · exact w_c22
  · exact w_c23
  · exact w_c24
  · exact w_c25
  · exact w_c26
  · exact w_c27
  · exact w_c28
  · exact w_c29
  · exact w_c30
  · exact w_c31
  · exact w_c32
  · exact w_c33
  · exact w_c34
  · exact w_c35
  · exact w_c36
  · exact w_c37
  · exact w_c38
  · exact w_c39
  · exact w_c40
  · exact w_c41
  · exact w_c42
  · exact w_c43
set_option maxRecDepth 65536 in
theorem w_t1 : (words1.take 24).all (fun c => isCode c || c.before args0 about1) = true := by decide +kernel
set_option maxRecDepth 65536 in
theorem w_t2 : ((words1.drop 24).take 24).all (fun c => isCode c || c.before args0 about1) = true := by decide +kernel
set_option maxRecDepth 65536 in
theorem w_t3 : (((words1.drop 24).drop 24).take 24).all (fun c => isCode c || c.before args0 about1) = true := by decide +kernel
set_option maxRecDepth 65536 in
theorem w_t4 : ((((words1.drop 24).drop 24).drop 24).take 24).all (fun c => isCode c || c.before args0 about1) = true := by decide +kernel
set_option maxRecDepth 65536 in
theorem w_t5 : (((((words1.drop 24).drop 24).drop 24).drop 24).take 24).all (fun c => isCode c || c.before args0 about1) = true := by decide +kernel
set_option maxRecDepth 65536 in
theorem w_t6 : ((((((words1.drop 24).drop 24).drop 24).drop 24).drop 24).take 24).all (fun c => isCode c || c.before args0 about1) = true := by decide +kernel
set_option maxRecDepth 65536 in
theorem w_t7 : (((((((words1.drop 24).drop 24).drop 24).drop 24).drop 24).drop 24).take 24).all (fun c => isCode c || c.before args0 about1) = true := by decide +kernel
set_option maxRecDepth 65536 in
theorem w_t8 : ((((((((words1.drop 24).drop 24).drop 24).drop 24).drop 24).drop 24).drop 24).take 24).all (fun c => isCode c || c.before args0 about1) = true := by decide +kernel
set_option maxRecDepth 65536 in
theorem w_t9 : (((((((((words1.drop 24).drop 24).drop 24).drop 24).drop 24).drop 24).drop 24).drop 24).take 24).all (fun c => isCode c || c.before args0 about1) = true := by decide +kernel
set_option maxRecDepth 65536 in
theorem w_t10 : (((((((((words1.drop 24).drop 24).drop 24).drop 24).drop 24).drop 24).drop 24).drop 24).drop 24).all (fun c => isCode c || c.before args0 about1) = true := by decide +kernel
theorem w_tables : (allAtoms (Jvm.Cond.code x code maxLocals ret :: tables_1)).before args0 about1 = true := by
  rw [allAtoms_all]
  show words1.all (fun c => c.before args0 about1) = true
  refine all_split ?_ w_codes
  rw [← List.take_append_drop 24 words1, List.all_append, w_t1, ← List.take_append_drop 24 (words1.drop 24), List.all_append, w_t2, ← List.take_append_drop 24 ((words1.drop 24).drop 24), List.all_append, w_t3, ← List.take_append_drop 24 (((words1.drop 24).drop 24).drop 24), List.all_append, w_t4, ← List.take_append_drop 24 ((((words1.drop 24).drop 24).drop 24).drop 24), List.all_append, w_t5, ← List.take_append_drop 24 (((((words1.drop 24).drop 24).drop 24).drop 24).drop 24), List.all_append, w_t6, ← List.take_append_drop 24 ((((((words1.drop 24).drop 24).drop 24).drop 24).drop 24).drop 24), List.all_append, w_t7, ← List.take_append_drop 24 (((((((words1.drop 24).drop 24).drop 24).drop 24).drop 24).drop 24).drop 24), List.all_append, w_t8, ← List.take_append_drop 24 ((((((((words1.drop 24).drop 24).drop 24).drop 24).drop 24).drop 24).drop 24).drop 24), List.all_append, w_t9, w_t10]
  rfl
set_option maxRecDepth 65536 in
theorem w_rest : rest_1_c.before args0 about1 = true := by decide +kernel
set_option maxRecDepth 65536 in
theorem w_case : (Jvm.Cond.and given_1 narrow_1).before args0 about1 = true := by decide +kernel
set_option maxRecDepth 65536 in
theorem w_consts : constsHeld consts_1 about1 := Jvm.Lit.constsHeldB_iff.mp (by decide +kernel)
theorem w_applies : (headSpec (Jvm.Cond.code x code maxLocals ret :: tables_1) room_1).applies x e0.platform about1 = true :=
  (Spec.applies_iff w_frames).mpr ⟨w_running, w_runnable, w_alone, w_named, w_hears, w_ripe, w_room, w_tables⟩
theorem atStart : AtStart classFile x code maxLocals ret World_1 tables_1 room_1 Calls_1 rest_1 Pre_1 launch0 p0 e0 about1 theMethod args0 below0 :=
  ⟨lists_1, trivial, launch0.admits_env _ _ _, launch0.least_env, fairChoices_fair.cas, fairChoices_fair.clock, w_frames, w_args, w_heap, w_applies, ⟨w_consts, trivial⟩, w_rest, w_case⟩
end start1
theorem witness_1 : WitnessClaimed_1 := ⟨start1.p0, start1.e0, start1.about1, start1.theMethod, start1.args0, start1.below0, start1.atStart⟩
end Jvm.Pilot.@@N@@
