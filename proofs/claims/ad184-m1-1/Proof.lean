import JvmDerived
import JvmDerived.Pilot.@@N@@Statement
import JvmDerived.Pilot.@@N@@Code
set_option linter.unusedVariables false
set_option linter.unusedSimpArgs false
@@BLOCK:NumsL.lean.txt@@
/- laws to paste: Road.backV, Road.eqW (cut by pick.py; bodies as the Statement names them) -/
namespace Jvm.Pilot.@@N@@
namespace StrChars
open Jvm Sem ClassFile Op Lib Jvm.Stand Jvm.Free.XT Jvm.Free.ALB Jvm.Free.JM Jvm.Free
open Jvm.Lib.Cold (StaticIs)
/-- a char array whose places are chars -/
def Ch (a : Addr) (A : Cell) (U : State) : Prop := Arr .char a A U ∧ Typed .char A
theorem Ch.mv {a : Addr} {A : Cell} {U U' : State} (h : Ch a A U) (hal : U.vm.Alike U'.vm) (hh : U'.heap = U.heap) : Ch a A U' := ⟨h.1.mv hal hh, h.2⟩
theorem Ch.keep {a : Addr} {A : Cell} {U U' : State} (h : Ch a A U) (hal : U.vm.Alike U'.vm) (hk : U'.heap[a]? = some A) : Ch a A U' := ⟨h.1.keep hal hk, h.2⟩
/-- what place i of a char[]'s cell holds -/
def cv (A : Cell) (i : Nat) : Int32 := match A.slots[i]? with | some (.int x) => x | _ => 0
theorem Ch.get {a : Addr} {A : Cell} {U : State} (h : Ch a A U) {i : Nat} (hi : i < A.slots.size) : A.slots[i]? = some (.int (cv A i)) := by
  have e := Array.getElem?_eq_getElem hi
  have f := h.2 i _ e
  unfold cv; rw [e]
  generalize A.slots[i] = v at f
  cases v <;> simp [fits] at f ⊢
/-- the byte that i2b leaves of a char -/
def lo8 (x : Int32) : Int32 := x.toInt8.toInt32
theorem fits_lo8 (y : Int32) : fits .byte (.int (lo8 y)) = true := by
  have h1 := y.toInt8.le_toInt
  have h2 := y.toInt8.toInt_lt
  simp only [lo8, fits, Bool.and_eq_true, decide_eq_true_eq, Int32.le_iff_toInt_le, Int8.toInt_toInt32, show (-128 : Int32).toInt = -128 from by decide, show (127 : Int32).toInt = 127 from by decide]
  omega
/-- A' is A but that each place j of lo .. hi - 1 holds f j -/
def Laid (A A' : Cell) (lo hi : Nat) (f : Nat → Value) : Prop := A'.cls = A.cls ∧ A'.vm = A.vm ∧ A'.slots.size = A.slots.size ∧ ∀ i, A'.slots[i]? = if lo ≤ i ∧ i < hi then some (f i) else A.slots[i]?
theorem Laid.zero (A : Cell) (lo : Nat) (f : Nat → Value) : Laid A A lo (lo + 0) f := ⟨rfl, rfl, rfl, fun i => by rw [if_neg (by omega)]⟩
theorem Laid.step {A Ak : Cell} {lo k : Nat} {f : Nat → Value} {v : Value} (h : Laid A Ak lo k f) (hlo : lo ≤ k) (hk : k < Ak.slots.size) (hv : v = f k) : Laid A (Ak.setSlot k v) lo (k + 1) f := by
  refine ⟨h.1, h.2.1, by simpa [Cell.setSlot] using h.2.2.1, fun i => ?_⟩
  by_cases e : k = i
  · subst e; rw [Cell.slots_setSlot_self v hk, if_pos (by omega), hv]
  · rw [Cell.slots_setSlot_ne v e, h.2.2.2 i]
    by_cases q : lo ≤ i ∧ i < k
    · rw [if_pos q, if_pos (by omega)]
    · rw [if_neg q, if_neg (by omega)]
def U16 : String := "java/lang/StringUTF16"
namespace Cmp5
def yN : MethodName := ⟨"java/lang/StringUTF16", "compress", "([CI[BII)I"⟩
abbrev yB : ByteArray := jdk_52_method_21_code
theorem d0 : decode yB 0 = .ok (.iconst 0, 1) := by decide +kernel
theorem d1 : decode yB 1 = .ok (.istore 5, 2) := by decide +kernel
theorem d3 : decode yB 3 = .ok (.iload 5, 2) := by decide +kernel
theorem d5 : decode yB 5 = .ok (.iload 4, 2) := by decide +kernel
theorem d7 : decode yB 7 = .ok (.if_icmp (.ge) 37, 3) := by decide +kernel
theorem d10 : decode yB 10 = .ok (.aload_n 0, 1) := by decide +kernel
theorem d11 : decode yB 11 = .ok (.iload_n 1, 1) := by decide +kernel
theorem d12 : decode yB 12 = .ok (.caload, 1) := by decide +kernel
theorem d13 : decode yB 13 = .ok (.istore 6, 2) := by decide +kernel
theorem d15 : decode yB 15 = .ok (.iload 6, 2) := by decide +kernel
theorem d17 : decode yB 17 = .ok (.sipush 255, 3) := by decide +kernel
theorem d20 : decode yB 20 = .ok (.if_icmp (.le) 6, 3) := by decide +kernel
theorem d26 : decode yB 26 = .ok (.aload_n 2, 1) := by decide +kernel
theorem d27 : decode yB 27 = .ok (.iload_n 3, 1) := by decide +kernel
theorem d28 : decode yB 28 = .ok (.iload 6, 2) := by decide +kernel
theorem d30 : decode yB 30 = .ok (.i2b, 1) := by decide +kernel
theorem d31 : decode yB 31 = .ok (.bastore, 1) := by decide +kernel
theorem d32 : decode yB 32 = .ok (.iinc 1 1, 3) := by decide +kernel
theorem d35 : decode yB 35 = .ok (.iinc 3 1, 3) := by decide +kernel
theorem d38 : decode yB 38 = .ok (.iinc 5 1, 3) := by decide +kernel
theorem d41 : decode yB 41 = .ok (.goto (-38), 3) := by decide +kernel
theorem d44 : decode yB 44 = .ok (.iload 4, 2) := by decide +kernel
theorem d46 : decode yB 46 = .ok (.ireturn, 1) := by decide +kernel
def site : List Cond := []
def tab : Cond := tabOf yN yB 7 (some .int) site
def P (b : Addr) (A : Cell) (d : Addr) (B : Cell) (o q len : Nat) (args : Array Value) (s : State) : Prop := args = #[.ref b, .int (Int32.ofNat o), .ref d, .int (Int32.ofNat q), .int (Int32.ofNat len)] ∧ Ch b A s ∧ Arr .byte d B s ∧ b ≠ d ∧ o + len ≤ A.slots.size ∧ q + len ≤ B.slots.size ∧ ∀ i, i < len → ¬ 255 < cv A (o + i)
def E (b : Addr) (A : Cell) (d : Addr) (B : Cell) (o q len : Nat) (r : Option Value) (s u : State) : Prop := r = some (.int (Int32.ofNat len)) ∧ ∃ B', Put d B' s u ∧ Laid B B' q (q + len) (fun j => Value.int (lo8 (cv A (o + (j - q)))))
/-- no char of the range above 255: len; the places written hold each char's low byte -/
theorem law (l : Launch) (b : Addr) (A : Cell) (d : Addr) (B : Cell) (o q len : Nat) : Law l yN 5 5 0 0 yB 7 (some .int) site (P b A d B o q len) (E b A d B o q len) (copyLocs d q len) 0 0 := by
  refine Law.of_walk (plainFor_of_name (by decide +kernel)) (by decide +kernel) (by decide +kernel) (by decide) (fun _ _ h => by rw [h.1]; rfl) (fun _ U U' hal hh h => ⟨h.1, h.2.1.mv hal hh, h.2.2.1.mv hal hh, h.2.2.2⟩) (fun r U U' V V' h1 hal h2 h => ⟨h.1, h.2.elim fun B' q => ⟨B', q.1.mv h1 h2, q.2⟩⟩) ?_
  intro p e s m args below meth c s₁ X0 hexec hbytes hml hret hlk hnm hown hh0 W hP
  obtain ⟨rfl, hA, hB, hne, l1, l2, hp⟩ := hP
  have c1 : Steps p.tables e below (s₁.setTop (entryFrame m #[.ref b, .int (Int32.ofNat o), .ref d, .int (Int32.ofNat q), .int (Int32.ofNat len)] 7)) (s₁.setTop (mkF m 0 #[.val (.ref b), .val (.int (Int32.ofNat o)), .val (.ref d), .val (.int (Int32.ofNat q)), .val (.int (Int32.ofNat len)), .unset, .unset] [])) := entry rfl
  have hA0 := hA.1.mv X0.warmed.alike hh0
  have hB0 := hB.mv X0.warmed.alike hh0
  have a31 := hA.1.2.2.2
  have c2 : Steps p.tables e below (s₁.setTop (entryFrame m #[.ref b, .int (Int32.ofNat o), .ref d, .int (Int32.ofNat q), .int (Int32.ofNat len)] 7)) (s₁.setTop (mkF m 3 #[.val (.ref b), .val (.int (Int32.ofNat o)), .val (.ref d), .val (.int (Int32.ofNat q)), .val (.int (Int32.ofNat len)), .val (.int 0), .unset] [])) := c1.trans (by
    refine iconstV X0.here hexec rfl 0 (hb hbytes d0) (by decide) ?_
    refine XS.istore X0.here hexec rfl (hb hbytes d1) rfl rfl ?_
    exact Steps.refl _)
  have loop : ∀ (r i : Nat), i + r = len → ∀ (z : Slot), (z = .unset ∨ ∃ w, z = .val w ∧ w.category = 1) → ∀ (Tl : State) (Bk : Cell), Stand p l e { frames := 0, locals := 0, cells := 0, slots := 0 } s m #[.ref b, .int (Int32.ofNat o), .ref d, .int (Int32.ofNat q), .int (Int32.ofNat len)] below meth c Tl ([] ++ copyLocs d q i) 0 0 → Put d Bk s₁ Tl → Laid B Bk q (q + i) (fun j => Value.int (lo8 (cv A (o + (j - q))))) →
      Steps p.tables e below (s₁.setTop (entryFrame m #[.ref b, .int (Int32.ofNat o), .ref d, .int (Int32.ofNat q), .int (Int32.ofNat len)] 7)) (Tl.setTop (mkF m 3 #[.val (.ref b), .val (.int (Int32.ofNat (o + i))), .val (.ref d), .val (.int (Int32.ofNat (q + i))), .val (.int (Int32.ofNat len)), .val (.int (Int32.ofNat i)), z] [])) → ∃ (T' : State) (B' : Cell) (z' : Slot), Stand p l e { frames := 0, locals := 0, cells := 0, slots := 0 } s m #[.ref b, .int (Int32.ofNat o), .ref d, .int (Int32.ofNat q), .int (Int32.ofNat len)] below meth c T' ([] ++ copyLocs d q len) 0 0 ∧ Put d B' s₁ T' ∧ Laid B B' q (q + len) (fun j => Value.int (lo8 (cv A (o + (j - q))))) ∧
      Steps p.tables e below (s₁.setTop (entryFrame m #[.ref b, .int (Int32.ofNat o), .ref d, .int (Int32.ofNat q), .int (Int32.ofNat len)] 7)) (T'.setTop (mkF m 3 #[.val (.ref b), .val (.int (Int32.ofNat (o + len))), .val (.ref d), .val (.int (Int32.ofNat (q + len))), .val (.int (Int32.ofNat len)), .val (.int (Int32.ofNat len)), z'] [])) := by
    intro r
    induction r with
    | zero =>
      intro i hi z hz Tl Bk Xl pl fl cl
      have hil : i = len := by omega
      rw [hil] at Xl fl cl
      exact ⟨Tl, Bk, z, Xl, pl, fl, cl⟩
    | succ r ih =>
      intro i hi z hz Tl Bk Xl pl fl cl
      have all := X0.warmed.alike.symm.trans Xl.warmed.alike
      have hAl := hA0.keep all (pl.other hne hA0.1)
      have hBk := hB0.like all pl.1 fl.1 fl.2.1 fl.2.2.1
      have hlt : q + i < Bk.slots.size := by rw [fl.2.2.1]; omega
      have c3 : Steps p.tables e below (s₁.setTop (entryFrame m #[.ref b, .int (Int32.ofNat o), .ref d, .int (Int32.ofNat q), .int (Int32.ofNat len)] 7)) (Tl.setTop (mkF m 12 #[.val (.ref b), .val (.int (Int32.ofNat (o + i))), .val (.ref d), .val (.int (Int32.ofNat (q + i))), .val (.int (Int32.ofNat len)), .val (.int (Int32.ofNat i)), z] [.int (Int32.ofNat (o + i)), .ref b])) := cl.trans (by
        refine XS.iload Xl.here hexec rfl (hb hbytes d3) rfl ?_
        refine XS.iload Xl.here hexec rfl (hb hbytes d5) rfl ?_
        refine XS.icmpNo Xl.here hexec rfl (hb hbytes d7) rfl (ii_ge_f (lt32 (by omega) (by omega))) ?_
        refine XS.aloadN Xl.here hexec rfl (hb hbytes d10) rfl rfl ?_
        refine XS.iloadN Xl.here hexec rfl (hb hbytes d11) rfl ?_
        exact Steps.refl _)
      have c4 : Steps p.tables e below (s₁.setTop (entryFrame m #[.ref b, .int (Int32.ofNat o), .ref d, .int (Int32.ofNat q), .int (Int32.ofNat len)] 7)) (Tl.setTop (mkF m 13 #[.val (.ref b), .val (.int (Int32.ofNat (o + i))), .val (.ref d), .val (.int (Int32.ofNat (q + i))), .val (.int (Int32.ofNat len)), .val (.int (Int32.ofNat i)), z] [.int (cv A (o + i))])) := c3.trans (by
        refine Xl.aget hexec hAl rfl (hA.get (i := o + i) (by omega)) rfl rfl (hb hbytes d12) ?_
        exact Steps.refl _)
      have c5 : Steps p.tables e below (s₁.setTop (entryFrame m #[.ref b, .int (Int32.ofNat o), .ref d, .int (Int32.ofNat q), .int (Int32.ofNat len)] 7)) (Tl.setTop (mkF m 15 #[.val (.ref b), .val (.int (Int32.ofNat (o + i))), .val (.ref d), .val (.int (Int32.ofNat (q + i))), .val (.int (Int32.ofNat len)), .val (.int (Int32.ofNat i)), .val (.int (cv A (o + i)))] [])) := c4.trans (by
        refine XS.istoreS Xl.here hexec rfl (hb hbytes d13) rfl rfl hz ?_
        exact Steps.refl _)
      have c6 : Steps p.tables e below (s₁.setTop (entryFrame m #[.ref b, .int (Int32.ofNat o), .ref d, .int (Int32.ofNat q), .int (Int32.ofNat len)] 7)) (Tl.setTop (mkF m 31 #[.val (.ref b), .val (.int (Int32.ofNat (o + i))), .val (.ref d), .val (.int (Int32.ofNat (q + i))), .val (.int (Int32.ofNat len)), .val (.int (Int32.ofNat i)), .val (.int (cv A (o + i)))] [.int (lo8 (cv A (o + i))), .int (Int32.ofNat (q + i)), .ref d])) := c5.trans (by
        refine XS.iload Xl.here hexec rfl (hb hbytes d15) rfl ?_
        refine sipushV Xl.here hexec rfl 255 (hb hbytes d17) (by decide) ?_
        refine XS.icmpYes Xl.here hexec rfl (pc0 := 20) rfl (hb hbytes d20) rfl (ii_le_t (hp i (by omega))) (by decide) rfl ?_
        refine XS.aloadN Xl.here hexec rfl (hb hbytes d26) rfl rfl ?_
        refine XS.iloadN Xl.here hexec rfl (hb hbytes d27) rfl ?_
        refine XS.iload Xl.here hexec rfl (hb hbytes d28) rfl ?_
        refine i2b Xl.here hexec rfl (hb hbytes d30) rfl ?_
        exact Steps.refl _)
      obtain ⟨T7, X7, p7, st7⟩ := Xl.aput hexec hBk rfl hlt rfl (fits_lo8 (cv A (o + i))) (g := (mkF m 31 #[.val (.ref b), .val (.int (Int32.ofNat (o + i))), .val (.ref d), .val (.int (Int32.ofNat (q + i))), .val (.int (Int32.ofNat len)), .val (.int (Int32.ofNat i)), .val (.int (cv A (o + i)))] [.int (lo8 (cv A (o + i))), .int (Int32.ofNat (q + i)), .ref d])) rfl (rest := []) rfl (hb hbytes d31)
      have c8 : Steps p.tables e below (s₁.setTop (entryFrame m #[.ref b, .int (Int32.ofNat o), .ref d, .int (Int32.ofNat q), .int (Int32.ofNat len)] 7)) (T7.setTop (mkF m 32 #[.val (.ref b), .val (.int (Int32.ofNat (o + i))), .val (.ref d), .val (.int (Int32.ofNat (q + i))), .val (.int (Int32.ofNat len)), .val (.int (Int32.ofNat i)), .val (.int (cv A (o + i)))] [])) := c6.trans (st7 _ (Steps.refl _))
      have c9 : Steps p.tables e below (s₁.setTop (entryFrame m #[.ref b, .int (Int32.ofNat o), .ref d, .int (Int32.ofNat q), .int (Int32.ofNat len)] 7)) (T7.setTop (mkF m 3 #[.val (.ref b), .val (.int (Int32.ofNat (o + i) + 1)), .val (.ref d), .val (.int (Int32.ofNat (q + i) + 1)), .val (.int (Int32.ofNat len)), .val (.int (Int32.ofNat i + 1)), .val (.int (cv A (o + i)))] [])) := c8.trans (by
        refine iincV X7.here hexec rfl 1 (hb hbytes d32) (by decide) rfl rfl ?_
        refine iincV X7.here hexec rfl 1 (hb hbytes d35) (by decide) rfl rfl ?_
        refine iincV X7.here hexec rfl 1 (hb hbytes d38) (by decide) rfl rfl ?_
        refine XS.goto X7.here hexec rfl (pc0 := 41) rfl (hb hbytes d41) (by decide) rfl ?_
        exact Steps.refl _)
      have c10 : Steps p.tables e below (s₁.setTop (entryFrame m #[.ref b, .int (Int32.ofNat o), .ref d, .int (Int32.ofNat q), .int (Int32.ofNat len)] 7)) (T7.setTop (mkF m 3 #[.val (.ref b), .val (.int (Int32.ofNat (o + (i + 1)))), .val (.ref d), .val (.int (Int32.ofNat (q + (i + 1)))), .val (.int (Int32.ofNat len)), .val (.int (Int32.ofNat (i + 1))), .val (.int (cv A (o + i)))] [])) := by
        have := c9
        rw [succ32, succ32, succ32] at this
        exact this
      exact ih (i + 1) (by omega) _ (Or.inr ⟨_, rfl, rfl⟩) T7 _ (by rw [copyLocs_step, ← List.append_assoc]; exact X7) (pl.trans p7) (fl.step (by omega) hlt (by simp)) c10
  obtain ⟨T9, B9, z9, X9, p9, f9, g9⟩ := loop len 0 (by omega) .unset (Or.inl rfl) s₁ B (by simpa [copyLocs] using X0) ⟨hB0.1, fun _ _ => rfl, rfl⟩ (Laid.zero _ _ _) c2
  have c11 : Steps p.tables e below (s₁.setTop (entryFrame m #[.ref b, .int (Int32.ofNat o), .ref d, .int (Int32.ofNat q), .int (Int32.ofNat len)] 7)) (T9.setTop (mkF m 46 #[.val (.ref b), .val (.int (Int32.ofNat (o + len))), .val (.ref d), .val (.int (Int32.ofNat (q + len))), .val (.int (Int32.ofNat len)), .val (.int (Int32.ofNat len)), z9] [.int (Int32.ofNat len)])) := g9.trans (by
    refine XS.iload X9.here hexec rfl (hb hbytes d3) rfl ?_
    refine XS.iload X9.here hexec rfl (hb hbytes d5) rfl ?_
    refine XS.icmpYes X9.here hexec rfl (pc0 := 7) rfl (hb hbytes d7) rfl (ii_ge_t (nlt32 (by omega) (Nat.le_refl _))) (by decide) rfl ?_
    refine XS.iload X9.here hexec rfl (hb hbytes d44) rfl ?_
    exact Steps.refl _)
  exact ⟨T9, some (.int (Int32.ofNat len)), _, _, _, X9, by simp, rfl, rfl, (fun h => by cases h), ⟨rfl, B9, p9.from hh0, f9⟩, fun fs hl => c11.trans (X9.ireturnOut hexec hret rfl (Or.inl rfl) (hb hbytes d46) hl)⟩
end Cmp5
namespace Cmp3
def yN : MethodName := ⟨"java/lang/StringUTF16", "compress", "([CII)[B"⟩
abbrev yB : ByteArray := jdk_52_method_16_code
theorem d0 : decode yB 0 = .ok (.iload_n 2, 1) := by decide +kernel
theorem d1 : decode yB 1 = .ok (.newarray .byte, 2) := by decide +kernel
theorem d3 : decode yB 3 = .ok (.astore_n 3, 1) := by decide +kernel
theorem d4 : decode yB 4 = .ok (.aload_n 0, 1) := by decide +kernel
theorem d5 : decode yB 5 = .ok (.iload_n 1, 1) := by decide +kernel
theorem d6 : decode yB 6 = .ok (.aload_n 3, 1) := by decide +kernel
theorem d7 : decode yB 7 = .ok (.iconst 0, 1) := by decide +kernel
theorem d8 : decode yB 8 = .ok (.iload_n 2, 1) := by decide +kernel
theorem d9 : decode yB 9 = .ok (.invokestatic 115, 3) := by decide +kernel
theorem d12 : decode yB 12 = .ok (.istore 4, 2) := by decide +kernel
theorem d14 : decode yB 14 = .ok (.iload 4, 2) := by decide +kernel
theorem d16 : decode yB 16 = .ok (.iload_n 2, 1) := by decide +kernel
theorem d17 : decode yB 17 = .ok (.if_icmp (.eq) 40, 3) := by decide +kernel
theorem d57 : decode yB 57 = .ok (.aload_n 3, 1) := by decide +kernel
theorem d58 : decode yB 58 = .ok (.areturn, 1) := by decide +kernel
def site : List Cond := [.arrayClass .byte, Cmp5.tab] ++ staticW U16 115 Cmp5.yN
def tab : Cond := tabOf yN yB 6 (some (.array .byte)) site
def P (b : Addr) (A : Cell) (o len : Nat) (args : Array Value) (s : State) : Prop := args = #[.ref b, .int (Int32.ofNat o), .int (Int32.ofNat len)] ∧ Ch b A s ∧ o + len ≤ A.slots.size ∧ len ≤ 536870912 ∧ ∀ i, i < len → ¬ 255 < cv A (o + i)
def E (b : Addr) (A : Cell) (o len : Nat) (r : Option Value) (s u : State) : Prop := NewArr .byte "[B" len (fun j => .int (lo8 (cv A (o + j)))) r s u ∧ u.heap.size = s.heap.size + 1
/-- no char of the range above 255: a new byte[] of their low bytes -/
theorem law (l : Launch) (b : Addr) (A : Cell) (o len : Nat) : Law l yN 3 3 1 18 yB 6 (some (.array .byte)) site (P b A o len) (E b A o len) [] 1 len := by
  refine Law.of_walk (plainFor_of_name (by decide +kernel)) (by decide +kernel) (by decide +kernel) (by decide) (fun _ _ h => by rw [h.1]; rfl) (fun _ U U' hal hh h => ⟨h.1, h.2.1.mv hal hh, h.2.2⟩) (fun r U U' V V' h1 hal h2 h => ⟨NewArr.mv r U U' V V' h1 hal h2 h.1, by rw [h1, h2]; exact h.2⟩) ?_
  intro p e s m args below meth c s₁ X0 hexec hbytes hml hret hlk hnm hown hh0 W hP
  obtain ⟨rfl, hA, l1, l2, hp⟩ := hP
  have a31 := hA.1.2.2.2
  have c1 : Steps p.tables e below (s₁.setTop (entryFrame m #[.ref b, .int (Int32.ofNat o), .int (Int32.ofNat len)] 6)) (s₁.setTop (mkF m 0 #[.val (.ref b), .val (.int (Int32.ofNat o)), .val (.int (Int32.ofNat len)), .unset, .unset, .unset] [])) := entry rfl
  have c2 : Steps p.tables e below (s₁.setTop (entryFrame m #[.ref b, .int (Int32.ofNat o), .int (Int32.ofNat len)] 6)) (s₁.setTop (mkF m 1 #[.val (.ref b), .val (.int (Int32.ofNat o)), .val (.int (Int32.ofNat len)), .unset, .unset, .unset] [.int (Int32.ofNat len)])) := c1.trans (by
    refine XS.iloadN X0.here hexec rfl (hb hbytes d0) rfl ?_
    exact Steps.refl _)
  obtain ⟨T3, B3, X3, ba3, bs3, bv3, bh3, bf3, st3⟩ := X0.anew hexec (atype := .byte) (wk W (.arrayClass .byte)) rfl (by show len * 1 ≤ _; omega) (by omega) (g := (mkF m 1 #[.val (.ref b), .val (.int (Int32.ofNat o)), .val (.int (Int32.ofNat len)), .unset, .unset, .unset] [.int (Int32.ofNat len)])) rfl (hb hbytes d1) (rest := []) rfl (Nat.le_refl _) (by show 0 + len ≤ len; omega)
  rw [hh0] at ba3 st3
  have kp3 : XT.Kept s T3 := (XT.Kept.of_eq hh0).push bh3
  have hA3 := hA.keep X3.warmed.alike (kp3 _ _ hA.1.1)
  have hne : b ≠ s.heap.size := hA.1.ne
  have c4 : Steps p.tables e below (s₁.setTop (entryFrame m #[.ref b, .int (Int32.ofNat o), .int (Int32.ofNat len)] 6)) (T3.setTop (mkF m 3 #[.val (.ref b), .val (.int (Int32.ofNat o)), .val (.int (Int32.ofNat len)), .unset, .unset, .unset] [.ref s.heap.size])) := c2.trans (st3 _ (Steps.refl _))
  have c5 : Steps p.tables e below (s₁.setTop (entryFrame m #[.ref b, .int (Int32.ofNat o), .int (Int32.ofNat len)] 6)) (T3.setTop (mkF m 9 #[.val (.ref b), .val (.int (Int32.ofNat o)), .val (.int (Int32.ofNat len)), .val (.ref s.heap.size), .unset, .unset] [.int (Int32.ofNat len), .int 0, .ref s.heap.size, .int (Int32.ofNat o), .ref b])) := c4.trans (by
    refine XS.astoreN X3.here hexec rfl (hb hbytes d3) rfl rfl rfl ?_
    refine XS.aloadN X3.here hexec rfl (hb hbytes d4) rfl rfl ?_
    refine XS.iloadN X3.here hexec rfl (hb hbytes d5) rfl ?_
    refine XS.aloadN X3.here hexec rfl (hb hbytes d6) rfl rfl ?_
    refine iconstV X3.here hexec rfl 0 (hb hbytes d7) (by decide) ?_
    refine XS.iloadN X3.here hexec rfl (hb hbytes d8) rfl ?_
    exact Steps.refl _)
  obtain ⟨v6, T6, X6, E6, g6⟩ := X3.callS hexec (Cmp5.law l b A s.heap.size B3 o 0 len) hown (wks W (staticW U16 115 Cmp5.yN)) (wk W Cmp5.tab) (W := 0) (Nat.le_of_ble_eq_true rfl) (Nat.le_of_ble_eq_true rfl) (Nat.le_refl _) (by show 0 + len + 0 ≤ len; omega) (g := (mkF m 9 #[.val (.ref b), .val (.int (Int32.ofNat o)), .val (.int (Int32.ofNat len)), .val (.ref s.heap.size), .unset, .unset] [.int (Int32.ofNat len), .int (Int32.ofNat 0), .ref s.heap.size, .int (Int32.ofNat o), .ref b])) rfl (by rw [hml]; rfl) c5 (argsL := [.ref b, .int (Int32.ofNat o), .ref s.heap.size, .int (Int32.ofNat 0), .int (Int32.ofNat len)]) (rest := []) rfl rfl (by show 2 * 0 + 0 ≤ _; decide) (hb hbytes d9) (⟨rfl, hA3, ba3, hne, l1, by rw [bs3]; simp, hp⟩)
  obtain ⟨rfl, B6, p6, f6⟩ := E6
  have c7 : Steps p.tables e below (s₁.setTop (entryFrame m #[.ref b, .int (Int32.ofNat o), .int (Int32.ofNat len)] 6)) (T6.setTop (mkF m 12 #[.val (.ref b), .val (.int (Int32.ofNat o)), .val (.int (Int32.ofNat len)), .val (.ref s.heap.size), .unset, .unset] [.int (Int32.ofNat len)])) := g6
  have c8 : Steps p.tables e below (s₁.setTop (entryFrame m #[.ref b, .int (Int32.ofNat o), .int (Int32.ofNat len)] 6)) (T6.setTop (mkF m 58 #[.val (.ref b), .val (.int (Int32.ofNat o)), .val (.int (Int32.ofNat len)), .val (.ref s.heap.size), .val (.int (Int32.ofNat len)), .unset] [.ref s.heap.size])) := c7.trans (by
    refine XS.istore X6.here hexec rfl (hb hbytes d12) rfl rfl ?_
    refine XS.iload X6.here hexec rfl (hb hbytes d14) rfl ?_
    refine XS.iloadN X6.here hexec rfl (hb hbytes d16) rfl ?_
    refine XS.icmpYes X6.here hexec rfl (pc0 := 17) rfl (hb hbytes d17) rfl (ii_eq_t rfl) (by decide) rfl ?_
    refine XS.aloadN X6.here hexec rfl (hb hbytes d57) rfl rfl ?_
    exact Steps.refl _)
  have X8 := X6.wide (L' := []) (cells' := 1) (slots' := len) (fun x hx hlt => by
    simp only [List.nil_append, copyLocs, List.mem_map, List.mem_range] at hx
    obtain ⟨i, -, rfl⟩ := hx
    exact absurd hlt (Nat.lt_irrefl _)) (Nat.le_refl _) (by omega)
  exact ⟨T6, some (.ref s.heap.size), _, _, _, X8, rfl, rfl, rfl, (fun h => by cases h), ⟨⟨rfl, B6, ba3.like (X3.warmed.alike.symm.trans X6.warmed.alike) p6.1 f6.1 f6.2.1 f6.2.2.1, f6.2.1.trans bv3, by rw [X6.warmed.alike.findClass, f6.1]; exact bf3, by rw [f6.2.2.1, bs3]; simp, fun j hj => by rw [f6.2.2.2 j, if_pos (by omega)]; rfl, kp3.put p6 (Nat.le_refl _)⟩, by rw [p6.2.2, bh3, hh0]; simp⟩, fun fs hl => c8.trans (X8.areturnOut hexec rfl hret rfl (hb hbytes d58) hl)⟩
end Cmp3
namespace CodL
def yN : MethodName := ⟨"java/lang/StringUTF16", "coderFromArrayLen", "([BI)B"⟩
abbrev yB : ByteArray := jdk_52_method_15_code
theorem d0 : decode yB 0 = .ok (.iload_n 1, 1) := by decide +kernel
theorem d1 : decode yB 1 = .ok (.aload_n 0, 1) := by decide +kernel
theorem d2 : decode yB 2 = .ok (.arraylength, 1) := by decide +kernel
theorem d3 : decode yB 3 = .ok (.isub, 1) := by decide +kernel
theorem d4 : decode yB 4 = .ok (.bipush 31, 2) := by decide +kernel
theorem d6 : decode yB 6 = .ok (.iushr, 1) := by decide +kernel
theorem d7 : decode yB 7 = .ok (.i2b, 1) := by decide +kernel
theorem d8 : decode yB 8 = .ok (.ireturn, 1) := by decide +kernel
def site : List Cond := []
def tab : Cond := tabOf yN yB 2 (some .byte) site
def P (d : Addr) (B : Cell) (args : Array Value) (s : State) : Prop := args = #[.ref d, .int (Int32.ofNat B.slots.size)] ∧ Arr .byte d B s
def E (r : Option Value) (s u : State) : Prop := XT.PureE (some (.int 0)) r s u
/-- an array as long as the number of chars: LATIN1 -/
theorem law (l : Launch) (d : Addr) (B : Cell) : Law l yN 2 2 0 0 yB 2 (some .byte) site (P d B) E [] 0 0 := by
  refine Law.of_walk (plainFor_of_name (by decide +kernel)) (by decide +kernel) (by decide +kernel) (by decide) (fun _ _ h => by rw [h.1]; rfl) (fun _ U U' hal hh h => ⟨h.1, h.2.mv hal hh⟩) (fun r U U' V V' h1 hal h2 h => XT.PureE.mv r U U' V V' h1 hal h2 h) ?_
  intro p e s m args below meth c s₁ X0 hexec hbytes hml hret hlk hnm hown hh0 W hP
  obtain ⟨rfl, hB⟩ := hP
  have hB0 := hB.mv X0.warmed.alike hh0
  have c1 : Steps p.tables e below (s₁.setTop (entryFrame m #[.ref d, .int (Int32.ofNat B.slots.size)] 2)) (s₁.setTop (mkF m 0 #[.val (.ref d), .val (.int (Int32.ofNat B.slots.size))] [])) := entry rfl
  have c2 : Steps p.tables e below (s₁.setTop (entryFrame m #[.ref d, .int (Int32.ofNat B.slots.size)] 2)) (s₁.setTop (mkF m 2 #[.val (.ref d), .val (.int (Int32.ofNat B.slots.size))] [.ref d, .int (Int32.ofNat B.slots.size)])) := c1.trans (by
    refine XS.iloadN X0.here hexec rfl (hb hbytes d0) rfl ?_
    refine XS.aloadN X0.here hexec rfl (hb hbytes d1) rfl rfl ?_
    exact Steps.refl _)
  have c3 : Steps p.tables e below (s₁.setTop (entryFrame m #[.ref d, .int (Int32.ofNat B.slots.size)] 2)) (s₁.setTop (mkF m 8 #[.val (.ref d), .val (.int (Int32.ofNat B.slots.size))] [.int (lo8 (ushr (Int32.ofNat B.slots.size - Int32.ofNat B.slots.size) 31))])) := c2.trans (by
    refine X0.alen hexec hB0 rfl rfl (hb hbytes d2) ?_
    refine XS.isub X0.here hexec rfl (hb hbytes d3) rfl ?_
    refine bipushV X0.here hexec rfl 31 (hb hbytes d4) (by decide) ?_
    refine iushr X0.here hexec rfl (hb hbytes d6) rfl ?_
    refine i2b X0.here hexec rfl (hb hbytes d7) rfl ?_
    exact Steps.refl _)
  have e0 : lo8 (ushr (Int32.ofNat B.slots.size - Int32.ofNat B.slots.size) 31) = 0 := by rw [Int32.sub_self]; decide
  rw [e0] at c3
  exact ⟨s₁, some (.int 0), _, _, _, X0, rfl, rfl, rfl, (fun h => by cases h), ⟨rfl, hh0⟩, fun fs hl => c3.trans (X0.ireturnOut hexec hret rfl (Or.inr (Or.inr (Or.inl rfl))) (hb hbytes d8) hl)⟩
end CodL
/-- the String at a is Latin-1 over a new byte[] (the heap's one new cell): the low bytes of the len chars of A from o on; every cell but a is kept -/
def Got (a : Addr) (D : Cell) (fV fC : Field) (A : Cell) (o len : Nat) (r : Option Value) (s u : State) : Prop := r = none ∧ ∃ D' V : Cell, Blank "java/lang/String" a D' u ∧ Same D D' [fV.slot, fC.slot] ∧ D'.slots[fV.slot]? = some (.ref s.heap.size) ∧ D'.slots[fC.slot]? = some (.int 0) ∧ Arr .byte s.heap.size V u ∧ V.vm = .none ∧ u.vm.findClass "[B" = some V.cls ∧ V.slots.size = len ∧ (∀ j, j < len → V.slots[j]? = some (.int (lo8 (cv A (o + j))))) ∧ (∀ (y : Addr) (c : Cell), y ≠ a → s.heap[y]? = some c → u.heap[y]? = some c) ∧ u.heap.size = s.heap.size + 1
theorem Got.mv {a : Addr} {D A : Cell} {fV fC : Field} {o len : Nat} : ∀ r (U U' V V' : State), U'.heap = U.heap → V.vm.Alike V'.vm → V'.heap = V.heap → Got a D fV fC A o len r U V → Got a D fV fC A o len r U' V' :=
  fun r U U' V V' h1 hal h2 ⟨e0, D', X, a1, a2, a3, a4, a5, a6, a7, a8, a9, a10, a11⟩ => ⟨e0, D', X, a1.mv hal h2, a2, by rw [h1]; exact a3, a4, by rw [h1]; exact a5.mv hal h2, a6, by rw [hal.findClass]; exact a7, a8, a9, by rw [h1, h2]; exact a10, by rw [h1, h2]; exact a11⟩
namespace New4
def yN : MethodName := ⟨"java/lang/String", "<init>", "([CIILjava/lang/Void;)V"⟩
abbrev yB : ByteArray := jdk_42_method_149_code
theorem d0 : decode yB 0 = .ok (.aload_n 0, 1) := by decide +kernel
theorem d1 : decode yB 1 = .ok (.invokespecial 1, 3) := by decide +kernel
theorem d4 : decode yB 4 = .ok (.iload_n 3, 1) := by decide +kernel
theorem d5 : decode yB 5 = .ok (.ifCond (.ne) 22, 3) := by decide +kernel
theorem d27 : decode yB 27 = .ok (.getstatic 38, 3) := by decide +kernel
theorem d30 : decode yB 30 = .ok (.ifCond (.eq) 28, 3) := by decide +kernel
theorem d33 : decode yB 33 = .ok (.aload_n 1, 1) := by decide +kernel
theorem d34 : decode yB 34 = .ok (.iload_n 2, 1) := by decide +kernel
theorem d35 : decode yB 35 = .ok (.iload_n 3, 1) := by decide +kernel
theorem d36 : decode yB 36 = .ok (.invokestatic 177, 3) := by decide +kernel
theorem d39 : decode yB 39 = .ok (.astore 5, 2) := by decide +kernel
theorem d41 : decode yB 41 = .ok (.aload_n 0, 1) := by decide +kernel
theorem d42 : decode yB 42 = .ok (.aload 5, 2) := by decide +kernel
theorem d44 : decode yB 44 = .ok (.iload_n 3, 1) := by decide +kernel
theorem d45 : decode yB 45 = .ok (.invokestatic 47, 3) := by decide +kernel
theorem d48 : decode yB 48 = .ok (.putfield 15, 3) := by decide +kernel
theorem d51 : decode yB 51 = .ok (.aload_n 0, 1) := by decide +kernel
theorem d52 : decode yB 52 = .ok (.aload 5, 2) := by decide +kernel
theorem d54 : decode yB 54 = .ok (.putfield 9, 3) := by decide +kernel
theorem d57 : decode yB 57 = .ok (.return_, 1) := by decide +kernel
def site : List Cond := [.fieldLink "java/lang/String" 38 "java/lang/String" "COMPACT_STRINGS" "Z", Cmp3.tab, CodL.tab, .laysFinal "java/lang/String" "java/lang/String" "value" "[B", .fieldLink "java/lang/String" 9 "java/lang/String" "value" "[B", .laysFinal "java/lang/String" "java/lang/String" "coder" "B", .fieldLink "java/lang/String" 15 "java/lang/String" "coder" "B"] ++ objW "java/lang/String" 1 ++ staticW "java/lang/String" 177 Cmp3.yN ++ staticW "java/lang/String" 47 CodL.yN
def tab : Cond := tabOf yN yB 6 none site
def P (a : Addr) (D : Cell) (fV fC : Field) (b : Addr) (A : Cell) (z : Int32) (o len : Nat) (args : Array Value) (s : State) : Prop := args = #[.ref a, .ref b, .int (Int32.ofNat o), .int (Int32.ofNat len), .null] ∧ Blank "java/lang/String" a D s ∧ Found "java/lang/String" "value" "[B" fV s ∧ Found "java/lang/String" "coder" "B" fC s ∧ Ch b A s ∧ StaticIs s "java/lang/String" "COMPACT_STRINGS" "Z" (.int z) ∧ ¬ z = 0 ∧ 0 < len ∧ o + len ≤ A.slots.size ∧ len ≤ 536870912 ∧ ∀ i, i < len → ¬ 255 < cv A (o + i)
def E (a : Addr) (D : Cell) (fV fC : Field) (A : Cell) (o len : Nat) (r : Option Value) (s u : State) : Prop := Got a D fV fC A o len r s u
/-- len > 0, no char of the range above 255: a Latin-1 String of their low bytes -/
theorem law (l : Launch) (a : Addr) (D : Cell) (fV fC : Field) (b : Addr) (A : Cell) (z : Int32) (o len : Nat) : Law l yN 5 4 2 35 yB 6 none site (P a D fV fC b A z o len) (E a D fV fC A o len) [⟨a, fC.slot⟩, ⟨a, fV.slot⟩] 1 len := by
  refine Law.of_walk (plainFor_of_name (by decide +kernel)) (by decide +kernel) (by decide +kernel) (by decide) (fun _ _ h => by rw [h.1]; rfl) (fun _ U U' hal hh h => ⟨h.1, h.2.1.mv hal hh, h.2.2.1.al hal, h.2.2.2.1.al hal, h.2.2.2.2.1.mv hal hh, h.2.2.2.2.2.1.there hal hh, h.2.2.2.2.2.2⟩) (fun r U U' V V' h1 hal h2 h => Got.mv r U U' V V' h1 hal h2 h) ?_
  intro p e s m args below meth c s₁ X0 hexec hbytes hml hret hlk hnm hown hh0 W hP
  obtain ⟨rfl, hB, f1, f2, hA, s1, hz, l0, l1, l2, hp⟩ := hP
  have a31 := hA.1.2.2.2
  have c1 : Steps p.tables e below (s₁.setTop (entryFrame m #[.ref a, .ref b, .int (Int32.ofNat o), .int (Int32.ofNat len), .null] 6)) (s₁.setTop (mkF m 0 #[.val (.ref a), .val (.ref b), .val (.int (Int32.ofNat o)), .val (.int (Int32.ofNat len)), .val .null, .unset] [])) := entry rfl
  have c2 : Steps p.tables e below (s₁.setTop (entryFrame m #[.ref a, .ref b, .int (Int32.ofNat o), .int (Int32.ofNat len), .null] 6)) (s₁.setTop (mkF m 1 #[.val (.ref a), .val (.ref b), .val (.int (Int32.ofNat o)), .val (.int (Int32.ofNat len)), .val .null, .unset] [.ref a])) := c1.trans (by
    refine XS.aloadN X0.here hexec rfl (hb hbytes d0) rfl rfl ?_
    exact Steps.refl _)
  obtain ⟨T3, X3, q3, st3⟩ := X0.oinit hexec hown (wks W (objW "java/lang/String" 1)) (g := (mkF m 1 #[.val (.ref a), .val (.ref b), .val (.int (Int32.ofNat o)), .val (.int (Int32.ofNat len)), .val .null, .unset] [.ref a])) rfl (by rw [hml]; rfl) (rest := []) rfl (hb hbytes d1) (W := 0) (by show 2 * 0 + 0 ≤ _; decide) (Nat.le_of_ble_eq_true rfl) (Nat.le_of_ble_eq_true rfl)
  have hh3 := q3.trans hh0
  have c4 : Steps p.tables e below (s₁.setTop (entryFrame m #[.ref a, .ref b, .int (Int32.ofNat o), .int (Int32.ofNat len), .null] 6)) (T3.setTop (mkF m 27 #[.val (.ref a), .val (.ref b), .val (.int (Int32.ofNat o)), .val (.int (Int32.ofNat len)), .val .null, .unset] [])) := (c2.trans (st3 _ (Steps.refl _))).trans (by
    refine XS.iloadN X3.here hexec rfl (hb hbytes d4) rfl ?_
    refine XS.ifYes X3.here hexec rfl (pc0 := 5) rfl (hb hbytes d5) rfl (i0_ne_t (nz32 (by omega) l0)) (by decide) rfl ?_
    exact Steps.refl _)
  obtain ⟨T5, X5, q5, st5⟩ := X3.sget hexec hown (wk W (.fieldLink "java/lang/String" 38 "java/lang/String" "COMPACT_STRINGS" "Z")) s1 (fun _ _ h => by rw [hh3]; exact h) (g := (mkF m 27 #[.val (.ref a), .val (.ref b), .val (.int (Int32.ofNat o)), .val (.int (Int32.ofNat len)), .val .null, .unset] [])) rfl (hb hbytes d27)
  have hh5 := q5.trans hh3
  have c6 : Steps p.tables e below (s₁.setTop (entryFrame m #[.ref a, .ref b, .int (Int32.ofNat o), .int (Int32.ofNat len), .null] 6)) (T5.setTop (mkF m 30 #[.val (.ref a), .val (.ref b), .val (.int (Int32.ofNat o)), .val (.int (Int32.ofNat len)), .val .null, .unset] [.int z])) := c4.trans (st5 _ (Steps.refl _))
  have c7 : Steps p.tables e below (s₁.setTop (entryFrame m #[.ref a, .ref b, .int (Int32.ofNat o), .int (Int32.ofNat len), .null] 6)) (T5.setTop (mkF m 36 #[.val (.ref a), .val (.ref b), .val (.int (Int32.ofNat o)), .val (.int (Int32.ofNat len)), .val .null, .unset] [.int (Int32.ofNat len), .int (Int32.ofNat o), .ref b])) := c6.trans (by
    refine XS.ifNo X5.here hexec rfl (hb hbytes d30) rfl (i0_eq_f hz) ?_
    refine XS.aloadN X5.here hexec rfl (hb hbytes d33) rfl rfl ?_
    refine XS.iloadN X5.here hexec rfl (hb hbytes d34) rfl ?_
    refine XS.iloadN X5.here hexec rfl (hb hbytes d35) rfl ?_
    exact Steps.refl _)
  obtain ⟨v8, T8, X8, E8, g8⟩ := X5.callS hexec (Cmp3.law l b A o len) hown (wks W (staticW "java/lang/String" 177 Cmp3.yN)) (wk W Cmp3.tab) (W := 0) (Nat.le_of_ble_eq_true rfl) (Nat.le_of_ble_eq_true rfl) (Nat.le_refl _) (by show 0 + len ≤ len; omega) (g := (mkF m 36 #[.val (.ref a), .val (.ref b), .val (.int (Int32.ofNat o)), .val (.int (Int32.ofNat len)), .val .null, .unset] [.int (Int32.ofNat len), .int (Int32.ofNat o), .ref b])) rfl (by rw [hml]; rfl) c7 (argsL := [.ref b, .int (Int32.ofNat o), .int (Int32.ofNat len)]) (rest := []) rfl rfl (by show 2 * 0 + 0 ≤ _; decide) (hb hbytes d36) (⟨rfl, hA.mv X5.warmed.alike hh5, l1, l2, hp⟩)
  obtain ⟨e8, z8⟩ := E8
  obtain ⟨rfl, N, n1, n2, n3, n4, n5, n6⟩ := NewArr.mv _ T5 s _ _ hh5.symm (Vm.Alike.refl _) rfl e8
  rw [hh5] at z8
  have hB1 := hB.keep X8.warmed.alike (n6 _ _ hB.1)
  have hne : s.heap.size ≠ a := (Nat.ne_of_lt (Array.getElem?_eq_some_iff.mp hB.1).1).symm
  have c9 : Steps p.tables e below (s₁.setTop (entryFrame m #[.ref a, .ref b, .int (Int32.ofNat o), .int (Int32.ofNat len), .null] 6)) (T8.setTop (mkF m 39 #[.val (.ref a), .val (.ref b), .val (.int (Int32.ofNat o)), .val (.int (Int32.ofNat len)), .val .null, .unset] [.ref s.heap.size])) := g8
  have c10 : Steps p.tables e below (s₁.setTop (entryFrame m #[.ref a, .ref b, .int (Int32.ofNat o), .int (Int32.ofNat len), .null] 6)) (T8.setTop (mkF m 45 #[.val (.ref a), .val (.ref b), .val (.int (Int32.ofNat o)), .val (.int (Int32.ofNat len)), .val .null, .val (.ref s.heap.size)] [.int (Int32.ofNat N.slots.size), .ref s.heap.size, .ref a])) := by
    have hc : Steps p.tables e below (s₁.setTop (entryFrame m #[.ref a, .ref b, .int (Int32.ofNat o), .int (Int32.ofNat len), .null] 6)) (T8.setTop (mkF m 45 #[.val (.ref a), .val (.ref b), .val (.int (Int32.ofNat o)), .val (.int (Int32.ofNat len)), .val .null, .val (.ref s.heap.size)] [.int (Int32.ofNat len), .ref s.heap.size, .ref a])) := c9.trans (by
      refine XS.astore X8.here hexec rfl (hb hbytes d39) rfl rfl rfl ?_
      refine XS.aloadN X8.here hexec rfl (hb hbytes d41) rfl rfl ?_
      refine XS.aload X8.here hexec rfl (hb hbytes d42) rfl rfl ?_
      refine XS.iloadN X8.here hexec rfl (hb hbytes d44) rfl ?_
      exact Steps.refl _)
    rw [n4]; exact hc
  obtain ⟨v11, T11, X11, E11, g11⟩ := X8.callS hexec (CodL.law l s.heap.size N) hown (wks W (staticW "java/lang/String" 47 CodL.yN)) (wk W CodL.tab) (W := 1) (Nat.le_of_ble_eq_true rfl) (Nat.le_of_ble_eq_true rfl) (Nat.le_refl _) (by show 0 + len + 0 ≤ len; omega) (g := (mkF m 45 #[.val (.ref a), .val (.ref b), .val (.int (Int32.ofNat o)), .val (.int (Int32.ofNat len)), .val .null, .val (.ref s.heap.size)] [.int (Int32.ofNat N.slots.size), .ref s.heap.size, .ref a])) rfl (by rw [hml]; rfl) c10 (argsL := [.ref s.heap.size, .int (Int32.ofNat N.slots.size)]) (rest := [.ref a]) rfl rfl (by show 2 * 0 + (1 + 0) ≤ _; decide) (hb hbytes d45) (⟨rfl, n1⟩)
  obtain ⟨rfl, q11⟩ := E11
  have hB11 := hB1.mv (X8.warmed.alike.symm.trans X11.warmed.alike) q11
  have c12 : Steps p.tables e below (s₁.setTop (entryFrame m #[.ref a, .ref b, .int (Int32.ofNat o), .int (Int32.ofNat len), .null] 6)) (T11.setTop (mkF m 48 #[.val (.ref a), .val (.ref b), .val (.int (Int32.ofNat o)), .val (.int (Int32.ofNat len)), .val .null, .val (.ref s.heap.size)] [.int 0, .ref a])) := g11
  obtain ⟨T13, X13, p13, bl13, sl13, st13⟩ := X11.finit hexec hown (wk W (.fieldLink "java/lang/String" 15 "java/lang/String" "coder" "B")) (Or.inr ⟨_, (wk W (.laysFinal "java/lang/String" "java/lang/String" "coder" "B"))⟩) (Or.inl ⟨rfl, hnm⟩) f2 (Or.inl rfl) hB11 (t := .byte) (by decide +kernel) rfl (g := (mkF m 48 #[.val (.ref a), .val (.ref b), .val (.int (Int32.ofNat o)), .val (.int (Int32.ofNat len)), .val .null, .val (.ref s.heap.size)] [.int 0, .ref a])) rfl (rest := []) rfl (hb hbytes d48)
  have c14 : Steps p.tables e below (s₁.setTop (entryFrame m #[.ref a, .ref b, .int (Int32.ofNat o), .int (Int32.ofNat len), .null] 6)) (T13.setTop (mkF m 54 #[.val (.ref a), .val (.ref b), .val (.int (Int32.ofNat o)), .val (.int (Int32.ofNat len)), .val .null, .val (.ref s.heap.size)] [.ref s.heap.size, .ref a])) := (c12.trans (st13 _ (Steps.refl _))).trans (by
    refine XS.aloadN X13.here hexec rfl (hb hbytes d51) rfl rfl ?_
    refine XS.aload X13.here hexec rfl (hb hbytes d52) rfl rfl ?_
    exact Steps.refl _)
  obtain ⟨T15, X15, p15, bl15, sl15, st15⟩ := X13.finit hexec hown (wk W (.fieldLink "java/lang/String" 9 "java/lang/String" "value" "[B")) (Or.inr ⟨_, (wk W (.laysFinal "java/lang/String" "java/lang/String" "value" "[B"))⟩) (Or.inl ⟨rfl, hnm⟩) f1 (Or.inl rfl) bl13 (t := (.array .byte)) (by decide +kernel) rfl (g := (mkF m 54 #[.val (.ref a), .val (.ref b), .val (.int (Int32.ofNat o)), .val (.int (Int32.ofNat len)), .val .null, .val (.ref s.heap.size)] [.ref s.heap.size, .ref a])) rfl (rest := []) rfl (hb hbytes d54)
  have c16 : Steps p.tables e below (s₁.setTop (entryFrame m #[.ref a, .ref b, .int (Int32.ofNat o), .int (Int32.ofNat len), .null] 6)) (T15.setTop (mkF m 57 #[.val (.ref a), .val (.ref b), .val (.int (Int32.ofNat o)), .val (.int (Int32.ofNat len)), .val .null, .val (.ref s.heap.size)] [])) := c14.trans (st15 _ (Steps.refl _))
  have ap := apart (Or.inr ⟨_, (wk W (.laysFinal "java/lang/String" "java/lang/String" "value" "[B"))⟩) (Or.inr ⟨_, (wk W (.laysFinal "java/lang/String" "java/lang/String" "coder" "B"))⟩) f1 f2 (t₁ := .array .byte) (t₂ := .byte) (by decide +kernel) (by decide +kernel) (by decide)
  have al := X8.warmed.alike.symm.trans X15.warmed.alike
  have n7 : T11.heap[s.heap.size]? = some N := by rw [q11]; exact n1.1
  exact ⟨T15, none, _, _, _, X15, by simp, rfl, by omega, (fun _ => rfl), ⟨rfl, _, N, bl15, ((Same.refl D _).set _ (by simp)).set _ (by simp), sl15, (Cell.slots_setSlot_ne _ ap).trans sl13, n1.keep al (p15.other hne (p13.other hne n7)), n2, by rw [al.findClass]; exact n3, n4, n5, fun y c h1 h2 => p15.other h1 (p13.other h1 (by rw [q11]; exact n6 y c h2)), by rw [p15.2.2, p13.2.2, q11]; exact z8⟩, fun fs hl => c16.trans (X15.returnOut hexec hret (hb hbytes d57) hl)⟩
end New4
namespace New1
def yN : MethodName := ⟨"java/lang/String", "<init>", "([C)V"⟩
abbrev yB : ByteArray := jdk_42_method_3_code
theorem d0 : decode yB 0 = .ok (.aload_n 0, 1) := by decide +kernel
theorem d1 : decode yB 1 = .ok (.aload_n 1, 1) := by decide +kernel
theorem d2 : decode yB 2 = .ok (.iconst 0, 1) := by decide +kernel
theorem d3 : decode yB 3 = .ok (.aload_n 1, 1) := by decide +kernel
theorem d4 : decode yB 4 = .ok (.arraylength, 1) := by decide +kernel
theorem d5 : decode yB 5 = .ok (.aconst_null, 1) := by decide +kernel
theorem d6 : decode yB 6 = .ok (.invokespecial 27, 3) := by decide +kernel
theorem d9 : decode yB 9 = .ok (.return_, 1) := by decide +kernel
def site : List Cond := [New4.tab] ++ initW "java/lang/String" 27 New4.yN
def tab : Cond := tabOf yN yB 2 none site
def P (a : Addr) (D : Cell) (fV fC : Field) (b : Addr) (A : Cell) (z : Int32) (args : Array Value) (s : State) : Prop := args = #[.ref a, .ref b] ∧ Blank "java/lang/String" a D s ∧ Found "java/lang/String" "value" "[B" fV s ∧ Found "java/lang/String" "coder" "B" fC s ∧ Ch b A s ∧ StaticIs s "java/lang/String" "COMPACT_STRINGS" "Z" (.int z) ∧ ¬ z = 0 ∧ 0 < A.slots.size ∧ A.slots.size ≤ 536870912 ∧ ∀ i, i < A.slots.size → ¬ 255 < cv A i
def E (a : Addr) (D : Cell) (fV fC : Field) (A : Cell) (r : Option Value) (s u : State) : Prop := Got a D fV fC A 0 A.slots.size r s u
/-- new String(chars), not empty, no char above 255: a Latin-1 String of their low bytes -/
theorem law (l : Launch) (a : Addr) (D : Cell) (fV fC : Field) (b : Addr) (A : Cell) (z : Int32) : Law l yN 2 1 3 52 yB 2 none site (P a D fV fC b A z) (E a D fV fC A) [⟨a, fC.slot⟩, ⟨a, fV.slot⟩] 1 A.slots.size := by
  refine Law.of_walk (plainFor_of_name (by decide +kernel)) (by decide +kernel) (by decide +kernel) (by decide) (fun _ _ h => by rw [h.1]; rfl) (fun _ U U' hal hh h => ⟨h.1, h.2.1.mv hal hh, h.2.2.1.al hal, h.2.2.2.1.al hal, h.2.2.2.2.1.mv hal hh, h.2.2.2.2.2.1.there hal hh, h.2.2.2.2.2.2⟩) (fun r U U' V V' h1 hal h2 h => Got.mv r U U' V V' h1 hal h2 h) ?_
  intro p e s m args below meth c s₁ X0 hexec hbytes hml hret hlk hnm hown hh0 W hP
  obtain ⟨rfl, hB, f1, f2, hA, s1, hz, l0, l2, hp⟩ := hP
  have c1 : Steps p.tables e below (s₁.setTop (entryFrame m #[.ref a, .ref b] 2)) (s₁.setTop (mkF m 0 #[.val (.ref a), .val (.ref b)] [])) := entry rfl
  have c2 : Steps p.tables e below (s₁.setTop (entryFrame m #[.ref a, .ref b] 2)) (s₁.setTop (mkF m 6 #[.val (.ref a), .val (.ref b)] [.null, .int (Int32.ofNat A.slots.size), .int 0, .ref b, .ref a])) := c1.trans (by
    refine XS.aloadN X0.here hexec rfl (hb hbytes d0) rfl rfl ?_
    refine XS.aloadN X0.here hexec rfl (hb hbytes d1) rfl rfl ?_
    refine iconstV X0.here hexec rfl 0 (hb hbytes d2) (by decide) ?_
    refine XS.aloadN X0.here hexec rfl (hb hbytes d3) rfl rfl ?_
    refine X0.alen hexec (hA.1.mv X0.warmed.alike hh0) rfl rfl (hb hbytes d4) ?_
    refine XS.aconstNull X0.here hexec rfl (hb hbytes d5) ?_
    exact Steps.refl _)
  obtain ⟨v3, T3, X3, E3, g3⟩ := X0.callN hexec (New4.law l a D fV fC b A z 0 A.slots.size) rfl hown (wks W (initW "java/lang/String" 27 New4.yN)) (W New4.tab (by simp only [site, List.mem_cons, List.mem_append, true_or, or_true])) (W := 0) (Nat.le_of_ble_eq_true rfl) (Nat.le_of_ble_eq_true rfl) (Nat.le_refl _) (by show 0 + A.slots.size ≤ A.slots.size; omega) (g := (mkF m 6 #[.val (.ref a), .val (.ref b)] [.null, .int (Int32.ofNat A.slots.size), .int (Int32.ofNat 0), .ref b, .ref a])) rfl (by rw [hml]; rfl) c2 (argsL := [.ref b, .int (Int32.ofNat 0), .int (Int32.ofNat A.slots.size), .null]) (rest := []) rfl rfl (by show 2 * 0 + 0 ≤ _; decide) (hb hbytes d6) (⟨rfl, hB.mv X0.warmed.alike hh0, f1.al X0.warmed.alike, f2.al X0.warmed.alike, hA.mv X0.warmed.alike hh0, s1.there X0.warmed.alike hh0, hz, l0, by omega, l2, fun i hi => by rw [Nat.zero_add]; exact hp i hi⟩)
  have e0 := Got.mv _ s₁ s _ _ hh0.symm (Vm.Alike.refl _) rfl E3
  obtain rfl := e0.1
  have c4 : Steps p.tables e below (s₁.setTop (entryFrame m #[.ref a, .ref b] 2)) (T3.setTop (mkF m 9 #[.val (.ref a), .val (.ref b)] [])) := g3
  exact ⟨T3, none, _, _, _, X3, by simp, rfl, by omega, (fun _ => rfl), e0, fun fs hl => c4.trans (X3.returnOut hexec hret (hb hbytes d9) hl)⟩
theorem pays {l : Launch} {R : Room} {p : Program} {e : Env} {below : List Frame} {s : State} {sargs : Array Value} {len W : Nat} (a : Addr) (D : Cell) (fV fC : Field) (b : Addr) (A : Cell) (z : Int32) (htab : tab.before sargs s = true) (hfr : 4 ≤ R.frames) (hlo : W + 65 ≤ R.locals) :
    Back l R p e below s sargs yN len W (fun A₁ a₁ => A₁.cells + 1 ≤ R.cells ∧ A₁.slots + A.slots.size ≤ R.slots ∧ P a D fV fC b A z a₁ A₁.U) (fun A₁ _ v₁ B₁ => E a D fV fC A v₁ A₁.U B₁.U ∧ B₁.locs = A₁.locs ++ [⟨a, fC.slot⟩, ⟨a, fV.slot⟩] ∧ B₁.cells = A₁.cells + 1 ∧ B₁.slots = A₁.slots + A.slots.size) :=
  (law l a D fV fC b A z).pays htab hfr (by omega)
end New1
/-- the byte, read back as charAt reads it, is the char -/
theorem lo8_mask {x : Int32} (h0 : ¬ x < 0) (h1 : ¬ 255 < x) : lo8 x &&& 255 = x := by
  have t : ∀ k : Fin 256, lo8 (Int32.ofNat k.val) &&& 255 = Int32.ofNat k.val := by decide +kernel
  rw [Int32.lt_iff_toInt_lt] at h0 h1
  have e0 : (0 : Int32).toInt = 0 := rfl
  have e1 : (255 : Int32).toInt = 255 := rfl
  obtain ⟨k, hk⟩ : ∃ k : Nat, x.toInt = k := ⟨x.toInt.toNat, by omega⟩
  have hx : x = Int32.ofNat k := Int32.toInt_inj.mp (by rw [hk, Int32.toInt_ofNat_small (by omega)])
  rw [hx]
  exact t ⟨k, by omega⟩
end StrChars
namespace StrChars.Road
open Jvm Sem ClassFile Op Lib Jvm.Stand Jvm.Free Jvm.Free.XT
open Jvm.Lib.Cold (StaticIs)
abbrev ST : String := "java/lang/String"
/-- every table word that New1's law asks, flat -/
abbrev words : List Jvm.Cond := [.code New1.yN New1.yB 2 none, .initialized ST, .methodLink ST 27 New4.yN, .instanceMethod New4.yN,
  .code New4.yN New4.yB 6 none, .fieldLink ST 38 ST "COMPACT_STRINGS" "Z", .laysFinal ST ST "value" "[B", .fieldLink ST 9 ST "value" "[B", .laysFinal ST ST "coder" "B", .fieldLink ST 15 ST "coder" "B",
  .methodLink ST 1 Lib.objectInit, .instanceMethod Lib.objectInit, .code Lib.objectInit ⟨#[0xb1]⟩ 1 none, .methodLink ST 177 Cmp3.yN, .static Cmp3.yN, .methodLink ST 47 CodL.yN, .static CodL.yN,
  .code Cmp3.yN Cmp3.yB 6 (some (.array .byte)), .initialized U16, .arrayClass .byte, .methodLink U16 115 Cmp5.yN, .static Cmp5.yN, .code Cmp5.yN Cmp5.yB 7 (some .int), .code CodL.yN CodL.yB 2 (some .byte)]
theorem tab_of {a : Array Value} {s : State} (h : ∀ w ∈ words, w.before a s = true) : New1.tab.before a s = true := by
  have h5 : Cmp5.tab.before a s = true := unparts (wk h (.code Cmp5.yN Cmp5.yB 7 (some .int))) (wks h (.initialized Cmp5.yN.cls :: Cmp5.site))
  have hc : CodL.tab.before a s = true := unparts (wk h (.code CodL.yN CodL.yB 2 (some .byte))) (wks h (.initialized CodL.yN.cls :: CodL.site))
  have q5 : ∀ w ∈ Cmp5.tab :: words, w.before a s = true := fun w hw => (List.mem_cons.mp hw).elim (fun e => e ▸ h5) (h w)
  have h3 : Cmp3.tab.before a s = true := unparts (wk q5 (.code Cmp3.yN Cmp3.yB 6 (some (.array .byte)))) (wks q5 (.initialized Cmp3.yN.cls :: Cmp3.site))
  have q3 : ∀ w ∈ Cmp3.tab :: CodL.tab :: words, w.before a s = true := fun w hw => (List.mem_cons.mp hw).elim (fun e => e ▸ h3) fun hw => (List.mem_cons.mp hw).elim (fun e => e ▸ hc) (h w)
  have h4 : New4.tab.before a s = true := unparts (wk q3 (.code New4.yN New4.yB 6 none)) (wks q3 (.initialized New4.yN.cls :: New4.site))
  have q4 : ∀ w ∈ New4.tab :: words, w.before a s = true := fun w hw => (List.mem_cons.mp hw).elim (fun e => e ▸ h4) (h w)
  exact unparts (wk q4 (.code New1.yN New1.yB 2 none)) (wks q4 (.initialized New1.yN.cls :: New1.site))
/-- the words ride from the start Z to the walk's own state -/
theorem moved {Z s : State} {a0 args : Array Value} (hZ : Z.Warmed39 s.vm) (hw : ∀ d ∈ words, d.before a0 Z = true) : ∀ d ∈ words, d.before args s = true := fun d hd => by
  have q := hw d hd
  have t : ∀ d ∈ words, d = .arrayClass .byte ∨ (d.onTables && d.keepsFace) = true := by decide +kernel
  rcases t d hd with rfl | t
  · exact RoadKit.mvA hZ q
  · exact RoadKit.mv hZ q t
/-- WHAT COMES BACK, over the tables of the start Z: h the heap at the call, h' behind it -/
def Q (Z : State) (x : Addr) (A : Cell) (h : Heap) (v : Option Value) (h' : Heap) (L : List Loc) : Prop := v = none ∧ (∀ y ∈ L, y.base = x) ∧ RoadKit.Keep h h' [x] ∧ h'.size = h.size + 1 ∧ RoadKit.Exa Z h' x ST ∧ RoadKit.Fld Z h' x ST "value" "[B" (.ref h.size) ∧ RoadKit.Fld Z h' x ST "coder" "B" (.int 0) ∧
  (∃ V : Cell, RoadKit.Arr Z h' h.size V .byte ∧ V.vm = .none ∧ Z.vm.findClass "[B" = some V.cls ∧ V.slots.size = A.slots.size ∧ ∀ j, j < A.slots.size → V.slots[j]? = some (.int (lo8 (cv A j)))) ∧
  ∀ (O n d : String) (w : Value), RoadKit.Fld Z h x O n d w → RoadKit.slotOf Z O n d ≠ RoadKit.slotOf Z ST "value" "[B" → RoadKit.slotOf Z O n d ≠ RoadKit.slotOf Z ST "coder" "B" → RoadKit.Fld Z h' x O n d w
/-- **new String(chars) AT A CALL, IN THE ROAD'S FORM**: for specialBack behind newO: x the fresh String, b the char[] with the cell A -/
theorem back {p : Program} {l : Launch} {e : Env} {R : Room} {s : State} {args : Array Value} {below : List Frame} {len W : Nat} {Z : State} {a0 : Array Value} {h : Heap} (hZ : Z.Warmed39 s.vm) (hw : ∀ d ∈ words, d.before a0 Z = true) {kI : Nat} (wi : (Jvm.Cond.instantiable ST kI).before a0 Z = true)
    {x b : Addr} {A : Cell} {z : Int32} {v0 c0 : Value} (E : RoadKit.Exa Z h x ST) (V : RoadKit.Fld Z h x ST "value" "[B" v0) (C : RoadKit.Fld Z h x ST "coder" "B" c0) (K : RoadKit.Arr Z h b A .char) (hty : Typed .char A) (S : RoadKit.Sta Z h ST "COMPACT_STRINGS" "Z" (.int z)) (hz : ¬ z = 0)
    (l0 : 0 < A.slots.size) (l2 : A.slots.size ≤ 536870912) (hp : ∀ i, i < A.slots.size → ¬ 255 < cv A i) (hfr : 4 ≤ R.frames) (hlo : W + 65 ≤ R.locals) :
    Back l R p e below s args New1.yN len W (fun P a => a = #[.ref x, .ref b] ∧ P.U.heap = h ∧ P.cells + 1 ≤ R.cells ∧ P.slots + A.slots.size ≤ R.slots)
      (fun P _ v B => ∃ L, Q Z x A h v B.U.heap L ∧ B.locs = P.locs ++ L ∧ B.cells = P.cells + 1 ∧ B.slots = P.slots + A.slots.size) := by
  intro m meth c P g ig mk a X hg hsize hdg hW hn hp'
  obtain ⟨rfl, rfl, r1, r2⟩ := hp'
  have al : Z.vm.Alike P.U.vm := hZ.alike.trans X.warmed.alike
  obtain ⟨D, cfV, kV, iV, fV, hD, gV, stV, knV, obV, asV, slV⟩ := id V
  obtain ⟨D', cfC, kC, iC, fC, hD', gC, stC, -, -, asC, slC⟩ := id C
  cases hD.symm.trans hD'
  obtain ⟨D2, kD, e1, e2, e3, e4, e5⟩ := id E
  cases hD.symm.trans e1
  obtain ⟨c2, k2, i1, i2, i3, -⟩ := Cond.instantiable_spec wi
  cases e2.symm.trans i1
  cases e3.symm.trans i2
  obtain ⟨kU, u1, u2⟩ := al.2.2 _ _ e3
  have hB : Blank ST x D P.U := ⟨hD, ⟨knV, fun q hq => by rw [hq] at obV; cases obV⟩, by rw [al.findClass]; exact e2, kU, u1, by rw [u2]; exact i3, by rw [u2]; exact e5 i3⟩
  have F1 : Found ST "value" "[B" fV P.U := ⟨SBG.found_only al ⟨cfV, kV, iV, gV⟩, stV⟩
  have F2 : Found ST "coder" "B" fC P.U := ⟨SBG.found_only al ⟨cfC, kC, iC, gC⟩, stC⟩
  have hA : Ch b A P.U := ⟨⟨K.1, State.isArrayOf_alike al K.2.1, K.2.2, by omega⟩, hty⟩
  have hS : StaticIs P.U ST "COMPACT_STRINGS" "Z" (.int z) := by
    obtain ⟨cfS, iS, kS, fS, st, cS, t1, t2, t3, t4, t5, t6, t7⟩ := S
    exact StaticIs.there (s := { Z with heap := P.U.heap }) ⟨cfS, iS, kS, fS, st, cS, t1, t2, t3, t4, t5, (fun q => by rw [q] at t6; cases t6), t7⟩ al rfl
  obtain ⟨v, B, X', ⟨⟨hv, E', V', q1, q2, q3, q4, q5, q6, q7, q8, q9, q10, q11⟩, hl, hc, hs⟩, st⟩ := New1.pays x D fV fC b A z (tab_of (moved hZ hw)) hfr hlo m meth c P g ig mk _ X hg hsize hdg hW hn ⟨r1, r2, rfl, hB, F1, F2, hA, hS, hz, l0, l2, hp⟩
  have al' : Z.vm.Alike B.U.vm := hZ.alike.trans X'.warmed.alike
  have hsz : E'.slots.size = D.slots.size := by
    obtain ⟨-, -, -, kB, w1, w2, w3⟩ := q1
    obtain ⟨kB', y1, y2⟩ := al'.2.2 _ _ e3
    rw [q2.2.1] at w1
    cases w1.symm.trans y1
    rw [w3, e5 i3, y2]
  refine ⟨v, B, X', ⟨_, ⟨hv, ?_, ⟨by omega, fun y cy hy hn' => q10 y cy (by simpa using hn') hy, fun y cy hy => ?_⟩, q11, ⟨E', _, q1.1, by rw [q2.2.1]; exact e2, by rw [q2.2.1]; exact e3, by rw [q2.1]; exact obV, fun _ => by rw [hsz]; exact e5 i3⟩,
    ⟨E', cfV, kV, iV, fV, q1.1, gV, stV, by rw [q2.1]; exact knV, by rw [q2.1]; exact obV, by rw [q2.2.1]; exact asV, q3⟩, ⟨E', cfC, kC, iC, fC, q1.1, gC, stC, by rw [q2.1]; exact knV, by rw [q2.1]; exact obV, by rw [q2.2.1]; exact asC, q4⟩,
    ⟨V', ⟨q5.1, State.isArrayOf_alike al'.symm q5.2.1, q5.2.2.1⟩, q6, by rw [← al'.findClass]; exact q7, q8, fun j hj => by have := q9 j hj; rwa [Nat.zero_add] at this⟩, fun O n d w F n1 n2 => ?_⟩, hl, hc, hs⟩, st⟩
  · intro y hy
    simp only [List.mem_cons, List.not_mem_nil, or_false] at hy
    rcases hy with rfl | rfl <;> rfl
  · by_cases q : y = x
    · subst q
      cases hD.symm.trans hy
      exact ⟨E', q1.1, q2.2.1, q2.1, hsz⟩
    · exact ⟨cy, q10 y cy q hy, rfl, rfl, rfl⟩
  · obtain ⟨D3, cf, k, i, f, g1, g2, g3, g4, g5, g6, g7⟩ := F
    cases hD.symm.trans g1
    simp only [RoadKit.slotOf, g2, gV, gC, Option.map_some, Option.getD_some] at n1 n2
    exact ⟨E', cf, k, i, f, q1.1, g2, g3, by rw [q2.1]; exact g4, by rw [q2.1]; exact g5, by rw [q2.2.1]; exact g6, by rw [q2.2.2 f.slot (by simp [n1, n2])]; exact g7⟩
end StrChars.Road
namespace StrChars.Road
open Jvm Sem ClassFile Op Lib Jvm.Stand Jvm.Free Jvm.Free.XT
/-- WHAT COMES BACK, the byte[] as a list of values -/
def QA (Z : State) (x : Addr) (zn : Int32) (cs : List Int32) (h : Heap) (v : Option Value) (h' : Heap) (L : List Loc) : Prop := v = none ∧ (∀ y ∈ L, y.base = x) ∧ RoadKit.Keep h h' [x] ∧ h'.size = h.size + 1 ∧ RoadKit.Exa Z h' x ST ∧ RoadKit.Fld Z h' x ST "value" "[B" (.ref h.size) ∧ RoadKit.Fld Z h' x ST "coder" "B" (.int 0) ∧
  (∃ kb, Z.vm.findClass "[B" = some kb ∧ RoadKit.Arv Z h' h.size kb .byte zn (cs.map fun c => .int (lo8 c)) (.int 0)) ∧
  ∀ (O n d : String) (w : Value), RoadKit.Fld Z h x O n d w → RoadKit.slotOf Z O n d ≠ RoadKit.slotOf Z ST "value" "[B" → RoadKit.slotOf Z O n d ≠ RoadKit.slotOf Z ST "coder" "B" → RoadKit.Fld Z h' x O n d w
/-- **new String(chars) AT A CALL, THE ARRAYS AS LISTS**: the char[] at b holds cs, not empty, no char above 255 -/
theorem backArv {p : Program} {l : Launch} {e : Env} {R : Room} {s : State} {args : Array Value} {below : List Frame} {len W : Nat} {Z : State} {a0 : Array Value} {h : Heap} (hZ : Z.Warmed39 s.vm) (hw : ∀ d ∈ words, d.before a0 Z = true) {kI : Nat} (wi : (Jvm.Cond.instantiable ST kI).before a0 Z = true)
    {x b : Addr} {k : ClassId} {zn z : Int32} {cs : List Int32} {dv v0 c0 : Value} (E : RoadKit.Exa Z h x ST) (V : RoadKit.Fld Z h x ST "value" "[B" v0) (C : RoadKit.Fld Z h x ST "coder" "B" c0) (K : RoadKit.Arv Z h b k .char zn (cs.map Value.int) dv) (S : RoadKit.Sta Z h ST "COMPACT_STRINGS" "Z" (.int z)) (hz : ¬ z = 0)
    (hlen : zn.toNatClampNeg = cs.length) (h0 : 0 < cs.length) (hbig : cs.length ≤ 536870912) (hall : ∀ c ∈ cs, ¬ 255 < c) (hfr : 4 ≤ R.frames) (hlo : W + 65 ≤ R.locals) :
    Back l R p e below s args New1.yN len W (fun P a => a = #[.ref x, .ref b] ∧ P.U.heap = h ∧ P.cells + 1 ≤ R.cells ∧ P.slots + cs.length ≤ R.slots)
      (fun P _ v B => ∃ L, QA Z x zn cs h v B.U.heap L ∧ B.locs = P.locs ++ L ∧ B.cells = P.cells + 1 ∧ B.slots = P.slots + cs.length) := by
  obtain ⟨A, K1, K2, K3, K4, K5, K6⟩ := K
  have e : A.slots.size = cs.length := K3.trans hlen
  have hat : ∀ (i : Nat) (hi : i < cs.length), A.slots[i]? = some (.int cs[i]) := fun i hi => by rw [K5 i (by omega)]; simp [List.getD_eq_getElem?_getD, hi]
  have hcv : ∀ (i : Nat) (hi : i < cs.length), cv A i = cs[i] := fun i hi => by unfold cv; rw [hat i hi]
  have hty : Typed .char A := fun i v hv => by
    have hi : i < A.slots.size := (Array.getElem?_eq_some_iff.mp hv).1
    have q := K5 i hi
    rw [hv] at q
    rw [Option.some.inj q]
    exact K6 i hi
  refine Back.mono (back hZ hw wi E V C K1 hty S hz (by omega) (by omega) (fun i hi => by rw [hcv i (by omega)]; exact hall _ (List.getElem_mem _)) hfr hlo) (fun P a hp => ⟨hp.1, hp.2.1, hp.2.2.1, by rw [e]; exact hp.2.2.2⟩) (fun P a v B hp hq => ?_)
  obtain ⟨L, ⟨q1, q2, q3, q4, q5, q6, q7, ⟨V', v1, v2, v3, v4, v5⟩, q9⟩, hl, hc, hs⟩ := hq
  refine ⟨L, ⟨q1, q2, q3, q4, q5, q6, q7, ⟨V'.cls, v3, V', v1, rfl, by rw [v4, e, hlen], K4, fun i hi => ?_, fun i hi => ?_⟩, q9⟩, hl, hc, by rw [hs, e]⟩
  · have hi' : i < cs.length := by omega
    rw [v5 i (by omega), hcv i hi']; simp [List.getD_eq_getElem?_getD, hi']
  · have hi' : i < cs.length := by omega
    simp only [List.getD_eq_getElem?_getD, List.getElem?_map, List.getElem?_eq_getElem hi', Option.map_some, Option.getD_some]
    exact fits_lo8 _
end StrChars.Road
namespace StrChars.Road
open Jvm Sem ClassFile Op Lib Jvm.Stand Jvm.Free Jvm.Free.XT
/-- WHAT COMES BACK, in the writer's own shape -/
def QV (Z : State) (x : Addr) (N : Int32) (bs : List Int32) (h : Heap) (n0 : Nat) (v : Option Value) (h' : Heap) (L : List Loc) : Prop := v = none ∧ RoadKit.Fr n0 L ∧ RoadKit.Keep h h' [x] ∧ RoadKit.Exa Z h' x ST ∧ RoadKit.Fld Z h' x ST "coder" "B" (.int 0) ∧
  ∃ (t : Addr) (kb : ClassId), n0 ≤ t ∧ h.size ≤ t ∧ ¬ t = x ∧ RoadKit.Fld Z h' x ST "value" "[B" (.ref t) ∧ RoadKit.Arv Z h' t kb .byte N (bs.map Value.int) (.int 0)
/-- **new String(chars) AT A CALL, FOR THE WRITER**: a char[] of n known ints, each 0 to 255 -/
theorem backV {p : Program} {l : Launch} {e : Env} {R : Room} {s : State} {args : Array Value} {below : List Frame} {len W : Nat} {Z : State} {a0 : Array Value} {h : Heap} (hZ : Z.Warmed39 s.vm) (hw : ∀ d ∈ words, d.before a0 Z = true) {kI : Nat} (wi : (Jvm.Cond.instantiable ST kI).before a0 Z = true)
    {x b : Addr} {kC : ClassId} {cs bs : List Int32} {d v0 c0 : Value} {z N : Int32} {n n0 : Nat} (hx0 : n0 ≤ x) (hh0 : n0 ≤ h.size) (E : RoadKit.Exa Z h x ST) (V : RoadKit.Fld Z h x ST "value" "[B" v0) (C : RoadKit.Fld Z h x ST "coder" "B" c0) (K : RoadKit.Arv Z h b kC .char N (cs.map Value.int) d) (S : RoadKit.Sta Z h ST "COMPACT_STRINGS" "Z" (.int z)) (hz : ¬ z = 0)
    (hn : cs.length = n) (hN : N = Int32.ofNat n) (l0 : 0 < n) (l2 : n ≤ 4000) (hp : ∀ c ∈ cs, ¬ c < 0 ∧ ¬ (255 : Int32) < c) (hb : bs = cs.map (fun c => c.toInt8.toInt32)) (hfr : 4 ≤ R.frames) (hlo : W + 65 ≤ R.locals) :
    Back l R p e below s args (⟨"java/lang/String", "<init>", "([C)V"⟩ : MethodName) len W (fun P a => a = #[.ref x, .ref b] ∧ P.U.heap = h ∧ P.cells + 1 ≤ R.cells ∧ P.slots + n ≤ R.slots)
      (fun P _ v B => ∃ L, QV Z x N bs h n0 v B.U.heap L ∧ B.locs = P.locs ++ L ∧ B.cells = P.cells + 1 ∧ B.slots = P.slots + n) := by
  subst hn hN hb
  refine Back.mono (backArv hZ hw wi E V C K S hz (n32 (by omega)) l0 (by omega) (fun c hc => (hp c hc).2) hfr hlo) (fun P a hp => hp) (fun P a v B hp hq => ?_)
  obtain ⟨L, ⟨q1, q2, q3, q4, q5, q6, q7, ⟨kb, v1, v2⟩, q9⟩, hl, hc, hs⟩ := hq
  exact ⟨L, ⟨q1, fun y hy => by rw [q2 y hy]; exact hx0, q3, q5, q7, h.size, kb, hh0, Nat.le_refl _, Nat.ne_of_gt E.lt, q6, by rw [List.map_map]; exact v2⟩, hl, hc, hs⟩
end StrChars.Road
namespace StrChars
open Jvm Sem ClassFile Op Lib Jvm.Stand Jvm.Free.XT Jvm.Free.ALB Jvm.Free.JM Jvm.Free
open Jvm.Lib.Cold (StaticIs)
def hi8 (x : Int32) : Int32 := lo8 (x >>> ((8 : Int32) &&& 31))
/-- what StringUTF16.getChar makes of two bytes -/
def pairCh (u v : Int32) : Int32 := (((u &&& 255) <<< ((0 : Int32) &&& 31)) ||| ((v &&& 255) <<< ((8 : Int32) &&& 31))).toUInt32.toUInt16.toUInt32.toInt32
theorem lo8_and (x : Int32) : (lo8 x &&& 255).toBitVec.toNat = x.toBitVec.toNat % 256 := by
  have h : (lo8 x).toBitVec = (x.toBitVec.signExtend 8).signExtend 32 := by rw [lo8, Int8.toBitVec_toInt32, Int32.toBitVec_toInt8]
  rw [Int32.toBitVec_and, BitVec.toNat_and, h]
  have e : ((x.toBitVec.signExtend 8).signExtend 32).toNat % 256 = x.toBitVec.toNat % 256 := by
    rw [BitVec.toNat_signExtend]
    have hlt := x.toBitVec.isLt
    simp only [BitVec.toNat_setWidth, BitVec.toNat_signExtend]
    split <;> split <;> omega
  rw [← e]
  exact Nat.and_two_pow_sub_one_eq_mod _ 8
theorem pair_says {c : Int32} (h0 : ¬ c < 0) (h1 : ¬ 65535 < c) : pairCh (lo8 c) (hi8 c) = c := by
  rw [Int32.lt_iff_toInt_lt] at h0 h1
  have e0 : (0 : Int32).toInt = 0 := rfl
  have e1 : (65535 : Int32).toInt = 65535 := rfl
  have hc : c.toInt = c.toBitVec.toNat := by
    have := c.toBitVec.isLt
    have e : c.toInt = c.toBitVec.toInt := rfl
    rw [e] at h0 h1
    rw [e]
    rw [BitVec.toInt_eq_toNat_cond] at h0 h1 ⊢
    split at h0 <;> split <;> omega
  have hn : c.toBitVec.toNat < 65536 := by omega
  have a1 := lo8_and c
  have a2 : (hi8 c &&& 255).toBitVec.toNat = c.toBitVec.toNat / 256 := by
    rw [hi8, lo8_and]
    have e : ((8 : Int32) &&& 31) = 8 := by decide
    rw [e, Int32.toBitVec_shiftRight]
    have e2 : ((8 : Int32).toBitVec.smod 32) = 8#32 := by decide
    rw [e2, BitVec.sshiftRight_eq', BitVec.toNat_sshiftRight_of_msb_false (by rw [BitVec.msb_eq_false_iff_two_mul_lt]; omega)]
    show c.toBitVec.toNat >>> 8 % 256 = _
    rw [Nat.shiftRight_eq_div_pow]
    omega
  unfold pairCh
  apply Int32.toBitVec_inj.mp
  apply BitVec.eq_of_toNat_eq
  have f0 : ((0 : Int32) &&& 31) = 0 := by decide
  have f8 : ((8 : Int32) &&& 31) = 8 := by decide
  rw [f0, f8]
  have g : (((lo8 c &&& 255) <<< (0 : Int32)) ||| ((hi8 c &&& 255) <<< (8 : Int32))).toBitVec.toNat = c.toBitVec.toNat := by
    rw [Int32.toBitVec_or, Int32.toBitVec_shiftLeft, Int32.toBitVec_shiftLeft]
    have s0 : ((0 : Int32).toBitVec.smod 32) = 0#32 := by decide
    have s8 : ((8 : Int32).toBitVec.smod 32) = 8#32 := by decide
    rw [s0, s8, BitVec.toNat_or]
    simp only [BitVec.shiftLeft_eq', BitVec.toNat_shiftLeft, a1, a2]
    show (c.toBitVec.toNat % 256) <<< 0 % 2 ^ 32 ||| (c.toBitVec.toNat / 256) <<< 8 % 2 ^ 32 = _
    rw [Nat.shiftLeft_zero, Nat.mod_eq_of_lt (show c.toBitVec.toNat % 256 < 2 ^ 32 by omega), Nat.mod_eq_of_lt (show (c.toBitVec.toNat / 256) <<< 8 < 2 ^ 32 by rw [Nat.shiftLeft_eq]; omega), Nat.or_comm, ← Nat.shiftLeft_add_eq_or_of_lt (by omega), Nat.shiftLeft_eq]
    omega
  show BitVec.toNat (((((lo8 c &&& 255) <<< (0 : Int32)) ||| ((hi8 c &&& 255) <<< (8 : Int32))).toBitVec.setWidth 16).setWidth 32) = _
  rw [BitVec.toNat_setWidth, BitVec.toNat_setWidth, g]
  omega
end StrChars
namespace StrChars
open Jvm Sem ClassFile Op Lib Jvm.Stand Jvm.Free.XT Jvm.Free.ALB Jvm.Free.JM Jvm.Free
open Jvm.Lib.Cold (StaticIs)
/-- the array's cell V codes the n chars f 0 .. f (n - 1) by the coder cd, as the JDK does: coder 1 just where some char is above 255 -/
def Cod (cd : Int32) (n : Nat) (f : Nat → Int32) (V : Cell) : Prop := (cd = 0 ∧ V.slots.size = n ∧ ∀ j, j < n → V.slots[j]? = some (.int (lo8 (f j))) ∧ ¬ 255 < f j) ∨ (cd = 1 ∧ V.slots.size = 2 * n ∧ (∀ j, j < n → V.slots[2 * j]? = some (.int (lo8 (f j))) ∧ V.slots[2 * j + 1]? = some (.int (hi8 (f j)))) ∧ ∃ j, j < n ∧ 255 < f j)
/-- **x is a String of the n chars f 0 .. f (n - 1)**, Latin-1 or UTF-16; its array at t has the cell V -/
def Txt (x t : Addr) (V : Cell) (cd : Int32) (n : Nat) (f : Nat → Int32) (U : State) : Prop := Exact "java/lang/String" x U ∧ Has x "java/lang/String" "value" "[B" (.ref t) U ∧ Has x "java/lang/String" "coder" "B" (.int cd) U ∧ XT.Arr .byte t V U ∧ Cod cd n f V ∧ ∀ j, j < n → ¬ f j < 0 ∧ ¬ 65535 < f j
theorem Txt.mv {x t : Addr} {V : Cell} {cd : Int32} {n : Nat} {f : Nat → Int32} {U U' : State} (h : Txt x t V cd n f U) (hal : U.vm.Alike U'.vm) (hh : U'.heap = U.heap) : Txt x t V cd n f U' := ⟨h.1.mv hal hh, h.2.1.mv hal hh, h.2.2.1.mv hal hh, h.2.2.2.1.mv hal hh, h.2.2.2.2⟩
end StrChars
namespace StrChars.Road
open Jvm Sem ClassFile Op Lib Jvm.Stand Jvm.Free Jvm.Free.XT
open Jvm.Lib.Cold (StaticIs)
theorem consq {a : Array Value} {s : State} {c : Jvm.Cond} {L : List Jvm.Cond} (h0 : c.before a s = true) (h : ∀ w ∈ L, w.before a s = true) : ∀ w ∈ c :: L, w.before a s = true := fun w hw => (List.mem_cons.mp hw).elim (fun e => e ▸ h0) (h w)
/-- the bytes of the chars cs, low before high -/
def wideBytes : List Int32 → List Value
  | [] => []
  | c :: cs => .int (lo8 c) :: .int (hi8 c) :: wideBytes cs
theorem wide_lo (d : Value) : ∀ (cs : List Int32) (j : Nat), j < cs.length → (wideBytes cs).getD (2 * j) d = .int (lo8 (cs.getD j 0))
  | [], j, h => absurd h (Nat.not_lt_zero j)
  | c :: cs, 0, _ => rfl
  | c :: cs, j + 1, h => by
    have q := wide_lo d cs j (by simpa using h)
    rw [show 2 * (j + 1) = 2 * j + 1 + 1 from by omega]
    simpa [wideBytes] using q
theorem wide_hi (d : Value) : ∀ (cs : List Int32) (j : Nat), j < cs.length → (wideBytes cs).getD (2 * j + 1) d = .int (hi8 (cs.getD j 0))
  | [], j, h => absurd h (Nat.not_lt_zero j)
  | c :: cs, 0, _ => rfl
  | c :: cs, j + 1, h => by
    have q := wide_hi d cs j (by simpa using h)
    rw [show 2 * (j + 1) + 1 = 2 * j + 1 + 1 + 1 from by omega]
    simpa [wideBytes] using q
theorem low_at (d : Value) (cs : List Int32) (j : Nat) (h : j < cs.length) : (cs.map fun c => Value.int (lo8 c)).getD j d = .int (lo8 (cs.getD j 0)) := by
  simp [List.getD_eq_getElem?_getD, h]
/-- an array of N2 bytes vs codes the chars cs by the coder cd -/
def CodA (cs : List Int32) (cd N2 : Int32) (vs : List Value) : Prop := (cd = 0 ∧ N2 = Int32.ofNat cs.length ∧ vs = (cs.map fun c => Value.int (lo8 c)) ∧ ∀ c ∈ cs, ¬ 255 < c) ∨ (cd = 1 ∧ N2 = Int32.ofNat (2 * cs.length) ∧ vs = wideBytes cs ∧ ∃ c ∈ cs, 255 < c)
theorem CodA.cod {cs : List Int32} {cd N2 : Int32} {vs : List Value} {V : Cell} (h : CodA cs cd N2 vs) (hn : 2 * cs.length < 2 ^ 31) (hs : V.slots.size = N2.toNatClampNeg) (hv : RoadKit.Has V vs (.int 0)) : Cod cd cs.length (fun j => cs.getD j 0) V := by
  rcases h with ⟨rfl, rfl, rfl, h⟩ | ⟨rfl, rfl, rfl, c, hc, hw⟩
  · rw [n32 (by omega)] at hs
    exact Or.inl ⟨rfl, hs, fun j hj => ⟨by rw [hv j (by omega), low_at _ _ _ hj], by
      have e : cs.getD j 0 = cs[j] := by simp [List.getD_eq_getElem?_getD, hj]
      show ¬ 255 < cs.getD j 0
      rw [e]; exact h _ (List.getElem_mem _)⟩⟩
  · rw [n32 (by omega)] at hs
    obtain ⟨j, hj, rfl⟩ := List.getElem_of_mem hc
    exact Or.inr ⟨rfl, hs, fun j hj => ⟨by rw [hv _ (by omega), wide_lo _ _ _ hj], by rw [hv _ (by omega), wide_hi _ _ _ hj]⟩, j, hj, by
      have e : cs.getD j 0 = cs[j] := by simp [List.getD_eq_getElem?_getD, hj]
      show 255 < cs.getD j 0
      rw [e]; exact hw⟩
/-- an object of exactly java/lang/String, its two fields found: as the laws ask it -/
theorem strObj {Z U : State} {a0 : Array Value} {kI : Nat} (wi : (Jvm.Cond.instantiable ST kI).before a0 Z = true) (al : Z.vm.Alike U.vm) {x : Addr} {v0 c0 : Value} (E : RoadKit.Exa Z U.heap x ST) (V : RoadKit.Fld Z U.heap x ST "value" "[B" v0) (C : RoadKit.Fld Z U.heap x ST "coder" "B" c0) :
    ∃ (D : Cell) (fV fC : Field), Blank ST x D U ∧ Found ST "value" "[B" fV U ∧ Found ST "coder" "B" fC U ∧ D.slots[fV.slot]? = some v0 ∧ D.slots[fC.slot]? = some c0 ∧ RoadKit.slotOf Z ST "value" "[B" = fV.slot ∧ RoadKit.slotOf Z ST "coder" "B" = fC.slot := by
  obtain ⟨D, cfV, kV, iV, fV, hD, gV, stV, knV, obV, asV, slV⟩ := V
  obtain ⟨D', cfC, kC, iC, fC, hD', gC, stC, -, -, asC, slC⟩ := C
  cases hD.symm.trans hD'
  obtain ⟨D2, kD, e1, e2, e3, e4, e5⟩ := E
  cases hD.symm.trans e1
  obtain ⟨c2, k2, i1, i2, i3, -⟩ := Cond.instantiable_spec wi
  cases e2.symm.trans i1
  cases e3.symm.trans i2
  obtain ⟨kU, u1, u2⟩ := al.2.2 _ _ e3
  exact ⟨D, fV, fC, ⟨hD, ⟨knV, fun q hq => by rw [hq] at obV; cases obV⟩, by rw [al.findClass]; exact e2, kU, u1, by rw [u2]; exact i3, by rw [u2]; exact e5 i3⟩, ⟨SBG.found_only al ⟨cfV, kV, iV, gV⟩, stV⟩, ⟨SBG.found_only al ⟨cfC, kC, iC, gC⟩, stC⟩, slV, slC, by simp [RoadKit.slotOf, gV], by simp [RoadKit.slotOf, gC]⟩
theorem sta_is {Z U : State} (al : Z.vm.Alike U.vm) {C n d : String} {v : Value} (S : RoadKit.Sta Z U.heap C n d v) : StaticIs U C n d v := by
  obtain ⟨cfS, iS, kS, fS, st, cS, t1, t2, t3, t4, t5, t6, t7⟩ := S
  exact StaticIs.there (s := { Z with heap := U.heap }) ⟨cfS, iS, kS, fS, st, cS, t1, t2, t3, t4, t5, (fun q => by rw [q] at t6; cases t6), t7⟩ al rfl
end StrChars.Road
namespace StrChars
open Jvm Sem ClassFile Op Lib Jvm.Stand Jvm.Free.XT Jvm.Free.ALB Jvm.Free.JM Jvm.Free
open Jvm.Lib.Cold (StaticIs)
/-- what place i of a byte[]'s cell holds -/
def yv (A : Cell) (i : Nat) : Int32 := match A.slots[i]? with | some (.int x) => x | _ => 0
theorem yv_get {a : Addr} {A : Cell} {U : State} (h : XT.Arr .byte a A U) (ht : Typed .byte A) {i : Nat} (hi : i < A.slots.size) : A.slots[i]? = some (.int (yv A i)) := by
  have e := Array.getElem?_eq_getElem hi
  have f := ht i _ e
  unfold yv; rw [e]
  generalize A.slots[i] = v at f
  cases v <;> simp [fits] at f ⊢
/-- the two arrays are equal, place for place -/
def EqC (A B : Cell) : Prop := A.slots.size = B.slots.size ∧ ∀ i, i < A.slots.size → yv A i = yv B i
/-- a boolean that says whether p -/
def Says01 (q : Prop) (r : Option Value) (s u : State) : Prop := ∃ v : Int32, r = some (.int v) ∧ u.heap = s.heap ∧ ((v = 1 ∧ q) ∨ (v = 0 ∧ ¬ q))
theorem Says01.mv {q : Prop} : ∀ r (U U' V V' : State), U'.heap = U.heap → V.vm.Alike V'.vm → V'.heap = V.heap → Says01 q r U V → Says01 q r U' V' :=
  fun r U U' V V' h1 _ h2 ⟨v, a, b, c⟩ => ⟨v, a, by rw [h1, h2]; exact b, c⟩
namespace LEq
def yN : MethodName := ⟨"java/lang/StringLatin1", "equals", "([B[B)Z"⟩
abbrev yB : ByteArray := jdk_43_method_13_code
theorem d0 : decode yB 0 = .ok (.aload_n 0, 1) := by decide +kernel
theorem d1 : decode yB 1 = .ok (.arraylength, 1) := by decide +kernel
theorem d2 : decode yB 2 = .ok (.aload_n 1, 1) := by decide +kernel
theorem d3 : decode yB 3 = .ok (.arraylength, 1) := by decide +kernel
theorem d4 : decode yB 4 = .ok (.if_icmp (.ne) 30, 3) := by decide +kernel
theorem d7 : decode yB 7 = .ok (.iconst 0, 1) := by decide +kernel
theorem d8 : decode yB 8 = .ok (.istore_n 2, 1) := by decide +kernel
theorem d9 : decode yB 9 = .ok (.iload_n 2, 1) := by decide +kernel
theorem d10 : decode yB 10 = .ok (.aload_n 0, 1) := by decide +kernel
theorem d11 : decode yB 11 = .ok (.arraylength, 1) := by decide +kernel
theorem d12 : decode yB 12 = .ok (.if_icmp (.ge) 20, 3) := by decide +kernel
theorem d15 : decode yB 15 = .ok (.aload_n 0, 1) := by decide +kernel
theorem d16 : decode yB 16 = .ok (.iload_n 2, 1) := by decide +kernel
theorem d17 : decode yB 17 = .ok (.baload, 1) := by decide +kernel
theorem d18 : decode yB 18 = .ok (.aload_n 1, 1) := by decide +kernel
theorem d19 : decode yB 19 = .ok (.iload_n 2, 1) := by decide +kernel
theorem d20 : decode yB 20 = .ok (.baload, 1) := by decide +kernel
theorem d21 : decode yB 21 = .ok (.if_icmp (.eq) 5, 3) := by decide +kernel
theorem d24 : decode yB 24 = .ok (.iconst 0, 1) := by decide +kernel
theorem d25 : decode yB 25 = .ok (.ireturn, 1) := by decide +kernel
theorem d26 : decode yB 26 = .ok (.iinc 2 1, 3) := by decide +kernel
theorem d29 : decode yB 29 = .ok (.goto (-20), 3) := by decide +kernel
theorem d32 : decode yB 32 = .ok (.iconst 1, 1) := by decide +kernel
theorem d33 : decode yB 33 = .ok (.ireturn, 1) := by decide +kernel
theorem d34 : decode yB 34 = .ok (.iconst 0, 1) := by decide +kernel
theorem d35 : decode yB 35 = .ok (.ireturn, 1) := by decide +kernel
def site : List Cond := []
def tab : Cond := tabOf yN yB 3 (some .boolean) site
def P (a : Addr) (A : Cell) (b : Addr) (B : Cell) (args : Array Value) (s : State) : Prop := args = #[.ref a, .ref b] ∧ XT.Arr .byte a A s ∧ Typed .byte A ∧ XT.Arr .byte b B s ∧ Typed .byte B
/-- whether two byte[] are equal, place for place -/
theorem law (l : Launch) (a : Addr) (A : Cell) (b : Addr) (B : Cell) : Law l yN 2 2 0 0 yB 3 (some .boolean) site (P a A b B) (Says01 (EqC A B)) [] 0 0 := by
  refine Law.of_walk (plainFor_of_name (by decide +kernel)) (by decide +kernel) (by decide +kernel) (by decide) (fun _ _ h => by rw [h.1]; rfl) (fun _ U U' hal hh h => ⟨h.1, h.2.1.mv hal hh, h.2.2.1, h.2.2.2.1.mv hal hh, h.2.2.2.2⟩) (fun r U U' V V' h1 hal h2 h => Says01.mv r U U' V V' h1 hal h2 h) ?_
  intro p e s m args below meth c s₁ X0 hexec hbytes hml hret hlk hnm hown hh0 W hP
  obtain ⟨rfl, hA, tA, hB, tB⟩ := hP
  have a31 := hA.2.2.2
  have b31 := hB.2.2.2
  have hA0 := hA.mv X0.warmed.alike hh0
  have hB0 := hB.mv X0.warmed.alike hh0
  have c1 : Steps p.tables e below (s₁.setTop (entryFrame m #[.ref a, .ref b] 3)) (s₁.setTop (mkF m 0 #[.val (.ref a), .val (.ref b), .unset] [])) := entry rfl
  have c2 : Steps p.tables e below (s₁.setTop (entryFrame m #[.ref a, .ref b] 3)) (s₁.setTop (mkF m 4 #[.val (.ref a), .val (.ref b), .unset] [.int (Int32.ofNat B.slots.size), .int (Int32.ofNat A.slots.size)])) := c1.trans (by
    refine XS.aloadN X0.here hexec rfl (hb hbytes d0) rfl rfl ?_
    refine X0.alen hexec hA0 rfl rfl (hb hbytes d1) ?_
    refine XS.aloadN X0.here hexec rfl (hb hbytes d2) rfl rfl ?_
    refine X0.alen hexec hB0 rfl rfl (hb hbytes d3) ?_
    exact Steps.refl _)
  by_cases hs : A.slots.size = B.slots.size
  · have c3 : Steps p.tables e below (s₁.setTop (entryFrame m #[.ref a, .ref b] 3)) (s₁.setTop (mkF m 9 #[.val (.ref a), .val (.ref b), .val (.int 0)] [])) := c2.trans (by
      refine XS.icmpNo X0.here hexec rfl (hb hbytes d4) rfl (ii_ne_f (by rw [hs])) ?_
      refine iconstV X0.here hexec rfl 0 (hb hbytes d7) (by decide) ?_
      refine XS.istoreN X0.here hexec rfl (hb hbytes d8) rfl rfl ?_
      exact Steps.refl _)
    have loop : ∀ (r i : Nat), i + r = A.slots.size → (∀ j, j < i → yv A j = yv B j) → Steps p.tables e below (s₁.setTop (entryFrame m #[.ref a, .ref b] 3)) (s₁.setTop (mkF m 9 #[.val (.ref a), .val (.ref b), .val (.int (Int32.ofNat i))] [])) → ∃ (pc : Nat) (Ls : Array Slot) (v : Int32), (pc = 25 ∨ pc = 33) ∧ ((v = 1 ∧ EqC A B) ∨ (v = 0 ∧ ¬ EqC A B)) ∧ Steps p.tables e below (s₁.setTop (entryFrame m #[.ref a, .ref b] 3)) (s₁.setTop (mkF m pc Ls [.int v])) := by
      intro r
      induction r with
      | zero =>
        intro i hi he cl
        exact ⟨33, _, 1, Or.inr rfl, Or.inl ⟨rfl, hs, fun j hj => he j (by omega)⟩, cl.trans (by
          refine XS.iloadN X0.here hexec rfl (hb hbytes d9) rfl ?_
          refine XS.aloadN X0.here hexec rfl (hb hbytes d10) rfl rfl ?_
          refine X0.alen hexec hA0 rfl rfl (hb hbytes d11) ?_
          refine XS.icmpYes X0.here hexec rfl (pc0 := 12) rfl (hb hbytes d12) rfl (ii_ge_t (nlt32 (by omega) (by omega))) (by decide) rfl ?_
          refine iconstV X0.here hexec rfl 1 (hb hbytes d32) (by decide) ?_
          exact Steps.refl _)⟩
      | succ r ih =>
        intro i hi he cl
        have c4 : Steps p.tables e below (s₁.setTop (entryFrame m #[.ref a, .ref b] 3)) (s₁.setTop (mkF m 21 #[.val (.ref a), .val (.ref b), .val (.int (Int32.ofNat i))] [.int (yv B i), .int (yv A i)])) := cl.trans (by
          refine XS.iloadN X0.here hexec rfl (hb hbytes d9) rfl ?_
          refine XS.aloadN X0.here hexec rfl (hb hbytes d10) rfl rfl ?_
          refine X0.alen hexec hA0 rfl rfl (hb hbytes d11) ?_
          refine XS.icmpNo X0.here hexec rfl (hb hbytes d12) rfl (ii_ge_f (lt32 (by omega) (by omega))) ?_
          refine XS.aloadN X0.here hexec rfl (hb hbytes d15) rfl rfl ?_
          refine XS.iloadN X0.here hexec rfl (hb hbytes d16) rfl ?_
          refine X0.aget hexec hA0 rfl (yv_get hA tA (i := i) (by omega)) rfl rfl (hb hbytes d17) ?_
          refine XS.aloadN X0.here hexec rfl (hb hbytes d18) rfl rfl ?_
          refine XS.iloadN X0.here hexec rfl (hb hbytes d19) rfl ?_
          refine X0.aget hexec hB0 rfl (yv_get hB tB (i := i) (by omega)) rfl rfl (hb hbytes d20) ?_
          exact Steps.refl _)
        by_cases hv : yv A i = yv B i
        · have c5 : Steps p.tables e below (s₁.setTop (entryFrame m #[.ref a, .ref b] 3)) (s₁.setTop (mkF m 9 #[.val (.ref a), .val (.ref b), .val (.int (Int32.ofNat i + 1))] [])) := c4.trans (by
            refine XS.icmpYes X0.here hexec rfl (pc0 := 21) rfl (hb hbytes d21) rfl (ii_eq_t hv) (by decide) rfl ?_
            refine iincV X0.here hexec rfl 1 (hb hbytes d26) (by decide) rfl rfl ?_
            refine XS.goto X0.here hexec rfl (pc0 := 29) rfl (hb hbytes d29) (by decide) rfl ?_
            exact Steps.refl _)
          rw [succ32] at c5
          exact ih (i + 1) (by omega) (fun j hj => by
            by_cases e : j = i
            · rw [e]; exact hv
            · exact he j (by omega)) c5
        · exact ⟨25, _, 0, Or.inl rfl, Or.inr ⟨rfl, fun q => hv (q.2 i (by omega))⟩, c4.trans (by
            refine XS.icmpNo X0.here hexec rfl (hb hbytes d21) rfl (ii_eq_f hv) ?_
            refine iconstV X0.here hexec rfl 0 (hb hbytes d24) (by decide) ?_
            exact Steps.refl _)⟩
    obtain ⟨pc, Ls, v, hpc, hv, cz⟩ := loop A.slots.size 0 (by omega) (fun j hj => absurd hj (Nat.not_lt_zero j)) c3
    have nv : narrow .boolean (.int v) = .int v := by rcases hv with ⟨rfl, -⟩ | ⟨rfl, -⟩ <;> rfl
    rcases hpc with rfl | rfl
    · exact ⟨s₁, some (.int v), _, _, _, X0, rfl, rfl, rfl, (fun h => by cases h), ⟨v, rfl, hh0, hv⟩, fun fs hl => cz.trans (X0.ireturnOut hexec hret nv (Or.inr (Or.inl rfl)) (hb hbytes d25) hl)⟩
    · exact ⟨s₁, some (.int v), _, _, _, X0, rfl, rfl, rfl, (fun h => by cases h), ⟨v, rfl, hh0, hv⟩, fun fs hl => cz.trans (X0.ireturnOut hexec hret nv (Or.inr (Or.inl rfl)) (hb hbytes d33) hl)⟩
  · have c3 : Steps p.tables e below (s₁.setTop (entryFrame m #[.ref a, .ref b] 3)) (s₁.setTop (mkF m 35 #[.val (.ref a), .val (.ref b), .unset] [.int 0])) := c2.trans (by
      refine XS.icmpYes X0.here hexec rfl (pc0 := 4) rfl (hb hbytes d4) rfl (ii_ne_t (ne32 a31 b31 hs)) (by decide) rfl ?_
      refine iconstV X0.here hexec rfl 0 (hb hbytes d34) (by decide) ?_
      exact Steps.refl _)
    exact ⟨s₁, some (.int 0), _, _, _, X0, rfl, rfl, rfl, (fun h => by cases h), ⟨0, rfl, hh0, Or.inr ⟨rfl, fun q => hs q.1⟩⟩, fun fs hl => c3.trans (X0.ireturnOut hexec hret rfl (Or.inr (Or.inl rfl)) (hb hbytes d35) hl)⟩
end LEq
theorem Cod.ty {cd : Int32} {n : Nat} {f : Nat → Int32} {V : Cell} (h : Cod cd n f V) : Typed .byte V := fun i v hv => by
  have hi : i < V.slots.size := (Array.getElem?_eq_some_iff.mp hv).1
  rcases h with ⟨-, k1, k2⟩ | ⟨-, k1, k2, -⟩
  · rw [(k2 i (by omega)).1] at hv; cases hv; exact fits_lo8 _
  · rcases Nat.mod_two_eq_zero_or_one i with e | e
    · obtain ⟨j, rfl⟩ : ∃ j, i = 2 * j := ⟨i / 2, by omega⟩
      rw [(k2 j (by omega)).1] at hv; cases hv; exact fits_lo8 _
    · obtain ⟨j, rfl⟩ : ∃ j, i = 2 * j + 1 := ⟨i / 2, by omega⟩
      rw [(k2 j (by omega)).2] at hv; cases hv; exact fits_lo8 _
/-- the same text -/
def SameT (n : Nat) (f : Nat → Int32) (k : Nat) (g : Nat → Int32) : Prop := n = k ∧ ∀ j, j < n → f j = g j
theorem lo8_inj {x y : Int32} (h0 : ¬ x < 0) (h1 : ¬ 255 < x) (k0 : ¬ y < 0) (k1 : ¬ 255 < y) (h : lo8 x = lo8 y) : x = y := by
  rw [← lo8_mask h0 h1, ← lo8_mask k0 k1, h]
/-- arrays coded by one coder are equal just where the texts are -/
theorem Cod.eqv {cd : Int32} {n k : Nat} {f g : Nat → Int32} {V V' : Cell} (h : Cod cd n f V) (h' : Cod cd k g V') (hf : ∀ j, j < n → ¬ f j < 0 ∧ ¬ 65535 < f j) (hg : ∀ j, j < k → ¬ g j < 0 ∧ ¬ 65535 < g j) : EqC V V' ↔ SameT n f k g := by
  have yvv : ∀ {W : Cell} {i : Nat} {x : Int32}, W.slots[i]? = some (.int x) → yv W i = x := fun q => by unfold yv; rw [q]
  rcases h with ⟨rfl, k1, k2⟩ | ⟨rfl, k1, k2, -⟩
  · rcases h' with ⟨-, m1, m2⟩ | ⟨e, -⟩
    · constructor
      · rintro ⟨e1, e2⟩
        refine ⟨by omega, fun j hj => ?_⟩
        have q := e2 j (by omega)
        rw [yvv (k2 j hj).1, yvv (m2 j (by omega)).1] at q
        exact lo8_inj (hf j hj).1 (k2 j hj).2 (hg j (by omega)).1 (m2 j (by omega)).2 q
      · rintro ⟨rfl, e2⟩
        refine ⟨by omega, fun j hj => ?_⟩
        rw [yvv (k2 j (by omega)).1, yvv (m2 j (by omega)).1, e2 j (by omega)]
    · exact absurd e (by decide)
  · rcases h' with ⟨e, -⟩ | ⟨-, m1, m2, -⟩
    · exact absurd e (by decide)
    · constructor
      · rintro ⟨e1, e2⟩
        refine ⟨by omega, fun j hj => ?_⟩
        have q1 := e2 (2 * j) (by omega)
        have q2 := e2 (2 * j + 1) (by omega)
        rw [yvv (k2 j hj).1, yvv (m2 j (by omega)).1] at q1
        rw [yvv (k2 j hj).2, yvv (m2 j (by omega)).2] at q2
        rw [← pair_says (hf j hj).1 (hf j hj).2, ← pair_says (hg j (by omega)).1 (hg j (by omega)).2, q1, q2]
      · rintro ⟨rfl, e2⟩
        refine ⟨by omega, fun i hi => ?_⟩
        rcases Nat.mod_two_eq_zero_or_one i with e | e
        · obtain ⟨j, rfl⟩ : ∃ j, i = 2 * j := ⟨i / 2, by omega⟩
          rw [yvv (k2 j (by omega)).1, yvv (m2 j (by omega)).1, e2 j (by omega)]
        · obtain ⟨j, rfl⟩ : ∃ j, i = 2 * j + 1 := ⟨i / 2, by omega⟩
          rw [yvv (k2 j (by omega)).2, yvv (m2 j (by omega)).2, e2 j (by omega)]
/-- two codings differ: so do the texts -/
theorem Cod.dif {cd cd' : Int32} {n k : Nat} {f g : Nat → Int32} {V V' : Cell} (h : Cod cd n f V) (h' : Cod cd' k g V') (hne : ¬ cd = cd') : ¬ SameT n f k g := by
  rintro ⟨rfl, e⟩
  rcases h with ⟨rfl, -, k2⟩ | ⟨rfl, -, -, j, hj, hw⟩
  · rcases h' with ⟨rfl, -⟩ | ⟨-, -, -, j, hj, hw⟩
    · exact hne rfl
    · exact (k2 j hj).2 (by rw [e j hj]; exact hw)
  · rcases h' with ⟨-, -, m2⟩ | ⟨rfl, -⟩
    · exact (m2 j hj).2 (by rw [← e j hj]; exact hw)
    · exact hne rfl
/-- an object of exactly C is an instance of C -/
theorem cinst {p : Program} {l : Launch} {e : Env} {R : Room} {s : State} {m : MethodId} {args : Array Value} {below : List Frame} {meth : Method} {c : Code} {T : State} {locs : List Loc} {cells slots : Nat} (X : Stand p l e R s m args below meth c T locs cells slots) (hexec : p.tables.exec = Jvm.exec) {own C : String} {index : Nat} (hown : s.vm.findClass own = some m.cls) (hlink : (Cond.classLink own index C).before args s = true) {a : Addr} (hE : Exact C a T)
    {g : JFrame} (hg : g.method = m) {rest : List Value} (hstack : g.stack = .ref a :: rest) (hdg : decode c.code g.pc = .ok (.instanceof index, 3)) :
    ∃ T', Stand p l e R s m args below meth c T' locs cells slots ∧ T'.heap = T.heap ∧ ∀ target, Steps p.tables e below (T'.setTop { g with pc := g.pc + 3, stack := .int 1 :: rest }) target → Steps p.tables e below (T.setTop g) target := by
  obtain ⟨cB, h1, D, h2, h3, h4⟩ := hE
  have h1' : s.vm.findClass C = some cB := by rw [← X.warmed.alike.findClass]; exact h1
  obtain ⟨vm', X', st⟩ := X.instanceofYes hexec hown hlink h2 h4 h1' (by rw [h3]; exact Jvm.Free.SB.assignable_self _ _) hg hstack hdg
  exact ⟨_, X', rfl, st⟩
theorem cself {p : Program} {l : Launch} {e : Env} {R : Room} {s : State} {m : MethodId} {args : Array Value} {below : List Frame} {meth : Method} {c : Code} {T : State} {locs : List Loc} {cells slots : Nat} (X : Stand p l e R s m args below meth c T locs cells slots) (hexec : p.tables.exec = Jvm.exec) {own C : String} {index : Nat} (hown : s.vm.findClass own = some m.cls) (hlink : (Cond.classLink own index C).before args s = true) {a : Addr} (hE : Exact C a T)
    {g : JFrame} (hg : g.method = m) {rest : List Value} (hstack : g.stack = .ref a :: rest) (hdg : decode c.code g.pc = .ok (.checkcast index, 3)) :
    ∃ T', Stand p l e R s m args below meth c T' locs cells slots ∧ T'.heap = T.heap ∧ ∀ target, Steps p.tables e below (T'.setTop { g with pc := g.pc + 3, stack := .ref a :: rest }) target → Steps p.tables e below (T.setTop g) target := by
  obtain ⟨cB, h1, D, h2, h3, h4⟩ := hE
  have h1' : s.vm.findClass C = some cB := by rw [← X.warmed.alike.findClass]; exact h1
  obtain ⟨vm', X', st⟩ := X.checkcastYes hexec hown hlink h2 h4 h1' (by rw [h3]; exact Jvm.Free.SB.assignable_self _ _) hg hstack hdg
  exact ⟨_, X', rfl, fun t h => st t (by rw [← hstack] at h; exact h)⟩
namespace SEq
def yN : MethodName := ⟨"java/lang/String", "equals", "(Ljava/lang/Object;)Z"⟩
abbrev yB : ByteArray := jdk_42_method_66_code
theorem d0 : decode yB 0 = .ok (.aload_n 0, 1) := by decide +kernel
theorem d1 : decode yB 1 = .ok (.aload_n 1, 1) := by decide +kernel
theorem d2 : decode yB 2 = .ok (.if_acmp (.ne) 5, 3) := by decide +kernel
theorem d5 : decode yB 5 = .ok (.iconst 1, 1) := by decide +kernel
theorem d6 : decode yB 6 = .ok (.ireturn, 1) := by decide +kernel
theorem d7 : decode yB 7 = .ok (.aload_n 1, 1) := by decide +kernel
theorem d8 : decode yB 8 = .ok (.instanceof 10, 3) := by decide +kernel
theorem d11 : decode yB 11 = .ok (.ifCond (.eq) 43, 3) := by decide +kernel
theorem d14 : decode yB 14 = .ok (.aload_n 1, 1) := by decide +kernel
theorem d15 : decode yB 15 = .ok (.checkcast 10, 3) := by decide +kernel
theorem d18 : decode yB 18 = .ok (.astore_n 2, 1) := by decide +kernel
theorem d19 : decode yB 19 = .ok (.getstatic 38, 3) := by decide +kernel
theorem d22 : decode yB 22 = .ok (.ifCond (.eq) 14, 3) := by decide +kernel
theorem d25 : decode yB 25 = .ok (.aload_n 0, 1) := by decide +kernel
theorem d26 : decode yB 26 = .ok (.getfield 15, 3) := by decide +kernel
theorem d29 : decode yB 29 = .ok (.aload_n 2, 1) := by decide +kernel
theorem d30 : decode yB 30 = .ok (.getfield 15, 3) := by decide +kernel
theorem d33 : decode yB 33 = .ok (.if_icmp (.ne) 21, 3) := by decide +kernel
theorem d36 : decode yB 36 = .ok (.aload_n 0, 1) := by decide +kernel
theorem d37 : decode yB 37 = .ok (.getfield 9, 3) := by decide +kernel
theorem d40 : decode yB 40 = .ok (.aload_n 2, 1) := by decide +kernel
theorem d41 : decode yB 41 = .ok (.getfield 9, 3) := by decide +kernel
theorem d44 : decode yB 44 = .ok (.invokestatic 541, 3) := by decide +kernel
theorem d47 : decode yB 47 = .ok (.ifCond (.eq) 7, 3) := by decide +kernel
theorem d50 : decode yB 50 = .ok (.iconst 1, 1) := by decide +kernel
theorem d51 : decode yB 51 = .ok (.goto 4, 3) := by decide +kernel
theorem d54 : decode yB 54 = .ok (.iconst 0, 1) := by decide +kernel
theorem d55 : decode yB 55 = .ok (.ireturn, 1) := by decide +kernel
def site : List Cond := [.classLink "java/lang/String" 10 "java/lang/String", .fieldLink "java/lang/String" 38 "java/lang/String" "COMPACT_STRINGS" "Z", .fieldLink "java/lang/String" 15 "java/lang/String" "coder" "B", .fieldLink "java/lang/String" 9 "java/lang/String" "value" "[B", LEq.tab] ++ staticW "java/lang/String" 541 LEq.yN
def tab : Cond := tabOf yN yB 3 (some .boolean) site
def P (x t : Addr) (V : Cell) (cd : Int32) (n : Nat) (f : Nat → Int32) (y t' : Addr) (V' : Cell) (cd' : Int32) (k : Nat) (g : Nat → Int32) (z : Int32) (args : Array Value) (s : State) : Prop := args = #[.ref x, .ref y] ∧ Txt x t V cd n f s ∧ Txt y t' V' cd' k g s ∧ StaticIs s "java/lang/String" "COMPACT_STRINGS" "Z" (.int z) ∧ ¬ z = 0
/-- equals(Object) of two Strings: whether the texts are the same -/
theorem law (l : Launch) (x t : Addr) (V : Cell) (cd : Int32) (n : Nat) (f : Nat → Int32) (y t' : Addr) (V' : Cell) (cd' : Int32) (k : Nat) (g : Nat → Int32) (z : Int32) : Law l yN 2 1 1 14 yB 3 (some .boolean) site (P x t V cd n f y t' V' cd' k g z) (Says01 (SameT n f k g)) [] 0 0 := by
  refine Law.of_walk (plainFor_of_name (by decide +kernel)) (by decide +kernel) (by decide +kernel) (by decide) (fun _ _ h => by rw [h.1]; rfl) (fun _ U U' hal hh h => ⟨h.1, h.2.1.mv hal hh, h.2.2.1.mv hal hh, h.2.2.2.1.there hal hh, h.2.2.2.2⟩) (fun r U U' V V' h1 hal h2 h => Says01.mv r U U' V V' h1 hal h2 h) ?_
  intro p e s m args below meth c s₁ X0 hexec hbytes hml hret hlk hnm hown hh0 W hP
  obtain ⟨rfl, hx, hy, s1, hz⟩ := hP
  have c1 : Steps p.tables e below (s₁.setTop (entryFrame m #[.ref x, .ref y] 3)) (s₁.setTop (mkF m 2 #[.val (.ref x), .val (.ref y), .unset] [.ref y, .ref x])) := Steps.trans (entry rfl) (by
    show Steps p.tables e below (s₁.setTop (mkF m 0 #[.val (.ref x), .val (.ref y), .unset] [])) _
    refine XS.aloadN X0.here hexec rfl (hb hbytes d0) rfl rfl ?_
    refine XS.aloadN X0.here hexec rfl (hb hbytes d1) rfl rfl ?_
    exact Steps.refl _)
  by_cases hxy : x = y
  · have c2 : Steps p.tables e below (s₁.setTop (entryFrame m #[.ref x, .ref y] 3)) (s₁.setTop (mkF m 6 #[.val (.ref x), .val (.ref y), .unset] [.int 1])) := c1.trans (by
      refine acmpNo X0.here hexec rfl (hb hbytes d2) rfl rfl rfl (by simp [acmp, hxy]) ?_
      refine iconstV X0.here hexec rfl 1 (hb hbytes d5) (by decide) ?_
      exact Steps.refl _)
    subst hxy
    have ec : cd = cd' := by
      obtain ⟨D, fd, a1, a2, a3⟩ := hx.2.2.1
      obtain ⟨D', fd', b1, b2, b3⟩ := hy.2.2.1
      cases a1.symm.trans b1
      obtain ⟨q1, q2, q3, q4⟩ := a2.1
      obtain ⟨r1, r2, r3, r4⟩ := b2.1
      cases q4.symm.trans r4
      cases a3.symm.trans b3; rfl
    have et : t = t' := by
      obtain ⟨D, fd, a1, a2, a3⟩ := hx.2.1
      obtain ⟨D', fd', b1, b2, b3⟩ := hy.2.1
      cases a1.symm.trans b1
      obtain ⟨q1, q2, q3, q4⟩ := a2.1
      obtain ⟨r1, r2, r3, r4⟩ := b2.1
      cases q4.symm.trans r4
      cases a3.symm.trans b3; rfl
    subst ec et
    have ev : V = V' := by cases hx.2.2.2.1.1.symm.trans hy.2.2.2.1.1; rfl
    subst ev
    have hs : SameT n f k g := (Cod.eqv hx.2.2.2.2.1 hy.2.2.2.2.1 hx.2.2.2.2.2 hy.2.2.2.2.2).mp ⟨rfl, fun _ _ => rfl⟩
    exact ⟨s₁, some (.int 1), _, _, _, X0, rfl, rfl, rfl, (fun h => by cases h), ⟨1, rfl, hh0, Or.inl ⟨rfl, hs⟩⟩, fun fs hl => c2.trans (X0.ireturnOut hexec hret rfl (Or.inr (Or.inl rfl)) (hb hbytes d6) hl)⟩
  · have c2 : Steps p.tables e below (s₁.setTop (entryFrame m #[.ref x, .ref y] 3)) (s₁.setTop (mkF m 8 #[.val (.ref x), .val (.ref y), .unset] [.ref y])) := c1.trans (by
      refine acmpYes X0.here hexec rfl (pc0 := 2) rfl (hb hbytes d2) rfl rfl rfl (by simp [acmp, hxy]) (by decide) rfl ?_
      refine XS.aloadN X0.here hexec rfl (hb hbytes d7) rfl rfl ?_
      exact Steps.refl _)
    obtain ⟨T3, X3, q3, st3⟩ := cinst X0 hexec hown (wk W (.classLink "java/lang/String" 10 "java/lang/String")) (hy.mv X0.warmed.alike hh0).1 (g := (mkF m 8 #[.val (.ref x), .val (.ref y), .unset] [.ref y])) rfl (rest := []) rfl (hb hbytes d8)
    have hh3 := q3.trans hh0
    have c4 : Steps p.tables e below (s₁.setTop (entryFrame m #[.ref x, .ref y] 3)) (T3.setTop (mkF m 15 #[.val (.ref x), .val (.ref y), .unset] [.ref y])) := (c2.trans (st3 _ (Steps.refl _))).trans (by
      refine XS.ifNo X3.here hexec rfl (hb hbytes d11) rfl (i0_eq_f (by decide)) ?_
      refine XS.aloadN X3.here hexec rfl (hb hbytes d14) rfl rfl ?_
      exact Steps.refl _)
    obtain ⟨T5, X5, q5, st5⟩ := cself X3 hexec hown (wk W (.classLink "java/lang/String" 10 "java/lang/String")) (hy.mv X3.warmed.alike hh3).1 (g := (mkF m 15 #[.val (.ref x), .val (.ref y), .unset] [.ref y])) rfl (rest := []) rfl (hb hbytes d15)
    have hh5 := q5.trans hh3
    have c6 : Steps p.tables e below (s₁.setTop (entryFrame m #[.ref x, .ref y] 3)) (T5.setTop (mkF m 19 #[.val (.ref x), .val (.ref y), .val (.ref y)] [])) := (c4.trans (st5 _ (Steps.refl _))).trans (by
      refine XS.astoreN X5.here hexec rfl (hb hbytes d18) rfl rfl rfl ?_
      exact Steps.refl _)
    obtain ⟨T7, X7, q7, st7⟩ := X5.sget hexec hown (wk W (.fieldLink "java/lang/String" 38 "java/lang/String" "COMPACT_STRINGS" "Z")) s1 (fun _ _ h => by rw [hh5]; exact h) (g := (mkF m 19 #[.val (.ref x), .val (.ref y), .val (.ref y)] [])) rfl (hb hbytes d19)
    have hh7 := q7.trans hh5
    have c8 : Steps p.tables e below (s₁.setTop (entryFrame m #[.ref x, .ref y] 3)) (T7.setTop (mkF m 26 #[.val (.ref x), .val (.ref y), .val (.ref y)] [.ref x])) := (c6.trans (st7 _ (Steps.refl _))).trans (by
      refine XS.ifNo X7.here hexec rfl (hb hbytes d22) rfl (i0_eq_f hz) ?_
      refine XS.aloadN X7.here hexec rfl (hb hbytes d25) rfl rfl ?_
      exact Steps.refl _)
    obtain ⟨T9, X9, q9, st9⟩ := X7.hget hexec hown (wk W (.fieldLink "java/lang/String" 15 "java/lang/String" "coder" "B")) (hx.mv X7.warmed.alike hh7).2.2.1 (g := (mkF m 26 #[.val (.ref x), .val (.ref y), .val (.ref y)] [.ref x])) rfl (rest := []) rfl (hb hbytes d26)
    have hh9 := q9.trans hh7
    have c10 : Steps p.tables e below (s₁.setTop (entryFrame m #[.ref x, .ref y] 3)) (T9.setTop (mkF m 30 #[.val (.ref x), .val (.ref y), .val (.ref y)] [.ref y, .int cd])) := (c8.trans (st9 _ (Steps.refl _))).trans (by
      refine XS.aloadN X9.here hexec rfl (hb hbytes d29) rfl rfl ?_
      exact Steps.refl _)
    obtain ⟨T11, X11, q11, st11⟩ := X9.hget hexec hown (wk W (.fieldLink "java/lang/String" 15 "java/lang/String" "coder" "B")) (hy.mv X9.warmed.alike hh9).2.2.1 (g := (mkF m 30 #[.val (.ref x), .val (.ref y), .val (.ref y)] [.ref y, .int cd])) rfl (rest := [.int cd]) rfl (hb hbytes d30)
    have hh11 := q11.trans hh9
    have c12 : Steps p.tables e below (s₁.setTop (entryFrame m #[.ref x, .ref y] 3)) (T11.setTop (mkF m 33 #[.val (.ref x), .val (.ref y), .val (.ref y)] [.int cd', .int cd])) := c10.trans (st11 _ (Steps.refl _))
    by_cases hcd : cd = cd'
    · subst hcd
      have c13 : Steps p.tables e below (s₁.setTop (entryFrame m #[.ref x, .ref y] 3)) (T11.setTop (mkF m 37 #[.val (.ref x), .val (.ref y), .val (.ref y)] [.ref x])) := c12.trans (by
        refine XS.icmpNo X11.here hexec rfl (hb hbytes d33) rfl (ii_ne_f rfl) ?_
        refine XS.aloadN X11.here hexec rfl (hb hbytes d36) rfl rfl ?_
        exact Steps.refl _)
      obtain ⟨T14, X14, q14, st14⟩ := X11.hget hexec hown (wk W (.fieldLink "java/lang/String" 9 "java/lang/String" "value" "[B")) (hx.mv X11.warmed.alike hh11).2.1 (g := (mkF m 37 #[.val (.ref x), .val (.ref y), .val (.ref y)] [.ref x])) rfl (rest := []) rfl (hb hbytes d37)
      have hh14 := q14.trans hh11
      have c15 : Steps p.tables e below (s₁.setTop (entryFrame m #[.ref x, .ref y] 3)) (T14.setTop (mkF m 41 #[.val (.ref x), .val (.ref y), .val (.ref y)] [.ref y, .ref t])) := (c13.trans (st14 _ (Steps.refl _))).trans (by
        refine XS.aloadN X14.here hexec rfl (hb hbytes d40) rfl rfl ?_
        exact Steps.refl _)
      obtain ⟨T16, X16, q16, st16⟩ := X14.hget hexec hown (wk W (.fieldLink "java/lang/String" 9 "java/lang/String" "value" "[B")) (hy.mv X14.warmed.alike hh14).2.1 (g := (mkF m 41 #[.val (.ref x), .val (.ref y), .val (.ref y)] [.ref y, .ref t])) rfl (rest := [.ref t]) rfl (hb hbytes d41)
      have hh16 := q16.trans hh14
      have c17 : Steps p.tables e below (s₁.setTop (entryFrame m #[.ref x, .ref y] 3)) (T16.setTop (mkF m 44 #[.val (.ref x), .val (.ref y), .val (.ref y)] [.ref t', .ref t])) := c15.trans (st16 _ (Steps.refl _))
      obtain ⟨v18, T18, X18, E18, g18⟩ := X16.callS hexec (LEq.law l t V t' V') hown (wks W (staticW "java/lang/String" 541 LEq.yN)) (wk W LEq.tab) (W := 0) (Nat.le_of_ble_eq_true rfl) (Nat.le_of_ble_eq_true rfl) (Nat.le_refl _) (Nat.le_refl _) (g := (mkF m 44 #[.val (.ref x), .val (.ref y), .val (.ref y)] [.ref t', .ref t])) rfl (by rw [hml]; rfl) c17 (argsL := [.ref t, .ref t']) (rest := []) rfl rfl (by show 2 * 0 + 0 ≤ _; decide) (hb hbytes d44) (⟨rfl, hx.2.2.2.1.mv X16.warmed.alike hh16, hx.2.2.2.2.1.ty, hy.2.2.2.1.mv X16.warmed.alike hh16, hy.2.2.2.2.1.ty⟩)
      obtain ⟨v, rfl, q18, hv⟩ := E18
      have iff := Cod.eqv hx.2.2.2.2.1 hy.2.2.2.2.1 hx.2.2.2.2.2 hy.2.2.2.2.2
      rcases hv with ⟨rfl, he⟩ | ⟨rfl, he⟩
      · have c19 : Steps p.tables e below (s₁.setTop (entryFrame m #[.ref x, .ref y] 3)) (T18.setTop (mkF m 55 #[.val (.ref x), .val (.ref y), .val (.ref y)] [.int 1])) := Steps.trans g18 (by
          refine XS.ifNo X18.here hexec rfl (hb hbytes d47) rfl (i0_eq_f (by decide)) ?_
          refine iconstV X18.here hexec rfl 1 (hb hbytes d50) (by decide) ?_
          refine XS.goto X18.here hexec rfl (pc0 := 51) rfl (hb hbytes d51) (by decide) rfl ?_
          exact Steps.refl _)
        exact ⟨T18, some (.int 1), _, _, _, X18, rfl, rfl, rfl, (fun h => by cases h), ⟨1, rfl, q18.trans hh16, Or.inl ⟨rfl, iff.mp he⟩⟩, fun fs hl => c19.trans (X18.ireturnOut hexec hret rfl (Or.inr (Or.inl rfl)) (hb hbytes d55) hl)⟩
      · have c19 : Steps p.tables e below (s₁.setTop (entryFrame m #[.ref x, .ref y] 3)) (T18.setTop (mkF m 55 #[.val (.ref x), .val (.ref y), .val (.ref y)] [.int 0])) := Steps.trans g18 (by
          refine XS.ifYes X18.here hexec rfl (pc0 := 47) rfl (hb hbytes d47) rfl (i0_eq_t rfl) (by decide) rfl ?_
          refine iconstV X18.here hexec rfl 0 (hb hbytes d54) (by decide) ?_
          exact Steps.refl _)
        exact ⟨T18, some (.int 0), _, _, _, X18, rfl, rfl, rfl, (fun h => by cases h), ⟨0, rfl, q18.trans hh16, Or.inr ⟨rfl, fun q => he (iff.mpr q)⟩⟩, fun fs hl => c19.trans (X18.ireturnOut hexec hret rfl (Or.inr (Or.inl rfl)) (hb hbytes d55) hl)⟩
    · have c13 : Steps p.tables e below (s₁.setTop (entryFrame m #[.ref x, .ref y] 3)) (T11.setTop (mkF m 55 #[.val (.ref x), .val (.ref y), .val (.ref y)] [.int 0])) := c12.trans (by
        refine XS.icmpYes X11.here hexec rfl (pc0 := 33) rfl (hb hbytes d33) rfl (ii_ne_t hcd) (by decide) rfl ?_
        refine iconstV X11.here hexec rfl 0 (hb hbytes d54) (by decide) ?_
        exact Steps.refl _)
      exact ⟨T11, some (.int 0), _, _, _, X11, rfl, rfl, rfl, (fun h => by cases h), ⟨0, rfl, hh11, Or.inr ⟨rfl, Cod.dif hx.2.2.2.2.1 hy.2.2.2.2.1 hcd⟩⟩, fun fs hl => c13.trans (X11.ireturnOut hexec hret rfl (Or.inr (Or.inl rfl)) (hb hbytes d55) hl)⟩
theorem pays {l : Launch} {R : Room} {p : Program} {e : Env} {below : List Frame} {s : State} {sargs : Array Value} {len W : Nat} (x t : Addr) (V : Cell) (cd : Int32) (n : Nat) (f : Nat → Int32) (y t' : Addr) (V' : Cell) (cd' : Int32) (k : Nat) (g : Nat → Int32) (z : Int32) (htab : tab.before sargs s = true) (hfr : 2 ≤ R.frames) (hlo : W + 28 ≤ R.locals) :
    Back l R p e below s sargs yN len W (fun A₁ a₁ => A₁.cells + 0 ≤ R.cells ∧ A₁.slots + 0 ≤ R.slots ∧ P x t V cd n f y t' V' cd' k g z a₁ A₁.U) (fun A₁ _ v₁ B₁ => Says01 (SameT n f k g) v₁ A₁.U B₁.U ∧ B₁.locs = A₁.locs ++ [] ∧ B₁.cells = A₁.cells + 0 ∧ B₁.slots = A₁.slots + 0) :=
  (law l x t V cd n f y t' V' cd' k g z).pays htab hfr (by omega)
end SEq
end StrChars
namespace StrChars.Road
open Jvm Sem ClassFile Op Lib Jvm.Stand Jvm.Free Jvm.Free.XT
open Jvm.Lib.Cold (StaticIs)
/-- the words of String.equals(Object) -/
abbrev wordsEq : List Jvm.Cond := [.code SEq.yN SEq.yB 3 (some .boolean), .initialized ST, .classLink ST 10 ST, .fieldLink ST 38 ST "COMPACT_STRINGS" "Z", .fieldLink ST 15 ST "coder" "B", .fieldLink ST 9 ST "value" "[B", .methodLink ST 541 LEq.yN, .static LEq.yN, .code LEq.yN LEq.yB 3 (some .boolean), .initialized "java/lang/StringLatin1"]
theorem tabEq_of {a : Array Value} {s : State} (h : ∀ w ∈ wordsEq, w.before a s = true) : SEq.tab.before a s = true := by
  have hl : LEq.tab.before a s = true := unparts (wk h (.code LEq.yN LEq.yB 3 (some .boolean))) (wks h (.initialized LEq.yN.cls :: LEq.site))
  have q := consq hl h
  exact unparts (wk q (.code SEq.yN SEq.yB 3 (some .boolean))) (wks q (.initialized SEq.yN.cls :: SEq.site))
theorem movedEq {Z s : State} {a0 args : Array Value} (hZ : Z.Warmed39 s.vm) (hw : ∀ d ∈ wordsEq, d.before a0 Z = true) : ∀ d ∈ wordsEq, d.before args s = true := fun d hd => by
  have t : ∀ d ∈ wordsEq, (d.onTables && d.keepsFace) = true := by decide +kernel
  exact RoadKit.mv hZ (hw d hd) (t d hd)
/-- the road's facts of a String, as the laws ask it -/
theorem txt_of {Z U : State} {a0 : Array Value} {kI : Nat} (wi : (Jvm.Cond.instantiable ST kI).before a0 Z = true) (al : Z.vm.Alike U.vm) {x t : Addr} {kb : ClassId} {cs : List Int32} {cd N2 : Int32} {vs : List Value} (E : RoadKit.Exa Z U.heap x ST) (V : RoadKit.Fld Z U.heap x ST "value" "[B" (.ref t)) (C : RoadKit.Fld Z U.heap x ST "coder" "B" (.int cd)) (K : RoadKit.Arv Z U.heap t kb .byte N2 vs (.int 0)) (hc : CodA cs cd N2 vs) (hb : ∀ c ∈ cs, ¬ c < 0 ∧ ¬ (65535 : Int32) < c) (l2 : cs.length ≤ 4000) :
    ∃ A, Txt x t A cd cs.length (fun j => cs.getD j 0) U := by
  obtain ⟨A, K1, K2, K3, K4, K5, K6⟩ := K
  have hcod := hc.cod (by omega) K3 K5
  obtain ⟨D, fV, fC, hB, F1, F2, g1, g2, -, -⟩ := strObj wi al E V C
  exact ⟨A, ⟨_, hB.2.2.1, D, hB.1, rfl, by cases q : D.vm <;> first | rfl | exact absurd q (hB.2.1.2 _)⟩, Has.of hB F1 g1, Has.of hB F2 g2, ⟨K1.1, State.isArrayOf_alike al K1.2.1, K1.2.2, by rcases hcod with ⟨-, q, -⟩ | ⟨-, q, -⟩ <;> omega⟩, hcod, fun j hj => by
    have e : cs.getD j 0 = cs[j] := by simp [List.getD_eq_getElem?_getD, hj]
    show ¬ cs.getD j 0 < 0 ∧ ¬ 65535 < cs.getD j 0
    rw [e]; exact hb _ (List.getElem_mem _)⟩
theorem same_list (cs ds : List Int32) : SameT cs.length (fun j => cs.getD j 0) ds.length (fun j => ds.getD j 0) ↔ cs = ds := by
  constructor
  · rintro ⟨e, q⟩
    refine List.ext_getElem e fun j h1 h2 => ?_
    have := q j h1
    simpa [List.getD_eq_getElem?_getD, h1, h2] using this
  · rintro rfl
    exact ⟨rfl, fun _ _ => rfl⟩
/-- **equals(Object) OF TWO SUCH STRINGS**: 1 just where the chars are the same -/
theorem eqW {p : Program} {l : Launch} {e : Env} {R : Room} {s : State} {args : Array Value} {below : List Frame} {len W : Nat} {Z : State} {a0 : Array Value} {h : Heap} (hZ : Z.Warmed39 s.vm) (hw : ∀ d ∈ wordsEq, d.before a0 Z = true) {kI : Nat} (wi : (Jvm.Cond.instantiable ST kI).before a0 Z = true)
    {x t : Addr} {kb : ClassId} {cs : List Int32} {cd N2 : Int32} {vs : List Value} (E : RoadKit.Exa Z h x ST) (V : RoadKit.Fld Z h x ST "value" "[B" (.ref t)) (C : RoadKit.Fld Z h x ST "coder" "B" (.int cd)) (K : RoadKit.Arv Z h t kb .byte N2 vs (.int 0)) (hc : CodA cs cd N2 vs) (hb : ∀ c ∈ cs, ¬ c < 0 ∧ ¬ (65535 : Int32) < c) (l2 : cs.length ≤ 4000)
    {y t' : Addr} {kb' : ClassId} {ds : List Int32} {cd' N2' : Int32} {vs' : List Value} (E' : RoadKit.Exa Z h y ST) (V' : RoadKit.Fld Z h y ST "value" "[B" (.ref t')) (C' : RoadKit.Fld Z h y ST "coder" "B" (.int cd')) (K' : RoadKit.Arv Z h t' kb' .byte N2' vs' (.int 0)) (hc' : CodA ds cd' N2' vs') (hb' : ∀ c ∈ ds, ¬ c < 0 ∧ ¬ (65535 : Int32) < c) (l2' : ds.length ≤ 4000)
    {z : Int32} (S : RoadKit.Sta Z h ST "COMPACT_STRINGS" "Z" (.int z)) (hz : ¬ z = 0) (hfr : 2 ≤ R.frames) (hlo : W + 28 ≤ R.locals) :
    Back l R p e below s args (⟨"java/lang/String", "equals", "(Ljava/lang/Object;)Z"⟩ : MethodName) len W (fun P a => a = #[.ref x, .ref y] ∧ P.U.heap = h ∧ P.cells + 0 ≤ R.cells ∧ P.slots + 0 ≤ R.slots)
      (fun P _ v B => ∃ L, (((v = some (.int 1) ∧ cs = ds) ∨ (v = some (.int 0) ∧ ¬ cs = ds)) ∧ L = [] ∧ B.U.heap = h) ∧ B.locs = P.locs ++ L ∧ B.cells = P.cells + 0 ∧ B.slots = P.slots + 0) := by
  intro m meth c P g ig mk a X hg hsize hdg hW hn hp'
  obtain ⟨rfl, rfl, r1, r2⟩ := hp'
  have al : Z.vm.Alike P.U.vm := hZ.alike.trans X.warmed.alike
  obtain ⟨A, hx⟩ := txt_of wi al E V C K hc hb l2
  obtain ⟨A', hy⟩ := txt_of wi al E' V' C' K' hc' hb' l2'
  obtain ⟨v, B, X', ⟨⟨w, hv, hh, hq⟩, hl, hk, hs⟩, st⟩ := SEq.pays x t A cd cs.length (fun j => cs.getD j 0) y t' A' cd' ds.length (fun j => ds.getD j 0) z (tabEq_of (movedEq hZ hw)) hfr hlo m meth c P g ig mk _ X hg hsize hdg hW hn ⟨r1, r2, rfl, hx, hy, sta_is al S, hz⟩
  refine ⟨v, B, X', ⟨[], ⟨?_, rfl, hh⟩, hl, hk, hs⟩, st⟩
  rcases hq with ⟨rfl, q⟩ | ⟨rfl, q⟩
  · exact Or.inl ⟨hv, (same_list cs ds).mp q⟩
  · exact Or.inr ⟨hv, fun e => q ((same_list cs ds).mpr e)⟩
end StrChars.Road
end Jvm.Pilot.@@N@@
namespace Jvm.RoadKit
open Sem ClassFile Op Lib Jvm.Stand Jvm.Free Jvm.LawKit
section New
variable {p : Program} {l : Launch} {e : Env} {R : Room} {s : State} {m : MethodId} {args : Array Value} {below : List Frame} {meth : Method} {c : Code} {T : State} {locs : List Loc} {cells slots : Nat}
theorem retI (X : Stand p l e R s m args below meth c T locs cells slots) (hx : p.tables.exec = Jvm.exec) {pc : Nat} {Ls : Array Slot} {z : Int32} {rest : List Value} (hret : meth.sig.returnType = some .int) (hd : decode c.code pc = .ok (.ireturn, 1)) {fs : List Frame}
    (hl : ∀ (f : JFrame) (acts : List Action), f.method = m → f.locked = none → f.entered = [] → (doReturn e (T.setTop f) acts (some (.int z))).1 = T.setFrames fs) : Steps p.tables e below (T.setTop (mkF m pc Ls (.int z :: rest))) (T.setFrames fs) := by
  have hm' : T.vm.method? m = some meth := X.method'
  have hn : narrow .int (.int z) = .int z := rfl
  show Steps p.tables e below (T.setTop { method := m, pc := pc, locals := Ls, stack := _ :: rest, locked := none }) _
  jvm_step X.here [X.here.top, hx, hd, hm', hret, hn]
  first | (intro acts; rw [hl _ acts rfl rfl rfl]) | rw [hl _ _ rfl rfl rfl]
  exact Steps.refl _
end New
end Jvm.RoadKit
namespace Jvm.Pilot.@@N@@
open Jvm Jvm.ClassFile Sem Op Lib Jvm.Free Jvm.Stand Jvm.LawKit Jvm.RoadKit Bundle Jvm.Pilot.@@N@@.Jvm.D
theorem own_sa {Z : State} {a0 : Array Value} (hw : ∀ d ∈ tables_1, d.before a0 Z = true) : ∀ a ∈ Bundle.stringAtoms, a.before a0 Z = true := by
  intro d hd
  simp only [Bundle.stringAtoms, List.mem_cons, List.not_mem_nil, or_false] at hd
  rcases hd with rfl | rfl | rfl | rfl | rfl | rfl | rfl
  · exact (hw _ (List.mem_of_getElem? (i := 6) rfl))
  · exact (hw _ (List.mem_of_getElem? (i := 5) rfl))
  · exact (hw _ (List.mem_of_getElem? (i := 19) rfl))
  · exact (hw _ (List.mem_of_getElem? (i := 20) rfl))
  · exact (hw _ (List.mem_of_getElem? (i := 21) rfl))
  · exact (hw _ (List.mem_of_getElem? (i := 22) rfl))
  · exact (hw _ (List.mem_of_getElem? (i := 23) rfl))
theorem own_StaKeep {Z : State} {h h' : Heap} {C n d : String} {v : Value} {ws : List Addr} (F : Sta Z h C n d v) (K : Keep h h' ws) (q : ∀ x ∈ ws, ∃ D, Exa Z h x D) : Sta Z h' C n d v := by
  obtain ⟨cf, i, k, f, st, cell, h1, h2, h3, h4, h5, h6, h7⟩ := F
  refine ⟨cf, i, k, f, st, cell, h1, h2, h3, h4, K.2.1 st cell h5 (fun hm => ?_), h6, h7⟩
  obtain ⟨D, c', k', e1, -, -, e4, -⟩ := q st hm
  cases h5.symm.trans e1
  rw [e4] at h6; cases h6
theorem own_sw {Z : State} {a0 : Array Value} (hw : ∀ d ∈ tables_1, d.before a0 Z = true) : ∀ d ∈ StrChars.Road.words, d.before a0 Z = true := fun d hd => hw d ((by decide +kernel : ∀ d ∈ StrChars.Road.words, d ∈ tables_1) d hd)
/-- the literal of no signs: not loaded since the start, or booked and known -/
def own_EO (Z : State) (h : Heap) (vm : Vm) : Prop :=
  (IB Z vm [] ∧ ∀ (b : Addr) (cl : Cell), Z.heap[b]? = some cl → h[b]? = some cl) ∨
  ∃ (a t : Addr) (k : ClassId), Lit (Z.setVm vm) "java/lang/String" 7 a ∧ Exa Z h a "java/lang/String" ∧ Fld Z h a "java/lang/String" "coder" "B" (.int (0 : Int32)) ∧ Fld Z h a "java/lang/String" "value" "[B" (.ref t) ∧ Arv Z h t k .byte (0 : Int32) [] (.int (0 : Int32))
theorem own_EO.keep0 {Z : State} {h h' : Heap} {vm : Vm} (E : own_EO Z h vm) (K : Keep h h' []) : own_EO Z h' vm := by
  rcases E with ⟨I, q⟩ | ⟨a, t, k, l, e, c, v, r⟩
  · exact Or.inl ⟨I, fun b cl hb => K.2.1 b cl (q b cl hb) nin0⟩
  · exact Or.inr ⟨a, t, k, l, e.keep K, c.keep K nin0, v.keep K nin0, r.keep K nin0⟩
theorem own_EO.vm {Z s : State} {h : Heap} {vm' : Vm} (hW : s.WarmedH vm') (E : own_EO Z h s.vm) : own_EO Z h vm' := by
  rcases E with ⟨⟨more, I1, I2⟩, q⟩ | ⟨a, t, k, l, r⟩
  · exact Or.inl ⟨⟨more, by rw [hW.interned_eq]; exact I1, I2⟩, q⟩
  · exact Or.inr ⟨a, t, k, State.resolvedAt?_warmed39 (s := s) hW.wide l, r⟩
section EO
variable {p : Program} {l : Launch} {e : Env} {R : Room} {s : State} {m : MethodId} {args : Array Value} {below : List Frame} {meth : Method} {c : Code} {T : State} {locs : List Loc} {cells slots : Nat} {Z : State} {a0 : Array Value} {h : Heap}
theorem own_backE {y : MethodName} {bytes : ByteArray} {maxL : Nat} {ret : Option FieldType} {rm : Room} {len W : Nat} {as' : Array Value} {Q : Option Value → Heap → List Loc → Prop}
    (hM : MetFree l y (head1 [Jvm.Cond.code y bytes maxL ret] rm) (fun a U => a = as' ∧ Z.Warmed39 U.vm ∧ U.heap = h ∧ own_EO Z h U.vm) (fun _ _ _ _ _ => True) (fun _ U o U' => ∃ v L, o = .returned v ∧ (Q v U'.heap L ∧ own_EO Z U'.heap U'.vm) ∧ ReturnedEndW U o U' L rm.cells rm.slots))
    (hZ : Z.Warmed39 s.vm) (hE : own_EO Z h s.vm) (wc : (Jvm.Cond.code y bytes maxL ret).before a0 Z = true) (wz : (Jvm.Cond.initialized y.cls).before a0 Z = true) (hf : rm.frames + 1 ≤ R.frames) (hl : W + (maxL + 11) + rm.locals ≤ R.locals) :
    BackS l R p e below s args y len W (fun A a => a = as' ∧ A.U.heap = h ∧ A.cells + rm.cells ≤ R.cells ∧ A.slots + rm.slots ≤ R.slots)
      (fun A _ v B => ∃ L, (Q v B.U.heap L ∧ own_EO Z B.U.heap B.U.vm) ∧ B.locs = A.locs ++ L ∧ B.cells = A.cells + rm.cells ∧ B.slots = A.slots + rm.slots) :=
  BackS.of_freeW (bytes := bytes) (maxL := maxL) (ret := ret) (E := fun _ _ o t L k n => k = rm.cells ∧ n = rm.slots ∧ ∃ v, o = .returned v ∧ Q v t.heap L ∧ own_EO Z t.heap t.vm) hM hf hl
    (fun m meth c A a Y hp => have hU : Z.Warmed39 A.U.vm := wtrans hZ Y.warmed
      ⟨by show (Jvm.Cond.and _ .tt).before a A.U = true; rw [Cond.before_and, mv hU wc]; rfl, mv hU wc, mv hU wz, hp.2.2.1, hp.2.2.2⟩)
    (fun m meth c A a g mk Y hp => ⟨hp.1, wtrans hZ Y.warmed, hp.2.1, own_EO.vm Y.warmed hE⟩) (fun _ _ _ _ _ _ _ _ _ => trivial)
    (fun _ _ _ _ ⟨v, L, h1, h2, h3⟩ => ⟨L, _, _, h3, rfl, rfl, v, h1, h2⟩)
    (fun m meth c A a g mk v t L k n Y hp _ _ ⟨e1, e2, v', e3, e4⟩ => by cases e3; subst e1 e2; exact ⟨L, e4, rfl, rfl, rfl⟩)
/-- the literal's load, cold or again -/
theorem own_ldcE (X : Stand p l e R s m args below meth c T [] cells slots) (hx : p.tables.exec = Jvm.exec) (hZ : Z.Warmed39 s.vm) (hown : s.vm.findClass "java/lang/String" = some m.cls) (w : (Jvm.Cond.stringLink "java/lang/String" 7 "").before a0 Z = true) (wS : ∀ a ∈ Bundle.stringAtoms, a.before a0 Z = true)
    (eT : T.heap = h) (es : s.heap = h) (hE : own_EO Z h s.vm) (hh : Jvm.Lit.constHeld Z "java/lang/String" 7) (hcw : Jvm.Lit.compactW.before a0 Z = true)
    {g : JFrame} (hg : g.method = m) (hd : decode c.code g.pc = .ok (.ldc 7, 2)) (hc : cells + 2 ≤ R.cells) (hl' : slots + 4 ≤ R.slots) :
    ∃ (a t : Addr) (k : ClassId) (T' : State) (h' : Heap) (k1 : Nat), Stand p l e R (s.setVm T'.vm) m args below meth c T' [] (cells + 2) (slots + 4) ∧ T'.heap = h' ∧ Ext h h' ∧ s.Since T'.vm k1 ∧ k1 ≤ h'.size ∧ Z.Warmed39 (s.setVm T'.vm).vm ∧ (s.setVm T'.vm).vm.findClass "java/lang/String" = some m.cls ∧
      Exa Z h' a "java/lang/String" ∧ Fld Z h' a "java/lang/String" "coder" "B" (.int (0 : Int32)) ∧ Fld Z h' a "java/lang/String" "value" "[B" (.ref t) ∧ Arv Z h' t k .byte (0 : Int32) [] (.int (0 : Int32)) ∧ Lit (s.setVm T'.vm) "java/lang/String" 7 a ∧
      ∀ target, Steps p.tables e below (T'.setTop { g with pc := g.pc + 2, stack := .ref a :: g.stack }) target → Steps p.tables e below (T.setTop g) target := by
  rcases hE with ⟨I, q⟩ | ⟨a, t, k, L, e1, c1, v1, r1⟩
  · obtain ⟨a, T', h', k1, b, k, x1, x2, x3, x4, x5, x6, x7, x8, x9, x10, x11, -, -, -, x12, x13⟩ := ldcSVL (s := s) (vm0 := s.vm) X hx hZ hown w wS eT ((State.WarmedH.refl s).since 0) (Nat.zero_le _) (Fr.nil _) (fun b cl hb => by rw [es]; exact q b cl hb) I (List.not_mem_nil) hh hcw (vs := []) (z := (0 : Int32)) ⟨fun c hc => by simp at hc, rfl⟩ (by decide) rfl hg hd (n := 0) (by decide) (by decide) hc hl'
    exact ⟨a, b, k, T', h', k1, x1, x2, x3, x4, x5, x6, x7, x8, x9, x10, x11, x12, x13⟩
  · have X' : Stand p l e R (s.setVm T.vm) m args below meth c T [] (cells + 2) (slots + 4) := (X.retabled X.warmed.wide).more (by omega) (by omega)
    have L' : Lit (s.setVm T.vm) "java/lang/String" 7 a := State.resolvedAt?_warmed39 (s := s) X.warmed.wide L
    refine ⟨a, t, k, T, h, 0, X', eT, ⟨Nat.le_refl _, fun _ _ hb => hb⟩, X.warmed.since 0, Nat.zero_le _, wtrans hZ X.warmed, (X.warmed.alike.findClass _ _).trans hown, e1, c1, v1, r1, L', ?_⟩
    exact ldcAgain (s := s) (vm0 := s.vm) X hx hZ hown w L hg hd
end EO
/-- a String of these chars, each 0 to 255 -/
def own_Str (Z : State) (h : Heap) (b : Addr) (cs : List Int32) : Prop := ∃ (t : Addr) (k : ClassId), Exa Z h b "java/lang/String" ∧ Fld Z h b "java/lang/String" "coder" "B" (.int (0 : Int32)) ∧ Fld Z h b "java/lang/String" "value" "[B" (.ref t) ∧ Arv Z h t k .byte (Int32.ofNat cs.length) (cs.map fun c => Value.int (StrChars.lo8 c)) (.int (0 : Int32)) ∧ (∀ c ∈ cs, ¬ c < 0 ∧ ¬ (255 : Int32) < c) ∧ cs.length ≤ 4000
section Str
variable {Z : State} {h h' : Heap} {b x t : Addr} {cs : List Int32} {sl : Nat} {v : Value} {C : String} {n : Nat} {a0 : Array Value} {ws : List Addr} {k : ClassId}
theorem own_Str.lt (F : own_Str Z h b cs) : b < h.size := by obtain ⟨t, k, e, -⟩ := F; exact e.lt
theorem own_Str.exa (F : own_Str Z h b cs) : Exa Z h b "java/lang/String" := by obtain ⟨t, k, e, -⟩ := F; exact e
theorem own_Str.ext (F : own_Str Z h b cs) (E : Ext h h') : own_Str Z h' b cs := by
  obtain ⟨t, k, e, c, v, a, r⟩ := F; exact ⟨t, k, e.ext E, c.ext E, v.ext E, a.ext E, r⟩
theorem own_Str.wr (F : own_Str Z h b cs) (W : Wr h h' x sl v) (E : Exa Z h x C) (hC : C ≠ "java/lang/String") (wi : (Jvm.Cond.instantiable C n).before a0 Z = true) : own_Str Z h' b cs := by
  obtain ⟨t, k, e, c, v, a, r⟩ := F
  have n1 : b ≠ x := Ne.symm (Exa.ne E e hC)
  have n2 : t ≠ x := Ne.symm (Exa.neArv E a wi)
  exact ⟨t, k, e.wr W, c.other W (Or.inl n1), v.other W (Or.inl n1), a.other W n2, r⟩
theorem own_Str.keep (F : own_Str Z h b cs) (K : Keep h h' ws) (q : ∀ x ∈ ws, ∃ C n, Exa Z h x C ∧ C ≠ "java/lang/String" ∧ (Jvm.Cond.instantiable C n).before a0 Z = true) : own_Str Z h' b cs := by
  obtain ⟨t, k, e, c, v, a, r⟩ := F
  have n1 : b ∉ ws := fun hm => by obtain ⟨C, n, E, hC, -⟩ := q b hm; exact Exa.ne E e hC rfl
  have n2 : t ∉ ws := fun hm => by obtain ⟨C, n, E, -, wi⟩ := q t hm; exact Exa.neArv E a wi rfl
  exact ⟨t, k, e.keep K, c.keep K n1, v.keep K n1, a.keep K n2, r⟩
theorem own_mkStr {N : Int32} {bs : List Value} (e : Exa Z h b "java/lang/String") (c : Fld Z h b "java/lang/String" "coder" "B" (.int (0 : Int32))) (v : Fld Z h b "java/lang/String" "value" "[B" (.ref t)) (a : Arv Z h t k .byte N bs (.int (0 : Int32))) (hN : N = Int32.ofNat cs.length) (hb : bs = cs.map fun c => Value.int (StrChars.lo8 c)) (hp : ∀ c ∈ cs, ¬ c < 0 ∧ ¬ (255 : Int32) < c) (hl : cs.length ≤ 4000) : own_Str Z h b cs := by
  subst hN hb; exact ⟨t, k, e, c, v, a, hp, hl⟩
end Str
def own_eq (cs ds : List Int32) : Int32 := if cs = ds then 1 else 0
theorem own_eqv {v : Option Value} {cs ds : List Int32} (h : (v = some (.int 1) ∧ cs = ds) ∨ (v = some (.int 0) ∧ ¬ cs = ds)) : v = some (.int (own_eq cs ds)) := by
  rcases h with ⟨rfl, h⟩ | ⟨rfl, h⟩ <;> simp [own_eq, h]
theorem own_up {cs : List Int32} (h : ∀ c ∈ cs, ¬ c < 0 ∧ ¬ (255 : Int32) < c) : ∀ c ∈ cs, ¬ c < 0 ∧ ¬ (65535 : Int32) < c := fun c hc => ⟨(h c hc).1, fun q => (h c hc).2 (by rw [Int32.lt_iff_toInt_lt] at q ⊢; have e1 : (65535 : Int32).toInt = 65535 := rfl; have e2 : (255 : Int32).toInt = 255 := rfl; omega)⟩
theorem own_we {Z : State} {a0 : Array Value} (hw : ∀ d ∈ tables_1, d.before a0 Z = true) : ∀ d ∈ StrChars.Road.wordsEq, d.before a0 Z = true := fun d hd => hw d ((by decide +kernel : ∀ d ∈ StrChars.Road.wordsEq, d ∈ tables_1) d hd)
theorem own_noinst {Z : State} {a0 : Array Value} {K : String} {n : Nat} (w1 : (Jvm.Cond.superclass "java/lang/String" "java/lang/Object").before a0 Z = true) (w2 : (Jvm.Cond.noSuperclass "java/lang/Object").before a0 Z = true) (wi : (Jvm.Cond.instantiable K n).before a0 Z = true) (h1 : "java/lang/String" ≠ K) (h2 : "java/lang/Object" ≠ K) : ∃ c t, Z.vm.findClass "java/lang/String" = some c ∧ Z.vm.findClass K = some t ∧ Z.vm.assignable c t = false := by
  obtain ⟨t, kt, i1, i2, i3, i4⟩ := Cond.instantiable_spec wi
  obtain ⟨o, ko, o1, o2, o3, -, -⟩ := Cond.noSuperclass_spec w2
  obtain ⟨c, h0⟩ := found_sup w1
  obtain ⟨q, kc, kq, s1, s2, s3, s4, s5, -, s7⟩ := Cond.superclass_spec h0 w1
  cases s1.symm.trans o1
  have n1 := ids_ne h0 i1 h1
  have n2 := ids_ne o1 i1 h2
  refine ⟨c, t, h0, i1, ?_⟩
  have sub : ∀ fuel, Z.vm.isSubclassAux fuel c t = false := fun fuel => by
    cases fuel with
    | zero => rfl
    | succ f =>
      cases f with
      | zero => simp [Vm.isSubclassAux, n1, s2, s4]
      | succ f => simp [Vm.isSubclassAux, n1, n2, s2, s4, o2, o3]
  show Z.vm.assignableAux (255 + 1) c t = false
  simp [Vm.assignableAux, n1, s2, i2, i3, (Bool.or_eq_false_iff.mp i4.1).1, s5, Vm.isSubclass, sub]
theorem d3_0 : decode jdk_42_method_149_code 0 = .ok (.aload_n 0, 1) := by decide +kernel
theorem d3_1 : decode jdk_42_method_149_code 1 = .ok (.invokespecial 1, 3) := by decide +kernel
theorem d3_4 : decode jdk_42_method_149_code 4 = .ok (.iload_n 3, 1) := by decide +kernel
theorem d3_5 : decode jdk_42_method_149_code 5 = .ok (.ifCond .ne 22, 3) := by decide +kernel
theorem d3_8 : decode jdk_42_method_149_code 8 = .ok (.aload_n 0, 1) := by decide +kernel
theorem d3_9 : decode jdk_42_method_149_code 9 = .ok (.ldc 7, 2) := by decide +kernel
theorem d3_11 : decode jdk_42_method_149_code 11 = .ok (.getfield 9, 3) := by decide +kernel
theorem d3_14 : decode jdk_42_method_149_code 14 = .ok (.putfield 9, 3) := by decide +kernel
theorem d3_17 : decode jdk_42_method_149_code 17 = .ok (.aload_n 0, 1) := by decide +kernel
theorem d3_18 : decode jdk_42_method_149_code 18 = .ok (.ldc 7, 2) := by decide +kernel
theorem d3_20 : decode jdk_42_method_149_code 20 = .ok (.getfield 15, 3) := by decide +kernel
theorem d3_23 : decode jdk_42_method_149_code 23 = .ok (.putfield 15, 3) := by decide +kernel
theorem d3_26 : decode jdk_42_method_149_code 26 = .ok (.return_, 1) := by decide +kernel
theorem pn_0 : plainName "java/lang/String" = true := by first | (simp [plainName, overriddenIn]; done) | decide +kernel
theorem ef_v0 (m : MethodId) (a1 : Addr) (a2 : Addr) (p3 : Int32) (p4 : Int32) : entryFrame m #[(.ref a1), (.ref a2), (.int p3), (.int p4), .null] 6 = mkF m 0 #[.val (.ref a1), .val (.ref a2), .val (.int p3), .val (.int p4), .val .null, .unset] [] := by first | (simp [entryFrame, mkF, argsToLocals, Value.category]; done) | rfl
def Qv0 (Z : State) (a1 : Addr) (a2 : Addr) (p3 : Int32) (p4 : Int32) (w_coder_a1 : Int32) (h0 : Heap) (n0 : Nat) (v : Option Value) (h : Heap) (L : List Loc) : Prop := ∃ (xt : Addr) (xk : ClassId), v = none ∧ Fr n0 L ∧ Keep h0 h [a1] ∧ Exa Z h a1 "java/lang/String" ∧ Fld Z h a1 "java/lang/String" "coder" "B" (.int (0 : Int32)) ∧ Fld Z h a1 "java/lang/String" "value" "[B" (.ref xt) ∧ Arv Z h xt xk .byte (0 : Int32) [] (.int (0 : Int32))
set_option maxRecDepth 65536 in
set_option maxHeartbeats 40000000 in
theorem rmv0 (l : Launch) (Z : State) (a0 : Array Value) (hw : ∀ d ∈ tables_1, d.before a0 Z = true) (ws : List Jvm.Cond) (a1 : Addr) (a2 : Addr) (p3 : Int32) (p4 : Int32) (w_coder_a1 : Int32) (h0 : Heap) (n0 : Nat) (Z0 : n0 ≤ h0.size) (E_a1 : Exa Z h0 a1 "java/lang/String") (F_value_a1 : Fld Z h0 a1 "java/lang/String" "value" "[B" .null) (F_coder_a1 : Fld Z h0 a1 "java/lang/String" "coder" "B" (.int w_coder_a1)) (hCH : Jvm.Lit.constHeld Z "java/lang/String" 7) (hCW : Jvm.Lit.compactW.before a0 Z = true) (hc5 : p4 = (0 : Int32)) (g_a1 : n0 ≤ a1) :
    MetFree l (⟨"java/lang/String", "<init>", "([CIILjava/lang/Void;)V"⟩ : MethodName) (head1 (Jvm.Cond.code (⟨"java/lang/String", "<init>", "([CIILjava/lang/Void;)V"⟩ : MethodName) jdk_42_method_149_code 6 none :: ws) ({ frames := 1, cells := 2, slots := 4, locals := 12 } : Room)) (fun a U => a = #[(.ref a1), (.ref a2), (.int p3), (.int p4), .null] ∧ Z.Warmed39 U.vm ∧ U.heap = h0 ∧ own_EO Z h0 U.vm) (fun _ _ _ _ _ => True) (fun _ U o U' => ∃ v L, o = .returned v ∧ (Qv0 Z a1 a2 p3 p4 w_coder_a1 h0 n0 v U'.heap L ∧ own_EO Z U'.heap U'.vm) ∧ ReturnedEndW U o U' L ({ frames := 1, cells := 2, slots := 4, locals := 12 } : Room).cells ({ frames := 1, cells := 2, slots := 4, locals := 12 } : Room).slots) := by
  refine MetFree.of_bodySF (plainFor_of_name pn_0) hisR ?_
  intro p e s m args below meth c s₁ Bd hml0 hP hK
  obtain ⟨rfl, hZ, hh, hE⟩ := hP
  have hx := Bd.exec
  have hby := Bd.bytes
  have hml : c.maxLocals = 6 := hml0
  have hown : s.vm.findClass "java/lang/String" = some m.cls := findClass_of_methodNamed Bd.named
  have hnm := (name_of_methodNamed Bd.named Bd.method).1
  have X0 : Stand p l e ({ frames := 1, cells := 2, slots := 4, locals := 12 } : Room) s m #[(.ref a1), (.ref a2), (.int p3), (.int p4), .null] below meth c s₁ [] 0 0 := Stand.of_body Bd
  have e0 : s₁.heap = h0 := by rw [← hh, Bd.state]; rfl
  have N0 := Fr.nil n0
  have pre0 : ∀ t, Steps p.tables e below (s₁.setTop (mkF m 0 #[.val (.ref a1), .val (.ref a2), .val (.int p3), .val (.int p4), .val .null, .unset] [])) t → Steps p.tables e below (s₁.setTop (entryFrame m #[(.ref a1), (.ref a2), (.int p3), (.int p4), .null] 6)) t := fun t k => castTop (ef_v0 m a1 a2 p3 p4) k
  obtain ⟨T5, X5, e5, st5⟩ := initO X0 hx hZ hown (hw _ (List.mem_of_getElem? (i := 15) rfl)) (hw _ (List.mem_of_getElem? (i := 16) rfl)) (hw _ (List.mem_of_getElem? (i := 17) rfl)) e0 (g := (mkF m 1 #[.val (.ref a1), .val (.ref a2), .val (.int p3), .val (.int p4), .val .null, .unset] [(.ref a1)])) rfl (by rw [hml]; rfl) rfl (hb hby d3_1) (by decide) (W := 0) (by show 2 * 0 + _ ≤ _; exact Nat.le_of_eq rfl) (by decide)
  have es6 : s.heap = h0 := by first | exact hh | rw [hh]
  obtain ⟨lit6, tl6, kl6, T6, h6, kk6, X6, e6, E6, hS6, hk6, hZ6, hown6, f6E, f6C, f6V, f6A, L6, st6⟩ := own_ldcE X5 hx hZ hown (hw _ (List.mem_of_getElem? (i := 18) rfl)) (own_sa hw) e5 es6 hE hCH hCW (g := (mkF m 9 #[.val (.ref a1), .val (.ref a2), .val (.int p3), .val (.int p4), .val .null, .unset] [(.ref a1)])) rfl (hb hby d3_9) (by decide) (by decide)
  have K6 : Keep h0 h6 [a1] := ((Keep.refl h0 [a1])).ext E6
  have Z6 : n0 ≤ h6.size := Nat.le_trans Z0 E6.1
  have ne_lit6_a1 : lit6 ≠ a1 := Fld.ne f6V (F_value_a1.ext E6) nofun
  have ne_tl6_a1 : tl6 ≠ a1 := Ne.symm (Exa.neArv (E_a1.ext E6) f6A (hw _ (List.mem_of_getElem? (i := 5) rfl)))
  obtain ⟨T7, X7, e7, st7⟩ := getF X6 hx hZ6 hown6 (host := "") (Or.inl (hw _ (List.mem_of_getElem? (i := 24) rfl))) Via.refl e6 f6V (g := (mkF m 11 #[.val (.ref a1), .val (.ref a2), .val (.int p3), .val (.int p4), .val .null, .unset] [(.ref lit6), (.ref a1)])) rfl rfl (hb hby d3_11)
  obtain ⟨T8, h8, X8, e8, W8, st8⟩ := putF X7 hx hZ6 hown6 (host := "") (Or.inl (hw _ (List.mem_of_getElem? (i := 24) rfl))) Via.refl e7 (F_value_a1.ext E6) (E_a1.ext E6) (Or.inr ⟨(hw _ (List.mem_of_getElem? (i := 20) rfl)), rfl, hnm⟩) (hw _ (List.mem_of_getElem? (i := 5) rfl)) (ty := (.array .byte)) (by decide) rfl rfl (g := (mkF m 14 #[.val (.ref a1), .val (.ref a2), .val (.int p3), .val (.int p4), .val .null, .unset] [(.ref tl6), (.ref a1)])) rfl rfl (hb hby d3_14)
  have N8 := Fr.snoc X8 N0 g_a1
  have y9 := ((F_coder_a1.ext E6).other W8 (Or.inr (slot_ne (Or.inr (hw _ (List.mem_of_getElem? (i := 21) rfl))) (Or.inr (hw _ (List.mem_of_getElem? (i := 20) rfl))) (by decide) (t := .byte) (t' := (.array .byte)) (by decide) (by decide))))
  have K8 : Keep h0 h8 [a1] := (K6).wr W8 (Or.inl (List.mem_of_getElem? (i := 0) rfl))
  have Z8 : n0 ≤ h8.size := Nat.le_trans Z6 (Keep.of_wr W8).1
  obtain ⟨T10, X10, e10, st10⟩ := getF X8 hx hZ6 hown6 (host := "") (Or.inl (hw _ (List.mem_of_getElem? (i := 25) rfl))) Via.refl e8 (f6C.other W8 (Or.inl ne_lit6_a1)) (g := (mkF m 20 #[.val (.ref a1), .val (.ref a2), .val (.int p3), .val (.int p4), .val .null, .unset] [(.ref lit6), (.ref a1)])) rfl rfl (hb hby d3_20)
  obtain ⟨T11, h11, X11, e11, W11, st11⟩ := putFN X10 hx hZ6 hown6 (hw _ (List.mem_of_getElem? (i := 25) rfl)) Via.refl e10 y9 ((E_a1.ext E6).wr W8) (Or.inr ⟨(hw _ (List.mem_of_getElem? (i := 21) rfl)), rfl, hnm⟩) (hw _ (List.mem_of_getElem? (i := 5) rfl)) (ty := .byte) (v' := (.int (0 : Int32))) (by decide) rfl rfl (g := (mkF m 23 #[.val (.ref a1), .val (.ref a2), .val (.int p3), .val (.int p4), .val .null, .unset] [(.int (0 : Int32)), (.ref a1)])) rfl rfl (hb hby d3_23)
  have N11 := Fr.snoc X11 N8 g_a1
  have y12 := (((F_value_a1.ext E6).same W8).other W11 (Or.inr (slot_ne (Or.inr (hw _ (List.mem_of_getElem? (i := 20) rfl))) (Or.inr (hw _ (List.mem_of_getElem? (i := 21) rfl))) (by decide) (t := (.array .byte)) (t' := .byte) (by decide) (by decide))))
  have y13 := ((f6C.other W8 (Or.inl ne_lit6_a1)).other W11 (Or.inl ne_lit6_a1))
  have y14 := ((f6V.other W8 (Or.inl ne_lit6_a1)).other W11 (Or.inl ne_lit6_a1))
  have y15 := ((f6A.other W8 ne_tl6_a1).other W11 ne_tl6_a1)
  have K11 : Keep h0 h11 [a1] := (K8).wr W11 (Or.inl (List.mem_of_getElem? (i := 0) rfl))
  have Z11 : n0 ≤ h11.size := Nat.le_trans Z8 (Keep.of_wr W11).1
  obtain ⟨fs, hr, hrun, hended, hEW⟩ := X11.leaveW hS6 (by rw [e11]; exact (Nat.le_trans (Nat.le_trans hk6 (Keep.of_wr W8).1) (Keep.of_wr W11).1)) (v := none) (fun _ => rfl)
  refine ⟨_, _, pre0 _ ?_, hrun, hended, _, _, rfl, ?_, ⟨_, rfl⟩, hEW.2.1, hEW.2.2.1, hEW.2.2.2.mono (by decide) (by decide)⟩
  · show Steps p.tables e below (s₁.setTop (mkF m 0 #[.val (.ref a1), .val (.ref a2), .val (.int p3), .val (.int p4), .val .null, .unset] [])) _
    refine XS.aloadN X0.here hx rfl (hb hby d3_0) rfl rfl ?_
    show Steps p.tables e below (s₁.setTop (mkF m 1 #[.val (.ref a1), .val (.ref a2), .val (.int p3), .val (.int p4), .val .null, .unset] [(.ref a1)])) _
    refine st5 _ ?_
    show Steps p.tables e below (T5.setTop (mkF m 4 #[.val (.ref a1), .val (.ref a2), .val (.int p3), .val (.int p4), .val .null, .unset] [])) _
    refine XS.iloadN X5.here hx rfl (hb hby d3_4) rfl ?_
    show Steps p.tables e below (T5.setTop (mkF m 5 #[.val (.ref a1), .val (.ref a2), .val (.int p3), .val (.int p4), .val .null, .unset] [(.int p4)])) _
    refine XS.ifNo X5.here hx rfl (hb hby d3_5) rfl ((if0 _ _).trans (teq hc5).2) ?_
    show Steps p.tables e below (T5.setTop (mkF m 8 #[.val (.ref a1), .val (.ref a2), .val (.int p3), .val (.int p4), .val .null, .unset] [])) _
    refine XS.aloadN X5.here hx rfl (hb hby d3_8) rfl rfl ?_
    show Steps p.tables e below (T5.setTop (mkF m 9 #[.val (.ref a1), .val (.ref a2), .val (.int p3), .val (.int p4), .val .null, .unset] [(.ref a1)])) _
    refine st6 _ ?_
    show Steps p.tables e below (T6.setTop (mkF m 11 #[.val (.ref a1), .val (.ref a2), .val (.int p3), .val (.int p4), .val .null, .unset] [(.ref lit6), (.ref a1)])) _
    refine st7 _ ?_
    show Steps p.tables e below (T7.setTop (mkF m 14 #[.val (.ref a1), .val (.ref a2), .val (.int p3), .val (.int p4), .val .null, .unset] [(.ref tl6), (.ref a1)])) _
    refine st8 _ ?_
    show Steps p.tables e below (T8.setTop (mkF m 17 #[.val (.ref a1), .val (.ref a2), .val (.int p3), .val (.int p4), .val .null, .unset] [])) _
    refine XS.aloadN X8.here hx rfl (hb hby d3_17) rfl rfl ?_
    show Steps p.tables e below (T8.setTop (mkF m 18 #[.val (.ref a1), .val (.ref a2), .val (.int p3), .val (.int p4), .val .null, .unset] [(.ref a1)])) _
    refine ldcAgain X8 hx hZ6 hown6 (hw _ (List.mem_of_getElem? (i := 18) rfl)) L6 (g := (mkF m 18 #[.val (.ref a1), .val (.ref a2), .val (.int p3), .val (.int p4), .val .null, .unset] [(.ref a1)])) rfl (hb hby d3_18) _ ?_
    show Steps p.tables e below (T8.setTop (mkF m 20 #[.val (.ref a1), .val (.ref a2), .val (.int p3), .val (.int p4), .val .null, .unset] [(.ref lit6), (.ref a1)])) _
    refine st10 _ ?_
    show Steps p.tables e below (T10.setTop (mkF m 23 #[.val (.ref a1), .val (.ref a2), .val (.int p3), .val (.int p4), .val .null, .unset] [(.int (0 : Int32)), (.ref a1)])) _
    refine st11 _ ?_
    show Steps p.tables e below (T11.setTop (mkF m 26 #[.val (.ref a1), .val (.ref a2), .val (.int p3), .val (.int p4), .val .null, .unset] [])) _
    exact X11.returnOut hx Bd.returns (hb hby d3_26) hr
  · show Qv0 Z a1 a2 p3 p4 w_coder_a1 h0 n0 _ T11.heap _ ∧ own_EO Z T11.heap T11.vm
    rw [e11]
    refine ⟨?_, Or.inr ⟨lit6, tl6, kl6, State.resolvedAt?_warmed39 (s := s.setVm T6.vm) X11.warmed.wide L6, ((f6E.wr W8).wr W11), y13, y14, y15⟩⟩
    exact ⟨tl6, kl6, rfl, N11, (K11), (((E_a1.ext E6).wr W8).wr W11), (y9.same W11), y12, y15⟩
theorem pd_0 : parseMethodDescriptor "([CIILjava/lang/Void;)V" = some ⟨[(.array .char), .int, .int, (.object "java/lang/Void")], none⟩ := by decide +kernel
theorem d2_0 : decode jdk_42_method_3_code 0 = .ok (.aload_n 0, 1) := by decide +kernel
theorem d2_1 : decode jdk_42_method_3_code 1 = .ok (.aload_n 1, 1) := by decide +kernel
theorem d2_2 : decode jdk_42_method_3_code 2 = .ok (.iconst 0, 1) := by decide +kernel
theorem d2_3 : decode jdk_42_method_3_code 3 = .ok (.aload_n 1, 1) := by decide +kernel
theorem d2_4 : decode jdk_42_method_3_code 4 = .ok (.arraylength, 1) := by decide +kernel
theorem d2_5 : decode jdk_42_method_3_code 5 = .ok (.aconst_null, 1) := by decide +kernel
theorem d2_6 : decode jdk_42_method_3_code 6 = .ok (.invokespecial 27, 3) := by decide +kernel
theorem d2_9 : decode jdk_42_method_3_code 9 = .ok (.return_, 1) := by decide +kernel
theorem ef_i0 (m : MethodId) (a1 : Addr) (a2 : Addr) : entryFrame m #[(.ref a1), (.ref a2)] 2 = mkF m 0 #[.val (.ref a1), .val (.ref a2)] [] := by first | (simp [entryFrame, mkF, argsToLocals, Value.category]; done) | rfl
def Qi0 (Z : State) (a1 : Addr) (a2 : Addr) (w_coder_a1 : Int32) (k_a2 : ClassId) (vl_a2 : List Int32) (h0 : Heap) (n0 : Nat) (v : Option Value) (h : Heap) (L : List Loc) : Prop := ∃ (xt : Addr) (xk : ClassId), v = none ∧ Fr n0 L ∧ Keep h0 h [a1] ∧ Exa Z h a1 "java/lang/String" ∧ Fld Z h a1 "java/lang/String" "coder" "B" (.int (0 : Int32)) ∧ Fld Z h a1 "java/lang/String" "value" "[B" (.ref xt) ∧ Arv Z h xt xk .byte (0 : Int32) [] (.int (0 : Int32))
set_option maxRecDepth 65536 in
set_option maxHeartbeats 40000000 in
theorem rmi0 (l : Launch) (Z : State) (a0 : Array Value) (hw : ∀ d ∈ tables_1, d.before a0 Z = true) (ws : List Jvm.Cond) (a1 : Addr) (a2 : Addr) (w_coder_a1 : Int32) (k_a2 : ClassId) (vl_a2 : List Int32) (h0 : Heap) (n0 : Nat) (Z0 : n0 ≤ h0.size) (E_a1 : Exa Z h0 a1 "java/lang/String") (F_value_a1 : Fld Z h0 a1 "java/lang/String" "value" "[B" .null) (F_coder_a1 : Fld Z h0 a1 "java/lang/String" "coder" "B" (.int w_coder_a1)) (V_a2 : Arv Z h0 a2 k_a2 .char (0 : Int32) (vl_a2.map Value.int) (.int (0 : Int32))) (hCH : Jvm.Lit.constHeld Z "java/lang/String" 7) (hCW : Jvm.Lit.compactW.before a0 Z = true) (g_a1 : n0 ≤ a1) (ne_a2_a1 : a2 ≠ a1) :
    MetFree l (⟨"java/lang/String", "<init>", "([C)V"⟩ : MethodName) (head1 (Jvm.Cond.code (⟨"java/lang/String", "<init>", "([C)V"⟩ : MethodName) jdk_42_method_3_code 2 none :: ws) ({ frames := 2, cells := 2, slots := 4, locals := 29 } : Room)) (fun a U => a = #[(.ref a1), (.ref a2)] ∧ Z.Warmed39 U.vm ∧ U.heap = h0 ∧ own_EO Z h0 U.vm) (fun _ _ _ _ _ => True) (fun _ U o U' => ∃ v L, o = .returned v ∧ (Qi0 Z a1 a2 w_coder_a1 k_a2 vl_a2 h0 n0 v U'.heap L ∧ own_EO Z U'.heap U'.vm) ∧ ReturnedEndW U o U' L ({ frames := 2, cells := 2, slots := 4, locals := 29 } : Room).cells ({ frames := 2, cells := 2, slots := 4, locals := 29 } : Room).slots) := by
  refine MetFree.of_bodySF (plainFor_of_name pn_0) hisR ?_
  intro p e s m args below meth c s₁ Bd hml0 hP hK
  obtain ⟨rfl, hZ, hh, hE⟩ := hP
  have hx := Bd.exec
  have hby := Bd.bytes
  have hml : c.maxLocals = 2 := hml0
  have hown : s.vm.findClass "java/lang/String" = some m.cls := findClass_of_methodNamed Bd.named
  have hnm := (name_of_methodNamed Bd.named Bd.method).1
  have X0 : Stand p l e ({ frames := 2, cells := 2, slots := 4, locals := 29 } : Room) s m #[(.ref a1), (.ref a2)] below meth c s₁ [] 0 0 := Stand.of_body Bd
  have e0 : s₁.heap = h0 := by rw [← hh, Bd.state]; rfl
  have N0 := Fr.nil n0
  have pre0 : ∀ t, Steps p.tables e below (s₁.setTop (mkF m 0 #[.val (.ref a1), .val (.ref a2)] [])) t → Steps p.tables e below (s₁.setTop (entryFrame m #[(.ref a1), (.ref a2)] 2)) t := fun t k => castTop (ef_i0 m a1 a2) k
  obtain ⟨cl3, Ar3, qq3, S3, NN3, -, -⟩ := V_a2
  obtain ⟨_, _, ⟨T4, L4, k4, n4⟩, -, X4, hS4q, hgr4, ⟨Lc4, hQ4, l4, y4, z4⟩, st4⟩ := X0.specialBackS hx (y := (⟨"java/lang/String", "<init>", "([CIILjava/lang/Void;)V"⟩ : MethodName)) rfl hown (mvT hZ (hw _ (List.mem_of_getElem? (i := 11) rfl))) (mvT hZ (hw _ (List.mem_of_getElem? (i := 12) rfl))) (mvT hZ (hw _ (List.mem_of_getElem? (i := 14) rfl))) (by decide) (own_backE (W := 0) (rmv0 l Z a0 hw [] a1 a2 (0 : Int32) (0 : Int32) w_coder_a1 h0 n0 Z0 E_a1 F_value_a1 F_coder_a1 hCH hCW (by decide : (0 : Int32) = (0 : Int32)) g_a1) hZ hE (hw _ (List.mem_of_getElem? (i := 14) rfl)) (hw _ (List.mem_of_getElem? (i := 6) rfl)) (by decide) (by decide)) (g := (mkF m 6 #[.val (.ref a1), .val (.ref a2)] [.null, (.int (0 : Int32)), (.int (0 : Int32)), (.ref a2), (.ref a1)])) rfl (by rw [hml]; rfl) (Steps.refl _) (a := a1) (argsL := [(.ref a2), (.int (0 : Int32)), (.int (0 : Int32)), .null]) (rest := []) (lenOf pd_0 rfl) rfl (by show 2 * 0 + _ ≤ _; exact Nat.le_of_eq rfl) (hb hby d2_6) (fun _ _ => ⟨rfl, e0, (by decide : 0 + 2 ≤ _), (by decide : 0 + 4 ≤ _)⟩)
  dsimp only [Pt.U, Pt.locs, Pt.cells, Pt.slots] at X4 l4 y4 z4 st4 hQ4 hS4q hgr4
  subst l4 y4 z4
  have X4w := X4
  have hS4 := hS4q
  have hZ4 : Z.Warmed39 (s.setVm T4.vm).vm := State.Warmed39.trans hZ hS4.1
  have hown4 : (s.setVm T4.vm).vm.findClass "java/lang/String" = some m.cls := (hS4.1.alike.findClass _ _).trans hown
  obtain ⟨⟨x4_0, x4_1, rfl, N4q, K4q, f4_0, f4_1, f4_2, f4_3⟩, hE4⟩ := hQ4
  have K4 : Keep h0 T4.heap [a1] := ((Keep.refl h0 [a1])).trans K4q (allS (P := fun x => x ∈ [a1] ∨ h0.size ≤ x) (Or.inl (List.mem_of_getElem? (i := 0) rfl)) all0)
  have Z4 : n0 ≤ T4.heap.size := Nat.le_trans Z0 K4q.1
  have N4 := Fr.app N0 N4q
  obtain ⟨fs, hr, hrun, hended, hEW⟩ := X4w.leaveW hS4 (Nat.le_refl _) (v := none) (fun _ => rfl)
  refine ⟨_, _, pre0 _ ?_, hrun, hended, _, _, rfl, ?_, ⟨_, rfl⟩, hEW.2.1, hEW.2.2.1, hEW.2.2.2.mono (by decide) (by decide)⟩
  · show Steps p.tables e below (s₁.setTop (mkF m 0 #[.val (.ref a1), .val (.ref a2)] [])) _
    refine XS.aloadN X0.here hx rfl (hb hby d2_0) rfl rfl ?_
    show Steps p.tables e below (s₁.setTop (mkF m 1 #[.val (.ref a1), .val (.ref a2)] [(.ref a1)])) _
    refine XS.aloadN X0.here hx rfl (hb hby d2_1) rfl rfl ?_
    show Steps p.tables e below (s₁.setTop (mkF m 2 #[.val (.ref a1), .val (.ref a2)] [(.ref a2), (.ref a1)])) _
    refine XS.iconst X0.here hx rfl (hb hby d2_2) ?_
    show Steps p.tables e below (s₁.setTop (mkF m 3 #[.val (.ref a1), .val (.ref a2)] [(.int (0 : Int32)), (.ref a2), (.ref a1)])) _
    refine XS.aloadN X0.here hx rfl (hb hby d2_3) rfl rfl ?_
    show Steps p.tables e below (s₁.setTop (mkF m 4 #[.val (.ref a1), .val (.ref a2)] [(.ref a2), (.int (0 : Int32)), (.ref a2), (.ref a1)])) _
    refine X0.arraylength hx (by rw [e0]; exact Ar3.1) (State.isArrayOf_alike hZ.alike Ar3.2.1) (g := (mkF m 4 #[.val (.ref a1), .val (.ref a2)] [(.ref a2), (.int (0 : Int32)), (.ref a2), (.ref a1)])) rfl rfl (hb hby d2_4) _ ?_
    rw [len_of S3 NN3]
    show Steps p.tables e below (s₁.setTop (mkF m 5 #[.val (.ref a1), .val (.ref a2)] [(.int (0 : Int32)), (.int (0 : Int32)), (.ref a2), (.ref a1)])) _
    refine XS.aconstNull X0.here hx rfl (hb hby d2_5) ?_
    show Steps p.tables e below (s₁.setTop (mkF m 6 #[.val (.ref a1), .val (.ref a2)] [.null, (.int (0 : Int32)), (.int (0 : Int32)), (.ref a2), (.ref a1)])) _
    refine st4.trans ?_
    show Steps p.tables e below (T4.setTop (mkF m 9 #[.val (.ref a1), .val (.ref a2)] [])) _
    exact X4w.returnOut hx Bd.returns (hb hby d2_9) hr
  · show Qi0 Z a1 a2 w_coder_a1 k_a2 vl_a2 h0 n0 _ T4.heap _ ∧ own_EO Z T4.heap T4.vm
    refine ⟨?_, own_EO.vm X4w.warmed hE4⟩
    exact ⟨x4_0, x4_1, rfl, N4, (K4), f4_0, f4_1, f4_2, f4_3⟩
def own_cs (p1 p2 p3 : Int32) : List Int32 := if p1 = (0 : Int32) then [] else if p1 = (1 : Int32) then [p2] else [p2, p3]
theorem own_nc {x : Int32} (h0 : ¬ (x < (0 : Int32))) (h1 : ¬ ((255 : Int32) < x)) : x.toUInt32.toUInt16.toUInt32.toInt32 = x := by
  have q := c_i2c x
  have z : (0 : Int32).toInt = 0 := rfl
  have z' : (255 : Int32).toInt = 255 := rfl
  rw [Int32.lt_iff_toInt_lt] at h0 h1
  rw [← Int32.toInt_inj]; omega
theorem own_in1 {x : Int32} (h0 : ¬ (x < (0 : Int32))) (h1 : ¬ ((255 : Int32) < x)) : ∀ c ∈ ([x.toUInt32.toUInt16.toUInt32.toInt32] : List Int32), ¬ c < 0 ∧ ¬ (255 : Int32) < c := by
  intro c hc
  simp only [List.mem_cons, List.not_mem_nil, or_false] at hc
  rw [hc, own_nc h0 h1]; exact ⟨h0, h1⟩
theorem own_in2 {x y : Int32} (h0 : ¬ (x < (0 : Int32))) (h1 : ¬ ((255 : Int32) < x)) (g0 : ¬ (y < (0 : Int32))) (g1 : ¬ ((255 : Int32) < y)) : ∀ c ∈ ([x.toUInt32.toUInt16.toUInt32.toInt32, y.toUInt32.toUInt16.toUInt32.toInt32] : List Int32), ¬ c < 0 ∧ ¬ (255 : Int32) < c := by
  intro c hc
  simp only [List.mem_cons, List.not_mem_nil, or_false] at hc
  rcases hc with rfl | rfl
  · rw [own_nc h0 h1]; exact ⟨h0, h1⟩
  · rw [own_nc g0 g1]; exact ⟨g0, g1⟩
theorem pd_1 : parseMethodDescriptor "([C)V" = some ⟨[(.array .char)], none⟩ := by decide +kernel
theorem d1_0 : decode method_2_code 0 = .ok (.iload_n 0, 1) := by decide +kernel
theorem d1_1 : decode method_2_code 1 = .ok (.ifCond .ne 14, 3) := by decide +kernel
theorem d1_4 : decode method_2_code 4 = .ok (.new 7, 3) := by decide +kernel
theorem d1_7 : decode method_2_code 7 = .ok (.dup, 1) := by decide +kernel
theorem d1_8 : decode method_2_code 8 = .ok (.iconst 0, 1) := by decide +kernel
theorem d1_9 : decode method_2_code 9 = .ok (.newarray .char, 2) := by decide +kernel
theorem d1_11 : decode method_2_code 11 = .ok (.invokespecial 9, 3) := by decide +kernel
theorem d1_14 : decode method_2_code 14 = .ok (.areturn, 1) := by decide +kernel
theorem d1_15 : decode method_2_code 15 = .ok (.iload_n 0, 1) := by decide +kernel
theorem d1_16 : decode method_2_code 16 = .ok (.iconst 1, 1) := by decide +kernel
theorem d1_17 : decode method_2_code 17 = .ok (.if_icmp .ne 18, 3) := by decide +kernel
theorem d1_20 : decode method_2_code 20 = .ok (.new 7, 3) := by decide +kernel
theorem d1_23 : decode method_2_code 23 = .ok (.dup, 1) := by decide +kernel
theorem d1_24 : decode method_2_code 24 = .ok (.iconst 1, 1) := by decide +kernel
theorem d1_25 : decode method_2_code 25 = .ok (.newarray .char, 2) := by decide +kernel
theorem d1_27 : decode method_2_code 27 = .ok (.dup, 1) := by decide +kernel
theorem d1_28 : decode method_2_code 28 = .ok (.iconst 0, 1) := by decide +kernel
theorem d1_29 : decode method_2_code 29 = .ok (.iload_n 1, 1) := by decide +kernel
theorem d1_30 : decode method_2_code 30 = .ok (.castore, 1) := by decide +kernel
theorem d1_31 : decode method_2_code 31 = .ok (.invokespecial 9, 3) := by decide +kernel
theorem d1_34 : decode method_2_code 34 = .ok (.areturn, 1) := by decide +kernel
theorem d1_35 : decode method_2_code 35 = .ok (.new 7, 3) := by decide +kernel
theorem d1_38 : decode method_2_code 38 = .ok (.dup, 1) := by decide +kernel
theorem d1_39 : decode method_2_code 39 = .ok (.iconst 2, 1) := by decide +kernel
theorem d1_40 : decode method_2_code 40 = .ok (.newarray .char, 2) := by decide +kernel
theorem d1_42 : decode method_2_code 42 = .ok (.dup, 1) := by decide +kernel
theorem d1_43 : decode method_2_code 43 = .ok (.iconst 0, 1) := by decide +kernel
theorem d1_44 : decode method_2_code 44 = .ok (.iload_n 1, 1) := by decide +kernel
theorem d1_45 : decode method_2_code 45 = .ok (.castore, 1) := by decide +kernel
theorem d1_46 : decode method_2_code 46 = .ok (.dup, 1) := by decide +kernel
theorem d1_47 : decode method_2_code 47 = .ok (.iconst 1, 1) := by decide +kernel
theorem d1_48 : decode method_2_code 48 = .ok (.iload_n 2, 1) := by decide +kernel
theorem d1_49 : decode method_2_code 49 = .ok (.castore, 1) := by decide +kernel
theorem d1_50 : decode method_2_code 50 = .ok (.invokespecial 9, 3) := by decide +kernel
theorem d1_53 : decode method_2_code 53 = .ok (.areturn, 1) := by decide +kernel
theorem pn_1 : plainName "com/example/bowerbird/bowerbird/protocol/QueueDataEqualsPinLaw" = true := by first | (simp [plainName, overriddenIn]; done) | decide +kernel
theorem ef_1 (m : MethodId) (p1 : Int32) (p2 : Int32) (p3 : Int32) : entryFrame m #[(.int p1), (.int p2), (.int p3)] 3 = mkF m 0 #[.val (.int p1), .val (.int p2), .val (.int p3)] [] := by first | (simp [entryFrame, mkF, argsToLocals, Value.category]; done) | rfl
def Q1 (Z : State) (p1 : Int32) (p2 : Int32) (p3 : Int32) (st_COMPACT_STRINGS : Int32) (h0 : Heap) (n0 : Nat) (v : Option Value) (h : Heap) (L : List Loc) : Prop := ∃ xb : Addr, v = some (.ref xb) ∧ Fr n0 L ∧ Keep h0 h [] ∧ own_Str Z h xb (own_cs p1 p2 p3)
set_option maxRecDepth 65536 in
set_option maxHeartbeats 40000000 in
theorem rm1 (l : Launch) (Z : State) (a0 : Array Value) (hw : ∀ d ∈ tables_1, d.before a0 Z = true) (ws : List Jvm.Cond) (p1 : Int32) (p2 : Int32) (p3 : Int32) (st_COMPACT_STRINGS : Int32) (h0 : Heap) (n0 : Nat) (Z0 : n0 ≤ h0.size) (S_COMPACT_STRINGS : Sta Z h0 "java/lang/String" "COMPACT_STRINGS" "Z" (.int st_COMPACT_STRINGS)) (hCH : Jvm.Lit.constHeld Z "java/lang/String" 7) (hCW : Jvm.Lit.compactW.before a0 Z = true) (hq0_3 : ¬ (p2 < (0 : Int32))) (hq0_4 : ¬ ((255 : Int32) < p2)) (hq0_5 : ¬ (p3 < (0 : Int32))) (hq0_6 : ¬ ((255 : Int32) < p3)) (hq31_7 : ¬ (st_COMPACT_STRINGS = (0 : Int32))) :
    MetFree l (⟨"com/example/bowerbird/bowerbird/protocol/QueueDataEqualsPinLaw", "name", "(ICC)Ljava/lang/String;"⟩ : MethodName) (head1 (Jvm.Cond.code (⟨"com/example/bowerbird/bowerbird/protocol/QueueDataEqualsPinLaw", "name", "(ICC)Ljava/lang/String;"⟩ : MethodName) method_2_code 3 (some (.object "java/lang/String")) :: ws) ({ frames := 4, cells := 4, slots := 8, locals := 66 } : Room)) (fun a U => a = #[(.int p1), (.int p2), (.int p3)] ∧ Z.Warmed39 U.vm ∧ U.heap = h0 ∧ own_EO Z h0 U.vm) (fun _ _ _ _ _ => True) (fun _ U o U' => ∃ v L, o = .returned v ∧ (Q1 Z p1 p2 p3 st_COMPACT_STRINGS h0 n0 v U'.heap L ∧ own_EO Z U'.heap U'.vm) ∧ ReturnedEndW U o U' L ({ frames := 4, cells := 4, slots := 8, locals := 66 } : Room).cells ({ frames := 4, cells := 4, slots := 8, locals := 66 } : Room).slots) := by
  refine MetFree.of_bodySF (plainFor_of_name pn_1) hisR ?_
  intro p e s m args below meth c s₁ Bd hml0 hP hK
  obtain ⟨rfl, hZ, hh, hE⟩ := hP
  have hx := Bd.exec
  have hby := Bd.bytes
  have hml : c.maxLocals = 3 := hml0
  have hown : s.vm.findClass "com/example/bowerbird/bowerbird/protocol/QueueDataEqualsPinLaw" = some m.cls := findClass_of_methodNamed Bd.named
  have hnm := (name_of_methodNamed Bd.named Bd.method).1
  have X0 : Stand p l e ({ frames := 4, cells := 4, slots := 8, locals := 66 } : Room) s m #[(.int p1), (.int p2), (.int p3)] below meth c s₁ [] 0 0 := Stand.of_body Bd
  have e0 : s₁.heap = h0 := by rw [← hh, Bd.state]; rfl
  have N0 := Fr.nil n0
  have pre0 : ∀ t, Steps p.tables e below (s₁.setTop (mkF m 0 #[.val (.int p1), .val (.int p2), .val (.int p3)] [])) t → Steps p.tables e below (s₁.setTop (entryFrame m #[(.int p1), (.int p2), (.int p3)] 3)) t := fun t k => castTop (ef_1 m p1 p2 p3) k
  have pre5 : ∀ t, Steps p.tables e below (s₁.setTop (mkF m 1 #[.val (.int p1), .val (.int p2), .val (.int p3)] [(.int p1)])) t → Steps p.tables e below (s₁.setTop (entryFrame m #[(.int p1), (.int p2), (.int p3)] 3)) t := fun t kt => pre0 t (by
    show Steps p.tables e below (s₁.setTop (mkF m 0 #[.val (.int p1), .val (.int p2), .val (.int p3)] [])) _
    refine XS.iloadN X0.here hx rfl (hb hby d1_0) rfl ?_
    show Steps p.tables e below (s₁.setTop (mkF m 1 #[.val (.int p1), .val (.int p2), .val (.int p3)] [(.int p1)])) _
    exact kt)
  by_cases hc1_4 : p1 = (0 : Int32)
  · obtain ⟨T6, h6, X6, e6, E6, A6, D6, -, st6⟩ := newO X0 hx hZ hown (hw _ (List.mem_of_getElem? (i := 4) rfl)) (hw _ (List.mem_of_getElem? (i := 5) rfl)) (hw _ (List.mem_of_getElem? (i := 6) rfl)) e0 (g := (mkF m 4 #[.val (.int p1), .val (.int p2), .val (.int p3)] [])) rfl (hb hby d1_4) (by decide) (by decide)
    obtain ⟨b6, g6⟩ : ∃ z, z = h0.size := ⟨_, rfl⟩
    rw [← g6] at A6 D6 st6
    have g_b6 : n0 ≤ b6 := Nat.le_trans Z0 (Nat.le_of_eq g6.symm)
    have sz_b6 : h0.size ≤ b6 := Nat.le_trans ((Keep.refl h0 [])).1 (Nat.le_of_eq g6.symm)
    have K6 : Keep h0 h6 [] := ((Keep.refl h0 [])).ext E6
    have Z6 : n0 ≤ h6.size := Nat.le_trans Z0 E6.1
    have F_value_b6 : Fld Z h6 b6 "java/lang/String" "value" "[B" .null := D6 (Or.inr (hw _ (List.mem_of_getElem? (i := 20) rfl))) (ty := (.array .byte)) (by decide)
    have F_coder_b6 : Fld Z h6 b6 "java/lang/String" "coder" "B" (.int (0 : Int32)) := D6 (Or.inr (hw _ (List.mem_of_getElem? (i := 21) rfl))) (ty := .byte) (by decide)
    obtain ⟨T7, h7, k7, X7, e7, E7, A7, st7⟩ := newP X6 hx hZ (hw _ (List.mem_of_getElem? (i := 7) rfl)) e6 (g := (mkF m 9 #[.val (.int p1), .val (.int p2), .val (.int p3)] [(.int (0 : Int32)), (.ref b6), (.ref b6)])) rfl (hb hby d1_9) rfl (by decide) (cap := 0) (by decide) (by decide) (by decide) (by decide)
    obtain ⟨b7, g7⟩ : ∃ z, z = h6.size := ⟨_, rfl⟩
    rw [← g7] at A7 st7
    have ne_b6_b7 : b6 ≠ b7 := Nat.ne_of_lt (Nat.lt_of_lt_of_le A6.lt (Nat.le_of_eq g7.symm))
    have g_b7 : n0 ≤ b7 := Nat.le_trans Z6 (Nat.le_of_eq g7.symm)
    have sz_b7 : h0.size ≤ b7 := Nat.le_trans (K6).1 (Nat.le_of_eq g7.symm)
    have K7 : Keep h0 h7 [] := (K6).ext E7
    have Z7 : n0 ≤ h7.size := Nat.le_trans Z6 E7.1
    have V_b7 : Arv Z h7 b7 k7 .char (0 : Int32) [] (.int (0 : Int32)) := (Arv.new A7 (by decide))
    obtain ⟨_, _, ⟨T8, L8, k8, n8⟩, -, X8, hS8q, hgr8, ⟨Lc8, hQ8, l8, y8, z8⟩, st8⟩ := X7.specialBackS hx (y := (⟨"java/lang/String", "<init>", "([C)V"⟩ : MethodName)) rfl hown (mvT hZ (hw _ (List.mem_of_getElem? (i := 8) rfl))) (mvT hZ (hw _ (List.mem_of_getElem? (i := 9) rfl))) (mvT hZ (hw _ (List.mem_of_getElem? (i := 10) rfl))) (by decide) (own_backE (W := 1) (rmi0 l Z a0 hw [] b6 b7 (0 : Int32) k7 [] h7 n0 Z7 (A6.ext E7) (F_value_b6.ext E7) (F_coder_b6.ext E7) V_b7 hCH hCW g_b6 (Ne.symm ne_b6_b7)) hZ (own_EO.keep0 hE K7) (hw _ (List.mem_of_getElem? (i := 10) rfl)) (hw _ (List.mem_of_getElem? (i := 6) rfl)) (by decide) (by decide)) (g := (mkF m 11 #[.val (.int p1), .val (.int p2), .val (.int p3)] [(.ref b7), (.ref b6), (.ref b6)])) rfl (by rw [hml]; rfl) (Steps.refl _) (a := b6) (argsL := [(.ref b7)]) (rest := [(.ref b6)]) (lenOf pd_1 rfl) rfl (by show 2 * 0 + _ ≤ _; exact Nat.le_of_eq rfl) (hb hby d1_11) (fun _ _ => ⟨rfl, e7, (by decide : 2 + 2 ≤ _), (by decide : 4 + 4 ≤ _)⟩)
    dsimp only [Pt.U, Pt.locs, Pt.cells, Pt.slots] at X8 l8 y8 z8 st8 hQ8 hS8q hgr8
    subst l8 y8 z8
    have X8w := X8
    have hS8 := hS8q
    have hZ8 : Z.Warmed39 (s.setVm T8.vm).vm := State.Warmed39.trans hZ hS8.1
    have hown8 : (s.setVm T8.vm).vm.findClass "com/example/bowerbird/bowerbird/protocol/QueueDataEqualsPinLaw" = some m.cls := (hS8.1.alike.findClass _ _).trans hown
    obtain ⟨⟨x8_0, x8_1, rfl, N8q, K8q, f8_0, f8_1, f8_2, f8_3⟩, hE8⟩ := hQ8
    have y9 := (own_StaKeep ((S_COMPACT_STRINGS.ext E6).ext E7) K8q (allS (P := fun x => ∃ D, Exa Z h7 x D) ⟨_, (A6.ext E7)⟩ all0))
    have y10 := (V_b7.keep K8q (ninS (Ne.symm ne_b6_b7) nin0))
    have K8 : Keep h0 T8.heap [] := (K7).trans K8q (allS (P := fun x => x ∈ [] ∨ h0.size ≤ x) (Or.inr sz_b6) all0)
    have Z8 : n0 ≤ T8.heap.size := Nat.le_trans Z7 K8q.1
    have N8 := Fr.app N0 N8q
    obtain ⟨fs, hr, hrun, hended, hEW⟩ := X8w.leaveW hS8 (Nat.le_refl _) (v := some (.ref b6)) (fun h => by rw [Bd.returns] at h; cases h)
    refine ⟨_, _, pre5 _ ?_, hrun, hended, _, _, rfl, ?_, ⟨_, rfl⟩, hEW.2.1, hEW.2.2.1, hEW.2.2.2.mono (by decide) (by decide)⟩
    · show Steps p.tables e below (s₁.setTop (mkF m 1 #[.val (.int p1), .val (.int p2), .val (.int p3)] [(.int p1)])) _
      refine XS.ifNo X0.here hx rfl (hb hby d1_1) rfl ((if0 _ _).trans (teq hc1_4).2) ?_
      show Steps p.tables e below (s₁.setTop (mkF m 4 #[.val (.int p1), .val (.int p2), .val (.int p3)] [])) _
      refine st6 _ ?_
      show Steps p.tables e below (T6.setTop (mkF m 7 #[.val (.int p1), .val (.int p2), .val (.int p3)] [(.ref b6)])) _
      refine XS.dup X6.here hx rfl (hb hby d1_7) rfl rfl ?_
      show Steps p.tables e below (T6.setTop (mkF m 8 #[.val (.int p1), .val (.int p2), .val (.int p3)] [(.ref b6), (.ref b6)])) _
      refine XS.iconst X6.here hx rfl (hb hby d1_8) ?_
      show Steps p.tables e below (T6.setTop (mkF m 9 #[.val (.int p1), .val (.int p2), .val (.int p3)] [(.int (0 : Int32)), (.ref b6), (.ref b6)])) _
      refine st7 _ ?_
      show Steps p.tables e below (T7.setTop (mkF m 11 #[.val (.int p1), .val (.int p2), .val (.int p3)] [(.ref b7), (.ref b6), (.ref b6)])) _
      refine st8.trans ?_
      show Steps p.tables e below (T8.setTop (mkF m 14 #[.val (.int p1), .val (.int p2), .val (.int p3)] [(.ref b6)])) _
      exact retOut X8w hx Bd.returns rfl (Or.inr (Or.inr (Or.inr (Or.inr ⟨rfl, rfl, rfl⟩)))) (hb hby d1_14) hr
    · show Q1 Z p1 p2 p3 st_COMPACT_STRINGS h0 n0 _ T8.heap _ ∧ own_EO Z T8.heap T8.vm
      refine ⟨?_, own_EO.vm X8w.warmed hE8⟩
      have qc : own_cs p1 p2 p3 = [] := by unfold own_cs; rw [if_pos hc1_4]
      exact ⟨b6, rfl, N8, (K8), (by rw [qc]; exact own_mkStr (cs := []) f8_0 f8_1 f8_2 f8_3 rfl rfl (fun c hc => nomatch hc) (Nat.le_of_ble_eq_true rfl))⟩
  · have pre12 : ∀ t, Steps p.tables e below (s₁.setTop (mkF m 17 #[.val (.int p1), .val (.int p2), .val (.int p3)] [(.int (1 : Int32)), (.int p1)])) t → Steps p.tables e below (s₁.setTop (entryFrame m #[(.int p1), (.int p2), (.int p3)] 3)) t := fun t kt => pre5 t (by
      show Steps p.tables e below (s₁.setTop (mkF m 1 #[.val (.int p1), .val (.int p2), .val (.int p3)] [(.int p1)])) _
      refine XS.ifYes X0.here hx rfl (pc0 := 1) (pc' := 15) rfl (hb hby d1_1) rfl ((if0 _ _).trans (feq hc1_4).2) (by decide) (by decide) ?_
      show Steps p.tables e below (s₁.setTop (mkF m 15 #[.val (.int p1), .val (.int p2), .val (.int p3)] [])) _
      refine XS.iloadN X0.here hx rfl (hb hby d1_15) rfl ?_
      show Steps p.tables e below (s₁.setTop (mkF m 16 #[.val (.int p1), .val (.int p2), .val (.int p3)] [(.int p1)])) _
      refine XS.iconst X0.here hx rfl (hb hby d1_16) ?_
      show Steps p.tables e below (s₁.setTop (mkF m 17 #[.val (.int p1), .val (.int p2), .val (.int p3)] [(.int (1 : Int32)), (.int p1)])) _
      exact kt)
    by_cases hc17_11 : p1 = (1 : Int32)
    · obtain ⟨T13, h13, X13, e13, E13, A13, D13, -, st13⟩ := newO X0 hx hZ hown (hw _ (List.mem_of_getElem? (i := 4) rfl)) (hw _ (List.mem_of_getElem? (i := 5) rfl)) (hw _ (List.mem_of_getElem? (i := 6) rfl)) e0 (g := (mkF m 20 #[.val (.int p1), .val (.int p2), .val (.int p3)] [])) rfl (hb hby d1_20) (by decide) (by decide)
      obtain ⟨b13, g13⟩ : ∃ z, z = h0.size := ⟨_, rfl⟩
      rw [← g13] at A13 D13 st13
      have g_b13 : n0 ≤ b13 := Nat.le_trans Z0 (Nat.le_of_eq g13.symm)
      have sz_b13 : h0.size ≤ b13 := Nat.le_trans ((Keep.refl h0 [])).1 (Nat.le_of_eq g13.symm)
      have K13 : Keep h0 h13 [] := ((Keep.refl h0 [])).ext E13
      have Z13 : n0 ≤ h13.size := Nat.le_trans Z0 E13.1
      have F_value_b13 : Fld Z h13 b13 "java/lang/String" "value" "[B" .null := D13 (Or.inr (hw _ (List.mem_of_getElem? (i := 20) rfl))) (ty := (.array .byte)) (by decide)
      have F_coder_b13 : Fld Z h13 b13 "java/lang/String" "coder" "B" (.int (0 : Int32)) := D13 (Or.inr (hw _ (List.mem_of_getElem? (i := 21) rfl))) (ty := .byte) (by decide)
      obtain ⟨T14, h14, k14, X14, e14, E14, A14, st14⟩ := newP X13 hx hZ (hw _ (List.mem_of_getElem? (i := 7) rfl)) e13 (g := (mkF m 25 #[.val (.int p1), .val (.int p2), .val (.int p3)] [(.int (1 : Int32)), (.ref b13), (.ref b13)])) rfl (hb hby d1_25) rfl (by decide) (cap := 1) (by decide) (by decide) (by decide) (by decide)
      obtain ⟨b14, g14⟩ : ∃ z, z = h13.size := ⟨_, rfl⟩
      rw [← g14] at A14 st14
      have ne_b13_b14 : b13 ≠ b14 := Nat.ne_of_lt (Nat.lt_of_lt_of_le A13.lt (Nat.le_of_eq g14.symm))
      have g_b14 : n0 ≤ b14 := Nat.le_trans Z13 (Nat.le_of_eq g14.symm)
      have sz_b14 : h0.size ≤ b14 := Nat.le_trans (K13).1 (Nat.le_of_eq g14.symm)
      have K14 : Keep h0 h14 [] := (K13).ext E14
      have Z14 : n0 ≤ h14.size := Nat.le_trans Z13 E14.1
      have V_b14 : Arv Z h14 b14 k14 .char (1 : Int32) [(.int (0 : Int32))] (.int (0 : Int32)) := (Arv.new A14 (by decide)).pad (pad_rep [] (.int (0 : Int32)) 1)
      obtain ⟨cl15, Ar15, qq15, S15, NN15, HH15, GG15⟩ := V_b14
      have hin15 : ¬ ((0 : Int32) < 0 ∨ cl15.slots.size ≤ ((0 : Int32)).toNatClampNeg) := inb_of S15 ⟨by decide, by decide⟩
      obtain ⟨T15, h15, X15, e15, W15, st15⟩ := stC X14 hx hZ e14 Ar15 (j := (0 : Int32)) hin15 (g := (mkF m 30 #[.val (.int p1), .val (.int p2), .val (.int p3)] [(.int p2), (.int (0 : Int32)), (.ref b14), (.ref b14), (.ref b13), (.ref b13)])) rfl rfl (hb hby d1_30)
      have Va15 := Arv.set Ar15 qq15 S15 NN15 HH15 GG15 (v := (.int (p2.toUInt32.toUInt16.toUInt32.toInt32))) (fits_nar_char _) W15 0 rfl (Nat.le_of_ble_eq_true rfl)
      have Vb15 : Arv Z h15 b14 k14 .char (1 : Int32) [(.int (p2.toUInt32.toUInt16.toUInt32.toInt32))] (.int (0 : Int32)) := Va15
      have N15 := Fr.snoc X15 N0 g_b14
      have y16 := (((S_COMPACT_STRINGS.ext E13).ext E14).wr W15)
      have y17 := ((F_value_b13.ext E14).other W15 (Or.inl ne_b13_b14))
      have y18 := ((F_coder_b13.ext E14).other W15 (Or.inl ne_b13_b14))
      have K15 : Keep h0 h15 [] := (K14).wr W15 (Or.inr sz_b14)
      have Z15 : n0 ≤ h15.size := Nat.le_trans Z14 (Keep.of_wr W15).1
      have hp19 : ∀ c ∈ ([(p2.toUInt32.toUInt16.toUInt32.toInt32)] : List Int32), ¬ c < 0 ∧ ¬ (255 : Int32) < c := own_in1 hq0_3 hq0_4
      obtain ⟨_, _, ⟨T19, L19, k19, n19⟩, -, X19, ⟨Lc19, hQ19, l19, y19, z19⟩, st19⟩ := X15.specialBack hx (y := (⟨"java/lang/String", "<init>", "([C)V"⟩ : MethodName)) rfl hown (mvT hZ (hw _ (List.mem_of_getElem? (i := 8) rfl))) (mvT hZ (hw _ (List.mem_of_getElem? (i := 9) rfl))) (mvT hZ (hw _ (List.mem_of_getElem? (i := 10) rfl))) (by decide) (StrChars.Road.backV (W := 1) hZ (own_sw hw) (kI := 4) (hw _ (List.mem_of_getElem? (i := 5) rfl)) (cs := ([(p2.toUInt32.toUInt16.toUInt32.toInt32)] : List Int32)) (bs := ([((p2.toUInt32.toUInt16.toUInt32.toInt32).toInt8.toInt32)] : List Int32)) (n := 1) g_b13 Z15 ((A13.ext E14).wr W15) y17 y18 Vb15 y16 hq31_7 rfl rfl (by decide) (by decide) hp19 rfl (by decide) (by decide)) (g := (mkF m 31 #[.val (.int p1), .val (.int p2), .val (.int p3)] [(.ref b14), (.ref b13), (.ref b13)])) rfl (by rw [hml]; rfl) (Steps.refl _) (a := b13) (argsL := [(.ref b14)]) (rest := [(.ref b13)]) (lenOf pd_1 rfl) rfl (by show 2 * 0 + _ ≤ _; exact Nat.le_of_eq rfl) (hb hby d1_31) (fun _ _ => ⟨rfl, e15, (by decide : 2 + 1 ≤ _), (by decide : 5 + 1 ≤ _)⟩)
      dsimp only [Pt.U, Pt.locs, Pt.cells, Pt.slots] at X19 l19 y19 z19 st19 hQ19
      subst l19 y19 z19
      obtain ⟨rfl, N19q, K19q, f19E, f19C, t19, kb19, g19n, g19s, g19x, f19V, f19A⟩ := hQ19
      have ne_b13_t19 : b13 ≠ t19 := Nat.ne_of_lt (Nat.lt_of_lt_of_le ((A13.ext E14).wr W15).lt g19s)
      have ne_b14_t19 : b14 ≠ t19 := Nat.ne_of_lt (Nat.lt_of_lt_of_le Vb15.lt g19s)
      have g_t19 : n0 ≤ t19 := g19n
      have sz_t19 : h0.size ≤ t19 := Nat.le_trans (K15).1 g19s
      have y20 := (own_StaKeep y16 K19q (allS (P := fun x => ∃ D, Exa Z h15 x D) ⟨_, ((A13.ext E14).wr W15)⟩ all0))
      have y21 := (Vb15.keep K19q (ninS (Ne.symm ne_b13_b14) nin0))
      have K19 : Keep h0 T19.heap [] := (K15).trans K19q (allS (P := fun x => x ∈ [] ∨ h0.size ≤ x) (Or.inr sz_b13) all0)
      have Z19 : n0 ≤ T19.heap.size := Nat.le_trans Z15 K19q.1
      have N19 := Fr.app N15 N19q
      obtain ⟨fs, hr, hrun, hended, hW, hsame⟩ := X19.leave (v := some (.ref b13)) (fun h => by rw [Bd.returns] at h; cases h)
      refine ⟨_, _, pre12 _ ?_, hrun, hended, _, _, rfl, ?_, ReturnedEndW.of_narrow ⟨_, rfl⟩ hW (hsame.mono (by decide) (by decide))⟩
      · show Steps p.tables e below (s₁.setTop (mkF m 17 #[.val (.int p1), .val (.int p2), .val (.int p3)] [(.int (1 : Int32)), (.int p1)])) _
        refine XS.icmpNo X0.here hx rfl (hb hby d1_17) rfl (teq hc17_11).2 ?_
        show Steps p.tables e below (s₁.setTop (mkF m 20 #[.val (.int p1), .val (.int p2), .val (.int p3)] [])) _
        refine st13 _ ?_
        show Steps p.tables e below (T13.setTop (mkF m 23 #[.val (.int p1), .val (.int p2), .val (.int p3)] [(.ref b13)])) _
        refine XS.dup X13.here hx rfl (hb hby d1_23) rfl rfl ?_
        show Steps p.tables e below (T13.setTop (mkF m 24 #[.val (.int p1), .val (.int p2), .val (.int p3)] [(.ref b13), (.ref b13)])) _
        refine XS.iconst X13.here hx rfl (hb hby d1_24) ?_
        show Steps p.tables e below (T13.setTop (mkF m 25 #[.val (.int p1), .val (.int p2), .val (.int p3)] [(.int (1 : Int32)), (.ref b13), (.ref b13)])) _
        refine st14 _ ?_
        show Steps p.tables e below (T14.setTop (mkF m 27 #[.val (.int p1), .val (.int p2), .val (.int p3)] [(.ref b14), (.ref b13), (.ref b13)])) _
        refine XS.dup X14.here hx rfl (hb hby d1_27) rfl rfl ?_
        show Steps p.tables e below (T14.setTop (mkF m 28 #[.val (.int p1), .val (.int p2), .val (.int p3)] [(.ref b14), (.ref b14), (.ref b13), (.ref b13)])) _
        refine XS.iconst X14.here hx rfl (hb hby d1_28) ?_
        show Steps p.tables e below (T14.setTop (mkF m 29 #[.val (.int p1), .val (.int p2), .val (.int p3)] [(.int (0 : Int32)), (.ref b14), (.ref b14), (.ref b13), (.ref b13)])) _
        refine XS.iloadN X14.here hx rfl (hb hby d1_29) rfl ?_
        show Steps p.tables e below (T14.setTop (mkF m 30 #[.val (.int p1), .val (.int p2), .val (.int p3)] [(.int p2), (.int (0 : Int32)), (.ref b14), (.ref b14), (.ref b13), (.ref b13)])) _
        refine st15 _ ?_
        show Steps p.tables e below (T15.setTop (mkF m 31 #[.val (.int p1), .val (.int p2), .val (.int p3)] [(.ref b14), (.ref b13), (.ref b13)])) _
        refine st19.trans ?_
        show Steps p.tables e below (T19.setTop (mkF m 34 #[.val (.int p1), .val (.int p2), .val (.int p3)] [(.ref b13)])) _
        exact retOut X19 hx Bd.returns rfl (Or.inr (Or.inr (Or.inr (Or.inr ⟨rfl, rfl, rfl⟩)))) (hb hby d1_34) hr
      · show Q1 Z p1 p2 p3 st_COMPACT_STRINGS h0 n0 _ T19.heap _ ∧ own_EO Z T19.heap T19.vm
        refine ⟨?_, own_EO.vm X19.warmed (own_EO.keep0 hE K19)⟩
        have qc : own_cs p1 p2 p3 = [p2] := by unfold own_cs; rw [if_neg hc1_4, if_pos hc17_11]
        exact ⟨b13, rfl, N19, (K19), (by rw [qc]; exact own_mkStr (cs := [p2]) f19E f19C f19V f19A rfl (by rw [own_nc hq0_3 hq0_4]; rfl) (by have q := own_in1 hq0_3 hq0_4; rw [own_nc hq0_3 hq0_4] at q; exact q) (Nat.le_of_ble_eq_true rfl))⟩
    · obtain ⟨T22, h22, X22, e22, E22, A22, D22, -, st22⟩ := newO X0 hx hZ hown (hw _ (List.mem_of_getElem? (i := 4) rfl)) (hw _ (List.mem_of_getElem? (i := 5) rfl)) (hw _ (List.mem_of_getElem? (i := 6) rfl)) e0 (g := (mkF m 35 #[.val (.int p1), .val (.int p2), .val (.int p3)] [])) rfl (hb hby d1_35) (by decide) (by decide)
      obtain ⟨b22, g22⟩ : ∃ z, z = h0.size := ⟨_, rfl⟩
      rw [← g22] at A22 D22 st22
      have g_b22 : n0 ≤ b22 := Nat.le_trans Z0 (Nat.le_of_eq g22.symm)
      have sz_b22 : h0.size ≤ b22 := Nat.le_trans ((Keep.refl h0 [])).1 (Nat.le_of_eq g22.symm)
      have K22 : Keep h0 h22 [] := ((Keep.refl h0 [])).ext E22
      have Z22 : n0 ≤ h22.size := Nat.le_trans Z0 E22.1
      have F_value_b22 : Fld Z h22 b22 "java/lang/String" "value" "[B" .null := D22 (Or.inr (hw _ (List.mem_of_getElem? (i := 20) rfl))) (ty := (.array .byte)) (by decide)
      have F_coder_b22 : Fld Z h22 b22 "java/lang/String" "coder" "B" (.int (0 : Int32)) := D22 (Or.inr (hw _ (List.mem_of_getElem? (i := 21) rfl))) (ty := .byte) (by decide)
      obtain ⟨T23, h23, k23, X23, e23, E23, A23, st23⟩ := newP X22 hx hZ (hw _ (List.mem_of_getElem? (i := 7) rfl)) e22 (g := (mkF m 40 #[.val (.int p1), .val (.int p2), .val (.int p3)] [(.int (2 : Int32)), (.ref b22), (.ref b22)])) rfl (hb hby d1_40) rfl (by decide) (cap := 2) (by decide) (by decide) (by decide) (by decide)
      obtain ⟨b23, g23⟩ : ∃ z, z = h22.size := ⟨_, rfl⟩
      rw [← g23] at A23 st23
      have ne_b22_b23 : b22 ≠ b23 := Nat.ne_of_lt (Nat.lt_of_lt_of_le A22.lt (Nat.le_of_eq g23.symm))
      have g_b23 : n0 ≤ b23 := Nat.le_trans Z22 (Nat.le_of_eq g23.symm)
      have sz_b23 : h0.size ≤ b23 := Nat.le_trans (K22).1 (Nat.le_of_eq g23.symm)
      have K23 : Keep h0 h23 [] := (K22).ext E23
      have Z23 : n0 ≤ h23.size := Nat.le_trans Z22 E23.1
      have V_b23 : Arv Z h23 b23 k23 .char (2 : Int32) [(.int (0 : Int32)), (.int (0 : Int32))] (.int (0 : Int32)) := (Arv.new A23 (by decide)).pad (pad_rep [] (.int (0 : Int32)) 2)
      obtain ⟨cl24, Ar24, qq24, S24, NN24, HH24, GG24⟩ := V_b23
      have hin24 : ¬ ((0 : Int32) < 0 ∨ cl24.slots.size ≤ ((0 : Int32)).toNatClampNeg) := inb_of S24 ⟨by decide, by decide⟩
      obtain ⟨T24, h24, X24, e24, W24, st24⟩ := stC X23 hx hZ e23 Ar24 (j := (0 : Int32)) hin24 (g := (mkF m 45 #[.val (.int p1), .val (.int p2), .val (.int p3)] [(.int p2), (.int (0 : Int32)), (.ref b23), (.ref b23), (.ref b22), (.ref b22)])) rfl rfl (hb hby d1_45)
      have Va24 := Arv.set Ar24 qq24 S24 NN24 HH24 GG24 (v := (.int (p2.toUInt32.toUInt16.toUInt32.toInt32))) (fits_nar_char _) W24 0 rfl (Nat.le_of_ble_eq_true rfl)
      have Vb24 : Arv Z h24 b23 k23 .char (2 : Int32) [(.int (p2.toUInt32.toUInt16.toUInt32.toInt32)), (.int (0 : Int32))] (.int (0 : Int32)) := Va24
      have N24 := Fr.snoc X24 N0 g_b23
      have y25 := (((S_COMPACT_STRINGS.ext E22).ext E23).wr W24)
      have y26 := ((F_value_b22.ext E23).other W24 (Or.inl ne_b22_b23))
      have y27 := ((F_coder_b22.ext E23).other W24 (Or.inl ne_b22_b23))
      have K24 : Keep h0 h24 [] := (K23).wr W24 (Or.inr sz_b23)
      have Z24 : n0 ≤ h24.size := Nat.le_trans Z23 (Keep.of_wr W24).1
      obtain ⟨cl28, Ar28, qq28, S28, NN28, HH28, GG28⟩ := Vb24
      have hin28 : ¬ ((1 : Int32) < 0 ∨ cl28.slots.size ≤ ((1 : Int32)).toNatClampNeg) := inb_of S28 ⟨by decide, by decide⟩
      obtain ⟨T28, h28, X28, e28, W28, st28⟩ := stC X24 hx hZ e24 Ar28 (j := (1 : Int32)) hin28 (g := (mkF m 49 #[.val (.int p1), .val (.int p2), .val (.int p3)] [(.int p3), (.int (1 : Int32)), (.ref b23), (.ref b23), (.ref b22), (.ref b22)])) rfl rfl (hb hby d1_49)
      have Va28 := Arv.set Ar28 qq28 S28 NN28 HH28 GG28 (v := (.int (p3.toUInt32.toUInt16.toUInt32.toInt32))) (fits_nar_char _) W28 1 rfl (Nat.le_of_ble_eq_true rfl)
      have Vb28 : Arv Z h28 b23 k23 .char (2 : Int32) [(.int (p2.toUInt32.toUInt16.toUInt32.toInt32)), (.int (p3.toUInt32.toUInt16.toUInt32.toInt32))] (.int (0 : Int32)) := Va28
      have N28 := Fr.snoc X28 N24 g_b23
      have K28 : Keep h0 h28 [] := (K24).wr W28 (Or.inr sz_b23)
      have Z28 : n0 ≤ h28.size := Nat.le_trans Z24 (Keep.of_wr W28).1
      have hp29 : ∀ c ∈ ([(p2.toUInt32.toUInt16.toUInt32.toInt32), (p3.toUInt32.toUInt16.toUInt32.toInt32)] : List Int32), ¬ c < 0 ∧ ¬ (255 : Int32) < c := own_in2 hq0_3 hq0_4 hq0_5 hq0_6
      obtain ⟨_, _, ⟨T29, L29, k29, n29⟩, -, X29, ⟨Lc29, hQ29, l29, y29, z29⟩, st29⟩ := X28.specialBack hx (y := (⟨"java/lang/String", "<init>", "([C)V"⟩ : MethodName)) rfl hown (mvT hZ (hw _ (List.mem_of_getElem? (i := 8) rfl))) (mvT hZ (hw _ (List.mem_of_getElem? (i := 9) rfl))) (mvT hZ (hw _ (List.mem_of_getElem? (i := 10) rfl))) (by decide) (StrChars.Road.backV (W := 1) hZ (own_sw hw) (kI := 4) (hw _ (List.mem_of_getElem? (i := 5) rfl)) (cs := ([(p2.toUInt32.toUInt16.toUInt32.toInt32), (p3.toUInt32.toUInt16.toUInt32.toInt32)] : List Int32)) (bs := ([((p2.toUInt32.toUInt16.toUInt32.toInt32).toInt8.toInt32), ((p3.toUInt32.toUInt16.toUInt32.toInt32).toInt8.toInt32)] : List Int32)) (n := 2) g_b22 Z28 (((A22.ext E23).wr W24).wr W28) (y26.other W28 (Or.inl ne_b22_b23)) (y27.other W28 (Or.inl ne_b22_b23)) Vb28 (y25.wr W28) hq31_7 rfl rfl (by decide) (by decide) hp29 rfl (by decide) (by decide)) (g := (mkF m 50 #[.val (.int p1), .val (.int p2), .val (.int p3)] [(.ref b23), (.ref b22), (.ref b22)])) rfl (by rw [hml]; rfl) (Steps.refl _) (a := b22) (argsL := [(.ref b23)]) (rest := [(.ref b22)]) (lenOf pd_1 rfl) rfl (by show 2 * 0 + _ ≤ _; exact Nat.le_of_eq rfl) (hb hby d1_50) (fun _ _ => ⟨rfl, e28, (by decide : 2 + 1 ≤ _), (by decide : 6 + 2 ≤ _)⟩)
      dsimp only [Pt.U, Pt.locs, Pt.cells, Pt.slots] at X29 l29 y29 z29 st29 hQ29
      subst l29 y29 z29
      obtain ⟨rfl, N29q, K29q, f29E, f29C, t29, kb29, g29n, g29s, g29x, f29V, f29A⟩ := hQ29
      have ne_b22_t29 : b22 ≠ t29 := Nat.ne_of_lt (Nat.lt_of_lt_of_le (((A22.ext E23).wr W24).wr W28).lt g29s)
      have ne_b23_t29 : b23 ≠ t29 := Nat.ne_of_lt (Nat.lt_of_lt_of_le Vb28.lt g29s)
      have g_t29 : n0 ≤ t29 := g29n
      have sz_t29 : h0.size ≤ t29 := Nat.le_trans (K28).1 g29s
      have y30 := (own_StaKeep (y25.wr W28) K29q (allS (P := fun x => ∃ D, Exa Z h28 x D) ⟨_, (((A22.ext E23).wr W24).wr W28)⟩ all0))
      have y31 := ((((A22.ext E23).wr W24).wr W28).keep K29q)
      have y32 := (Vb28.keep K29q (ninS (Ne.symm ne_b22_b23) nin0))
      have K29 : Keep h0 T29.heap [] := (K28).trans K29q (allS (P := fun x => x ∈ [] ∨ h0.size ≤ x) (Or.inr sz_b22) all0)
      have Z29 : n0 ≤ T29.heap.size := Nat.le_trans Z28 K29q.1
      have N29 := Fr.app N28 N29q
      obtain ⟨fs, hr, hrun, hended, hW, hsame⟩ := X29.leave (v := some (.ref b22)) (fun h => by rw [Bd.returns] at h; cases h)
      refine ⟨_, _, pre12 _ ?_, hrun, hended, _, _, rfl, ?_, ReturnedEndW.of_narrow ⟨_, rfl⟩ hW (hsame.mono (by decide) (by decide))⟩
      · show Steps p.tables e below (s₁.setTop (mkF m 17 #[.val (.int p1), .val (.int p2), .val (.int p3)] [(.int (1 : Int32)), (.int p1)])) _
        refine XS.icmpYes X0.here hx rfl (pc0 := 17) (pc' := 35) rfl (hb hby d1_17) rfl (feq hc17_11).2 (by decide) (by decide) ?_
        show Steps p.tables e below (s₁.setTop (mkF m 35 #[.val (.int p1), .val (.int p2), .val (.int p3)] [])) _
        refine st22 _ ?_
        show Steps p.tables e below (T22.setTop (mkF m 38 #[.val (.int p1), .val (.int p2), .val (.int p3)] [(.ref b22)])) _
        refine XS.dup X22.here hx rfl (hb hby d1_38) rfl rfl ?_
        show Steps p.tables e below (T22.setTop (mkF m 39 #[.val (.int p1), .val (.int p2), .val (.int p3)] [(.ref b22), (.ref b22)])) _
        refine XS.iconst X22.here hx rfl (hb hby d1_39) ?_
        show Steps p.tables e below (T22.setTop (mkF m 40 #[.val (.int p1), .val (.int p2), .val (.int p3)] [(.int (2 : Int32)), (.ref b22), (.ref b22)])) _
        refine st23 _ ?_
        show Steps p.tables e below (T23.setTop (mkF m 42 #[.val (.int p1), .val (.int p2), .val (.int p3)] [(.ref b23), (.ref b22), (.ref b22)])) _
        refine XS.dup X23.here hx rfl (hb hby d1_42) rfl rfl ?_
        show Steps p.tables e below (T23.setTop (mkF m 43 #[.val (.int p1), .val (.int p2), .val (.int p3)] [(.ref b23), (.ref b23), (.ref b22), (.ref b22)])) _
        refine XS.iconst X23.here hx rfl (hb hby d1_43) ?_
        show Steps p.tables e below (T23.setTop (mkF m 44 #[.val (.int p1), .val (.int p2), .val (.int p3)] [(.int (0 : Int32)), (.ref b23), (.ref b23), (.ref b22), (.ref b22)])) _
        refine XS.iloadN X23.here hx rfl (hb hby d1_44) rfl ?_
        show Steps p.tables e below (T23.setTop (mkF m 45 #[.val (.int p1), .val (.int p2), .val (.int p3)] [(.int p2), (.int (0 : Int32)), (.ref b23), (.ref b23), (.ref b22), (.ref b22)])) _
        refine st24 _ ?_
        show Steps p.tables e below (T24.setTop (mkF m 46 #[.val (.int p1), .val (.int p2), .val (.int p3)] [(.ref b23), (.ref b22), (.ref b22)])) _
        refine XS.dup X24.here hx rfl (hb hby d1_46) rfl rfl ?_
        show Steps p.tables e below (T24.setTop (mkF m 47 #[.val (.int p1), .val (.int p2), .val (.int p3)] [(.ref b23), (.ref b23), (.ref b22), (.ref b22)])) _
        refine XS.iconst X24.here hx rfl (hb hby d1_47) ?_
        show Steps p.tables e below (T24.setTop (mkF m 48 #[.val (.int p1), .val (.int p2), .val (.int p3)] [(.int (1 : Int32)), (.ref b23), (.ref b23), (.ref b22), (.ref b22)])) _
        refine XS.iloadN X24.here hx rfl (hb hby d1_48) rfl ?_
        show Steps p.tables e below (T24.setTop (mkF m 49 #[.val (.int p1), .val (.int p2), .val (.int p3)] [(.int p3), (.int (1 : Int32)), (.ref b23), (.ref b23), (.ref b22), (.ref b22)])) _
        refine st28 _ ?_
        show Steps p.tables e below (T28.setTop (mkF m 50 #[.val (.int p1), .val (.int p2), .val (.int p3)] [(.ref b23), (.ref b22), (.ref b22)])) _
        refine st29.trans ?_
        show Steps p.tables e below (T29.setTop (mkF m 53 #[.val (.int p1), .val (.int p2), .val (.int p3)] [(.ref b22)])) _
        exact retOut X29 hx Bd.returns rfl (Or.inr (Or.inr (Or.inr (Or.inr ⟨rfl, rfl, rfl⟩)))) (hb hby d1_53) hr
      · show Q1 Z p1 p2 p3 st_COMPACT_STRINGS h0 n0 _ T29.heap _ ∧ own_EO Z T29.heap T29.vm
        refine ⟨?_, own_EO.vm X29.warmed (own_EO.keep0 hE K29)⟩
        have qc : own_cs p1 p2 p3 = [p2, p3] := by unfold own_cs; rw [if_neg hc1_4, if_neg hc17_11]
        exact ⟨b22, rfl, N29, (K29), (by rw [qc]; exact own_mkStr (cs := [p2, p3]) f29E f29C f29V f29A rfl (by rw [own_nc hq0_3 hq0_4, own_nc hq0_5 hq0_6]; rfl) (by have q := own_in2 hq0_3 hq0_4 hq0_5 hq0_6; rw [own_nc hq0_3 hq0_4, own_nc hq0_5 hq0_6] at q; exact q) (Nat.le_of_ble_eq_true rfl))⟩
theorem d6_0 : decode jdk_30_method_1_code 0 = .ok (.aload_n 0, 1) := by decide +kernel
theorem d6_1 : decode jdk_30_method_1_code 1 = .ok (.invokespecial 1, 3) := by decide +kernel
theorem d6_4 : decode jdk_30_method_1_code 4 = .ok (.return_, 1) := by decide +kernel
theorem pn_2 : plainName "java/lang/Record" = true := by first | (simp [plainName, overriddenIn]; done) | decide +kernel
theorem ef_6 (m : MethodId) (a1 : Addr) : entryFrame m #[(.ref a1)] 1 = mkF m 0 #[.val (.ref a1)] [] := by first | (simp [entryFrame, mkF, argsToLocals, Value.category]; done) | rfl
def Q6 (Z : State) (a1 : Addr) (h0 : Heap) (n0 : Nat) (v : Option Value) (h : Heap) (L : List Loc) : Prop := v = none ∧ Fr n0 L ∧ h = h0
set_option maxRecDepth 65536 in
set_option maxHeartbeats 40000000 in
theorem rm6 (l : Launch) (Z : State) (a0 : Array Value) (hw : ∀ d ∈ tables_1, d.before a0 Z = true) (ws : List Jvm.Cond) (a1 : Addr) (h0 : Heap) (n0 : Nat) (Z0 : n0 ≤ h0.size) :
    MetFree l (⟨"java/lang/Record", "<init>", "()V"⟩ : MethodName) (head1 (Jvm.Cond.code (⟨"java/lang/Record", "<init>", "()V"⟩ : MethodName) jdk_30_method_1_code 1 none :: ws) ({ frames := 1, cells := 0, slots := 0, locals := 12 } : Room)) (fun a U => a = #[(.ref a1)] ∧ Z.Warmed39 U.vm ∧ U.heap = h0) (fun _ _ _ _ _ => True) (fun _ U o U' => ∃ v L, o = .returned v ∧ Q6 Z a1 h0 n0 v U'.heap L ∧ FrameEnd U o U' L ({ frames := 1, cells := 0, slots := 0, locals := 12 } : Room).cells ({ frames := 1, cells := 0, slots := 0, locals := 12 } : Room).slots) := by
  refine MetFree.of_bodySF (plainFor_of_name pn_2) hisR ?_
  intro p e s m args below meth c s₁ Bd hml0 hP hK
  obtain ⟨rfl, hZ, hh⟩ := hP
  have hx := Bd.exec
  have hby := Bd.bytes
  have hml : c.maxLocals = 1 := hml0
  have hown : s.vm.findClass "java/lang/Record" = some m.cls := findClass_of_methodNamed Bd.named
  have hnm := (name_of_methodNamed Bd.named Bd.method).1
  have X0 : Stand p l e ({ frames := 1, cells := 0, slots := 0, locals := 12 } : Room) s m #[(.ref a1)] below meth c s₁ [] 0 0 := Stand.of_body Bd
  have e0 : s₁.heap = h0 := by rw [← hh, Bd.state]; rfl
  have N0 := Fr.nil n0
  have pre0 : ∀ t, Steps p.tables e below (s₁.setTop (mkF m 0 #[.val (.ref a1)] [])) t → Steps p.tables e below (s₁.setTop (entryFrame m #[(.ref a1)] 1)) t := fun t k => castTop (ef_6 m a1) k
  obtain ⟨T2, X2, e2, st2⟩ := initO X0 hx hZ hown (hw _ (List.mem_of_getElem? (i := 37) rfl)) (hw _ (List.mem_of_getElem? (i := 16) rfl)) (hw _ (List.mem_of_getElem? (i := 17) rfl)) e0 (g := (mkF m 1 #[.val (.ref a1)] [(.ref a1)])) rfl (by rw [hml]; rfl) rfl (hb hby d6_1) (by decide) (W := 0) (by show 2 * 0 + _ ≤ _; exact Nat.le_of_eq rfl) (by decide)
  obtain ⟨fs, hr, hrun, hended, hW, hsame⟩ := X2.leave (v := none) (fun _ => rfl)
  refine ⟨_, _, pre0 _ ?_, hrun, hended, _, _, rfl, ?_, ⟨_, rfl⟩, hW, hsame.mono (by decide) (by decide)⟩
  · show Steps p.tables e below (s₁.setTop (mkF m 0 #[.val (.ref a1)] [])) _
    refine XS.aloadN X0.here hx rfl (hb hby d6_0) rfl rfl ?_
    show Steps p.tables e below (s₁.setTop (mkF m 1 #[.val (.ref a1)] [(.ref a1)])) _
    refine st2 _ ?_
    show Steps p.tables e below (T2.setTop (mkF m 4 #[.val (.ref a1)] [])) _
    exact X2.returnOut hx Bd.returns (hb hby d6_4) hr
  · show Q6 Z a1 h0 n0 _ T2.heap _
    rw [e2]
    exact ⟨rfl, N0, rfl⟩
theorem d7_0 : decode jdk_31_method_11_code 0 = .ok (.aload_n 0, 1) := by decide +kernel
theorem d7_1 : decode jdk_31_method_11_code 1 = .ok (.ifnonnull 12, 3) := by decide +kernel
theorem d7_13 : decode jdk_31_method_11_code 13 = .ok (.aload_n 0, 1) := by decide +kernel
theorem d7_14 : decode jdk_31_method_11_code 14 = .ok (.areturn, 1) := by decide +kernel
theorem pn_3 : plainName "java/util/Objects" = true := by first | (simp [plainName, overriddenIn]; done) | decide +kernel
theorem ef_7 (m : MethodId) (a1 : Addr) (a2 : Addr) : entryFrame m #[(.ref a1), (.ref a2)] 2 = mkF m 0 #[.val (.ref a1), .val (.ref a2)] [] := by first | (simp [entryFrame, mkF, argsToLocals, Value.category]; done) | rfl
def Q7 (Z : State) (a1 : Addr) (a2 : Addr) (h0 : Heap) (n0 : Nat) (v : Option Value) (h : Heap) (L : List Loc) : Prop := v = some (.ref a1) ∧ Fr n0 L ∧ h = h0
set_option maxRecDepth 65536 in
set_option maxHeartbeats 40000000 in
theorem rm7 (l : Launch) (Z : State) (a0 : Array Value) (hw : ∀ d ∈ tables_1, d.before a0 Z = true) (ws : List Jvm.Cond) (a1 : Addr) (a2 : Addr) (h0 : Heap) (n0 : Nat) (Z0 : n0 ≤ h0.size) :
    MetFree l (⟨"java/util/Objects", "requireNonNull", "(Ljava/lang/Object;Ljava/lang/String;)Ljava/lang/Object;"⟩ : MethodName) (head1 (Jvm.Cond.code (⟨"java/util/Objects", "requireNonNull", "(Ljava/lang/Object;Ljava/lang/String;)Ljava/lang/Object;"⟩ : MethodName) jdk_31_method_11_code 2 (some (.object "java/lang/Object")) :: ws) ({ frames := 0, cells := 0, slots := 0, locals := 0 } : Room)) (fun a U => a = #[(.ref a1), (.ref a2)] ∧ Z.Warmed39 U.vm ∧ U.heap = h0) (fun _ _ _ _ _ => True) (fun _ U o U' => ∃ v L, o = .returned v ∧ Q7 Z a1 a2 h0 n0 v U'.heap L ∧ FrameEnd U o U' L ({ frames := 0, cells := 0, slots := 0, locals := 0 } : Room).cells ({ frames := 0, cells := 0, slots := 0, locals := 0 } : Room).slots) := by
  refine MetFree.of_bodySF (plainFor_of_name pn_3) hisR ?_
  intro p e s m args below meth c s₁ Bd hml0 hP hK
  obtain ⟨rfl, hZ, hh⟩ := hP
  have hx := Bd.exec
  have hby := Bd.bytes
  have hml : c.maxLocals = 2 := hml0
  have hown : s.vm.findClass "java/util/Objects" = some m.cls := findClass_of_methodNamed Bd.named
  have hnm := (name_of_methodNamed Bd.named Bd.method).1
  have X0 : Stand p l e ({ frames := 0, cells := 0, slots := 0, locals := 0 } : Room) s m #[(.ref a1), (.ref a2)] below meth c s₁ [] 0 0 := Stand.of_body Bd
  have e0 : s₁.heap = h0 := by rw [← hh, Bd.state]; rfl
  have N0 := Fr.nil n0
  have pre0 : ∀ t, Steps p.tables e below (s₁.setTop (mkF m 0 #[.val (.ref a1), .val (.ref a2)] [])) t → Steps p.tables e below (s₁.setTop (entryFrame m #[(.ref a1), (.ref a2)] 2)) t := fun t k => castTop (ef_7 m a1 a2) k
  obtain ⟨fs, hr, hrun, hended, hW, hsame⟩ := X0.leave (v := some (.ref a1)) (fun h => by rw [Bd.returns] at h; cases h)
  refine ⟨_, _, pre0 _ ?_, hrun, hended, _, _, rfl, ?_, ⟨_, rfl⟩, hW, hsame.mono (by decide) (by decide)⟩
  · show Steps p.tables e below (s₁.setTop (mkF m 0 #[.val (.ref a1), .val (.ref a2)] [])) _
    refine XS.aloadN X0.here hx rfl (hb hby d7_0) rfl rfl ?_
    show Steps p.tables e below (s₁.setTop (mkF m 1 #[.val (.ref a1), .val (.ref a2)] [(.ref a1)])) _
    refine XS.ifnonnullYes X0.here hx rfl (pc0 := 1) (pc' := 13) rfl (hb hby d7_1) rfl (by decide) (by decide) ?_
    show Steps p.tables e below (s₁.setTop (mkF m 13 #[.val (.ref a1), .val (.ref a2)] [])) _
    refine XS.aloadN X0.here hx rfl (hb hby d7_13) rfl rfl ?_
    show Steps p.tables e below (s₁.setTop (mkF m 14 #[.val (.ref a1), .val (.ref a2)] [(.ref a1)])) _
    exact retOut X0 hx Bd.returns rfl (Or.inr (Or.inr (Or.inr (Or.inr ⟨rfl, rfl, rfl⟩)))) (hb hby d7_14) hr
  · show Q7 Z a1 a2 h0 n0 _ s₁.heap _
    rw [e0]
    exact ⟨rfl, N0, rfl⟩
theorem pd_2 : parseMethodDescriptor "()V" = some ⟨[], none⟩ := by decide +kernel
theorem pd_3 : parseMethodDescriptor "(Ljava/lang/Object;Ljava/lang/String;)Ljava/lang/Object;" = some ⟨[(.object "java/lang/Object"), (.object "java/lang/String")], some (.object "java/lang/Object")⟩ := by decide +kernel
theorem d5_0 : decode prog_12_method_1_code 0 = .ok (.aload_n 0, 1) := by decide +kernel
theorem d5_1 : decode prog_12_method_1_code 1 = .ok (.invokespecial 1, 3) := by decide +kernel
theorem d5_4 : decode prog_12_method_1_code 4 = .ok (.aload_n 1, 1) := by decide +kernel
theorem d5_5 : decode prog_12_method_1_code 5 = .ok (.ldc 7, 2) := by decide +kernel
theorem d5_7 : decode prog_12_method_1_code 7 = .ok (.invokestatic 9, 3) := by decide +kernel
theorem d5_10 : decode prog_12_method_1_code 10 = .ok (.pop, 1) := by decide +kernel
theorem d5_11 : decode prog_12_method_1_code 11 = .ok (.aload_n 0, 1) := by decide +kernel
theorem d5_12 : decode prog_12_method_1_code 12 = .ok (.aload_n 1, 1) := by decide +kernel
theorem d5_13 : decode prog_12_method_1_code 13 = .ok (.putfield 15, 3) := by decide +kernel
theorem d5_16 : decode prog_12_method_1_code 16 = .ok (.aload_n 0, 1) := by decide +kernel
theorem d5_17 : decode prog_12_method_1_code 17 = .ok (.iload_n 2, 1) := by decide +kernel
theorem d5_18 : decode prog_12_method_1_code 18 = .ok (.putfield 20, 3) := by decide +kernel
theorem d5_21 : decode prog_12_method_1_code 21 = .ok (.aload_n 0, 1) := by decide +kernel
theorem d5_22 : decode prog_12_method_1_code 22 = .ok (.iload_n 3, 1) := by decide +kernel
theorem d5_23 : decode prog_12_method_1_code 23 = .ok (.putfield 24, 3) := by decide +kernel
theorem d5_26 : decode prog_12_method_1_code 26 = .ok (.aload_n 0, 1) := by decide +kernel
theorem d5_27 : decode prog_12_method_1_code 27 = .ok (.iload 4, 2) := by decide +kernel
theorem d5_29 : decode prog_12_method_1_code 29 = .ok (.putfield 27, 3) := by decide +kernel
theorem d5_32 : decode prog_12_method_1_code 32 = .ok (.aload_n 0, 1) := by decide +kernel
theorem d5_33 : decode prog_12_method_1_code 33 = .ok (.iload 5, 2) := by decide +kernel
theorem d5_35 : decode prog_12_method_1_code 35 = .ok (.putfield 30, 3) := by decide +kernel
theorem d5_38 : decode prog_12_method_1_code 38 = .ok (.return_, 1) := by decide +kernel
theorem pn_4 : plainName "com/example/bowerbird/bowerbird/protocol/QueueData" = true := by first | (simp [plainName, overriddenIn]; done) | decide +kernel
theorem ef_5 (m : MethodId) (a1 : Addr) (a2 : Addr) (p3 : Int32) (p4 : Int32) (p5 : Int32) (p6 : Int32) : entryFrame m #[(.ref a1), (.ref a2), (.int p3), (.int p4), (.int p5), (.int p6)] 6 = mkF m 0 #[.val (.ref a1), .val (.ref a2), .val (.int p3), .val (.int p4), .val (.int p5), .val (.int p6)] [] := by first | (simp [entryFrame, mkF, argsToLocals, Value.category]; done) | rfl
def Q5 (Z : State) (a1 : Addr) (a2 : Addr) (p3 : Int32) (p4 : Int32) (p5 : Int32) (p6 : Int32) (w_perm_a1 : Int32) (w_readQueueNums_a1 : Int32) (w_writeQueueNums_a1 : Int32) (w_topicSynFlag_a1 : Int32) (h0 : Heap) (n0 : Nat) (v : Option Value) (h : Heap) (L : List Loc) : Prop := v = none ∧ Fr n0 L ∧ Keep h0 h [a1] ∧ Exa Z h a1 "com/example/bowerbird/bowerbird/protocol/QueueData" ∧ Fld Z h a1 "com/example/bowerbird/bowerbird/protocol/QueueData" "brokerName" "Ljava/lang/String;" (.ref a2) ∧ Fld Z h a1 "com/example/bowerbird/bowerbird/protocol/QueueData" "perm" "I" (.int p3) ∧ Fld Z h a1 "com/example/bowerbird/bowerbird/protocol/QueueData" "readQueueNums" "I" (.int p4) ∧ Fld Z h a1 "com/example/bowerbird/bowerbird/protocol/QueueData" "writeQueueNums" "I" (.int p5) ∧ Fld Z h a1 "com/example/bowerbird/bowerbird/protocol/QueueData" "topicSynFlag" "I" (.int p6)
set_option maxRecDepth 65536 in
set_option maxHeartbeats 40000000 in
theorem rm5 (l : Launch) (Z : State) (a0 : Array Value) (hw : ∀ d ∈ tables_1, d.before a0 Z = true) (ws : List Jvm.Cond) (a1 : Addr) (a2 : Addr) (p3 : Int32) (p4 : Int32) (p5 : Int32) (p6 : Int32) (w_perm_a1 : Int32) (w_readQueueNums_a1 : Int32) (w_writeQueueNums_a1 : Int32) (w_topicSynFlag_a1 : Int32) (h0 : Heap) (n0 : Nat) (Z0 : n0 ≤ h0.size) (E_a1 : Exa Z h0 a1 "com/example/bowerbird/bowerbird/protocol/QueueData") (F_brokerName_a1 : Fld Z h0 a1 "com/example/bowerbird/bowerbird/protocol/QueueData" "brokerName" "Ljava/lang/String;" .null) (F_perm_a1 : Fld Z h0 a1 "com/example/bowerbird/bowerbird/protocol/QueueData" "perm" "I" (.int w_perm_a1)) (F_readQueueNums_a1 : Fld Z h0 a1 "com/example/bowerbird/bowerbird/protocol/QueueData" "readQueueNums" "I" (.int w_readQueueNums_a1)) (F_writeQueueNums_a1 : Fld Z h0 a1 "com/example/bowerbird/bowerbird/protocol/QueueData" "writeQueueNums" "I" (.int w_writeQueueNums_a1)) (F_topicSynFlag_a1 : Fld Z h0 a1 "com/example/bowerbird/bowerbird/protocol/QueueData" "topicSynFlag" "I" (.int w_topicSynFlag_a1)) (g_a1 : n0 ≤ a1) :
    MetFree l (⟨"com/example/bowerbird/bowerbird/protocol/QueueData", "<init>", "(Ljava/lang/String;IIII)V"⟩ : MethodName) (head1 (Jvm.Cond.code (⟨"com/example/bowerbird/bowerbird/protocol/QueueData", "<init>", "(Ljava/lang/String;IIII)V"⟩ : MethodName) prog_12_method_1_code 6 none :: ws) ({ frames := 2, cells := 2, slots := 44, locals := 24 } : Room)) (fun a U => a = #[(.ref a1), (.ref a2), (.int p3), (.int p4), (.int p5), (.int p6)] ∧ Z.Warmed39 U.vm ∧ U.heap = h0) (fun _ _ _ _ _ => True) (fun _ U o U' => ∃ v L, o = .returned v ∧ Q5 Z a1 a2 p3 p4 p5 p6 w_perm_a1 w_readQueueNums_a1 w_writeQueueNums_a1 w_topicSynFlag_a1 h0 n0 v U'.heap L ∧ ReturnedEndW U o U' L ({ frames := 2, cells := 2, slots := 44, locals := 24 } : Room).cells ({ frames := 2, cells := 2, slots := 44, locals := 24 } : Room).slots) := by
  refine MetFree.of_bodySF (plainFor_of_name pn_4) hisR ?_
  intro p e s m args below meth c s₁ Bd hml0 hP hK
  obtain ⟨rfl, hZ, hh⟩ := hP
  have hx := Bd.exec
  have hby := Bd.bytes
  have hml : c.maxLocals = 6 := hml0
  have hown : s.vm.findClass "com/example/bowerbird/bowerbird/protocol/QueueData" = some m.cls := findClass_of_methodNamed Bd.named
  have hnm := (name_of_methodNamed Bd.named Bd.method).1
  have X0 : Stand p l e ({ frames := 2, cells := 2, slots := 44, locals := 24 } : Room) s m #[(.ref a1), (.ref a2), (.int p3), (.int p4), (.int p5), (.int p6)] below meth c s₁ [] 0 0 := Stand.of_body Bd
  have e0 : s₁.heap = h0 := by rw [← hh, Bd.state]; rfl
  have N0 := Fr.nil n0
  have pre0 : ∀ t, Steps p.tables e below (s₁.setTop (mkF m 0 #[.val (.ref a1), .val (.ref a2), .val (.int p3), .val (.int p4), .val (.int p5), .val (.int p6)] [])) t → Steps p.tables e below (s₁.setTop (entryFrame m #[(.ref a1), (.ref a2), (.int p3), (.int p4), (.int p5), (.int p6)] 6)) t := fun t k => castTop (ef_5 m a1 a2 p3 p4 p5 p6) k
  obtain ⟨_, _, ⟨T7, L7, k7, n7⟩, -, X7, ⟨Lc7, hQ7, l7, y7, z7⟩, st7⟩ := X0.specialBack hx (y := (⟨"java/lang/Record", "<init>", "()V"⟩ : MethodName)) rfl hown (mvT hZ (hw _ (List.mem_of_getElem? (i := 32) rfl))) (mvT hZ (hw _ (List.mem_of_getElem? (i := 33) rfl))) (mvT hZ (hw _ (List.mem_of_getElem? (i := 36) rfl))) (by decide) (backOf (W := 0) (rm6 l Z a0 hw [] a1 h0 n0 Z0 ) hZ (hw _ (List.mem_of_getElem? (i := 36) rfl)) (hw _ (List.mem_of_getElem? (i := 35) rfl)) (by decide) (by decide)) (g := (mkF m 1 #[.val (.ref a1), .val (.ref a2), .val (.int p3), .val (.int p4), .val (.int p5), .val (.int p6)] [(.ref a1)])) rfl (by rw [hml]; rfl) (Steps.refl _) (a := a1) (argsL := []) (rest := []) (lenOf pd_2 rfl) rfl (by show 2 * 0 + _ ≤ _; exact Nat.le_of_eq rfl) (hb hby d5_1) (fun _ _ => ⟨rfl, e0, (by decide : 0 + 0 ≤ _), (by decide : 0 + 0 ≤ _)⟩)
  dsimp only [Pt.U, Pt.locs, Pt.cells, Pt.slots] at X7 l7 y7 z7 st7 hQ7
  subst l7 y7 z7
  obtain ⟨rfl, N7q, e7⟩ := hQ7
  have N7 := Fr.app N0 N7q
  obtain ⟨lit8, T8, h8, kk8, X8, e8, E8, hS8, hk8, hZ8, hown8, st8⟩ := ldcS (s := s) (vm0 := s.vm) X7 hx hZ hown (hw _ (List.mem_of_getElem? (i := 38) rfl)) (own_sa hw) e7 ((State.WarmedH.refl s).since 0) (Nat.zero_le _) (g := (mkF m 5 #[.val (.ref a1), .val (.ref a2), .val (.int p3), .val (.int p4), .val (.int p5), .val (.int p6)] [(.ref a2)])) rfl (hb hby d5_5) (n := 40) (by decide +kernel) (by decide) (by decide) (by decide)
  have K8 : Keep h0 h8 [a1] := ((Keep.refl h0 [a1])).ext E8
  have Z8 : n0 ≤ h8.size := Nat.le_trans Z0 E8.1
  obtain ⟨_, _, ⟨T9, L9, k9, n9⟩, -, X9, ⟨Lc9, hQ9, l9, y9, z9⟩, st9⟩ := Jvm.LawKit.callS X8 hx (y := (⟨"java/util/Objects", "requireNonNull", "(Ljava/lang/Object;Ljava/lang/String;)Ljava/lang/Object;"⟩ : MethodName)) hown8 (mvT hZ8 (hw _ (List.mem_of_getElem? (i := 39) rfl))) (mvT hZ8 (hw _ (List.mem_of_getElem? (i := 40) rfl))) (mvT hZ8 (hw _ (List.mem_of_getElem? (i := 41) rfl))) (mvT hZ8 (hw _ (List.mem_of_getElem? (i := 42) rfl))) (by decide) (backOf (W := 0) (rm7 l Z a0 hw [] a2 lit8 h8 n0 Z8 ) hZ8 (hw _ (List.mem_of_getElem? (i := 42) rfl)) (hw _ (List.mem_of_getElem? (i := 41) rfl)) (by decide) (by decide)) (g := (mkF m 7 #[.val (.ref a1), .val (.ref a2), .val (.int p3), .val (.int p4), .val (.int p5), .val (.int p6)] [(.ref lit8), (.ref a2)])) rfl (by rw [hml]; rfl) (argsL := [(.ref a2), (.ref lit8)]) (rest := []) (lenOf pd_3 rfl) rfl (by show 2 * 0 + _ ≤ _; exact Nat.le_of_eq rfl) (hb hby d5_7) (fun _ _ => ⟨rfl, e8, (by decide : 2 + 0 ≤ _), (by decide : 44 + 0 ≤ _)⟩)
  dsimp only [Pt.U, Pt.locs, Pt.cells, Pt.slots] at X9 l9 y9 z9 st9 hQ9
  subst l9 y9 z9
  obtain ⟨rfl, N9q, e9⟩ := hQ9
  have N9 := Fr.app N7 N9q
  obtain ⟨T10, h10, X10, e10, W10, st10⟩ := putF X9 hx hZ8 hown8 (host := "") (Or.inl (hw _ (List.mem_of_getElem? (i := 43) rfl))) Via.refl e9 (F_brokerName_a1.ext E8) (E_a1.ext E8) (Or.inr ⟨(hw _ (List.mem_of_getElem? (i := 44) rfl)), rfl, hnm⟩) (hw _ (List.mem_of_getElem? (i := 27) rfl)) (ty := (.object "java/lang/String")) (by decide) rfl rfl (g := (mkF m 13 #[.val (.ref a1), .val (.ref a2), .val (.int p3), .val (.int p4), .val (.int p5), .val (.int p6)] [(.ref a2), (.ref a1)])) rfl rfl (hb hby d5_13)
  have N10 := Fr.snoc X10 N9 g_a1
  have y11 := ((F_perm_a1.ext E8).other W10 (Or.inr (slot_ne (Or.inr (hw _ (List.mem_of_getElem? (i := 46) rfl))) (Or.inr (hw _ (List.mem_of_getElem? (i := 44) rfl))) (by decide) (t := .int) (t' := (.object "java/lang/String")) (by decide) (by decide))))
  have y12 := ((F_readQueueNums_a1.ext E8).other W10 (Or.inr (slot_ne (Or.inr (hw _ (List.mem_of_getElem? (i := 48) rfl))) (Or.inr (hw _ (List.mem_of_getElem? (i := 44) rfl))) (by decide) (t := .int) (t' := (.object "java/lang/String")) (by decide) (by decide))))
  have y13 := ((F_writeQueueNums_a1.ext E8).other W10 (Or.inr (slot_ne (Or.inr (hw _ (List.mem_of_getElem? (i := 50) rfl))) (Or.inr (hw _ (List.mem_of_getElem? (i := 44) rfl))) (by decide) (t := .int) (t' := (.object "java/lang/String")) (by decide) (by decide))))
  have y14 := ((F_topicSynFlag_a1.ext E8).other W10 (Or.inr (slot_ne (Or.inr (hw _ (List.mem_of_getElem? (i := 52) rfl))) (Or.inr (hw _ (List.mem_of_getElem? (i := 44) rfl))) (by decide) (t := .int) (t' := (.object "java/lang/String")) (by decide) (by decide))))
  have K10 : Keep h0 h10 [a1] := (K8).wr W10 (Or.inl (List.mem_of_getElem? (i := 0) rfl))
  have Z10 : n0 ≤ h10.size := Nat.le_trans Z8 (Keep.of_wr W10).1
  obtain ⟨T15, h15, X15, e15, W15, st15⟩ := putF X10 hx hZ8 hown8 (host := "") (Or.inl (hw _ (List.mem_of_getElem? (i := 45) rfl))) Via.refl e10 y11 ((E_a1.ext E8).wr W10) (Or.inr ⟨(hw _ (List.mem_of_getElem? (i := 46) rfl)), rfl, hnm⟩) (hw _ (List.mem_of_getElem? (i := 27) rfl)) (ty := .int) (by decide) rfl rfl (g := (mkF m 18 #[.val (.ref a1), .val (.ref a2), .val (.int p3), .val (.int p4), .val (.int p5), .val (.int p6)] [(.int p3), (.ref a1)])) rfl rfl (hb hby d5_18)
  have N15 := Fr.snoc X15 N10 g_a1
  have y16 := (((F_brokerName_a1.ext E8).same W10).other W15 (Or.inr (slot_ne (Or.inr (hw _ (List.mem_of_getElem? (i := 44) rfl))) (Or.inr (hw _ (List.mem_of_getElem? (i := 46) rfl))) (by decide) (t := (.object "java/lang/String")) (t' := .int) (by decide) (by decide))))
  have y17 := (y12.other W15 (Or.inr (slot_ne (Or.inr (hw _ (List.mem_of_getElem? (i := 48) rfl))) (Or.inr (hw _ (List.mem_of_getElem? (i := 46) rfl))) (by decide) (t := .int) (t' := .int) (by decide) (by decide))))
  have y18 := (y13.other W15 (Or.inr (slot_ne (Or.inr (hw _ (List.mem_of_getElem? (i := 50) rfl))) (Or.inr (hw _ (List.mem_of_getElem? (i := 46) rfl))) (by decide) (t := .int) (t' := .int) (by decide) (by decide))))
  have y19 := (y14.other W15 (Or.inr (slot_ne (Or.inr (hw _ (List.mem_of_getElem? (i := 52) rfl))) (Or.inr (hw _ (List.mem_of_getElem? (i := 46) rfl))) (by decide) (t := .int) (t' := .int) (by decide) (by decide))))
  have K15 : Keep h0 h15 [a1] := (K10).wr W15 (Or.inl (List.mem_of_getElem? (i := 0) rfl))
  have Z15 : n0 ≤ h15.size := Nat.le_trans Z10 (Keep.of_wr W15).1
  obtain ⟨T20, h20, X20, e20, W20, st20⟩ := putF X15 hx hZ8 hown8 (host := "") (Or.inl (hw _ (List.mem_of_getElem? (i := 47) rfl))) Via.refl e15 y17 (((E_a1.ext E8).wr W10).wr W15) (Or.inr ⟨(hw _ (List.mem_of_getElem? (i := 48) rfl)), rfl, hnm⟩) (hw _ (List.mem_of_getElem? (i := 27) rfl)) (ty := .int) (by decide) rfl rfl (g := (mkF m 23 #[.val (.ref a1), .val (.ref a2), .val (.int p3), .val (.int p4), .val (.int p5), .val (.int p6)] [(.int p4), (.ref a1)])) rfl rfl (hb hby d5_23)
  have N20 := Fr.snoc X20 N15 g_a1
  have y21 := (y16.other W20 (Or.inr (slot_ne (Or.inr (hw _ (List.mem_of_getElem? (i := 44) rfl))) (Or.inr (hw _ (List.mem_of_getElem? (i := 48) rfl))) (by decide) (t := (.object "java/lang/String")) (t' := .int) (by decide) (by decide))))
  have y22 := ((y11.same W15).other W20 (Or.inr (slot_ne (Or.inr (hw _ (List.mem_of_getElem? (i := 46) rfl))) (Or.inr (hw _ (List.mem_of_getElem? (i := 48) rfl))) (by decide) (t := .int) (t' := .int) (by decide) (by decide))))
  have y23 := (y18.other W20 (Or.inr (slot_ne (Or.inr (hw _ (List.mem_of_getElem? (i := 50) rfl))) (Or.inr (hw _ (List.mem_of_getElem? (i := 48) rfl))) (by decide) (t := .int) (t' := .int) (by decide) (by decide))))
  have y24 := (y19.other W20 (Or.inr (slot_ne (Or.inr (hw _ (List.mem_of_getElem? (i := 52) rfl))) (Or.inr (hw _ (List.mem_of_getElem? (i := 48) rfl))) (by decide) (t := .int) (t' := .int) (by decide) (by decide))))
  have K20 : Keep h0 h20 [a1] := (K15).wr W20 (Or.inl (List.mem_of_getElem? (i := 0) rfl))
  have Z20 : n0 ≤ h20.size := Nat.le_trans Z15 (Keep.of_wr W20).1
  obtain ⟨T25, h25, X25, e25, W25, st25⟩ := putF X20 hx hZ8 hown8 (host := "") (Or.inl (hw _ (List.mem_of_getElem? (i := 49) rfl))) Via.refl e20 y23 ((((E_a1.ext E8).wr W10).wr W15).wr W20) (Or.inr ⟨(hw _ (List.mem_of_getElem? (i := 50) rfl)), rfl, hnm⟩) (hw _ (List.mem_of_getElem? (i := 27) rfl)) (ty := .int) (by decide) rfl rfl (g := (mkF m 29 #[.val (.ref a1), .val (.ref a2), .val (.int p3), .val (.int p4), .val (.int p5), .val (.int p6)] [(.int p5), (.ref a1)])) rfl rfl (hb hby d5_29)
  have N25 := Fr.snoc X25 N20 g_a1
  have y26 := (((((E_a1.ext E8).wr W10).wr W15).wr W20).wr W25)
  have y27 := (y21.other W25 (Or.inr (slot_ne (Or.inr (hw _ (List.mem_of_getElem? (i := 44) rfl))) (Or.inr (hw _ (List.mem_of_getElem? (i := 50) rfl))) (by decide) (t := (.object "java/lang/String")) (t' := .int) (by decide) (by decide))))
  have y28 := (y22.other W25 (Or.inr (slot_ne (Or.inr (hw _ (List.mem_of_getElem? (i := 46) rfl))) (Or.inr (hw _ (List.mem_of_getElem? (i := 50) rfl))) (by decide) (t := .int) (t' := .int) (by decide) (by decide))))
  have y29 := ((y17.same W20).other W25 (Or.inr (slot_ne (Or.inr (hw _ (List.mem_of_getElem? (i := 48) rfl))) (Or.inr (hw _ (List.mem_of_getElem? (i := 50) rfl))) (by decide) (t := .int) (t' := .int) (by decide) (by decide))))
  have y30 := (y24.other W25 (Or.inr (slot_ne (Or.inr (hw _ (List.mem_of_getElem? (i := 52) rfl))) (Or.inr (hw _ (List.mem_of_getElem? (i := 50) rfl))) (by decide) (t := .int) (t' := .int) (by decide) (by decide))))
  have K25 : Keep h0 h25 [a1] := (K20).wr W25 (Or.inl (List.mem_of_getElem? (i := 0) rfl))
  have Z25 : n0 ≤ h25.size := Nat.le_trans Z20 (Keep.of_wr W25).1
  obtain ⟨T31, h31, X31, e31, W31, st31⟩ := putF X25 hx hZ8 hown8 (host := "") (Or.inl (hw _ (List.mem_of_getElem? (i := 51) rfl))) Via.refl e25 y30 y26 (Or.inr ⟨(hw _ (List.mem_of_getElem? (i := 52) rfl)), rfl, hnm⟩) (hw _ (List.mem_of_getElem? (i := 27) rfl)) (ty := .int) (by decide) rfl rfl (g := (mkF m 35 #[.val (.ref a1), .val (.ref a2), .val (.int p3), .val (.int p4), .val (.int p5), .val (.int p6)] [(.int p6), (.ref a1)])) rfl rfl (hb hby d5_35)
  have N31 := Fr.snoc X31 N25 g_a1
  have y32 := (y27.other W31 (Or.inr (slot_ne (Or.inr (hw _ (List.mem_of_getElem? (i := 44) rfl))) (Or.inr (hw _ (List.mem_of_getElem? (i := 52) rfl))) (by decide) (t := (.object "java/lang/String")) (t' := .int) (by decide) (by decide))))
  have y33 := (y28.other W31 (Or.inr (slot_ne (Or.inr (hw _ (List.mem_of_getElem? (i := 46) rfl))) (Or.inr (hw _ (List.mem_of_getElem? (i := 52) rfl))) (by decide) (t := .int) (t' := .int) (by decide) (by decide))))
  have y34 := (y29.other W31 (Or.inr (slot_ne (Or.inr (hw _ (List.mem_of_getElem? (i := 48) rfl))) (Or.inr (hw _ (List.mem_of_getElem? (i := 52) rfl))) (by decide) (t := .int) (t' := .int) (by decide) (by decide))))
  have y35 := ((y23.same W25).other W31 (Or.inr (slot_ne (Or.inr (hw _ (List.mem_of_getElem? (i := 50) rfl))) (Or.inr (hw _ (List.mem_of_getElem? (i := 52) rfl))) (by decide) (t := .int) (t' := .int) (by decide) (by decide))))
  have K31 : Keep h0 h31 [a1] := (K25).wr W31 (Or.inl (List.mem_of_getElem? (i := 0) rfl))
  have Z31 : n0 ≤ h31.size := Nat.le_trans Z25 (Keep.of_wr W31).1
  obtain ⟨fs, hr, hrun, hended, hEW⟩ := X31.leaveW hS8 (by rw [e31]; exact (Nat.le_trans (Nat.le_trans (Nat.le_trans (Nat.le_trans (Nat.le_trans hk8 (Keep.of_wr W10).1) (Keep.of_wr W15).1) (Keep.of_wr W20).1) (Keep.of_wr W25).1) (Keep.of_wr W31).1)) (v := none) (fun _ => rfl)
  refine ⟨_, _, pre0 _ ?_, hrun, hended, _, _, rfl, ?_, ⟨_, rfl⟩, hEW.2.1, hEW.2.2.1, hEW.2.2.2.mono (by decide) (by decide)⟩
  · show Steps p.tables e below (s₁.setTop (mkF m 0 #[.val (.ref a1), .val (.ref a2), .val (.int p3), .val (.int p4), .val (.int p5), .val (.int p6)] [])) _
    refine XS.aloadN X0.here hx rfl (hb hby d5_0) rfl rfl ?_
    show Steps p.tables e below (s₁.setTop (mkF m 1 #[.val (.ref a1), .val (.ref a2), .val (.int p3), .val (.int p4), .val (.int p5), .val (.int p6)] [(.ref a1)])) _
    refine st7.trans ?_
    show Steps p.tables e below (T7.setTop (mkF m 4 #[.val (.ref a1), .val (.ref a2), .val (.int p3), .val (.int p4), .val (.int p5), .val (.int p6)] [])) _
    refine XS.aloadN X7.here hx rfl (hb hby d5_4) rfl rfl ?_
    show Steps p.tables e below (T7.setTop (mkF m 5 #[.val (.ref a1), .val (.ref a2), .val (.int p3), .val (.int p4), .val (.int p5), .val (.int p6)] [(.ref a2)])) _
    refine st8 _ ?_
    show Steps p.tables e below (T8.setTop (mkF m 7 #[.val (.ref a1), .val (.ref a2), .val (.int p3), .val (.int p4), .val (.int p5), .val (.int p6)] [(.ref lit8), (.ref a2)])) _
    refine st9 _ ?_
    show Steps p.tables e below (T9.setTop (mkF m 10 #[.val (.ref a1), .val (.ref a2), .val (.int p3), .val (.int p4), .val (.int p5), .val (.int p6)] [(.ref a2)])) _
    refine XS.pop X9.here hx rfl (hb hby d5_10) rfl rfl ?_
    show Steps p.tables e below (T9.setTop (mkF m 11 #[.val (.ref a1), .val (.ref a2), .val (.int p3), .val (.int p4), .val (.int p5), .val (.int p6)] [])) _
    refine XS.aloadN X9.here hx rfl (hb hby d5_11) rfl rfl ?_
    show Steps p.tables e below (T9.setTop (mkF m 12 #[.val (.ref a1), .val (.ref a2), .val (.int p3), .val (.int p4), .val (.int p5), .val (.int p6)] [(.ref a1)])) _
    refine XS.aloadN X9.here hx rfl (hb hby d5_12) rfl rfl ?_
    show Steps p.tables e below (T9.setTop (mkF m 13 #[.val (.ref a1), .val (.ref a2), .val (.int p3), .val (.int p4), .val (.int p5), .val (.int p6)] [(.ref a2), (.ref a1)])) _
    refine st10 _ ?_
    show Steps p.tables e below (T10.setTop (mkF m 16 #[.val (.ref a1), .val (.ref a2), .val (.int p3), .val (.int p4), .val (.int p5), .val (.int p6)] [])) _
    refine XS.aloadN X10.here hx rfl (hb hby d5_16) rfl rfl ?_
    show Steps p.tables e below (T10.setTop (mkF m 17 #[.val (.ref a1), .val (.ref a2), .val (.int p3), .val (.int p4), .val (.int p5), .val (.int p6)] [(.ref a1)])) _
    refine XS.iloadN X10.here hx rfl (hb hby d5_17) rfl ?_
    show Steps p.tables e below (T10.setTop (mkF m 18 #[.val (.ref a1), .val (.ref a2), .val (.int p3), .val (.int p4), .val (.int p5), .val (.int p6)] [(.int p3), (.ref a1)])) _
    refine st15 _ ?_
    show Steps p.tables e below (T15.setTop (mkF m 21 #[.val (.ref a1), .val (.ref a2), .val (.int p3), .val (.int p4), .val (.int p5), .val (.int p6)] [])) _
    refine XS.aloadN X15.here hx rfl (hb hby d5_21) rfl rfl ?_
    show Steps p.tables e below (T15.setTop (mkF m 22 #[.val (.ref a1), .val (.ref a2), .val (.int p3), .val (.int p4), .val (.int p5), .val (.int p6)] [(.ref a1)])) _
    refine XS.iloadN X15.here hx rfl (hb hby d5_22) rfl ?_
    show Steps p.tables e below (T15.setTop (mkF m 23 #[.val (.ref a1), .val (.ref a2), .val (.int p3), .val (.int p4), .val (.int p5), .val (.int p6)] [(.int p4), (.ref a1)])) _
    refine st20 _ ?_
    show Steps p.tables e below (T20.setTop (mkF m 26 #[.val (.ref a1), .val (.ref a2), .val (.int p3), .val (.int p4), .val (.int p5), .val (.int p6)] [])) _
    refine XS.aloadN X20.here hx rfl (hb hby d5_26) rfl rfl ?_
    show Steps p.tables e below (T20.setTop (mkF m 27 #[.val (.ref a1), .val (.ref a2), .val (.int p3), .val (.int p4), .val (.int p5), .val (.int p6)] [(.ref a1)])) _
    refine XS.iload X20.here hx rfl (hb hby d5_27) rfl ?_
    show Steps p.tables e below (T20.setTop (mkF m 29 #[.val (.ref a1), .val (.ref a2), .val (.int p3), .val (.int p4), .val (.int p5), .val (.int p6)] [(.int p5), (.ref a1)])) _
    refine st25 _ ?_
    show Steps p.tables e below (T25.setTop (mkF m 32 #[.val (.ref a1), .val (.ref a2), .val (.int p3), .val (.int p4), .val (.int p5), .val (.int p6)] [])) _
    refine XS.aloadN X25.here hx rfl (hb hby d5_32) rfl rfl ?_
    show Steps p.tables e below (T25.setTop (mkF m 33 #[.val (.ref a1), .val (.ref a2), .val (.int p3), .val (.int p4), .val (.int p5), .val (.int p6)] [(.ref a1)])) _
    refine XS.iload X25.here hx rfl (hb hby d5_33) rfl ?_
    show Steps p.tables e below (T25.setTop (mkF m 35 #[.val (.ref a1), .val (.ref a2), .val (.int p3), .val (.int p4), .val (.int p5), .val (.int p6)] [(.int p6), (.ref a1)])) _
    refine st31 _ ?_
    show Steps p.tables e below (T31.setTop (mkF m 38 #[.val (.ref a1), .val (.ref a2), .val (.int p3), .val (.int p4), .val (.int p5), .val (.int p6)] [])) _
    exact X31.returnOut hx Bd.returns (hb hby d5_38) hr
  · show Q5 Z a1 a2 p3 p4 p5 p6 w_perm_a1 w_readQueueNums_a1 w_writeQueueNums_a1 w_topicSynFlag_a1 h0 n0 _ T31.heap _
    rw [e31]
    exact ⟨rfl, N31, (K31), (y26.wr W31), y32, y33, y34, y35, (y30.same W31)⟩
theorem d8_0 : decode prog_12_method_3_code 0 = .ok (.aload_n 1, 1) := by decide +kernel
theorem d8_1 : decode prog_12_method_3_code 1 = .ok (.aload_n 0, 1) := by decide +kernel
theorem d8_2 : decode prog_12_method_3_code 2 = .ok (.if_acmp .eq 73, 3) := by decide +kernel
theorem d8_75 : decode prog_12_method_3_code 75 = .ok (.iconst 1, 1) := by decide +kernel
theorem d8_76 : decode prog_12_method_3_code 76 = .ok (.goto 4, 3) := by decide +kernel
theorem d8_80 : decode prog_12_method_3_code 80 = .ok (.ireturn, 1) := by decide +kernel
theorem ef_es (m : MethodId) (a1 : Addr) (a2 : Addr) : entryFrame m #[(.ref a1), (.ref a2)] 3 = mkF m 0 #[.val (.ref a1), .val (.ref a2), .unset] [] := by first | (simp [entryFrame, mkF, argsToLocals, Value.category]; done) | rfl
def Qes (Z : State) (a1 : Addr) (a2 : Addr) (h0 : Heap) (n0 : Nat) (v : Option Value) (h : Heap) (L : List Loc) : Prop := v = some (.int (1 : Int32)) ∧ Fr n0 L ∧ h = h0
set_option maxRecDepth 65536 in
set_option maxHeartbeats 40000000 in
theorem rmes (l : Launch) (Z : State) (a0 : Array Value) (hw : ∀ d ∈ tables_1, d.before a0 Z = true) (ws : List Jvm.Cond) (a1 : Addr) (a2 : Addr) (h0 : Heap) (n0 : Nat) (Z0 : n0 ≤ h0.size) (hc2 : a2 = a1) :
    MetFree l (⟨"com/example/bowerbird/bowerbird/protocol/QueueData", "equals", "(Ljava/lang/Object;)Z"⟩ : MethodName) (head1 (Jvm.Cond.code (⟨"com/example/bowerbird/bowerbird/protocol/QueueData", "equals", "(Ljava/lang/Object;)Z"⟩ : MethodName) prog_12_method_3_code 3 (some .boolean) :: ws) ({ frames := 0, cells := 0, slots := 0, locals := 0 } : Room)) (fun a U => a = #[(.ref a1), (.ref a2)] ∧ Z.Warmed39 U.vm ∧ U.heap = h0) (fun _ _ _ _ _ => True) (fun _ U o U' => ∃ v L, o = .returned v ∧ Qes Z a1 a2 h0 n0 v U'.heap L ∧ FrameEnd U o U' L ({ frames := 0, cells := 0, slots := 0, locals := 0 } : Room).cells ({ frames := 0, cells := 0, slots := 0, locals := 0 } : Room).slots) := by
  refine MetFree.of_bodySF (plainFor_of_name pn_4) hisR ?_
  intro p e s m args below meth c s₁ Bd hml0 hP hK
  obtain ⟨rfl, hZ, hh⟩ := hP
  have hx := Bd.exec
  have hby := Bd.bytes
  have hml : c.maxLocals = 3 := hml0
  have hown : s.vm.findClass "com/example/bowerbird/bowerbird/protocol/QueueData" = some m.cls := findClass_of_methodNamed Bd.named
  have hnm := (name_of_methodNamed Bd.named Bd.method).1
  have X0 : Stand p l e ({ frames := 0, cells := 0, slots := 0, locals := 0 } : Room) s m #[(.ref a1), (.ref a2)] below meth c s₁ [] 0 0 := Stand.of_body Bd
  have e0 : s₁.heap = h0 := by rw [← hh, Bd.state]; rfl
  have N0 := Fr.nil n0
  have pre0 : ∀ t, Steps p.tables e below (s₁.setTop (mkF m 0 #[.val (.ref a1), .val (.ref a2), .unset] [])) t → Steps p.tables e below (s₁.setTop (entryFrame m #[(.ref a1), (.ref a2)] 3)) t := fun t k => castTop (ef_es m a1 a2) k
  obtain ⟨fs, hr, hrun, hended, hW, hsame⟩ := X0.leave (v := some (.int (1 : Int32))) (fun h => by rw [Bd.returns] at h; cases h)
  refine ⟨_, _, pre0 _ ?_, hrun, hended, _, _, rfl, ?_, ⟨_, rfl⟩, hW, hsame.mono (by decide) (by decide)⟩
  · show Steps p.tables e below (s₁.setTop (mkF m 0 #[.val (.ref a1), .val (.ref a2), .unset] [])) _
    refine XS.aloadN X0.here hx rfl (hb hby d8_0) rfl rfl ?_
    show Steps p.tables e below (s₁.setTop (mkF m 1 #[.val (.ref a1), .val (.ref a2), .unset] [(.ref a2)])) _
    refine XS.aloadN X0.here hx rfl (hb hby d8_1) rfl rfl ?_
    show Steps p.tables e below (s₁.setTop (mkF m 2 #[.val (.ref a1), .val (.ref a2), .unset] [(.ref a1), (.ref a2)])) _
    refine Jvm.RoadKit.acmp (g := (mkF m 2 #[.val (.ref a1), .val (.ref a2), .unset] [(.ref a1), (.ref a2)])) X0 hx rfl rfl rfl (pc0 := 2) (pc' := 75) (same := true) rfl (hb hby d8_2) rfl (decide_eq_true (congrArg Value.ref hc2)) (by decide) (by decide) ?_
    show Steps p.tables e below (s₁.setTop (mkF m 75 #[.val (.ref a1), .val (.ref a2), .unset] [])) _
    refine XS.iconst X0.here hx rfl (hb hby d8_75) ?_
    show Steps p.tables e below (s₁.setTop (mkF m 76 #[.val (.ref a1), .val (.ref a2), .unset] [(.int (1 : Int32))])) _
    refine XS.goto X0.here hx rfl (pc0 := 76) (pc' := 80) rfl (hb hby d8_76) (by decide) (by decide) ?_
    show Steps p.tables e below (s₁.setTop (mkF m 80 #[.val (.ref a1), .val (.ref a2), .unset] [(.int (1 : Int32))])) _
    exact retN X0 hx (t := .boolean) Bd.returns (by simp) (hb hby d8_80) hr
  · show Qes Z a1 a2 h0 n0 _ s₁.heap _
    rw [e0]
    exact ⟨rfl, N0, rfl⟩
theorem d8_5 : decode prog_12_method_3_code 5 = .ok (.aload_n 1, 1) := by decide +kernel
theorem d8_6 : decode prog_12_method_3_code 6 = .ok (.instanceof 16, 3) := by decide +kernel
theorem d8_9 : decode prog_12_method_3_code 9 = .ok (.ifCond .eq 70, 3) := by decide +kernel
theorem d8_79 : decode prog_12_method_3_code 79 = .ok (.iconst 0, 1) := by decide +kernel
theorem ef_en (m : MethodId) (a1 : Addr) : entryFrame m #[(.ref a1), .null] 3 = mkF m 0 #[.val (.ref a1), .val .null, .unset] [] := by first | (simp [entryFrame, mkF, argsToLocals, Value.category]; done) | rfl
def Qen (Z : State) (a1 : Addr) (h0 : Heap) (n0 : Nat) (v : Option Value) (h : Heap) (L : List Loc) : Prop := v = some (.int (0 : Int32)) ∧ Fr n0 L ∧ h = h0
set_option maxRecDepth 65536 in
set_option maxHeartbeats 40000000 in
theorem rmen (l : Launch) (Z : State) (a0 : Array Value) (hw : ∀ d ∈ tables_1, d.before a0 Z = true) (ws : List Jvm.Cond) (a1 : Addr) (h0 : Heap) (n0 : Nat) (Z0 : n0 ≤ h0.size) :
    MetFree l (⟨"com/example/bowerbird/bowerbird/protocol/QueueData", "equals", "(Ljava/lang/Object;)Z"⟩ : MethodName) (head1 (Jvm.Cond.code (⟨"com/example/bowerbird/bowerbird/protocol/QueueData", "equals", "(Ljava/lang/Object;)Z"⟩ : MethodName) prog_12_method_3_code 3 (some .boolean) :: ws) ({ frames := 0, cells := 0, slots := 0, locals := 0 } : Room)) (fun a U => a = #[(.ref a1), .null] ∧ Z.Warmed39 U.vm ∧ U.heap = h0) (fun _ _ _ _ _ => True) (fun _ U o U' => ∃ v L, o = .returned v ∧ Qen Z a1 h0 n0 v U'.heap L ∧ FrameEnd U o U' L ({ frames := 0, cells := 0, slots := 0, locals := 0 } : Room).cells ({ frames := 0, cells := 0, slots := 0, locals := 0 } : Room).slots) := by
  refine MetFree.of_bodySF (plainFor_of_name pn_4) hisR ?_
  intro p e s m args below meth c s₁ Bd hml0 hP hK
  obtain ⟨rfl, hZ, hh⟩ := hP
  have hx := Bd.exec
  have hby := Bd.bytes
  have hml : c.maxLocals = 3 := hml0
  have hown : s.vm.findClass "com/example/bowerbird/bowerbird/protocol/QueueData" = some m.cls := findClass_of_methodNamed Bd.named
  have hnm := (name_of_methodNamed Bd.named Bd.method).1
  have X0 : Stand p l e ({ frames := 0, cells := 0, slots := 0, locals := 0 } : Room) s m #[(.ref a1), .null] below meth c s₁ [] 0 0 := Stand.of_body Bd
  have e0 : s₁.heap = h0 := by rw [← hh, Bd.state]; rfl
  have N0 := Fr.nil n0
  have pre0 : ∀ t, Steps p.tables e below (s₁.setTop (mkF m 0 #[.val (.ref a1), .val .null, .unset] [])) t → Steps p.tables e below (s₁.setTop (entryFrame m #[(.ref a1), .null] 3)) t := fun t k => castTop (ef_en m a1) k
  obtain ⟨fs, hr, hrun, hended, hW, hsame⟩ := X0.leave (v := some (.int (0 : Int32))) (fun h => by rw [Bd.returns] at h; cases h)
  refine ⟨_, _, pre0 _ ?_, hrun, hended, _, _, rfl, ?_, ⟨_, rfl⟩, hW, hsame.mono (by decide) (by decide)⟩
  · show Steps p.tables e below (s₁.setTop (mkF m 0 #[.val (.ref a1), .val .null, .unset] [])) _
    refine XS.aloadN X0.here hx rfl (hb hby d8_0) rfl rfl ?_
    show Steps p.tables e below (s₁.setTop (mkF m 1 #[.val (.ref a1), .val .null, .unset] [.null])) _
    refine XS.aloadN X0.here hx rfl (hb hby d8_1) rfl rfl ?_
    show Steps p.tables e below (s₁.setTop (mkF m 2 #[.val (.ref a1), .val .null, .unset] [(.ref a1), .null])) _
    refine Jvm.RoadKit.acmp (g := (mkF m 2 #[.val (.ref a1), .val .null, .unset] [(.ref a1), .null])) X0 hx rfl rfl rfl (pc0 := 2) (pc' := 5) (same := false) rfl (hb hby d8_2) rfl (decide_eq_false nofun) (by decide) (by decide) ?_
    show Steps p.tables e below (s₁.setTop (mkF m 5 #[.val (.ref a1), .val .null, .unset] [])) _
    refine XS.aloadN X0.here hx rfl (hb hby d8_5) rfl rfl ?_
    show Steps p.tables e below (s₁.setTop (mkF m 6 #[.val (.ref a1), .val .null, .unset] [.null])) _
    refine X0.instanceofNull hx (g := (mkF m 6 #[.val (.ref a1), .val .null, .unset] [.null])) rfl rfl (hb hby d8_6) _ ?_
    show Steps p.tables e below (s₁.setTop (mkF m 9 #[.val (.ref a1), .val .null, .unset] [(.int (0 : Int32))])) _
    refine XS.ifYes X0.here hx rfl (pc0 := 9) (pc' := 79) rfl (hb hby d8_9) rfl ((if0 _ _).trans (teq (by decide : (0 : Int32) = (0 : Int32))).1) (by decide) (by decide) ?_
    show Steps p.tables e below (s₁.setTop (mkF m 79 #[.val (.ref a1), .val .null, .unset] [])) _
    refine XS.iconst X0.here hx rfl (hb hby d8_79) ?_
    show Steps p.tables e below (s₁.setTop (mkF m 80 #[.val (.ref a1), .val .null, .unset] [(.int (0 : Int32))])) _
    exact retN X0 hx (t := .boolean) Bd.returns (by simp) (hb hby d8_80) hr
  · show Qen Z a1 h0 n0 _ s₁.heap _
    rw [e0]
    exact ⟨rfl, N0, rfl⟩
theorem ef_et (m : MethodId) (a1 : Addr) (a2 : Addr) : entryFrame m #[(.ref a1), (.ref a2)] 3 = mkF m 0 #[.val (.ref a1), .val (.ref a2), .unset] [] := by first | (simp [entryFrame, mkF, argsToLocals, Value.category]; done) | rfl
def Qet (Z : State) (a1 : Addr) (a2 : Addr) (h0 : Heap) (n0 : Nat) (v : Option Value) (h : Heap) (L : List Loc) : Prop := v = some (.int (0 : Int32)) ∧ Fr n0 L ∧ h = h0
set_option maxRecDepth 65536 in
set_option maxHeartbeats 40000000 in
theorem rmet (l : Launch) (Z : State) (a0 : Array Value) (hw : ∀ d ∈ tables_1, d.before a0 Z = true) (ws : List Jvm.Cond) (a1 : Addr) (a2 : Addr) (h0 : Heap) (n0 : Nat) (Z0 : n0 ≤ h0.size) (E_a1 : Exa Z h0 a1 "com/example/bowerbird/bowerbird/protocol/QueueData") (E_a2 : Exa Z h0 a2 "java/lang/String") :
    MetFree l (⟨"com/example/bowerbird/bowerbird/protocol/QueueData", "equals", "(Ljava/lang/Object;)Z"⟩ : MethodName) (head1 (Jvm.Cond.code (⟨"com/example/bowerbird/bowerbird/protocol/QueueData", "equals", "(Ljava/lang/Object;)Z"⟩ : MethodName) prog_12_method_3_code 3 (some .boolean) :: ws) ({ frames := 0, cells := 0, slots := 0, locals := 0 } : Room)) (fun a U => a = #[(.ref a1), (.ref a2)] ∧ Z.Warmed39 U.vm ∧ U.heap = h0) (fun _ _ _ _ _ => True) (fun _ U o U' => ∃ v L, o = .returned v ∧ Qet Z a1 a2 h0 n0 v U'.heap L ∧ FrameEnd U o U' L ({ frames := 0, cells := 0, slots := 0, locals := 0 } : Room).cells ({ frames := 0, cells := 0, slots := 0, locals := 0 } : Room).slots) := by
  refine MetFree.of_bodySF (plainFor_of_name pn_4) hisR ?_
  intro p e s m args below meth c s₁ Bd hml0 hP hK
  obtain ⟨rfl, hZ, hh⟩ := hP
  have hx := Bd.exec
  have hby := Bd.bytes
  have hml : c.maxLocals = 3 := hml0
  have hown : s.vm.findClass "com/example/bowerbird/bowerbird/protocol/QueueData" = some m.cls := findClass_of_methodNamed Bd.named
  have hnm := (name_of_methodNamed Bd.named Bd.method).1
  have X0 : Stand p l e ({ frames := 0, cells := 0, slots := 0, locals := 0 } : Room) s m #[(.ref a1), (.ref a2)] below meth c s₁ [] 0 0 := Stand.of_body Bd
  have e0 : s₁.heap = h0 := by rw [← hh, Bd.state]; rfl
  have N0 := Fr.nil n0
  have pre0 : ∀ t, Steps p.tables e below (s₁.setTop (mkF m 0 #[.val (.ref a1), .val (.ref a2), .unset] [])) t → Steps p.tables e below (s₁.setTop (entryFrame m #[(.ref a1), (.ref a2)] 3)) t := fun t k => castTop (ef_et m a1 a2) k
  have hc2_3 : ¬ (a2 = a1) := Exa.ne E_a2 E_a1 (by decide)
  obtain ⟨T4, X4, e4, st4⟩ := instNo X0 hx hZ hown (hw _ (List.mem_of_getElem? (i := 58) rfl)) e0 E_a2 (own_noinst (hw _ (List.mem_of_getElem? (i := 81) rfl)) (hw _ (List.mem_of_getElem? (i := 82) rfl)) (hw _ (List.mem_of_getElem? (i := 27) rfl)) (by decide) (by decide)) (g := (mkF m 6 #[.val (.ref a1), .val (.ref a2), .unset] [(.ref a2)])) rfl rfl (hb hby d8_6)
  obtain ⟨fs, hr, hrun, hended, hW, hsame⟩ := X4.leave (v := some (.int (0 : Int32))) (fun h => by rw [Bd.returns] at h; cases h)
  refine ⟨_, _, pre0 _ ?_, hrun, hended, _, _, rfl, ?_, ⟨_, rfl⟩, hW, hsame.mono (by decide) (by decide)⟩
  · show Steps p.tables e below (s₁.setTop (mkF m 0 #[.val (.ref a1), .val (.ref a2), .unset] [])) _
    refine XS.aloadN X0.here hx rfl (hb hby d8_0) rfl rfl ?_
    show Steps p.tables e below (s₁.setTop (mkF m 1 #[.val (.ref a1), .val (.ref a2), .unset] [(.ref a2)])) _
    refine XS.aloadN X0.here hx rfl (hb hby d8_1) rfl rfl ?_
    show Steps p.tables e below (s₁.setTop (mkF m 2 #[.val (.ref a1), .val (.ref a2), .unset] [(.ref a1), (.ref a2)])) _
    refine Jvm.RoadKit.acmp (g := (mkF m 2 #[.val (.ref a1), .val (.ref a2), .unset] [(.ref a1), (.ref a2)])) X0 hx rfl rfl rfl (pc0 := 2) (pc' := 5) (same := false) rfl (hb hby d8_2) rfl (decide_eq_false fun q => hc2_3 (Value.ref.inj q)) (by decide) (by decide) ?_
    show Steps p.tables e below (s₁.setTop (mkF m 5 #[.val (.ref a1), .val (.ref a2), .unset] [])) _
    refine XS.aloadN X0.here hx rfl (hb hby d8_5) rfl rfl ?_
    show Steps p.tables e below (s₁.setTop (mkF m 6 #[.val (.ref a1), .val (.ref a2), .unset] [(.ref a2)])) _
    refine st4 _ ?_
    show Steps p.tables e below (T4.setTop (mkF m 9 #[.val (.ref a1), .val (.ref a2), .unset] [(.int (0 : Int32))])) _
    refine XS.ifYes X4.here hx rfl (pc0 := 9) (pc' := 79) rfl (hb hby d8_9) rfl ((if0 _ _).trans (teq (by decide : (0 : Int32) = (0 : Int32))).1) (by decide) (by decide) ?_
    show Steps p.tables e below (T4.setTop (mkF m 79 #[.val (.ref a1), .val (.ref a2), .unset] [])) _
    refine XS.iconst X4.here hx rfl (hb hby d8_79) ?_
    show Steps p.tables e below (T4.setTop (mkF m 80 #[.val (.ref a1), .val (.ref a2), .unset] [(.int (0 : Int32))])) _
    exact retN X4 hx (t := .boolean) Bd.returns (by simp) (hb hby d8_80) hr
  · show Qet Z a1 a2 h0 n0 _ T4.heap _
    rw [e4]
    exact ⟨rfl, N0, rfl⟩
theorem pd_4 : parseMethodDescriptor "(Ljava/lang/Object;)Z" = some ⟨[(.object "java/lang/Object")], some .boolean⟩ := by decide +kernel
theorem d8_12 : decode prog_12_method_3_code 12 = .ok (.aload_n 1, 1) := by decide +kernel
theorem d8_13 : decode prog_12_method_3_code 13 = .ok (.checkcast 16, 3) := by decide +kernel
theorem d8_16 : decode prog_12_method_3_code 16 = .ok (.astore_n 2, 1) := by decide +kernel
theorem d8_17 : decode prog_12_method_3_code 17 = .ok (.aload_n 0, 1) := by decide +kernel
theorem d8_18 : decode prog_12_method_3_code 18 = .ok (.getfield 15, 3) := by decide +kernel
theorem d8_21 : decode prog_12_method_3_code 21 = .ok (.aload_n 2, 1) := by decide +kernel
theorem d8_22 : decode prog_12_method_3_code 22 = .ok (.getfield 15, 3) := by decide +kernel
theorem d8_25 : decode prog_12_method_3_code 25 = .ok (.invokevirtual 36, 3) := by decide +kernel
theorem d8_28 : decode prog_12_method_3_code 28 = .ok (.ifCond .eq 51, 3) := by decide +kernel
theorem d8_31 : decode prog_12_method_3_code 31 = .ok (.aload_n 0, 1) := by decide +kernel
theorem d8_32 : decode prog_12_method_3_code 32 = .ok (.getfield 20, 3) := by decide +kernel
theorem d8_35 : decode prog_12_method_3_code 35 = .ok (.aload_n 2, 1) := by decide +kernel
theorem d8_36 : decode prog_12_method_3_code 36 = .ok (.getfield 20, 3) := by decide +kernel
theorem d8_39 : decode prog_12_method_3_code 39 = .ok (.if_icmp .ne 40, 3) := by decide +kernel
theorem d8_42 : decode prog_12_method_3_code 42 = .ok (.aload_n 0, 1) := by decide +kernel
theorem d8_43 : decode prog_12_method_3_code 43 = .ok (.getfield 24, 3) := by decide +kernel
theorem d8_46 : decode prog_12_method_3_code 46 = .ok (.aload_n 2, 1) := by decide +kernel
theorem d8_47 : decode prog_12_method_3_code 47 = .ok (.getfield 24, 3) := by decide +kernel
theorem d8_50 : decode prog_12_method_3_code 50 = .ok (.if_icmp .ne 29, 3) := by decide +kernel
theorem d8_53 : decode prog_12_method_3_code 53 = .ok (.aload_n 0, 1) := by decide +kernel
theorem d8_54 : decode prog_12_method_3_code 54 = .ok (.getfield 27, 3) := by decide +kernel
theorem d8_57 : decode prog_12_method_3_code 57 = .ok (.aload_n 2, 1) := by decide +kernel
theorem d8_58 : decode prog_12_method_3_code 58 = .ok (.getfield 27, 3) := by decide +kernel
theorem d8_61 : decode prog_12_method_3_code 61 = .ok (.if_icmp .ne 18, 3) := by decide +kernel
theorem d8_64 : decode prog_12_method_3_code 64 = .ok (.aload_n 0, 1) := by decide +kernel
theorem d8_65 : decode prog_12_method_3_code 65 = .ok (.getfield 30, 3) := by decide +kernel
theorem d8_68 : decode prog_12_method_3_code 68 = .ok (.aload_n 2, 1) := by decide +kernel
theorem d8_69 : decode prog_12_method_3_code 69 = .ok (.getfield 30, 3) := by decide +kernel
theorem d8_72 : decode prog_12_method_3_code 72 = .ok (.if_icmp .ne 7, 3) := by decide +kernel
theorem ef_eq (m : MethodId) (a1 : Addr) (a2 : Addr) : entryFrame m #[(.ref a1), (.ref a2)] 3 = mkF m 0 #[.val (.ref a1), .val (.ref a2), .unset] [] := by first | (simp [entryFrame, mkF, argsToLocals, Value.category]; done) | rfl
def Feq (w_perm_a1 : Int32) (w_readQueueNums_a1 : Int32) (w_writeQueueNums_a1 : Int32) (w_topicSynFlag_a1 : Int32) (w_perm_a2 : Int32) (w_readQueueNums_a2 : Int32) (w_writeQueueNums_a2 : Int32) (w_topicSynFlag_a2 : Int32) (cs_w_brokerName_a1 : List Int32) (cs_w_brokerName_a2 : List Int32) : Int32 := (if (own_eq cs_w_brokerName_a1 cs_w_brokerName_a2) = (0 : Int32) then (0 : Int32) else (if w_perm_a1 = w_perm_a2 then (if w_readQueueNums_a1 = w_readQueueNums_a2 then (if w_writeQueueNums_a1 = w_writeQueueNums_a2 then (if w_topicSynFlag_a1 = w_topicSynFlag_a2 then (1 : Int32) else (0 : Int32)) else (0 : Int32)) else (0 : Int32)) else (0 : Int32)))
def Qeq (Z : State) (a1 : Addr) (a2 : Addr) (w_brokerName_a1 : Addr) (w_perm_a1 : Int32) (w_readQueueNums_a1 : Int32) (w_writeQueueNums_a1 : Int32) (w_topicSynFlag_a1 : Int32) (w_brokerName_a2 : Addr) (w_perm_a2 : Int32) (w_readQueueNums_a2 : Int32) (w_writeQueueNums_a2 : Int32) (w_topicSynFlag_a2 : Int32) (cs_w_brokerName_a1 : List Int32) (cs_w_brokerName_a2 : List Int32) (st_COMPACT_STRINGS : Int32) (h0 : Heap) (n0 : Nat) (v : Option Value) (h : Heap) (L : List Loc) : Prop := v = some (.int (Feq w_perm_a1 w_readQueueNums_a1 w_writeQueueNums_a1 w_topicSynFlag_a1 w_perm_a2 w_readQueueNums_a2 w_writeQueueNums_a2 w_topicSynFlag_a2 cs_w_brokerName_a1 cs_w_brokerName_a2)) ∧ Fr n0 L ∧ h = h0
set_option maxRecDepth 65536 in
set_option maxHeartbeats 40000000 in
theorem rmeq (l : Launch) (Z : State) (a0 : Array Value) (hw : ∀ d ∈ tables_1, d.before a0 Z = true) (ws : List Jvm.Cond) (a1 : Addr) (a2 : Addr) (w_brokerName_a1 : Addr) (w_perm_a1 : Int32) (w_readQueueNums_a1 : Int32) (w_writeQueueNums_a1 : Int32) (w_topicSynFlag_a1 : Int32) (w_brokerName_a2 : Addr) (w_perm_a2 : Int32) (w_readQueueNums_a2 : Int32) (w_writeQueueNums_a2 : Int32) (w_topicSynFlag_a2 : Int32) (cs_w_brokerName_a1 : List Int32) (cs_w_brokerName_a2 : List Int32) (st_COMPACT_STRINGS : Int32) (h0 : Heap) (n0 : Nat) (Z0 : n0 ≤ h0.size) (E_a1 : Exa Z h0 a1 "com/example/bowerbird/bowerbird/protocol/QueueData") (E_a2 : Exa Z h0 a2 "com/example/bowerbird/bowerbird/protocol/QueueData") (F_brokerName_a1 : Fld Z h0 a1 "com/example/bowerbird/bowerbird/protocol/QueueData" "brokerName" "Ljava/lang/String;" (.ref w_brokerName_a1)) (F_perm_a1 : Fld Z h0 a1 "com/example/bowerbird/bowerbird/protocol/QueueData" "perm" "I" (.int w_perm_a1)) (F_readQueueNums_a1 : Fld Z h0 a1 "com/example/bowerbird/bowerbird/protocol/QueueData" "readQueueNums" "I" (.int w_readQueueNums_a1)) (F_writeQueueNums_a1 : Fld Z h0 a1 "com/example/bowerbird/bowerbird/protocol/QueueData" "writeQueueNums" "I" (.int w_writeQueueNums_a1)) (F_topicSynFlag_a1 : Fld Z h0 a1 "com/example/bowerbird/bowerbird/protocol/QueueData" "topicSynFlag" "I" (.int w_topicSynFlag_a1)) (F_brokerName_a2 : Fld Z h0 a2 "com/example/bowerbird/bowerbird/protocol/QueueData" "brokerName" "Ljava/lang/String;" (.ref w_brokerName_a2)) (F_perm_a2 : Fld Z h0 a2 "com/example/bowerbird/bowerbird/protocol/QueueData" "perm" "I" (.int w_perm_a2)) (F_readQueueNums_a2 : Fld Z h0 a2 "com/example/bowerbird/bowerbird/protocol/QueueData" "readQueueNums" "I" (.int w_readQueueNums_a2)) (F_writeQueueNums_a2 : Fld Z h0 a2 "com/example/bowerbird/bowerbird/protocol/QueueData" "writeQueueNums" "I" (.int w_writeQueueNums_a2)) (F_topicSynFlag_a2 : Fld Z h0 a2 "com/example/bowerbird/bowerbird/protocol/QueueData" "topicSynFlag" "I" (.int w_topicSynFlag_a2)) (T_w_brokerName_a1 : own_Str Z h0 w_brokerName_a1 cs_w_brokerName_a1) (T_w_brokerName_a2 : own_Str Z h0 w_brokerName_a2 cs_w_brokerName_a2) (S_COMPACT_STRINGS : Sta Z h0 "java/lang/String" "COMPACT_STRINGS" "Z" (.int st_COMPACT_STRINGS)) (hc2 : ¬ (a2 = a1)) (hq25_16 : ¬ (st_COMPACT_STRINGS = (0 : Int32))) :
    MetFree l (⟨"com/example/bowerbird/bowerbird/protocol/QueueData", "equals", "(Ljava/lang/Object;)Z"⟩ : MethodName) (head1 (Jvm.Cond.code (⟨"com/example/bowerbird/bowerbird/protocol/QueueData", "equals", "(Ljava/lang/Object;)Z"⟩ : MethodName) prog_12_method_3_code 3 (some .boolean) :: ws) ({ frames := 2, cells := 0, slots := 0, locals := 28 } : Room)) (fun a U => a = #[(.ref a1), (.ref a2)] ∧ Z.Warmed39 U.vm ∧ U.heap = h0) (fun _ _ _ _ _ => True) (fun _ U o U' => ∃ v L, o = .returned v ∧ Qeq Z a1 a2 w_brokerName_a1 w_perm_a1 w_readQueueNums_a1 w_writeQueueNums_a1 w_topicSynFlag_a1 w_brokerName_a2 w_perm_a2 w_readQueueNums_a2 w_writeQueueNums_a2 w_topicSynFlag_a2 cs_w_brokerName_a1 cs_w_brokerName_a2 st_COMPACT_STRINGS h0 n0 v U'.heap L ∧ FrameEnd U o U' L ({ frames := 2, cells := 0, slots := 0, locals := 28 } : Room).cells ({ frames := 2, cells := 0, slots := 0, locals := 28 } : Room).slots) := by
  refine MetFree.of_bodySF (plainFor_of_name pn_4) hisR ?_
  intro p e s m args below meth c s₁ Bd hml0 hP hK
  obtain ⟨rfl, hZ, hh⟩ := hP
  have hx := Bd.exec
  have hby := Bd.bytes
  have hml : c.maxLocals = 3 := hml0
  have hown : s.vm.findClass "com/example/bowerbird/bowerbird/protocol/QueueData" = some m.cls := findClass_of_methodNamed Bd.named
  have hnm := (name_of_methodNamed Bd.named Bd.method).1
  have X0 : Stand p l e ({ frames := 2, cells := 0, slots := 0, locals := 28 } : Room) s m #[(.ref a1), (.ref a2)] below meth c s₁ [] 0 0 := Stand.of_body Bd
  have e0 : s₁.heap = h0 := by rw [← hh, Bd.state]; rfl
  have N0 := Fr.nil n0
  have pre0 : ∀ t, Steps p.tables e below (s₁.setTop (mkF m 0 #[.val (.ref a1), .val (.ref a2), .unset] [])) t → Steps p.tables e below (s₁.setTop (entryFrame m #[(.ref a1), (.ref a2)] 3)) t := fun t k => castTop (ef_eq m a1 a2) k
  obtain ⟨T3, X3, e3, st3⟩ := instY X0 hx hZ hown (hw _ (List.mem_of_getElem? (i := 58) rfl)) e0 (Ins.self E_a2) (g := (mkF m 6 #[.val (.ref a1), .val (.ref a2), .unset] [(.ref a2)])) rfl rfl (hb hby d8_6)
  obtain ⟨T4, X4, e4, st4⟩ := castY X3 hx hZ hown (hw _ (List.mem_of_getElem? (i := 58) rfl)) e3 (Ins.self E_a2) (g := (mkF m 13 #[.val (.ref a1), .val (.ref a2), .unset] [(.ref a2)])) rfl rfl (hb hby d8_13)
  obtain ⟨T5, X5, e5, st5⟩ := getF X4 hx hZ hown (host := "") (Or.inl (hw _ (List.mem_of_getElem? (i := 43) rfl))) Via.refl e4 F_brokerName_a1 (g := (mkF m 18 #[.val (.ref a1), .val (.ref a2), .val (.ref a2)] [(.ref a1)])) rfl rfl (hb hby d8_18)
  obtain ⟨T6, X6, e6, st6⟩ := getF X5 hx hZ hown (host := "") (Or.inl (hw _ (List.mem_of_getElem? (i := 43) rfl))) Via.refl e5 F_brokerName_a2 (g := (mkF m 22 #[.val (.ref a1), .val (.ref a2), .val (.ref a2)] [(.ref a2), (.ref w_brokerName_a1)])) rfl rfl (hb hby d8_22)
  obtain ⟨t7a, k7a, E7a, C7a, V7a, A7a, P7a, L7a⟩ := T_w_brokerName_a1
  obtain ⟨t7b, k7b, E7b, C7b, V7b, A7b, P7b, L7b⟩ := T_w_brokerName_a2
  obtain ⟨cq7, kq7, q7a, q7b, q7c⟩ := isOf hZ e6 E7a
  obtain ⟨v7, _, ⟨T7, L7, k7, n7⟩, -, X7, ⟨Lc7, hQ7, l7, y7, z7⟩, st7⟩ := X6.virtualBack hx (y := (⟨"java/lang/String", "equals", "(Ljava/lang/Object;)Z"⟩ : MethodName)) (z := (⟨"java/lang/String", "equals", "(Ljava/lang/Object;)Z"⟩ : MethodName)) hown (mvT hZ (hw _ (List.mem_of_getElem? (i := 60) rfl))) (mvT hZ (hw _ (List.mem_of_getElem? (i := 61) rfl))) (notFace_of_selects (args := #[]) (mvT hZ (hw _ (List.mem_of_getElem? (i := 63) rfl)))) (mvT hZ (hw _ (List.mem_of_getElem? (i := 63) rfl))) (mvT hZ (hw _ (List.mem_of_getElem? (i := 62) rfl))) (by decide) (StrChars.Road.eqW (W := 0) hZ (own_we hw) (kI := 4) (hw _ (List.mem_of_getElem? (i := 5) rfl)) E7a V7a C7a A7a (Or.inl ⟨rfl, rfl, rfl, fun c hc => (P7a c hc).2⟩) (own_up P7a) L7a E7b V7b C7b A7b (Or.inl ⟨rfl, rfl, rfl, fun c hc => (P7b c hc).2⟩) (own_up P7b) L7b S_COMPACT_STRINGS hq25_16 (by decide) (by decide)) q7a q7c (g := (mkF m 25 #[.val (.ref a1), .val (.ref a2), .val (.ref a2)] [(.ref w_brokerName_a2), (.ref w_brokerName_a1)])) rfl (by rw [hml]; rfl) (Steps.refl _) (argsL := [(.ref w_brokerName_a2)]) (rest := []) (lenOf pd_4 rfl) rfl (by show 2 * 0 + _ ≤ _; exact Nat.le_of_eq rfl) (hb hby d8_25) (fun _ _ => ⟨rfl, e6, (by decide : 0 + 0 ≤ _), (by decide : 0 + 0 ≤ _)⟩)
  dsimp only [Pt.U, Pt.locs, Pt.cells, Pt.slots] at X7 l7 y7 z7 st7 hQ7
  subst l7 y7 z7
  obtain ⟨hv7, rfl, e7⟩ := hQ7
  have hv7' := own_eqv hv7; subst hv7'
  have N7 := Fr.app N0 (Fr.nil n0)
  have pre9 : ∀ t, Steps p.tables e below (T7.setTop (mkF m 28 #[.val (.ref a1), .val (.ref a2), .val (.ref a2)] [(.int (own_eq cs_w_brokerName_a1 cs_w_brokerName_a2))])) t → Steps p.tables e below (s₁.setTop (entryFrame m #[(.ref a1), (.ref a2)] 3)) t := fun t kt => pre0 t (by
    show Steps p.tables e below (s₁.setTop (mkF m 0 #[.val (.ref a1), .val (.ref a2), .unset] [])) _
    refine XS.aloadN X0.here hx rfl (hb hby d8_0) rfl rfl ?_
    show Steps p.tables e below (s₁.setTop (mkF m 1 #[.val (.ref a1), .val (.ref a2), .unset] [(.ref a2)])) _
    refine XS.aloadN X0.here hx rfl (hb hby d8_1) rfl rfl ?_
    show Steps p.tables e below (s₁.setTop (mkF m 2 #[.val (.ref a1), .val (.ref a2), .unset] [(.ref a1), (.ref a2)])) _
    refine Jvm.RoadKit.acmp (g := (mkF m 2 #[.val (.ref a1), .val (.ref a2), .unset] [(.ref a1), (.ref a2)])) X0 hx rfl rfl rfl (pc0 := 2) (pc' := 5) (same := false) rfl (hb hby d8_2) rfl (decide_eq_false fun q => hc2 (Value.ref.inj q)) (by decide) (by decide) ?_
    show Steps p.tables e below (s₁.setTop (mkF m 5 #[.val (.ref a1), .val (.ref a2), .unset] [])) _
    refine XS.aloadN X0.here hx rfl (hb hby d8_5) rfl rfl ?_
    show Steps p.tables e below (s₁.setTop (mkF m 6 #[.val (.ref a1), .val (.ref a2), .unset] [(.ref a2)])) _
    refine st3 _ ?_
    show Steps p.tables e below (T3.setTop (mkF m 9 #[.val (.ref a1), .val (.ref a2), .unset] [(.int (1 : Int32))])) _
    refine XS.ifNo X3.here hx rfl (hb hby d8_9) rfl ((if0 _ _).trans (feq (by decide : ¬ ((1 : Int32) = (0 : Int32)))).1) ?_
    show Steps p.tables e below (T3.setTop (mkF m 12 #[.val (.ref a1), .val (.ref a2), .unset] [])) _
    refine XS.aloadN X3.here hx rfl (hb hby d8_12) rfl rfl ?_
    show Steps p.tables e below (T3.setTop (mkF m 13 #[.val (.ref a1), .val (.ref a2), .unset] [(.ref a2)])) _
    refine st4 _ ?_
    show Steps p.tables e below (T4.setTop (mkF m 16 #[.val (.ref a1), .val (.ref a2), .unset] [(.ref a2)])) _
    refine XS.astoreN X4.here hx rfl (hb hby d8_16) rfl rfl (l' := #[.val (.ref a1), .val (.ref a2), .val (.ref a2)]) rfl ?_
    show Steps p.tables e below (T4.setTop (mkF m 17 #[.val (.ref a1), .val (.ref a2), .val (.ref a2)] [])) _
    refine XS.aloadN X4.here hx rfl (hb hby d8_17) rfl rfl ?_
    show Steps p.tables e below (T4.setTop (mkF m 18 #[.val (.ref a1), .val (.ref a2), .val (.ref a2)] [(.ref a1)])) _
    refine st5 _ ?_
    show Steps p.tables e below (T5.setTop (mkF m 21 #[.val (.ref a1), .val (.ref a2), .val (.ref a2)] [(.ref w_brokerName_a1)])) _
    refine XS.aloadN X5.here hx rfl (hb hby d8_21) rfl rfl ?_
    show Steps p.tables e below (T5.setTop (mkF m 22 #[.val (.ref a1), .val (.ref a2), .val (.ref a2)] [(.ref a2), (.ref w_brokerName_a1)])) _
    refine st6 _ ?_
    show Steps p.tables e below (T6.setTop (mkF m 25 #[.val (.ref a1), .val (.ref a2), .val (.ref a2)] [(.ref w_brokerName_a2), (.ref w_brokerName_a1)])) _
    refine st7.trans ?_
    show Steps p.tables e below (T7.setTop (mkF m 28 #[.val (.ref a1), .val (.ref a2), .val (.ref a2)] [(.int (own_eq cs_w_brokerName_a1 cs_w_brokerName_a2))])) _
    exact kt)
  by_cases hc28_8 : (own_eq cs_w_brokerName_a1 cs_w_brokerName_a2) = (0 : Int32)
  · obtain ⟨fs, hr, hrun, hended, hW, hsame⟩ := X7.leave (v := some (.int (0 : Int32))) (fun h => by rw [Bd.returns] at h; cases h)
    refine ⟨_, _, pre9 _ ?_, hrun, hended, _, _, rfl, ?_, ⟨_, rfl⟩, hW, hsame.mono (by decide) (by decide)⟩
    · show Steps p.tables e below (T7.setTop (mkF m 28 #[.val (.ref a1), .val (.ref a2), .val (.ref a2)] [(.int (own_eq cs_w_brokerName_a1 cs_w_brokerName_a2))])) _
      refine XS.ifYes X7.here hx rfl (pc0 := 28) (pc' := 79) rfl (hb hby d8_28) rfl ((if0 _ _).trans (teq hc28_8).1) (by decide) (by decide) ?_
      show Steps p.tables e below (T7.setTop (mkF m 79 #[.val (.ref a1), .val (.ref a2), .val (.ref a2)] [])) _
      refine XS.iconst X7.here hx rfl (hb hby d8_79) ?_
      show Steps p.tables e below (T7.setTop (mkF m 80 #[.val (.ref a1), .val (.ref a2), .val (.ref a2)] [(.int (0 : Int32))])) _
      exact retN X7 hx (t := .boolean) Bd.returns (by simp) (hb hby d8_80) hr
    · show Qeq Z a1 a2 w_brokerName_a1 w_perm_a1 w_readQueueNums_a1 w_writeQueueNums_a1 w_topicSynFlag_a1 w_brokerName_a2 w_perm_a2 w_readQueueNums_a2 w_writeQueueNums_a2 w_topicSynFlag_a2 cs_w_brokerName_a1 cs_w_brokerName_a2 st_COMPACT_STRINGS h0 n0 _ T7.heap _
      rw [e7]
      have qr : Feq w_perm_a1 w_readQueueNums_a1 w_writeQueueNums_a1 w_topicSynFlag_a1 w_perm_a2 w_readQueueNums_a2 w_writeQueueNums_a2 w_topicSynFlag_a2 cs_w_brokerName_a1 cs_w_brokerName_a2 = (0 : Int32) := by unfold Feq; rw [if_pos hc28_8]
      exact ⟨(by rw [qr]), N7, rfl⟩
  · obtain ⟨T10, X10, e10, st10⟩ := getF X7 hx hZ hown (host := "") (Or.inl (hw _ (List.mem_of_getElem? (i := 45) rfl))) Via.refl e7 F_perm_a1 (g := (mkF m 32 #[.val (.ref a1), .val (.ref a2), .val (.ref a2)] [(.ref a1)])) rfl rfl (hb hby d8_32)
    obtain ⟨T11, X11, e11, st11⟩ := getF X10 hx hZ hown (host := "") (Or.inl (hw _ (List.mem_of_getElem? (i := 45) rfl))) Via.refl e10 F_perm_a2 (g := (mkF m 36 #[.val (.ref a1), .val (.ref a2), .val (.ref a2)] [(.ref a2), (.int w_perm_a1)])) rfl rfl (hb hby d8_36)
    have pre13 : ∀ t, Steps p.tables e below (T11.setTop (mkF m 39 #[.val (.ref a1), .val (.ref a2), .val (.ref a2)] [(.int w_perm_a2), (.int w_perm_a1)])) t → Steps p.tables e below (s₁.setTop (entryFrame m #[(.ref a1), (.ref a2)] 3)) t := fun t kt => pre9 t (by
      show Steps p.tables e below (T7.setTop (mkF m 28 #[.val (.ref a1), .val (.ref a2), .val (.ref a2)] [(.int (own_eq cs_w_brokerName_a1 cs_w_brokerName_a2))])) _
      refine XS.ifNo X7.here hx rfl (hb hby d8_28) rfl ((if0 _ _).trans (feq hc28_8).1) ?_
      show Steps p.tables e below (T7.setTop (mkF m 31 #[.val (.ref a1), .val (.ref a2), .val (.ref a2)] [])) _
      refine XS.aloadN X7.here hx rfl (hb hby d8_31) rfl rfl ?_
      show Steps p.tables e below (T7.setTop (mkF m 32 #[.val (.ref a1), .val (.ref a2), .val (.ref a2)] [(.ref a1)])) _
      refine st10 _ ?_
      show Steps p.tables e below (T10.setTop (mkF m 35 #[.val (.ref a1), .val (.ref a2), .val (.ref a2)] [(.int w_perm_a1)])) _
      refine XS.aloadN X10.here hx rfl (hb hby d8_35) rfl rfl ?_
      show Steps p.tables e below (T10.setTop (mkF m 36 #[.val (.ref a1), .val (.ref a2), .val (.ref a2)] [(.ref a2), (.int w_perm_a1)])) _
      refine st11 _ ?_
      show Steps p.tables e below (T11.setTop (mkF m 39 #[.val (.ref a1), .val (.ref a2), .val (.ref a2)] [(.int w_perm_a2), (.int w_perm_a1)])) _
      exact kt)
    by_cases hc39_12 : w_perm_a1 = w_perm_a2
    · obtain ⟨T14, X14, e14, st14⟩ := getF X11 hx hZ hown (host := "") (Or.inl (hw _ (List.mem_of_getElem? (i := 47) rfl))) Via.refl e11 F_readQueueNums_a1 (g := (mkF m 43 #[.val (.ref a1), .val (.ref a2), .val (.ref a2)] [(.ref a1)])) rfl rfl (hb hby d8_43)
      obtain ⟨T15, X15, e15, st15⟩ := getF X14 hx hZ hown (host := "") (Or.inl (hw _ (List.mem_of_getElem? (i := 47) rfl))) Via.refl e14 F_readQueueNums_a2 (g := (mkF m 47 #[.val (.ref a1), .val (.ref a2), .val (.ref a2)] [(.ref a2), (.int w_readQueueNums_a1)])) rfl rfl (hb hby d8_47)
      have pre17 : ∀ t, Steps p.tables e below (T15.setTop (mkF m 50 #[.val (.ref a1), .val (.ref a2), .val (.ref a2)] [(.int w_readQueueNums_a2), (.int w_readQueueNums_a1)])) t → Steps p.tables e below (s₁.setTop (entryFrame m #[(.ref a1), (.ref a2)] 3)) t := fun t kt => pre13 t (by
        show Steps p.tables e below (T11.setTop (mkF m 39 #[.val (.ref a1), .val (.ref a2), .val (.ref a2)] [(.int w_perm_a2), (.int w_perm_a1)])) _
        refine XS.icmpNo X11.here hx rfl (hb hby d8_39) rfl (teq hc39_12).2 ?_
        show Steps p.tables e below (T11.setTop (mkF m 42 #[.val (.ref a1), .val (.ref a2), .val (.ref a2)] [])) _
        refine XS.aloadN X11.here hx rfl (hb hby d8_42) rfl rfl ?_
        show Steps p.tables e below (T11.setTop (mkF m 43 #[.val (.ref a1), .val (.ref a2), .val (.ref a2)] [(.ref a1)])) _
        refine st14 _ ?_
        show Steps p.tables e below (T14.setTop (mkF m 46 #[.val (.ref a1), .val (.ref a2), .val (.ref a2)] [(.int w_readQueueNums_a1)])) _
        refine XS.aloadN X14.here hx rfl (hb hby d8_46) rfl rfl ?_
        show Steps p.tables e below (T14.setTop (mkF m 47 #[.val (.ref a1), .val (.ref a2), .val (.ref a2)] [(.ref a2), (.int w_readQueueNums_a1)])) _
        refine st15 _ ?_
        show Steps p.tables e below (T15.setTop (mkF m 50 #[.val (.ref a1), .val (.ref a2), .val (.ref a2)] [(.int w_readQueueNums_a2), (.int w_readQueueNums_a1)])) _
        exact kt)
      by_cases hc50_16 : w_readQueueNums_a1 = w_readQueueNums_a2
      · obtain ⟨T18, X18, e18, st18⟩ := getF X15 hx hZ hown (host := "") (Or.inl (hw _ (List.mem_of_getElem? (i := 49) rfl))) Via.refl e15 F_writeQueueNums_a1 (g := (mkF m 54 #[.val (.ref a1), .val (.ref a2), .val (.ref a2)] [(.ref a1)])) rfl rfl (hb hby d8_54)
        obtain ⟨T19, X19, e19, st19⟩ := getF X18 hx hZ hown (host := "") (Or.inl (hw _ (List.mem_of_getElem? (i := 49) rfl))) Via.refl e18 F_writeQueueNums_a2 (g := (mkF m 58 #[.val (.ref a1), .val (.ref a2), .val (.ref a2)] [(.ref a2), (.int w_writeQueueNums_a1)])) rfl rfl (hb hby d8_58)
        have pre21 : ∀ t, Steps p.tables e below (T19.setTop (mkF m 61 #[.val (.ref a1), .val (.ref a2), .val (.ref a2)] [(.int w_writeQueueNums_a2), (.int w_writeQueueNums_a1)])) t → Steps p.tables e below (s₁.setTop (entryFrame m #[(.ref a1), (.ref a2)] 3)) t := fun t kt => pre17 t (by
          show Steps p.tables e below (T15.setTop (mkF m 50 #[.val (.ref a1), .val (.ref a2), .val (.ref a2)] [(.int w_readQueueNums_a2), (.int w_readQueueNums_a1)])) _
          refine XS.icmpNo X15.here hx rfl (hb hby d8_50) rfl (teq hc50_16).2 ?_
          show Steps p.tables e below (T15.setTop (mkF m 53 #[.val (.ref a1), .val (.ref a2), .val (.ref a2)] [])) _
          refine XS.aloadN X15.here hx rfl (hb hby d8_53) rfl rfl ?_
          show Steps p.tables e below (T15.setTop (mkF m 54 #[.val (.ref a1), .val (.ref a2), .val (.ref a2)] [(.ref a1)])) _
          refine st18 _ ?_
          show Steps p.tables e below (T18.setTop (mkF m 57 #[.val (.ref a1), .val (.ref a2), .val (.ref a2)] [(.int w_writeQueueNums_a1)])) _
          refine XS.aloadN X18.here hx rfl (hb hby d8_57) rfl rfl ?_
          show Steps p.tables e below (T18.setTop (mkF m 58 #[.val (.ref a1), .val (.ref a2), .val (.ref a2)] [(.ref a2), (.int w_writeQueueNums_a1)])) _
          refine st19 _ ?_
          show Steps p.tables e below (T19.setTop (mkF m 61 #[.val (.ref a1), .val (.ref a2), .val (.ref a2)] [(.int w_writeQueueNums_a2), (.int w_writeQueueNums_a1)])) _
          exact kt)
        by_cases hc61_20 : w_writeQueueNums_a1 = w_writeQueueNums_a2
        · obtain ⟨T22, X22, e22, st22⟩ := getF X19 hx hZ hown (host := "") (Or.inl (hw _ (List.mem_of_getElem? (i := 51) rfl))) Via.refl e19 F_topicSynFlag_a1 (g := (mkF m 65 #[.val (.ref a1), .val (.ref a2), .val (.ref a2)] [(.ref a1)])) rfl rfl (hb hby d8_65)
          obtain ⟨T23, X23, e23, st23⟩ := getF X22 hx hZ hown (host := "") (Or.inl (hw _ (List.mem_of_getElem? (i := 51) rfl))) Via.refl e22 F_topicSynFlag_a2 (g := (mkF m 69 #[.val (.ref a1), .val (.ref a2), .val (.ref a2)] [(.ref a2), (.int w_topicSynFlag_a1)])) rfl rfl (hb hby d8_69)
          have pre25 : ∀ t, Steps p.tables e below (T23.setTop (mkF m 72 #[.val (.ref a1), .val (.ref a2), .val (.ref a2)] [(.int w_topicSynFlag_a2), (.int w_topicSynFlag_a1)])) t → Steps p.tables e below (s₁.setTop (entryFrame m #[(.ref a1), (.ref a2)] 3)) t := fun t kt => pre21 t (by
            show Steps p.tables e below (T19.setTop (mkF m 61 #[.val (.ref a1), .val (.ref a2), .val (.ref a2)] [(.int w_writeQueueNums_a2), (.int w_writeQueueNums_a1)])) _
            refine XS.icmpNo X19.here hx rfl (hb hby d8_61) rfl (teq hc61_20).2 ?_
            show Steps p.tables e below (T19.setTop (mkF m 64 #[.val (.ref a1), .val (.ref a2), .val (.ref a2)] [])) _
            refine XS.aloadN X19.here hx rfl (hb hby d8_64) rfl rfl ?_
            show Steps p.tables e below (T19.setTop (mkF m 65 #[.val (.ref a1), .val (.ref a2), .val (.ref a2)] [(.ref a1)])) _
            refine st22 _ ?_
            show Steps p.tables e below (T22.setTop (mkF m 68 #[.val (.ref a1), .val (.ref a2), .val (.ref a2)] [(.int w_topicSynFlag_a1)])) _
            refine XS.aloadN X22.here hx rfl (hb hby d8_68) rfl rfl ?_
            show Steps p.tables e below (T22.setTop (mkF m 69 #[.val (.ref a1), .val (.ref a2), .val (.ref a2)] [(.ref a2), (.int w_topicSynFlag_a1)])) _
            refine st23 _ ?_
            show Steps p.tables e below (T23.setTop (mkF m 72 #[.val (.ref a1), .val (.ref a2), .val (.ref a2)] [(.int w_topicSynFlag_a2), (.int w_topicSynFlag_a1)])) _
            exact kt)
          by_cases hc72_24 : w_topicSynFlag_a1 = w_topicSynFlag_a2
          · obtain ⟨fs, hr, hrun, hended, hW, hsame⟩ := X23.leave (v := some (.int (1 : Int32))) (fun h => by rw [Bd.returns] at h; cases h)
            refine ⟨_, _, pre25 _ ?_, hrun, hended, _, _, rfl, ?_, ⟨_, rfl⟩, hW, hsame.mono (by decide) (by decide)⟩
            · show Steps p.tables e below (T23.setTop (mkF m 72 #[.val (.ref a1), .val (.ref a2), .val (.ref a2)] [(.int w_topicSynFlag_a2), (.int w_topicSynFlag_a1)])) _
              refine XS.icmpNo X23.here hx rfl (hb hby d8_72) rfl (teq hc72_24).2 ?_
              show Steps p.tables e below (T23.setTop (mkF m 75 #[.val (.ref a1), .val (.ref a2), .val (.ref a2)] [])) _
              refine XS.iconst X23.here hx rfl (hb hby d8_75) ?_
              show Steps p.tables e below (T23.setTop (mkF m 76 #[.val (.ref a1), .val (.ref a2), .val (.ref a2)] [(.int (1 : Int32))])) _
              refine XS.goto X23.here hx rfl (pc0 := 76) (pc' := 80) rfl (hb hby d8_76) (by decide) (by decide) ?_
              show Steps p.tables e below (T23.setTop (mkF m 80 #[.val (.ref a1), .val (.ref a2), .val (.ref a2)] [(.int (1 : Int32))])) _
              exact retN X23 hx (t := .boolean) Bd.returns (by simp) (hb hby d8_80) hr
            · show Qeq Z a1 a2 w_brokerName_a1 w_perm_a1 w_readQueueNums_a1 w_writeQueueNums_a1 w_topicSynFlag_a1 w_brokerName_a2 w_perm_a2 w_readQueueNums_a2 w_writeQueueNums_a2 w_topicSynFlag_a2 cs_w_brokerName_a1 cs_w_brokerName_a2 st_COMPACT_STRINGS h0 n0 _ T23.heap _
              rw [e23]
              have qr : Feq w_perm_a1 w_readQueueNums_a1 w_writeQueueNums_a1 w_topicSynFlag_a1 w_perm_a2 w_readQueueNums_a2 w_writeQueueNums_a2 w_topicSynFlag_a2 cs_w_brokerName_a1 cs_w_brokerName_a2 = (1 : Int32) := by unfold Feq; rw [if_neg hc28_8, if_pos hc39_12, if_pos hc50_16, if_pos hc61_20, if_pos hc72_24]
              exact ⟨(by rw [qr]), N7, rfl⟩
          · obtain ⟨fs, hr, hrun, hended, hW, hsame⟩ := X23.leave (v := some (.int (0 : Int32))) (fun h => by rw [Bd.returns] at h; cases h)
            refine ⟨_, _, pre25 _ ?_, hrun, hended, _, _, rfl, ?_, ⟨_, rfl⟩, hW, hsame.mono (by decide) (by decide)⟩
            · show Steps p.tables e below (T23.setTop (mkF m 72 #[.val (.ref a1), .val (.ref a2), .val (.ref a2)] [(.int w_topicSynFlag_a2), (.int w_topicSynFlag_a1)])) _
              refine XS.icmpYes X23.here hx rfl (pc0 := 72) (pc' := 79) rfl (hb hby d8_72) rfl (feq hc72_24).2 (by decide) (by decide) ?_
              show Steps p.tables e below (T23.setTop (mkF m 79 #[.val (.ref a1), .val (.ref a2), .val (.ref a2)] [])) _
              refine XS.iconst X23.here hx rfl (hb hby d8_79) ?_
              show Steps p.tables e below (T23.setTop (mkF m 80 #[.val (.ref a1), .val (.ref a2), .val (.ref a2)] [(.int (0 : Int32))])) _
              exact retN X23 hx (t := .boolean) Bd.returns (by simp) (hb hby d8_80) hr
            · show Qeq Z a1 a2 w_brokerName_a1 w_perm_a1 w_readQueueNums_a1 w_writeQueueNums_a1 w_topicSynFlag_a1 w_brokerName_a2 w_perm_a2 w_readQueueNums_a2 w_writeQueueNums_a2 w_topicSynFlag_a2 cs_w_brokerName_a1 cs_w_brokerName_a2 st_COMPACT_STRINGS h0 n0 _ T23.heap _
              rw [e23]
              have qr : Feq w_perm_a1 w_readQueueNums_a1 w_writeQueueNums_a1 w_topicSynFlag_a1 w_perm_a2 w_readQueueNums_a2 w_writeQueueNums_a2 w_topicSynFlag_a2 cs_w_brokerName_a1 cs_w_brokerName_a2 = (0 : Int32) := by unfold Feq; rw [if_neg hc28_8, if_pos hc39_12, if_pos hc50_16, if_pos hc61_20, if_neg hc72_24]
              exact ⟨(by rw [qr]), N7, rfl⟩
        · obtain ⟨fs, hr, hrun, hended, hW, hsame⟩ := X19.leave (v := some (.int (0 : Int32))) (fun h => by rw [Bd.returns] at h; cases h)
          refine ⟨_, _, pre21 _ ?_, hrun, hended, _, _, rfl, ?_, ⟨_, rfl⟩, hW, hsame.mono (by decide) (by decide)⟩
          · show Steps p.tables e below (T19.setTop (mkF m 61 #[.val (.ref a1), .val (.ref a2), .val (.ref a2)] [(.int w_writeQueueNums_a2), (.int w_writeQueueNums_a1)])) _
            refine XS.icmpYes X19.here hx rfl (pc0 := 61) (pc' := 79) rfl (hb hby d8_61) rfl (feq hc61_20).2 (by decide) (by decide) ?_
            show Steps p.tables e below (T19.setTop (mkF m 79 #[.val (.ref a1), .val (.ref a2), .val (.ref a2)] [])) _
            refine XS.iconst X19.here hx rfl (hb hby d8_79) ?_
            show Steps p.tables e below (T19.setTop (mkF m 80 #[.val (.ref a1), .val (.ref a2), .val (.ref a2)] [(.int (0 : Int32))])) _
            exact retN X19 hx (t := .boolean) Bd.returns (by simp) (hb hby d8_80) hr
          · show Qeq Z a1 a2 w_brokerName_a1 w_perm_a1 w_readQueueNums_a1 w_writeQueueNums_a1 w_topicSynFlag_a1 w_brokerName_a2 w_perm_a2 w_readQueueNums_a2 w_writeQueueNums_a2 w_topicSynFlag_a2 cs_w_brokerName_a1 cs_w_brokerName_a2 st_COMPACT_STRINGS h0 n0 _ T19.heap _
            rw [e19]
            have qr : Feq w_perm_a1 w_readQueueNums_a1 w_writeQueueNums_a1 w_topicSynFlag_a1 w_perm_a2 w_readQueueNums_a2 w_writeQueueNums_a2 w_topicSynFlag_a2 cs_w_brokerName_a1 cs_w_brokerName_a2 = (0 : Int32) := by unfold Feq; rw [if_neg hc28_8, if_pos hc39_12, if_pos hc50_16, if_neg hc61_20]
            exact ⟨(by rw [qr]), N7, rfl⟩
      · obtain ⟨fs, hr, hrun, hended, hW, hsame⟩ := X15.leave (v := some (.int (0 : Int32))) (fun h => by rw [Bd.returns] at h; cases h)
        refine ⟨_, _, pre17 _ ?_, hrun, hended, _, _, rfl, ?_, ⟨_, rfl⟩, hW, hsame.mono (by decide) (by decide)⟩
        · show Steps p.tables e below (T15.setTop (mkF m 50 #[.val (.ref a1), .val (.ref a2), .val (.ref a2)] [(.int w_readQueueNums_a2), (.int w_readQueueNums_a1)])) _
          refine XS.icmpYes X15.here hx rfl (pc0 := 50) (pc' := 79) rfl (hb hby d8_50) rfl (feq hc50_16).2 (by decide) (by decide) ?_
          show Steps p.tables e below (T15.setTop (mkF m 79 #[.val (.ref a1), .val (.ref a2), .val (.ref a2)] [])) _
          refine XS.iconst X15.here hx rfl (hb hby d8_79) ?_
          show Steps p.tables e below (T15.setTop (mkF m 80 #[.val (.ref a1), .val (.ref a2), .val (.ref a2)] [(.int (0 : Int32))])) _
          exact retN X15 hx (t := .boolean) Bd.returns (by simp) (hb hby d8_80) hr
        · show Qeq Z a1 a2 w_brokerName_a1 w_perm_a1 w_readQueueNums_a1 w_writeQueueNums_a1 w_topicSynFlag_a1 w_brokerName_a2 w_perm_a2 w_readQueueNums_a2 w_writeQueueNums_a2 w_topicSynFlag_a2 cs_w_brokerName_a1 cs_w_brokerName_a2 st_COMPACT_STRINGS h0 n0 _ T15.heap _
          rw [e15]
          have qr : Feq w_perm_a1 w_readQueueNums_a1 w_writeQueueNums_a1 w_topicSynFlag_a1 w_perm_a2 w_readQueueNums_a2 w_writeQueueNums_a2 w_topicSynFlag_a2 cs_w_brokerName_a1 cs_w_brokerName_a2 = (0 : Int32) := by unfold Feq; rw [if_neg hc28_8, if_pos hc39_12, if_neg hc50_16]
          exact ⟨(by rw [qr]), N7, rfl⟩
    · obtain ⟨fs, hr, hrun, hended, hW, hsame⟩ := X11.leave (v := some (.int (0 : Int32))) (fun h => by rw [Bd.returns] at h; cases h)
      refine ⟨_, _, pre13 _ ?_, hrun, hended, _, _, rfl, ?_, ⟨_, rfl⟩, hW, hsame.mono (by decide) (by decide)⟩
      · show Steps p.tables e below (T11.setTop (mkF m 39 #[.val (.ref a1), .val (.ref a2), .val (.ref a2)] [(.int w_perm_a2), (.int w_perm_a1)])) _
        refine XS.icmpYes X11.here hx rfl (pc0 := 39) (pc' := 79) rfl (hb hby d8_39) rfl (feq hc39_12).2 (by decide) (by decide) ?_
        show Steps p.tables e below (T11.setTop (mkF m 79 #[.val (.ref a1), .val (.ref a2), .val (.ref a2)] [])) _
        refine XS.iconst X11.here hx rfl (hb hby d8_79) ?_
        show Steps p.tables e below (T11.setTop (mkF m 80 #[.val (.ref a1), .val (.ref a2), .val (.ref a2)] [(.int (0 : Int32))])) _
        exact retN X11 hx (t := .boolean) Bd.returns (by simp) (hb hby d8_80) hr
      · show Qeq Z a1 a2 w_brokerName_a1 w_perm_a1 w_readQueueNums_a1 w_writeQueueNums_a1 w_topicSynFlag_a1 w_brokerName_a2 w_perm_a2 w_readQueueNums_a2 w_writeQueueNums_a2 w_topicSynFlag_a2 cs_w_brokerName_a1 cs_w_brokerName_a2 st_COMPACT_STRINGS h0 n0 _ T11.heap _
        rw [e11]
        have qr : Feq w_perm_a1 w_readQueueNums_a1 w_writeQueueNums_a1 w_topicSynFlag_a1 w_perm_a2 w_readQueueNums_a2 w_writeQueueNums_a2 w_topicSynFlag_a2 cs_w_brokerName_a1 cs_w_brokerName_a2 = (0 : Int32) := by unfold Feq; rw [if_neg hc28_8, if_neg hc39_12]
        exact ⟨(by rw [qr]), N7, rfl⟩
theorem pd_5 : parseMethodDescriptor "(ICC)Ljava/lang/String;" = some ⟨[.int, .char, .char], some (.object "java/lang/String")⟩ := by decide +kernel
theorem pd_6 : parseMethodDescriptor "(Ljava/lang/String;IIII)V" = some ⟨[(.object "java/lang/String"), .int, .int, .int, .int], none⟩ := by decide +kernel
theorem ef_0 (m : MethodId) (p1 : Int32) (p2 : Int32) (p3 : Int32) (p4 : Int32) (p5 : Int32) (p6 : Int32) : entryFrame m #[(.int p1), (.int p2), (.int p3), (.int p4), (.int p5), (.int p6)] maxLocals = mkF m 0 #[.val (.int p1), .val (.int p2), .val (.int p3), .val (.int p4), .val (.int p5), .val (.int p6), .unset, .unset, .unset, .unset, .unset, .unset, .unset, .unset, .unset, .unset, .unset, .unset, .unset, .unset, .unset, .unset, .unset] [] := by first | (simp [entryFrame, mkF, argsToLocals, Value.category, maxLocals]; done) | rfl
def own_c0 (p1 : Int32) : Int32 := ((p1 &&& (255 : Int32)).toUInt32.toUInt16.toUInt32.toInt32)
def own_c1 (p1 : Int32) : Int32 := ((((p1.toUInt32 >>> ((8 : Int32) &&& 31).toUInt32).toInt32) &&& (255 : Int32)).toUInt32.toUInt16.toUInt32.toInt32)
def own_la (p1 : Int32) : Int32 := ((((p1.toUInt32 >>> ((20 : Int32) &&& 31).toUInt32).toInt32) &&& (3 : Int32)) % (3 : Int32))
def own_lc (p1 : Int32) : Int32 := (((p1.toUInt32 >>> ((22 : Int32) &&& 31).toUInt32).toInt32) &&& (3 : Int32))
def own_lb (p1 : Int32) : Int32 := (if (own_lc p1) = (3 : Int32) then (own_la p1) else (own_lc p1))
def own_b0 (p1 : Int32) : Int32 := (((own_c0 p1) ^^^ (((p1.toUInt32 >>> ((24 : Int32) &&& 31).toUInt32).toInt32) &&& (1 : Int32))).toUInt32.toUInt16.toUInt32.toInt32)
def own_b1 (p1 : Int32) : Int32 := (((own_c1 p1) ^^^ (((p1.toUInt32 >>> ((25 : Int32) &&& 31).toUInt32).toInt32) &&& (1 : Int32))).toUInt32.toUInt16.toUInt32.toInt32)
def own_kd (p1 : Int32) : Int32 := (((p1.toUInt32 >>> ((26 : Int32) &&& 31).toUInt32).toInt32) &&& (3 : Int32))
def own_p2 (p1 : Int32) (p2 : Int32) (p6 : Int32) : Int32 := (if (((p1.toUInt32 >>> ((16 : Int32) &&& 31).toUInt32).toInt32) &&& (1 : Int32)) = (0 : Int32) then p2 else (p2 + p6))
def own_r2 (p1 : Int32) (p3 : Int32) (p6 : Int32) : Int32 := (if (((p1.toUInt32 >>> ((17 : Int32) &&& 31).toUInt32).toInt32) &&& (1 : Int32)) = (0 : Int32) then p3 else (p3 + p6))
def own_w2 (p1 : Int32) (p4 : Int32) (p6 : Int32) : Int32 := (if (((p1.toUInt32 >>> ((18 : Int32) &&& 31).toUInt32).toInt32) &&& (1 : Int32)) = (0 : Int32) then p4 else (p4 + p6))
def own_t2 (p1 : Int32) (p5 : Int32) (p6 : Int32) : Int32 := (if (((p1.toUInt32 >>> ((19 : Int32) &&& 31).toUInt32).toInt32) &&& (1 : Int32)) = (0 : Int32) then p5 else (p5 + p6))
def own_exp (p1 : Int32) (p2 : Int32) (p3 : Int32) (p4 : Int32) (p5 : Int32) (p6 : Int32) : Int32 := (if (own_la p1) = (own_lb p1) then (if (own_la p1) < (1 : Int32) then (if (own_la p1) < (2 : Int32) then (if p2 = (own_p2 p1 p2 p6) then (if p3 = (own_r2 p1 p3 p6) then (if p4 = (own_w2 p1 p4 p6) then (if p5 = (own_t2 p1 p5 p6) then (1 : Int32) else (0 : Int32)) else (0 : Int32)) else (0 : Int32)) else (0 : Int32)) else (if (own_c1 p1) = (own_b1 p1) then (if p2 = (own_p2 p1 p2 p6) then (if p3 = (own_r2 p1 p3 p6) then (if p4 = (own_w2 p1 p4 p6) then (if p5 = (own_t2 p1 p5 p6) then (1 : Int32) else (0 : Int32)) else (0 : Int32)) else (0 : Int32)) else (0 : Int32)) else (0 : Int32))) else (if (own_c0 p1) = (own_b0 p1) then (if (own_la p1) < (2 : Int32) then (if p2 = (own_p2 p1 p2 p6) then (if p3 = (own_r2 p1 p3 p6) then (if p4 = (own_w2 p1 p4 p6) then (if p5 = (own_t2 p1 p5 p6) then (1 : Int32) else (0 : Int32)) else (0 : Int32)) else (0 : Int32)) else (0 : Int32)) else (if (own_c1 p1) = (own_b1 p1) then (if p2 = (own_p2 p1 p2 p6) then (if p3 = (own_r2 p1 p3 p6) then (if p4 = (own_w2 p1 p4 p6) then (if p5 = (own_t2 p1 p5 p6) then (1 : Int32) else (0 : Int32)) else (0 : Int32)) else (0 : Int32)) else (0 : Int32)) else (0 : Int32))) else (0 : Int32))) else (0 : Int32))
theorem own_rg (x : Int32) : (0 ≤ (own_c0 x).toInt ∧ (own_c0 x).toInt < 256) ∧ (0 ≤ (own_c1 x).toInt ∧ (own_c1 x).toInt < 256) := by
  have m : ∀ y : Int32, (y &&& (255 : Int32)).toInt = y.toInt % 2 ^ 8 := fun y => Jvm.Kit.i32_mask y 255 (k := 8) (by decide) (by decide)
  unfold own_c0 own_c1
  rw [i2c_mask, i2c_mask, m, m]
  omega
theorem own_x8 (a b : Int32) (ha : 0 ≤ a.toInt ∧ a.toInt < 256) (hb : 0 ≤ b.toInt ∧ b.toInt < 256) : 0 ≤ (a ^^^ b).toInt ∧ (a ^^^ b).toInt < 256 := by
  have na : a.toBitVec.toNat < 256 := by
    have e : a.toInt = a.toBitVec.toInt := rfl
    rw [e, BitVec.toInt_eq_toNat_cond] at ha; have := a.toBitVec.isLt; split at ha <;> omega
  have nb : b.toBitVec.toNat < 256 := by
    have e : b.toInt = b.toBitVec.toInt := rfl
    rw [e, BitVec.toInt_eq_toNat_cond] at hb; have := b.toBitVec.isLt; split at hb <;> omega
  have e : (a ^^^ b).toInt = (a ^^^ b).toBitVec.toInt := rfl
  have n : (a ^^^ b).toBitVec.toNat < 2 ^ 8 := by
    rw [Int32.toBitVec_xor, BitVec.toNat_xor]; exact Nat.xor_lt_two_pow na nb
  rw [e, BitVec.toInt_eq_toNat_cond]
  split <;> omega
theorem own_bt (y : Int32) : 0 ≤ (y &&& (1 : Int32)).toInt ∧ (y &&& (1 : Int32)).toInt < 256 := by
  have m : (y &&& (1 : Int32)).toInt = y.toInt % 2 ^ 1 := Jvm.Kit.i32_mask y 1 (k := 1) (by decide) (by decide)
  rw [m]; omega
theorem own_rb (x : Int32) : (0 ≤ (own_b0 x).toInt ∧ (own_b0 x).toInt < 256) ∧ (0 ≤ (own_b1 x).toInt ∧ (own_b1 x).toInt < 256) := by
  obtain ⟨h0, h1⟩ := own_rg x
  have g0 := own_x8 (own_c0 x) _ h0 (own_bt ((x.toUInt32 >>> ((24 : Int32) &&& 31).toUInt32).toInt32))
  have g1 := own_x8 (own_c1 x) _ h1 (own_bt ((x.toUInt32 >>> ((25 : Int32) &&& 31).toUInt32).toInt32))
  have q0 := c_i2c ((own_c0 x) ^^^ (((x.toUInt32 >>> ((24 : Int32) &&& 31).toUInt32).toInt32) &&& (1 : Int32)))
  have q1 := c_i2c ((own_c1 x) ^^^ (((x.toUInt32 >>> ((25 : Int32) &&& 31).toUInt32).toInt32) &&& (1 : Int32)))
  unfold own_b0 own_b1
  omega
theorem own_in (x : Int32) (h : 0 ≤ x.toInt ∧ x.toInt < 256) : ¬ (x < (0 : Int32)) ∧ ¬ ((255 : Int32) < x) := by
  have z : (0 : Int32).toInt = 0 := rfl
  have z' : (255 : Int32).toInt = 255 := rfl
  simp only [Int32.lt_iff_toInt_lt, z, z']; omega
theorem own_in_c0 (x : Int32) : ¬ ((own_c0 x) < (0 : Int32)) ∧ ¬ ((255 : Int32) < (own_c0 x)) := own_in _ (own_rg x).1
theorem own_in_c1 (x : Int32) : ¬ ((own_c1 x) < (0 : Int32)) ∧ ¬ ((255 : Int32) < (own_c1 x)) := own_in _ (own_rg x).2
theorem own_in_b0 (x : Int32) : ¬ ((own_b0 x) < (0 : Int32)) ∧ ¬ ((255 : Int32) < (own_b0 x)) := own_in _ (own_rb x).1
theorem own_in_b1 (x : Int32) : ¬ ((own_b1 x) < (0 : Int32)) ∧ ¬ ((255 : Int32) < (own_b1 x)) := own_in _ (own_rb x).2
theorem own_three (z : Int32) (h : 0 ≤ z.toInt ∧ z.toInt < 3) : z = 0 ∨ z = 1 ∨ z = 2 := by
  have z0 : (0 : Int32).toInt = 0 := rfl
  have z1 : (1 : Int32).toInt = 1 := rfl
  have z2 : (2 : Int32).toInt = 2 := rfl
  simp only [← Int32.toInt_inj, z0, z1, z2]; omega
theorem own_la3 (x : Int32) : own_la x = 0 ∨ own_la x = 1 ∨ own_la x = 2 := by
  apply own_three
  have m : ∀ y : Int32, (y &&& (3 : Int32)).toInt = y.toInt % 2 ^ 2 := fun y => Jvm.Kit.i32_mask y 3 (k := 2) (by decide) (by decide)
  unfold own_la
  have z3 : (3 : Int32).toInt = 3 := rfl
  rw [Int32.toInt_mod, m, z3, Int.tmod_eq_emod_of_nonneg (by omega)]; omega
theorem own_lb3 (x : Int32) : own_lb x = 0 ∨ own_lb x = 1 ∨ own_lb x = 2 := by
  unfold own_lb; split
  · exact own_la3 x
  · rename_i h
    apply own_three
    have m : ∀ y : Int32, (y &&& (3 : Int32)).toInt = y.toInt % 2 ^ 2 := fun y => Jvm.Kit.i32_mask y 3 (k := 2) (by decide) (by decide)
    have e : (own_lc x).toInt = _ := m _
    have z3 : (3 : Int32).toInt = 3 := rfl
    rw [← Int32.toInt_inj, z3] at h
    omega
theorem own_core {la lb : Int32} (c0 c1 b0 b1 : Int32) (h : la = 0 ∨ la = 1 ∨ la = 2) (g : lb = 0 ∨ lb = 1 ∨ lb = 2) : (own_cs la c0 c1 = own_cs lb b0 b1) ↔ (la = lb ∧ (la < (1 : Int32) ∨ c0 = b0) ∧ (la < (2 : Int32) ∨ c1 = b1)) := by
  rcases h with rfl | rfl | rfl <;> rcases g with rfl | rfl | rfl <;> simp [own_cs] <;> decide
def own_G (a a' b b' c c' d d' : Int32) : Int32 := if a = a' then (if b = b' then (if c = c' then (if d = d' then (1 : Int32) else (0 : Int32)) else (0 : Int32)) else (0 : Int32)) else (0 : Int32)
theorem own_Gs (a a' b b' c c' d d' : Int32) : own_G a' a b' b c' c d' d = own_G a a' b b' c c' d d' := by
  unfold own_G; simp only [eq_comm (a := a'), eq_comm (a := b'), eq_comm (a := c'), eq_comm (a := d')]
theorem own_bool (P1 P2 P3 P4 P5 : Prop) [Decidable P1] [Decidable P2] [Decidable P3] [Decidable P4] [Decidable P5] (G : Int32) : (if P1 then (if P2 then (if P4 then G else (if P5 then G else (0 : Int32))) else (if P3 then (if P4 then G else (if P5 then G else (0 : Int32))) else (0 : Int32))) else (0 : Int32)) = if (P1 ∧ (P2 ∨ P3) ∧ (P4 ∨ P5)) then G else (0 : Int32) := by
  by_cases h1 : P1 <;> by_cases h2 : P2 <;> by_cases h3 : P3 <;> by_cases h4 : P4 <;> by_cases h5 : P5 <;> simp [h1, h2, h3, h4, h5]
theorem own_fe (a b c d a' b' c' d' : Int32) (cs ds : List Int32) : Feq a b c d a' b' c' d' cs ds = if cs = ds then own_G a a' b b' c c' d d' else (0 : Int32) := by
  unfold Feq own_eq own_G
  by_cases h : cs = ds <;> simp [h]
theorem own_m1 (p1 p2 p3 p4 p5 p6 : Int32) : (Feq p2 p3 p4 p5 (own_p2 p1 p2 p6) (own_r2 p1 p3 p6) (own_w2 p1 p4 p6) (own_t2 p1 p5 p6) (own_cs (own_la p1) (own_c0 p1) (own_c1 p1)) (own_cs (own_lb p1) (own_b0 p1) (own_b1 p1))) = (own_exp p1 p2 p3 p4 p5 p6) := by
  have e : own_exp p1 p2 p3 p4 p5 p6 = if (own_cs (own_la p1) (own_c0 p1) (own_c1 p1) = own_cs (own_lb p1) (own_b0 p1) (own_b1 p1)) then own_G p2 (own_p2 p1 p2 p6) p3 (own_r2 p1 p3 p6) p4 (own_w2 p1 p4 p6) p5 (own_t2 p1 p5 p6) else (0 : Int32) := by
    simp only [own_core (own_c0 p1) (own_c1 p1) (own_b0 p1) (own_b1 p1) (own_la3 p1) (own_lb3 p1)]
    exact own_bool _ _ _ _ _ (own_G p2 (own_p2 p1 p2 p6) p3 (own_r2 p1 p3 p6) p4 (own_w2 p1 p4 p6) p5 (own_t2 p1 p5 p6))
  rw [e, own_fe]
theorem own_m2 (p1 p2 p3 p4 p5 p6 : Int32) : (Feq (own_p2 p1 p2 p6) (own_r2 p1 p3 p6) (own_w2 p1 p4 p6) (own_t2 p1 p5 p6) p2 p3 p4 p5 (own_cs (own_lb p1) (own_b0 p1) (own_b1 p1)) (own_cs (own_la p1) (own_c0 p1) (own_c1 p1))) = (own_exp p1 p2 p3 p4 p5 p6) := by
  rw [← own_m1, own_fe, own_fe, own_Gs]
  simp only [eq_comm (a := own_cs (own_lb p1) (own_b0 p1) (own_b1 p1))]
def Q0 (Z : State) (p1 : Int32) (p2 : Int32) (p3 : Int32) (p4 : Int32) (p5 : Int32) (p6 : Int32) (st_COMPACT_STRINGS : Int32) (h0 : Heap) (n0 : Nat) (v : Option Value) (h : Heap) (L : List Loc) : Prop := v = some (.int (1 : Int32)) ∧ Fr n0 L
set_option maxRecDepth 65536 in
set_option maxHeartbeats 40000000 in
theorem rm0 (l : Launch) (Z : State) (a0 : Array Value) (hw : ∀ d ∈ tables_1, d.before a0 Z = true) (ws : List Jvm.Cond) (p1 : Int32) (p2 : Int32) (p3 : Int32) (p4 : Int32) (p5 : Int32) (p6 : Int32) (st_COMPACT_STRINGS : Int32) (h0 : Heap) (n0 : Nat) (Z0 : n0 ≤ h0.size) (S_COMPACT_STRINGS : Sta Z h0 "java/lang/String" "COMPACT_STRINGS" "Z" (.int st_COMPACT_STRINGS)) (hCH : Jvm.Lit.constHeld Z "java/lang/String" 7) (hCW : Jvm.Lit.compactW.before a0 Z = true) (hq168_3 : ¬ (st_COMPACT_STRINGS = (0 : Int32))) :
    MetFree l x (head1 (Jvm.Cond.code x code maxLocals ret :: ws) room_1) (fun a U => a = #[(.int p1), (.int p2), (.int p3), (.int p4), (.int p5), (.int p6)] ∧ Z.Warmed39 U.vm ∧ U.heap = h0 ∧ own_EO Z h0 U.vm) (fun _ _ _ _ _ => True) (fun _ U o U' => ∃ v L, o = .returned v ∧ Q0 Z p1 p2 p3 p4 p5 p6 st_COMPACT_STRINGS h0 n0 v U'.heap L ∧ ReturnedEndW U o U' L room_1.cells room_1.slots) := by
  refine MetFree.of_bodySF (plainFor_of_name pn_1) hisR ?_
  intro p e s m args below meth c s₁ Bd hml0 hP hK
  obtain ⟨rfl, hZ, hh, hE⟩ := hP
  have hx := Bd.exec
  have hby := Bd.bytes
  have hml : c.maxLocals = 23 := hml0
  have hown : s.vm.findClass "com/example/bowerbird/bowerbird/protocol/QueueDataEqualsPinLaw" = some m.cls := findClass_of_methodNamed Bd.named
  have hnm := (name_of_methodNamed Bd.named Bd.method).1
  have X0 : Stand p l e room_1 s m #[(.int p1), (.int p2), (.int p3), (.int p4), (.int p5), (.int p6)] below meth c s₁ [] 0 0 := Stand.of_body Bd
  have e0 : s₁.heap = h0 := by rw [← hh, Bd.state]; rfl
  have N0 := Fr.nil n0
  have pre0 : ∀ t, Steps p.tables e below (s₁.setTop (mkF m 0 #[.val (.int p1), .val (.int p2), .val (.int p3), .val (.int p4), .val (.int p5), .val (.int p6), .unset, .unset, .unset, .unset, .unset, .unset, .unset, .unset, .unset, .unset, .unset, .unset, .unset, .unset, .unset, .unset, .unset] [])) t → Steps p.tables e below (s₁.setTop (entryFrame m #[(.int p1), (.int p2), (.int p3), (.int p4), (.int p5), (.int p6)] maxLocals)) t := fun t k => castTop (ef_0 m p1 p2 p3 p4 p5 p6) k
  have pre7 : ∀ t, Steps p.tables e below (s₁.setTop (mkF m 37 #[.val (.int p1), .val (.int p2), .val (.int p3), .val (.int p4), .val (.int p5), .val (.int p6), .val (.int (own_c0 p1)), .val (.int (own_c1 p1)), .val (.int (own_la p1)), .val (.int (own_lc p1)), .unset, .unset, .unset, .unset, .unset, .unset, .unset, .unset, .unset, .unset, .unset, .unset, .unset] [])) t → Steps p.tables e below (s₁.setTop (entryFrame m #[(.int p1), (.int p2), (.int p3), (.int p4), (.int p5), (.int p6)] maxLocals)) t := fun t kt => pre0 t (by
    show Steps p.tables e below (s₁.setTop (mkF m 0 #[.val (.int p1), .val (.int p2), .val (.int p3), .val (.int p4), .val (.int p5), .val (.int p6), .unset, .unset, .unset, .unset, .unset, .unset, .unset, .unset, .unset, .unset, .unset, .unset, .unset, .unset, .unset, .unset, .unset] [])) _
    refine XS.iloadN X0.here hx rfl (hb hby at_0) rfl ?_
    show Steps p.tables e below (s₁.setTop (mkF m 1 #[.val (.int p1), .val (.int p2), .val (.int p3), .val (.int p4), .val (.int p5), .val (.int p6), .unset, .unset, .unset, .unset, .unset, .unset, .unset, .unset, .unset, .unset, .unset, .unset, .unset, .unset, .unset, .unset, .unset] [(.int p1)])) _
    refine XS.sipush X0.here hx rfl (hb hby at_1) ?_
    show Steps p.tables e below (s₁.setTop (mkF m 4 #[.val (.int p1), .val (.int p2), .val (.int p3), .val (.int p4), .val (.int p5), .val (.int p6), .unset, .unset, .unset, .unset, .unset, .unset, .unset, .unset, .unset, .unset, .unset, .unset, .unset, .unset, .unset, .unset, .unset] [(.int (255 : Int32)), (.int p1)])) _
    refine XS.iand X0.here hx rfl (hb hby at_4) rfl ?_
    show Steps p.tables e below (s₁.setTop (mkF m 5 #[.val (.int p1), .val (.int p2), .val (.int p3), .val (.int p4), .val (.int p5), .val (.int p6), .unset, .unset, .unset, .unset, .unset, .unset, .unset, .unset, .unset, .unset, .unset, .unset, .unset, .unset, .unset, .unset, .unset] [(.int (p1 &&& (255 : Int32)))])) _
    refine XS.i2c X0.here hx rfl (hb hby at_5) rfl ?_
    show Steps p.tables e below (s₁.setTop (mkF m 6 #[.val (.int p1), .val (.int p2), .val (.int p3), .val (.int p4), .val (.int p5), .val (.int p6), .unset, .unset, .unset, .unset, .unset, .unset, .unset, .unset, .unset, .unset, .unset, .unset, .unset, .unset, .unset, .unset, .unset] [(.int ((p1 &&& (255 : Int32)).toUInt32.toUInt16.toUInt32.toInt32))])) _
    refine XS.istore X0.here hx rfl (hb hby at_6) rfl (l' := #[.val (.int p1), .val (.int p2), .val (.int p3), .val (.int p4), .val (.int p5), .val (.int p6), .val (.int (own_c0 p1)), .unset, .unset, .unset, .unset, .unset, .unset, .unset, .unset, .unset, .unset, .unset, .unset, .unset, .unset, .unset, .unset]) rfl ?_
    show Steps p.tables e below (s₁.setTop (mkF m 8 #[.val (.int p1), .val (.int p2), .val (.int p3), .val (.int p4), .val (.int p5), .val (.int p6), .val (.int (own_c0 p1)), .unset, .unset, .unset, .unset, .unset, .unset, .unset, .unset, .unset, .unset, .unset, .unset, .unset, .unset, .unset, .unset] [])) _
    refine XS.iloadN X0.here hx rfl (hb hby at_8) rfl ?_
    show Steps p.tables e below (s₁.setTop (mkF m 9 #[.val (.int p1), .val (.int p2), .val (.int p3), .val (.int p4), .val (.int p5), .val (.int p6), .val (.int (own_c0 p1)), .unset, .unset, .unset, .unset, .unset, .unset, .unset, .unset, .unset, .unset, .unset, .unset, .unset, .unset, .unset, .unset] [(.int p1)])) _
    refine XS.bipush X0.here hx rfl (hb hby at_9) ?_
    show Steps p.tables e below (s₁.setTop (mkF m 11 #[.val (.int p1), .val (.int p2), .val (.int p3), .val (.int p4), .val (.int p5), .val (.int p6), .val (.int (own_c0 p1)), .unset, .unset, .unset, .unset, .unset, .unset, .unset, .unset, .unset, .unset, .unset, .unset, .unset, .unset, .unset, .unset] [(.int (8 : Int32)), (.int p1)])) _
    refine XS.iushr X0.here hx rfl (hb hby at_11) rfl ?_
    show Steps p.tables e below (s₁.setTop (mkF m 12 #[.val (.int p1), .val (.int p2), .val (.int p3), .val (.int p4), .val (.int p5), .val (.int p6), .val (.int (own_c0 p1)), .unset, .unset, .unset, .unset, .unset, .unset, .unset, .unset, .unset, .unset, .unset, .unset, .unset, .unset, .unset, .unset] [(.int ((p1.toUInt32 >>> ((8 : Int32) &&& 31).toUInt32).toInt32))])) _
    refine XS.sipush X0.here hx rfl (hb hby at_12) ?_
    show Steps p.tables e below (s₁.setTop (mkF m 15 #[.val (.int p1), .val (.int p2), .val (.int p3), .val (.int p4), .val (.int p5), .val (.int p6), .val (.int (own_c0 p1)), .unset, .unset, .unset, .unset, .unset, .unset, .unset, .unset, .unset, .unset, .unset, .unset, .unset, .unset, .unset, .unset] [(.int (255 : Int32)), (.int ((p1.toUInt32 >>> ((8 : Int32) &&& 31).toUInt32).toInt32))])) _
    refine XS.iand X0.here hx rfl (hb hby at_15) rfl ?_
    show Steps p.tables e below (s₁.setTop (mkF m 16 #[.val (.int p1), .val (.int p2), .val (.int p3), .val (.int p4), .val (.int p5), .val (.int p6), .val (.int (own_c0 p1)), .unset, .unset, .unset, .unset, .unset, .unset, .unset, .unset, .unset, .unset, .unset, .unset, .unset, .unset, .unset, .unset] [(.int (((p1.toUInt32 >>> ((8 : Int32) &&& 31).toUInt32).toInt32) &&& (255 : Int32)))])) _
    refine XS.i2c X0.here hx rfl (hb hby at_16) rfl ?_
    show Steps p.tables e below (s₁.setTop (mkF m 17 #[.val (.int p1), .val (.int p2), .val (.int p3), .val (.int p4), .val (.int p5), .val (.int p6), .val (.int (own_c0 p1)), .unset, .unset, .unset, .unset, .unset, .unset, .unset, .unset, .unset, .unset, .unset, .unset, .unset, .unset, .unset, .unset] [(.int ((((p1.toUInt32 >>> ((8 : Int32) &&& 31).toUInt32).toInt32) &&& (255 : Int32)).toUInt32.toUInt16.toUInt32.toInt32))])) _
    refine XS.istore X0.here hx rfl (hb hby at_17) rfl (l' := #[.val (.int p1), .val (.int p2), .val (.int p3), .val (.int p4), .val (.int p5), .val (.int p6), .val (.int (own_c0 p1)), .val (.int (own_c1 p1)), .unset, .unset, .unset, .unset, .unset, .unset, .unset, .unset, .unset, .unset, .unset, .unset, .unset, .unset, .unset]) rfl ?_
    show Steps p.tables e below (s₁.setTop (mkF m 19 #[.val (.int p1), .val (.int p2), .val (.int p3), .val (.int p4), .val (.int p5), .val (.int p6), .val (.int (own_c0 p1)), .val (.int (own_c1 p1)), .unset, .unset, .unset, .unset, .unset, .unset, .unset, .unset, .unset, .unset, .unset, .unset, .unset, .unset, .unset] [])) _
    refine XS.iloadN X0.here hx rfl (hb hby at_19) rfl ?_
    show Steps p.tables e below (s₁.setTop (mkF m 20 #[.val (.int p1), .val (.int p2), .val (.int p3), .val (.int p4), .val (.int p5), .val (.int p6), .val (.int (own_c0 p1)), .val (.int (own_c1 p1)), .unset, .unset, .unset, .unset, .unset, .unset, .unset, .unset, .unset, .unset, .unset, .unset, .unset, .unset, .unset] [(.int p1)])) _
    refine XS.bipush X0.here hx rfl (hb hby at_20) ?_
    show Steps p.tables e below (s₁.setTop (mkF m 22 #[.val (.int p1), .val (.int p2), .val (.int p3), .val (.int p4), .val (.int p5), .val (.int p6), .val (.int (own_c0 p1)), .val (.int (own_c1 p1)), .unset, .unset, .unset, .unset, .unset, .unset, .unset, .unset, .unset, .unset, .unset, .unset, .unset, .unset, .unset] [(.int (20 : Int32)), (.int p1)])) _
    refine XS.iushr X0.here hx rfl (hb hby at_22) rfl ?_
    show Steps p.tables e below (s₁.setTop (mkF m 23 #[.val (.int p1), .val (.int p2), .val (.int p3), .val (.int p4), .val (.int p5), .val (.int p6), .val (.int (own_c0 p1)), .val (.int (own_c1 p1)), .unset, .unset, .unset, .unset, .unset, .unset, .unset, .unset, .unset, .unset, .unset, .unset, .unset, .unset, .unset] [(.int ((p1.toUInt32 >>> ((20 : Int32) &&& 31).toUInt32).toInt32))])) _
    refine XS.iconst X0.here hx rfl (hb hby at_23) ?_
    show Steps p.tables e below (s₁.setTop (mkF m 24 #[.val (.int p1), .val (.int p2), .val (.int p3), .val (.int p4), .val (.int p5), .val (.int p6), .val (.int (own_c0 p1)), .val (.int (own_c1 p1)), .unset, .unset, .unset, .unset, .unset, .unset, .unset, .unset, .unset, .unset, .unset, .unset, .unset, .unset, .unset] [(.int (3 : Int32)), (.int ((p1.toUInt32 >>> ((20 : Int32) &&& 31).toUInt32).toInt32))])) _
    refine XS.iand X0.here hx rfl (hb hby at_24) rfl ?_
    show Steps p.tables e below (s₁.setTop (mkF m 25 #[.val (.int p1), .val (.int p2), .val (.int p3), .val (.int p4), .val (.int p5), .val (.int p6), .val (.int (own_c0 p1)), .val (.int (own_c1 p1)), .unset, .unset, .unset, .unset, .unset, .unset, .unset, .unset, .unset, .unset, .unset, .unset, .unset, .unset, .unset] [(.int (((p1.toUInt32 >>> ((20 : Int32) &&& 31).toUInt32).toInt32) &&& (3 : Int32)))])) _
    refine XS.iconst X0.here hx rfl (hb hby at_25) ?_
    show Steps p.tables e below (s₁.setTop (mkF m 26 #[.val (.int p1), .val (.int p2), .val (.int p3), .val (.int p4), .val (.int p5), .val (.int p6), .val (.int (own_c0 p1)), .val (.int (own_c1 p1)), .unset, .unset, .unset, .unset, .unset, .unset, .unset, .unset, .unset, .unset, .unset, .unset, .unset, .unset, .unset] [(.int (3 : Int32)), (.int (((p1.toUInt32 >>> ((20 : Int32) &&& 31).toUInt32).toInt32) &&& (3 : Int32)))])) _
    refine iremM X0 hx rfl (hb hby at_26) rfl (by decide) ?_
    show Steps p.tables e below (s₁.setTop (mkF m 27 #[.val (.int p1), .val (.int p2), .val (.int p3), .val (.int p4), .val (.int p5), .val (.int p6), .val (.int (own_c0 p1)), .val (.int (own_c1 p1)), .unset, .unset, .unset, .unset, .unset, .unset, .unset, .unset, .unset, .unset, .unset, .unset, .unset, .unset, .unset] [(.int ((((p1.toUInt32 >>> ((20 : Int32) &&& 31).toUInt32).toInt32) &&& (3 : Int32)) % (3 : Int32)))])) _
    refine XS.istore X0.here hx rfl (hb hby at_27) rfl (l' := #[.val (.int p1), .val (.int p2), .val (.int p3), .val (.int p4), .val (.int p5), .val (.int p6), .val (.int (own_c0 p1)), .val (.int (own_c1 p1)), .val (.int (own_la p1)), .unset, .unset, .unset, .unset, .unset, .unset, .unset, .unset, .unset, .unset, .unset, .unset, .unset, .unset]) rfl ?_
    show Steps p.tables e below (s₁.setTop (mkF m 29 #[.val (.int p1), .val (.int p2), .val (.int p3), .val (.int p4), .val (.int p5), .val (.int p6), .val (.int (own_c0 p1)), .val (.int (own_c1 p1)), .val (.int (own_la p1)), .unset, .unset, .unset, .unset, .unset, .unset, .unset, .unset, .unset, .unset, .unset, .unset, .unset, .unset] [])) _
    refine XS.iloadN X0.here hx rfl (hb hby at_29) rfl ?_
    show Steps p.tables e below (s₁.setTop (mkF m 30 #[.val (.int p1), .val (.int p2), .val (.int p3), .val (.int p4), .val (.int p5), .val (.int p6), .val (.int (own_c0 p1)), .val (.int (own_c1 p1)), .val (.int (own_la p1)), .unset, .unset, .unset, .unset, .unset, .unset, .unset, .unset, .unset, .unset, .unset, .unset, .unset, .unset] [(.int p1)])) _
    refine XS.bipush X0.here hx rfl (hb hby at_30) ?_
    show Steps p.tables e below (s₁.setTop (mkF m 32 #[.val (.int p1), .val (.int p2), .val (.int p3), .val (.int p4), .val (.int p5), .val (.int p6), .val (.int (own_c0 p1)), .val (.int (own_c1 p1)), .val (.int (own_la p1)), .unset, .unset, .unset, .unset, .unset, .unset, .unset, .unset, .unset, .unset, .unset, .unset, .unset, .unset] [(.int (22 : Int32)), (.int p1)])) _
    refine XS.iushr X0.here hx rfl (hb hby at_32) rfl ?_
    show Steps p.tables e below (s₁.setTop (mkF m 33 #[.val (.int p1), .val (.int p2), .val (.int p3), .val (.int p4), .val (.int p5), .val (.int p6), .val (.int (own_c0 p1)), .val (.int (own_c1 p1)), .val (.int (own_la p1)), .unset, .unset, .unset, .unset, .unset, .unset, .unset, .unset, .unset, .unset, .unset, .unset, .unset, .unset] [(.int ((p1.toUInt32 >>> ((22 : Int32) &&& 31).toUInt32).toInt32))])) _
    refine XS.iconst X0.here hx rfl (hb hby at_33) ?_
    show Steps p.tables e below (s₁.setTop (mkF m 34 #[.val (.int p1), .val (.int p2), .val (.int p3), .val (.int p4), .val (.int p5), .val (.int p6), .val (.int (own_c0 p1)), .val (.int (own_c1 p1)), .val (.int (own_la p1)), .unset, .unset, .unset, .unset, .unset, .unset, .unset, .unset, .unset, .unset, .unset, .unset, .unset, .unset] [(.int (3 : Int32)), (.int ((p1.toUInt32 >>> ((22 : Int32) &&& 31).toUInt32).toInt32))])) _
    refine XS.iand X0.here hx rfl (hb hby at_34) rfl ?_
    show Steps p.tables e below (s₁.setTop (mkF m 35 #[.val (.int p1), .val (.int p2), .val (.int p3), .val (.int p4), .val (.int p5), .val (.int p6), .val (.int (own_c0 p1)), .val (.int (own_c1 p1)), .val (.int (own_la p1)), .unset, .unset, .unset, .unset, .unset, .unset, .unset, .unset, .unset, .unset, .unset, .unset, .unset, .unset] [(.int (((p1.toUInt32 >>> ((22 : Int32) &&& 31).toUInt32).toInt32) &&& (3 : Int32)))])) _
    refine XS.istore X0.here hx rfl (hb hby at_35) rfl (l' := #[.val (.int p1), .val (.int p2), .val (.int p3), .val (.int p4), .val (.int p5), .val (.int p6), .val (.int (own_c0 p1)), .val (.int (own_c1 p1)), .val (.int (own_la p1)), .val (.int (own_lc p1)), .unset, .unset, .unset, .unset, .unset, .unset, .unset, .unset, .unset, .unset, .unset, .unset, .unset]) rfl ?_
    show Steps p.tables e below (s₁.setTop (mkF m 37 #[.val (.int p1), .val (.int p2), .val (.int p3), .val (.int p4), .val (.int p5), .val (.int p6), .val (.int (own_c0 p1)), .val (.int (own_c1 p1)), .val (.int (own_la p1)), .val (.int (own_lc p1)), .unset, .unset, .unset, .unset, .unset, .unset, .unset, .unset, .unset, .unset, .unset, .unset, .unset] [])) _
    exact kt)
  have jn8 : ∀ t, Steps p.tables e below (s₁.setTop (mkF m 50 #[.val (.int p1), .val (.int p2), .val (.int p3), .val (.int p4), .val (.int p5), .val (.int p6), .val (.int (own_c0 p1)), .val (.int (own_c1 p1)), .val (.int (own_la p1)), .val (.int (own_lc p1)), .unset, .unset, .unset, .unset, .unset, .unset, .unset, .unset, .unset, .unset, .unset, .unset, .unset] [(.int (own_lb p1))])) t → Steps p.tables e below (s₁.setTop (mkF m 37 #[.val (.int p1), .val (.int p2), .val (.int p3), .val (.int p4), .val (.int p5), .val (.int p6), .val (.int (own_c0 p1)), .val (.int (own_c1 p1)), .val (.int (own_la p1)), .val (.int (own_lc p1)), .unset, .unset, .unset, .unset, .unset, .unset, .unset, .unset, .unset, .unset, .unset, .unset, .unset] [])) t := by
    intro t0 kt0
    have preR8 : ∀ t, Steps p.tables e below (s₁.setTop (mkF m 37 #[.val (.int p1), .val (.int p2), .val (.int p3), .val (.int p4), .val (.int p5), .val (.int p6), .val (.int (own_c0 p1)), .val (.int (own_c1 p1)), .val (.int (own_la p1)), .val (.int (own_lc p1)), .unset, .unset, .unset, .unset, .unset, .unset, .unset, .unset, .unset, .unset, .unset, .unset, .unset] [])) t → Steps p.tables e below (s₁.setTop (mkF m 37 #[.val (.int p1), .val (.int p2), .val (.int p3), .val (.int p4), .val (.int p5), .val (.int p6), .val (.int (own_c0 p1)), .val (.int (own_c1 p1)), .val (.int (own_la p1)), .val (.int (own_lc p1)), .unset, .unset, .unset, .unset, .unset, .unset, .unset, .unset, .unset, .unset, .unset, .unset, .unset] [])) t := fun t kt => kt
    have pre10 : ∀ t, Steps p.tables e below (s₁.setTop (mkF m 40 #[.val (.int p1), .val (.int p2), .val (.int p3), .val (.int p4), .val (.int p5), .val (.int p6), .val (.int (own_c0 p1)), .val (.int (own_c1 p1)), .val (.int (own_la p1)), .val (.int (own_lc p1)), .unset, .unset, .unset, .unset, .unset, .unset, .unset, .unset, .unset, .unset, .unset, .unset, .unset] [(.int (3 : Int32)), (.int (own_lc p1))])) t → Steps p.tables e below (s₁.setTop (mkF m 37 #[.val (.int p1), .val (.int p2), .val (.int p3), .val (.int p4), .val (.int p5), .val (.int p6), .val (.int (own_c0 p1)), .val (.int (own_c1 p1)), .val (.int (own_la p1)), .val (.int (own_lc p1)), .unset, .unset, .unset, .unset, .unset, .unset, .unset, .unset, .unset, .unset, .unset, .unset, .unset] [])) t := fun t kt => preR8 t (by
      show Steps p.tables e below (s₁.setTop (mkF m 37 #[.val (.int p1), .val (.int p2), .val (.int p3), .val (.int p4), .val (.int p5), .val (.int p6), .val (.int (own_c0 p1)), .val (.int (own_c1 p1)), .val (.int (own_la p1)), .val (.int (own_lc p1)), .unset, .unset, .unset, .unset, .unset, .unset, .unset, .unset, .unset, .unset, .unset, .unset, .unset] [])) _
      refine XS.iload X0.here hx rfl (hb hby at_37) rfl ?_
      show Steps p.tables e below (s₁.setTop (mkF m 39 #[.val (.int p1), .val (.int p2), .val (.int p3), .val (.int p4), .val (.int p5), .val (.int p6), .val (.int (own_c0 p1)), .val (.int (own_c1 p1)), .val (.int (own_la p1)), .val (.int (own_lc p1)), .unset, .unset, .unset, .unset, .unset, .unset, .unset, .unset, .unset, .unset, .unset, .unset, .unset] [(.int (own_lc p1))])) _
      refine XS.iconst X0.here hx rfl (hb hby at_39) ?_
      show Steps p.tables e below (s₁.setTop (mkF m 40 #[.val (.int p1), .val (.int p2), .val (.int p3), .val (.int p4), .val (.int p5), .val (.int p6), .val (.int (own_c0 p1)), .val (.int (own_c1 p1)), .val (.int (own_la p1)), .val (.int (own_lc p1)), .unset, .unset, .unset, .unset, .unset, .unset, .unset, .unset, .unset, .unset, .unset, .unset, .unset] [(.int (3 : Int32)), (.int (own_lc p1))])) _
      exact kt)
    by_cases hc40_9 : (own_lc p1) = (3 : Int32)
    · have pre11 : ∀ t, Steps p.tables e below (s₁.setTop (mkF m 50 #[.val (.int p1), .val (.int p2), .val (.int p3), .val (.int p4), .val (.int p5), .val (.int p6), .val (.int (own_c0 p1)), .val (.int (own_c1 p1)), .val (.int (own_la p1)), .val (.int (own_lc p1)), .unset, .unset, .unset, .unset, .unset, .unset, .unset, .unset, .unset, .unset, .unset, .unset, .unset] [(.int (own_la p1))])) t → Steps p.tables e below (s₁.setTop (mkF m 37 #[.val (.int p1), .val (.int p2), .val (.int p3), .val (.int p4), .val (.int p5), .val (.int p6), .val (.int (own_c0 p1)), .val (.int (own_c1 p1)), .val (.int (own_la p1)), .val (.int (own_lc p1)), .unset, .unset, .unset, .unset, .unset, .unset, .unset, .unset, .unset, .unset, .unset, .unset, .unset] [])) t := fun t kt => pre10 t (by
        show Steps p.tables e below (s₁.setTop (mkF m 40 #[.val (.int p1), .val (.int p2), .val (.int p3), .val (.int p4), .val (.int p5), .val (.int p6), .val (.int (own_c0 p1)), .val (.int (own_c1 p1)), .val (.int (own_la p1)), .val (.int (own_lc p1)), .unset, .unset, .unset, .unset, .unset, .unset, .unset, .unset, .unset, .unset, .unset, .unset, .unset] [(.int (3 : Int32)), (.int (own_lc p1))])) _
        refine XS.icmpNo X0.here hx rfl (hb hby at_40) rfl (teq hc40_9).2 ?_
        show Steps p.tables e below (s₁.setTop (mkF m 43 #[.val (.int p1), .val (.int p2), .val (.int p3), .val (.int p4), .val (.int p5), .val (.int p6), .val (.int (own_c0 p1)), .val (.int (own_c1 p1)), .val (.int (own_la p1)), .val (.int (own_lc p1)), .unset, .unset, .unset, .unset, .unset, .unset, .unset, .unset, .unset, .unset, .unset, .unset, .unset] [])) _
        refine XS.iload X0.here hx rfl (hb hby at_43) rfl ?_
        show Steps p.tables e below (s₁.setTop (mkF m 45 #[.val (.int p1), .val (.int p2), .val (.int p3), .val (.int p4), .val (.int p5), .val (.int p6), .val (.int (own_c0 p1)), .val (.int (own_c1 p1)), .val (.int (own_la p1)), .val (.int (own_lc p1)), .unset, .unset, .unset, .unset, .unset, .unset, .unset, .unset, .unset, .unset, .unset, .unset, .unset] [(.int (own_la p1))])) _
        refine XS.goto X0.here hx rfl (pc0 := 45) (pc' := 50) rfl (hb hby at_45) (by decide) (by decide) ?_
        show Steps p.tables e below (s₁.setTop (mkF m 50 #[.val (.int p1), .val (.int p2), .val (.int p3), .val (.int p4), .val (.int p5), .val (.int p6), .val (.int (own_c0 p1)), .val (.int (own_c1 p1)), .val (.int (own_la p1)), .val (.int (own_lc p1)), .unset, .unset, .unset, .unset, .unset, .unset, .unset, .unset, .unset, .unset, .unset, .unset, .unset] [(.int (own_la p1))])) _
        exact kt)
      have qe : own_lb p1 = (own_la p1) := by unfold own_lb; rw [if_pos hc40_9]
      rw [qe] at kt0
      exact pre11 _ kt0
    · have pre12 : ∀ t, Steps p.tables e below (s₁.setTop (mkF m 50 #[.val (.int p1), .val (.int p2), .val (.int p3), .val (.int p4), .val (.int p5), .val (.int p6), .val (.int (own_c0 p1)), .val (.int (own_c1 p1)), .val (.int (own_la p1)), .val (.int (own_lc p1)), .unset, .unset, .unset, .unset, .unset, .unset, .unset, .unset, .unset, .unset, .unset, .unset, .unset] [(.int (own_lc p1))])) t → Steps p.tables e below (s₁.setTop (mkF m 37 #[.val (.int p1), .val (.int p2), .val (.int p3), .val (.int p4), .val (.int p5), .val (.int p6), .val (.int (own_c0 p1)), .val (.int (own_c1 p1)), .val (.int (own_la p1)), .val (.int (own_lc p1)), .unset, .unset, .unset, .unset, .unset, .unset, .unset, .unset, .unset, .unset, .unset, .unset, .unset] [])) t := fun t kt => pre10 t (by
        show Steps p.tables e below (s₁.setTop (mkF m 40 #[.val (.int p1), .val (.int p2), .val (.int p3), .val (.int p4), .val (.int p5), .val (.int p6), .val (.int (own_c0 p1)), .val (.int (own_c1 p1)), .val (.int (own_la p1)), .val (.int (own_lc p1)), .unset, .unset, .unset, .unset, .unset, .unset, .unset, .unset, .unset, .unset, .unset, .unset, .unset] [(.int (3 : Int32)), (.int (own_lc p1))])) _
        refine XS.icmpYes X0.here hx rfl (pc0 := 40) (pc' := 48) rfl (hb hby at_40) rfl (feq hc40_9).2 (by decide) (by decide) ?_
        show Steps p.tables e below (s₁.setTop (mkF m 48 #[.val (.int p1), .val (.int p2), .val (.int p3), .val (.int p4), .val (.int p5), .val (.int p6), .val (.int (own_c0 p1)), .val (.int (own_c1 p1)), .val (.int (own_la p1)), .val (.int (own_lc p1)), .unset, .unset, .unset, .unset, .unset, .unset, .unset, .unset, .unset, .unset, .unset, .unset, .unset] [])) _
        refine XS.iload X0.here hx rfl (hb hby at_48) rfl ?_
        show Steps p.tables e below (s₁.setTop (mkF m 50 #[.val (.int p1), .val (.int p2), .val (.int p3), .val (.int p4), .val (.int p5), .val (.int p6), .val (.int (own_c0 p1)), .val (.int (own_c1 p1)), .val (.int (own_la p1)), .val (.int (own_lc p1)), .unset, .unset, .unset, .unset, .unset, .unset, .unset, .unset, .unset, .unset, .unset, .unset, .unset] [(.int (own_lc p1))])) _
        exact kt)
      have qe : own_lb p1 = (own_lc p1) := by unfold own_lb; rw [if_neg hc40_9]
      rw [qe] at kt0
      exact pre12 _ kt0
  have pre13 : ∀ t, Steps p.tables e below (s₁.setTop (mkF m 50 #[.val (.int p1), .val (.int p2), .val (.int p3), .val (.int p4), .val (.int p5), .val (.int p6), .val (.int (own_c0 p1)), .val (.int (own_c1 p1)), .val (.int (own_la p1)), .val (.int (own_lc p1)), .unset, .unset, .unset, .unset, .unset, .unset, .unset, .unset, .unset, .unset, .unset, .unset, .unset] [(.int (own_lb p1))])) t → Steps p.tables e below (s₁.setTop (entryFrame m #[(.int p1), (.int p2), (.int p3), (.int p4), (.int p5), (.int p6)] maxLocals)) t := fun t kt => pre7 t (jn8 t kt)
  have pre14 : ∀ t, Steps p.tables e below (s₁.setTop (mkF m 84 #[.val (.int p1), .val (.int p2), .val (.int p3), .val (.int p4), .val (.int p5), .val (.int p6), .val (.int (own_c0 p1)), .val (.int (own_c1 p1)), .val (.int (own_la p1)), .val (.int (own_lc p1)), .val (.int (own_lb p1)), .val (.int (own_b0 p1)), .val (.int (own_b1 p1)), .val (.int (own_kd p1)), .unset, .unset, .unset, .unset, .unset, .unset, .unset, .unset, .unset] [])) t → Steps p.tables e below (s₁.setTop (entryFrame m #[(.int p1), (.int p2), (.int p3), (.int p4), (.int p5), (.int p6)] maxLocals)) t := fun t kt => pre13 t (by
    show Steps p.tables e below (s₁.setTop (mkF m 50 #[.val (.int p1), .val (.int p2), .val (.int p3), .val (.int p4), .val (.int p5), .val (.int p6), .val (.int (own_c0 p1)), .val (.int (own_c1 p1)), .val (.int (own_la p1)), .val (.int (own_lc p1)), .unset, .unset, .unset, .unset, .unset, .unset, .unset, .unset, .unset, .unset, .unset, .unset, .unset] [(.int (own_lb p1))])) _
    refine XS.istore X0.here hx rfl (hb hby at_50) rfl (l' := #[.val (.int p1), .val (.int p2), .val (.int p3), .val (.int p4), .val (.int p5), .val (.int p6), .val (.int (own_c0 p1)), .val (.int (own_c1 p1)), .val (.int (own_la p1)), .val (.int (own_lc p1)), .val (.int (own_lb p1)), .unset, .unset, .unset, .unset, .unset, .unset, .unset, .unset, .unset, .unset, .unset, .unset]) rfl ?_
    show Steps p.tables e below (s₁.setTop (mkF m 52 #[.val (.int p1), .val (.int p2), .val (.int p3), .val (.int p4), .val (.int p5), .val (.int p6), .val (.int (own_c0 p1)), .val (.int (own_c1 p1)), .val (.int (own_la p1)), .val (.int (own_lc p1)), .val (.int (own_lb p1)), .unset, .unset, .unset, .unset, .unset, .unset, .unset, .unset, .unset, .unset, .unset, .unset] [])) _
    refine XS.iload X0.here hx rfl (hb hby at_52) rfl ?_
    show Steps p.tables e below (s₁.setTop (mkF m 54 #[.val (.int p1), .val (.int p2), .val (.int p3), .val (.int p4), .val (.int p5), .val (.int p6), .val (.int (own_c0 p1)), .val (.int (own_c1 p1)), .val (.int (own_la p1)), .val (.int (own_lc p1)), .val (.int (own_lb p1)), .unset, .unset, .unset, .unset, .unset, .unset, .unset, .unset, .unset, .unset, .unset, .unset] [(.int (own_c0 p1))])) _
    refine XS.iloadN X0.here hx rfl (hb hby at_54) rfl ?_
    show Steps p.tables e below (s₁.setTop (mkF m 55 #[.val (.int p1), .val (.int p2), .val (.int p3), .val (.int p4), .val (.int p5), .val (.int p6), .val (.int (own_c0 p1)), .val (.int (own_c1 p1)), .val (.int (own_la p1)), .val (.int (own_lc p1)), .val (.int (own_lb p1)), .unset, .unset, .unset, .unset, .unset, .unset, .unset, .unset, .unset, .unset, .unset, .unset] [(.int p1), (.int (own_c0 p1))])) _
    refine XS.bipush X0.here hx rfl (hb hby at_55) ?_
    show Steps p.tables e below (s₁.setTop (mkF m 57 #[.val (.int p1), .val (.int p2), .val (.int p3), .val (.int p4), .val (.int p5), .val (.int p6), .val (.int (own_c0 p1)), .val (.int (own_c1 p1)), .val (.int (own_la p1)), .val (.int (own_lc p1)), .val (.int (own_lb p1)), .unset, .unset, .unset, .unset, .unset, .unset, .unset, .unset, .unset, .unset, .unset, .unset] [(.int (24 : Int32)), (.int p1), (.int (own_c0 p1))])) _
    refine XS.iushr X0.here hx rfl (hb hby at_57) rfl ?_
    show Steps p.tables e below (s₁.setTop (mkF m 58 #[.val (.int p1), .val (.int p2), .val (.int p3), .val (.int p4), .val (.int p5), .val (.int p6), .val (.int (own_c0 p1)), .val (.int (own_c1 p1)), .val (.int (own_la p1)), .val (.int (own_lc p1)), .val (.int (own_lb p1)), .unset, .unset, .unset, .unset, .unset, .unset, .unset, .unset, .unset, .unset, .unset, .unset] [(.int ((p1.toUInt32 >>> ((24 : Int32) &&& 31).toUInt32).toInt32)), (.int (own_c0 p1))])) _
    refine XS.iconst X0.here hx rfl (hb hby at_58) ?_
    show Steps p.tables e below (s₁.setTop (mkF m 59 #[.val (.int p1), .val (.int p2), .val (.int p3), .val (.int p4), .val (.int p5), .val (.int p6), .val (.int (own_c0 p1)), .val (.int (own_c1 p1)), .val (.int (own_la p1)), .val (.int (own_lc p1)), .val (.int (own_lb p1)), .unset, .unset, .unset, .unset, .unset, .unset, .unset, .unset, .unset, .unset, .unset, .unset] [(.int (1 : Int32)), (.int ((p1.toUInt32 >>> ((24 : Int32) &&& 31).toUInt32).toInt32)), (.int (own_c0 p1))])) _
    refine XS.iand X0.here hx rfl (hb hby at_59) rfl ?_
    show Steps p.tables e below (s₁.setTop (mkF m 60 #[.val (.int p1), .val (.int p2), .val (.int p3), .val (.int p4), .val (.int p5), .val (.int p6), .val (.int (own_c0 p1)), .val (.int (own_c1 p1)), .val (.int (own_la p1)), .val (.int (own_lc p1)), .val (.int (own_lb p1)), .unset, .unset, .unset, .unset, .unset, .unset, .unset, .unset, .unset, .unset, .unset, .unset] [(.int (((p1.toUInt32 >>> ((24 : Int32) &&& 31).toUInt32).toInt32) &&& (1 : Int32))), (.int (own_c0 p1))])) _
    refine XS.ixor X0.here hx rfl (hb hby at_60) rfl ?_
    show Steps p.tables e below (s₁.setTop (mkF m 61 #[.val (.int p1), .val (.int p2), .val (.int p3), .val (.int p4), .val (.int p5), .val (.int p6), .val (.int (own_c0 p1)), .val (.int (own_c1 p1)), .val (.int (own_la p1)), .val (.int (own_lc p1)), .val (.int (own_lb p1)), .unset, .unset, .unset, .unset, .unset, .unset, .unset, .unset, .unset, .unset, .unset, .unset] [(.int ((own_c0 p1) ^^^ (((p1.toUInt32 >>> ((24 : Int32) &&& 31).toUInt32).toInt32) &&& (1 : Int32))))])) _
    refine XS.i2c X0.here hx rfl (hb hby at_61) rfl ?_
    show Steps p.tables e below (s₁.setTop (mkF m 62 #[.val (.int p1), .val (.int p2), .val (.int p3), .val (.int p4), .val (.int p5), .val (.int p6), .val (.int (own_c0 p1)), .val (.int (own_c1 p1)), .val (.int (own_la p1)), .val (.int (own_lc p1)), .val (.int (own_lb p1)), .unset, .unset, .unset, .unset, .unset, .unset, .unset, .unset, .unset, .unset, .unset, .unset] [(.int (((own_c0 p1) ^^^ (((p1.toUInt32 >>> ((24 : Int32) &&& 31).toUInt32).toInt32) &&& (1 : Int32))).toUInt32.toUInt16.toUInt32.toInt32))])) _
    refine XS.istore X0.here hx rfl (hb hby at_62) rfl (l' := #[.val (.int p1), .val (.int p2), .val (.int p3), .val (.int p4), .val (.int p5), .val (.int p6), .val (.int (own_c0 p1)), .val (.int (own_c1 p1)), .val (.int (own_la p1)), .val (.int (own_lc p1)), .val (.int (own_lb p1)), .val (.int (own_b0 p1)), .unset, .unset, .unset, .unset, .unset, .unset, .unset, .unset, .unset, .unset, .unset]) rfl ?_
    show Steps p.tables e below (s₁.setTop (mkF m 64 #[.val (.int p1), .val (.int p2), .val (.int p3), .val (.int p4), .val (.int p5), .val (.int p6), .val (.int (own_c0 p1)), .val (.int (own_c1 p1)), .val (.int (own_la p1)), .val (.int (own_lc p1)), .val (.int (own_lb p1)), .val (.int (own_b0 p1)), .unset, .unset, .unset, .unset, .unset, .unset, .unset, .unset, .unset, .unset, .unset] [])) _
    refine XS.iload X0.here hx rfl (hb hby at_64) rfl ?_
    show Steps p.tables e below (s₁.setTop (mkF m 66 #[.val (.int p1), .val (.int p2), .val (.int p3), .val (.int p4), .val (.int p5), .val (.int p6), .val (.int (own_c0 p1)), .val (.int (own_c1 p1)), .val (.int (own_la p1)), .val (.int (own_lc p1)), .val (.int (own_lb p1)), .val (.int (own_b0 p1)), .unset, .unset, .unset, .unset, .unset, .unset, .unset, .unset, .unset, .unset, .unset] [(.int (own_c1 p1))])) _
    refine XS.iloadN X0.here hx rfl (hb hby at_66) rfl ?_
    show Steps p.tables e below (s₁.setTop (mkF m 67 #[.val (.int p1), .val (.int p2), .val (.int p3), .val (.int p4), .val (.int p5), .val (.int p6), .val (.int (own_c0 p1)), .val (.int (own_c1 p1)), .val (.int (own_la p1)), .val (.int (own_lc p1)), .val (.int (own_lb p1)), .val (.int (own_b0 p1)), .unset, .unset, .unset, .unset, .unset, .unset, .unset, .unset, .unset, .unset, .unset] [(.int p1), (.int (own_c1 p1))])) _
    refine XS.bipush X0.here hx rfl (hb hby at_67) ?_
    show Steps p.tables e below (s₁.setTop (mkF m 69 #[.val (.int p1), .val (.int p2), .val (.int p3), .val (.int p4), .val (.int p5), .val (.int p6), .val (.int (own_c0 p1)), .val (.int (own_c1 p1)), .val (.int (own_la p1)), .val (.int (own_lc p1)), .val (.int (own_lb p1)), .val (.int (own_b0 p1)), .unset, .unset, .unset, .unset, .unset, .unset, .unset, .unset, .unset, .unset, .unset] [(.int (25 : Int32)), (.int p1), (.int (own_c1 p1))])) _
    refine XS.iushr X0.here hx rfl (hb hby at_69) rfl ?_
    show Steps p.tables e below (s₁.setTop (mkF m 70 #[.val (.int p1), .val (.int p2), .val (.int p3), .val (.int p4), .val (.int p5), .val (.int p6), .val (.int (own_c0 p1)), .val (.int (own_c1 p1)), .val (.int (own_la p1)), .val (.int (own_lc p1)), .val (.int (own_lb p1)), .val (.int (own_b0 p1)), .unset, .unset, .unset, .unset, .unset, .unset, .unset, .unset, .unset, .unset, .unset] [(.int ((p1.toUInt32 >>> ((25 : Int32) &&& 31).toUInt32).toInt32)), (.int (own_c1 p1))])) _
    refine XS.iconst X0.here hx rfl (hb hby at_70) ?_
    show Steps p.tables e below (s₁.setTop (mkF m 71 #[.val (.int p1), .val (.int p2), .val (.int p3), .val (.int p4), .val (.int p5), .val (.int p6), .val (.int (own_c0 p1)), .val (.int (own_c1 p1)), .val (.int (own_la p1)), .val (.int (own_lc p1)), .val (.int (own_lb p1)), .val (.int (own_b0 p1)), .unset, .unset, .unset, .unset, .unset, .unset, .unset, .unset, .unset, .unset, .unset] [(.int (1 : Int32)), (.int ((p1.toUInt32 >>> ((25 : Int32) &&& 31).toUInt32).toInt32)), (.int (own_c1 p1))])) _
    refine XS.iand X0.here hx rfl (hb hby at_71) rfl ?_
    show Steps p.tables e below (s₁.setTop (mkF m 72 #[.val (.int p1), .val (.int p2), .val (.int p3), .val (.int p4), .val (.int p5), .val (.int p6), .val (.int (own_c0 p1)), .val (.int (own_c1 p1)), .val (.int (own_la p1)), .val (.int (own_lc p1)), .val (.int (own_lb p1)), .val (.int (own_b0 p1)), .unset, .unset, .unset, .unset, .unset, .unset, .unset, .unset, .unset, .unset, .unset] [(.int (((p1.toUInt32 >>> ((25 : Int32) &&& 31).toUInt32).toInt32) &&& (1 : Int32))), (.int (own_c1 p1))])) _
    refine XS.ixor X0.here hx rfl (hb hby at_72) rfl ?_
    show Steps p.tables e below (s₁.setTop (mkF m 73 #[.val (.int p1), .val (.int p2), .val (.int p3), .val (.int p4), .val (.int p5), .val (.int p6), .val (.int (own_c0 p1)), .val (.int (own_c1 p1)), .val (.int (own_la p1)), .val (.int (own_lc p1)), .val (.int (own_lb p1)), .val (.int (own_b0 p1)), .unset, .unset, .unset, .unset, .unset, .unset, .unset, .unset, .unset, .unset, .unset] [(.int ((own_c1 p1) ^^^ (((p1.toUInt32 >>> ((25 : Int32) &&& 31).toUInt32).toInt32) &&& (1 : Int32))))])) _
    refine XS.i2c X0.here hx rfl (hb hby at_73) rfl ?_
    show Steps p.tables e below (s₁.setTop (mkF m 74 #[.val (.int p1), .val (.int p2), .val (.int p3), .val (.int p4), .val (.int p5), .val (.int p6), .val (.int (own_c0 p1)), .val (.int (own_c1 p1)), .val (.int (own_la p1)), .val (.int (own_lc p1)), .val (.int (own_lb p1)), .val (.int (own_b0 p1)), .unset, .unset, .unset, .unset, .unset, .unset, .unset, .unset, .unset, .unset, .unset] [(.int (((own_c1 p1) ^^^ (((p1.toUInt32 >>> ((25 : Int32) &&& 31).toUInt32).toInt32) &&& (1 : Int32))).toUInt32.toUInt16.toUInt32.toInt32))])) _
    refine XS.istore X0.here hx rfl (hb hby at_74) rfl (l' := #[.val (.int p1), .val (.int p2), .val (.int p3), .val (.int p4), .val (.int p5), .val (.int p6), .val (.int (own_c0 p1)), .val (.int (own_c1 p1)), .val (.int (own_la p1)), .val (.int (own_lc p1)), .val (.int (own_lb p1)), .val (.int (own_b0 p1)), .val (.int (own_b1 p1)), .unset, .unset, .unset, .unset, .unset, .unset, .unset, .unset, .unset, .unset]) rfl ?_
    show Steps p.tables e below (s₁.setTop (mkF m 76 #[.val (.int p1), .val (.int p2), .val (.int p3), .val (.int p4), .val (.int p5), .val (.int p6), .val (.int (own_c0 p1)), .val (.int (own_c1 p1)), .val (.int (own_la p1)), .val (.int (own_lc p1)), .val (.int (own_lb p1)), .val (.int (own_b0 p1)), .val (.int (own_b1 p1)), .unset, .unset, .unset, .unset, .unset, .unset, .unset, .unset, .unset, .unset] [])) _
    refine XS.iloadN X0.here hx rfl (hb hby at_76) rfl ?_
    show Steps p.tables e below (s₁.setTop (mkF m 77 #[.val (.int p1), .val (.int p2), .val (.int p3), .val (.int p4), .val (.int p5), .val (.int p6), .val (.int (own_c0 p1)), .val (.int (own_c1 p1)), .val (.int (own_la p1)), .val (.int (own_lc p1)), .val (.int (own_lb p1)), .val (.int (own_b0 p1)), .val (.int (own_b1 p1)), .unset, .unset, .unset, .unset, .unset, .unset, .unset, .unset, .unset, .unset] [(.int p1)])) _
    refine XS.bipush X0.here hx rfl (hb hby at_77) ?_
    show Steps p.tables e below (s₁.setTop (mkF m 79 #[.val (.int p1), .val (.int p2), .val (.int p3), .val (.int p4), .val (.int p5), .val (.int p6), .val (.int (own_c0 p1)), .val (.int (own_c1 p1)), .val (.int (own_la p1)), .val (.int (own_lc p1)), .val (.int (own_lb p1)), .val (.int (own_b0 p1)), .val (.int (own_b1 p1)), .unset, .unset, .unset, .unset, .unset, .unset, .unset, .unset, .unset, .unset] [(.int (26 : Int32)), (.int p1)])) _
    refine XS.iushr X0.here hx rfl (hb hby at_79) rfl ?_
    show Steps p.tables e below (s₁.setTop (mkF m 80 #[.val (.int p1), .val (.int p2), .val (.int p3), .val (.int p4), .val (.int p5), .val (.int p6), .val (.int (own_c0 p1)), .val (.int (own_c1 p1)), .val (.int (own_la p1)), .val (.int (own_lc p1)), .val (.int (own_lb p1)), .val (.int (own_b0 p1)), .val (.int (own_b1 p1)), .unset, .unset, .unset, .unset, .unset, .unset, .unset, .unset, .unset, .unset] [(.int ((p1.toUInt32 >>> ((26 : Int32) &&& 31).toUInt32).toInt32))])) _
    refine XS.iconst X0.here hx rfl (hb hby at_80) ?_
    show Steps p.tables e below (s₁.setTop (mkF m 81 #[.val (.int p1), .val (.int p2), .val (.int p3), .val (.int p4), .val (.int p5), .val (.int p6), .val (.int (own_c0 p1)), .val (.int (own_c1 p1)), .val (.int (own_la p1)), .val (.int (own_lc p1)), .val (.int (own_lb p1)), .val (.int (own_b0 p1)), .val (.int (own_b1 p1)), .unset, .unset, .unset, .unset, .unset, .unset, .unset, .unset, .unset, .unset] [(.int (3 : Int32)), (.int ((p1.toUInt32 >>> ((26 : Int32) &&& 31).toUInt32).toInt32))])) _
    refine XS.iand X0.here hx rfl (hb hby at_81) rfl ?_
    show Steps p.tables e below (s₁.setTop (mkF m 82 #[.val (.int p1), .val (.int p2), .val (.int p3), .val (.int p4), .val (.int p5), .val (.int p6), .val (.int (own_c0 p1)), .val (.int (own_c1 p1)), .val (.int (own_la p1)), .val (.int (own_lc p1)), .val (.int (own_lb p1)), .val (.int (own_b0 p1)), .val (.int (own_b1 p1)), .unset, .unset, .unset, .unset, .unset, .unset, .unset, .unset, .unset, .unset] [(.int (((p1.toUInt32 >>> ((26 : Int32) &&& 31).toUInt32).toInt32) &&& (3 : Int32)))])) _
    refine XS.istore X0.here hx rfl (hb hby at_82) rfl (l' := #[.val (.int p1), .val (.int p2), .val (.int p3), .val (.int p4), .val (.int p5), .val (.int p6), .val (.int (own_c0 p1)), .val (.int (own_c1 p1)), .val (.int (own_la p1)), .val (.int (own_lc p1)), .val (.int (own_lb p1)), .val (.int (own_b0 p1)), .val (.int (own_b1 p1)), .val (.int (own_kd p1)), .unset, .unset, .unset, .unset, .unset, .unset, .unset, .unset, .unset]) rfl ?_
    show Steps p.tables e below (s₁.setTop (mkF m 84 #[.val (.int p1), .val (.int p2), .val (.int p3), .val (.int p4), .val (.int p5), .val (.int p6), .val (.int (own_c0 p1)), .val (.int (own_c1 p1)), .val (.int (own_la p1)), .val (.int (own_lc p1)), .val (.int (own_lb p1)), .val (.int (own_b0 p1)), .val (.int (own_b1 p1)), .val (.int (own_kd p1)), .unset, .unset, .unset, .unset, .unset, .unset, .unset, .unset, .unset] [])) _
    exact kt)
  have jn15 : ∀ t, Steps p.tables e below (s₁.setTop (mkF m 101 #[.val (.int p1), .val (.int p2), .val (.int p3), .val (.int p4), .val (.int p5), .val (.int p6), .val (.int (own_c0 p1)), .val (.int (own_c1 p1)), .val (.int (own_la p1)), .val (.int (own_lc p1)), .val (.int (own_lb p1)), .val (.int (own_b0 p1)), .val (.int (own_b1 p1)), .val (.int (own_kd p1)), .unset, .unset, .unset, .unset, .unset, .unset, .unset, .unset, .unset] [(.int (own_p2 p1 p2 p6))])) t → Steps p.tables e below (s₁.setTop (mkF m 84 #[.val (.int p1), .val (.int p2), .val (.int p3), .val (.int p4), .val (.int p5), .val (.int p6), .val (.int (own_c0 p1)), .val (.int (own_c1 p1)), .val (.int (own_la p1)), .val (.int (own_lc p1)), .val (.int (own_lb p1)), .val (.int (own_b0 p1)), .val (.int (own_b1 p1)), .val (.int (own_kd p1)), .unset, .unset, .unset, .unset, .unset, .unset, .unset, .unset, .unset] [])) t := by
    intro t0 kt0
    have preR15 : ∀ t, Steps p.tables e below (s₁.setTop (mkF m 84 #[.val (.int p1), .val (.int p2), .val (.int p3), .val (.int p4), .val (.int p5), .val (.int p6), .val (.int (own_c0 p1)), .val (.int (own_c1 p1)), .val (.int (own_la p1)), .val (.int (own_lc p1)), .val (.int (own_lb p1)), .val (.int (own_b0 p1)), .val (.int (own_b1 p1)), .val (.int (own_kd p1)), .unset, .unset, .unset, .unset, .unset, .unset, .unset, .unset, .unset] [])) t → Steps p.tables e below (s₁.setTop (mkF m 84 #[.val (.int p1), .val (.int p2), .val (.int p3), .val (.int p4), .val (.int p5), .val (.int p6), .val (.int (own_c0 p1)), .val (.int (own_c1 p1)), .val (.int (own_la p1)), .val (.int (own_lc p1)), .val (.int (own_lb p1)), .val (.int (own_b0 p1)), .val (.int (own_b1 p1)), .val (.int (own_kd p1)), .unset, .unset, .unset, .unset, .unset, .unset, .unset, .unset, .unset] [])) t := fun t kt => kt
    have pre17 : ∀ t, Steps p.tables e below (s₁.setTop (mkF m 90 #[.val (.int p1), .val (.int p2), .val (.int p3), .val (.int p4), .val (.int p5), .val (.int p6), .val (.int (own_c0 p1)), .val (.int (own_c1 p1)), .val (.int (own_la p1)), .val (.int (own_lc p1)), .val (.int (own_lb p1)), .val (.int (own_b0 p1)), .val (.int (own_b1 p1)), .val (.int (own_kd p1)), .unset, .unset, .unset, .unset, .unset, .unset, .unset, .unset, .unset] [(.int (((p1.toUInt32 >>> ((16 : Int32) &&& 31).toUInt32).toInt32) &&& (1 : Int32)))])) t → Steps p.tables e below (s₁.setTop (mkF m 84 #[.val (.int p1), .val (.int p2), .val (.int p3), .val (.int p4), .val (.int p5), .val (.int p6), .val (.int (own_c0 p1)), .val (.int (own_c1 p1)), .val (.int (own_la p1)), .val (.int (own_lc p1)), .val (.int (own_lb p1)), .val (.int (own_b0 p1)), .val (.int (own_b1 p1)), .val (.int (own_kd p1)), .unset, .unset, .unset, .unset, .unset, .unset, .unset, .unset, .unset] [])) t := fun t kt => preR15 t (by
      show Steps p.tables e below (s₁.setTop (mkF m 84 #[.val (.int p1), .val (.int p2), .val (.int p3), .val (.int p4), .val (.int p5), .val (.int p6), .val (.int (own_c0 p1)), .val (.int (own_c1 p1)), .val (.int (own_la p1)), .val (.int (own_lc p1)), .val (.int (own_lb p1)), .val (.int (own_b0 p1)), .val (.int (own_b1 p1)), .val (.int (own_kd p1)), .unset, .unset, .unset, .unset, .unset, .unset, .unset, .unset, .unset] [])) _
      refine XS.iloadN X0.here hx rfl (hb hby at_84) rfl ?_
      show Steps p.tables e below (s₁.setTop (mkF m 85 #[.val (.int p1), .val (.int p2), .val (.int p3), .val (.int p4), .val (.int p5), .val (.int p6), .val (.int (own_c0 p1)), .val (.int (own_c1 p1)), .val (.int (own_la p1)), .val (.int (own_lc p1)), .val (.int (own_lb p1)), .val (.int (own_b0 p1)), .val (.int (own_b1 p1)), .val (.int (own_kd p1)), .unset, .unset, .unset, .unset, .unset, .unset, .unset, .unset, .unset] [(.int p1)])) _
      refine XS.bipush X0.here hx rfl (hb hby at_85) ?_
      show Steps p.tables e below (s₁.setTop (mkF m 87 #[.val (.int p1), .val (.int p2), .val (.int p3), .val (.int p4), .val (.int p5), .val (.int p6), .val (.int (own_c0 p1)), .val (.int (own_c1 p1)), .val (.int (own_la p1)), .val (.int (own_lc p1)), .val (.int (own_lb p1)), .val (.int (own_b0 p1)), .val (.int (own_b1 p1)), .val (.int (own_kd p1)), .unset, .unset, .unset, .unset, .unset, .unset, .unset, .unset, .unset] [(.int (16 : Int32)), (.int p1)])) _
      refine XS.iushr X0.here hx rfl (hb hby at_87) rfl ?_
      show Steps p.tables e below (s₁.setTop (mkF m 88 #[.val (.int p1), .val (.int p2), .val (.int p3), .val (.int p4), .val (.int p5), .val (.int p6), .val (.int (own_c0 p1)), .val (.int (own_c1 p1)), .val (.int (own_la p1)), .val (.int (own_lc p1)), .val (.int (own_lb p1)), .val (.int (own_b0 p1)), .val (.int (own_b1 p1)), .val (.int (own_kd p1)), .unset, .unset, .unset, .unset, .unset, .unset, .unset, .unset, .unset] [(.int ((p1.toUInt32 >>> ((16 : Int32) &&& 31).toUInt32).toInt32))])) _
      refine XS.iconst X0.here hx rfl (hb hby at_88) ?_
      show Steps p.tables e below (s₁.setTop (mkF m 89 #[.val (.int p1), .val (.int p2), .val (.int p3), .val (.int p4), .val (.int p5), .val (.int p6), .val (.int (own_c0 p1)), .val (.int (own_c1 p1)), .val (.int (own_la p1)), .val (.int (own_lc p1)), .val (.int (own_lb p1)), .val (.int (own_b0 p1)), .val (.int (own_b1 p1)), .val (.int (own_kd p1)), .unset, .unset, .unset, .unset, .unset, .unset, .unset, .unset, .unset] [(.int (1 : Int32)), (.int ((p1.toUInt32 >>> ((16 : Int32) &&& 31).toUInt32).toInt32))])) _
      refine XS.iand X0.here hx rfl (hb hby at_89) rfl ?_
      show Steps p.tables e below (s₁.setTop (mkF m 90 #[.val (.int p1), .val (.int p2), .val (.int p3), .val (.int p4), .val (.int p5), .val (.int p6), .val (.int (own_c0 p1)), .val (.int (own_c1 p1)), .val (.int (own_la p1)), .val (.int (own_lc p1)), .val (.int (own_lb p1)), .val (.int (own_b0 p1)), .val (.int (own_b1 p1)), .val (.int (own_kd p1)), .unset, .unset, .unset, .unset, .unset, .unset, .unset, .unset, .unset] [(.int (((p1.toUInt32 >>> ((16 : Int32) &&& 31).toUInt32).toInt32) &&& (1 : Int32)))])) _
      exact kt)
    by_cases hc90_16 : (((p1.toUInt32 >>> ((16 : Int32) &&& 31).toUInt32).toInt32) &&& (1 : Int32)) = (0 : Int32)
    · have pre18 : ∀ t, Steps p.tables e below (s₁.setTop (mkF m 101 #[.val (.int p1), .val (.int p2), .val (.int p3), .val (.int p4), .val (.int p5), .val (.int p6), .val (.int (own_c0 p1)), .val (.int (own_c1 p1)), .val (.int (own_la p1)), .val (.int (own_lc p1)), .val (.int (own_lb p1)), .val (.int (own_b0 p1)), .val (.int (own_b1 p1)), .val (.int (own_kd p1)), .unset, .unset, .unset, .unset, .unset, .unset, .unset, .unset, .unset] [(.int p2)])) t → Steps p.tables e below (s₁.setTop (mkF m 84 #[.val (.int p1), .val (.int p2), .val (.int p3), .val (.int p4), .val (.int p5), .val (.int p6), .val (.int (own_c0 p1)), .val (.int (own_c1 p1)), .val (.int (own_la p1)), .val (.int (own_lc p1)), .val (.int (own_lb p1)), .val (.int (own_b0 p1)), .val (.int (own_b1 p1)), .val (.int (own_kd p1)), .unset, .unset, .unset, .unset, .unset, .unset, .unset, .unset, .unset] [])) t := fun t kt => pre17 t (by
        show Steps p.tables e below (s₁.setTop (mkF m 90 #[.val (.int p1), .val (.int p2), .val (.int p3), .val (.int p4), .val (.int p5), .val (.int p6), .val (.int (own_c0 p1)), .val (.int (own_c1 p1)), .val (.int (own_la p1)), .val (.int (own_lc p1)), .val (.int (own_lb p1)), .val (.int (own_b0 p1)), .val (.int (own_b1 p1)), .val (.int (own_kd p1)), .unset, .unset, .unset, .unset, .unset, .unset, .unset, .unset, .unset] [(.int (((p1.toUInt32 >>> ((16 : Int32) &&& 31).toUInt32).toInt32) &&& (1 : Int32)))])) _
        refine XS.ifYes X0.here hx rfl (pc0 := 90) (pc' := 100) rfl (hb hby at_90) rfl ((if0 _ _).trans (teq hc90_16).1) (by decide) (by decide) ?_
        show Steps p.tables e below (s₁.setTop (mkF m 100 #[.val (.int p1), .val (.int p2), .val (.int p3), .val (.int p4), .val (.int p5), .val (.int p6), .val (.int (own_c0 p1)), .val (.int (own_c1 p1)), .val (.int (own_la p1)), .val (.int (own_lc p1)), .val (.int (own_lb p1)), .val (.int (own_b0 p1)), .val (.int (own_b1 p1)), .val (.int (own_kd p1)), .unset, .unset, .unset, .unset, .unset, .unset, .unset, .unset, .unset] [])) _
        refine XS.iloadN X0.here hx rfl (hb hby at_100) rfl ?_
        show Steps p.tables e below (s₁.setTop (mkF m 101 #[.val (.int p1), .val (.int p2), .val (.int p3), .val (.int p4), .val (.int p5), .val (.int p6), .val (.int (own_c0 p1)), .val (.int (own_c1 p1)), .val (.int (own_la p1)), .val (.int (own_lc p1)), .val (.int (own_lb p1)), .val (.int (own_b0 p1)), .val (.int (own_b1 p1)), .val (.int (own_kd p1)), .unset, .unset, .unset, .unset, .unset, .unset, .unset, .unset, .unset] [(.int p2)])) _
        exact kt)
      have qe : own_p2 p1 p2 p6 = p2 := by unfold own_p2; rw [if_pos hc90_16]
      rw [qe] at kt0
      exact pre18 _ kt0
    · have pre19 : ∀ t, Steps p.tables e below (s₁.setTop (mkF m 101 #[.val (.int p1), .val (.int p2), .val (.int p3), .val (.int p4), .val (.int p5), .val (.int p6), .val (.int (own_c0 p1)), .val (.int (own_c1 p1)), .val (.int (own_la p1)), .val (.int (own_lc p1)), .val (.int (own_lb p1)), .val (.int (own_b0 p1)), .val (.int (own_b1 p1)), .val (.int (own_kd p1)), .unset, .unset, .unset, .unset, .unset, .unset, .unset, .unset, .unset] [(.int (p2 + p6))])) t → Steps p.tables e below (s₁.setTop (mkF m 84 #[.val (.int p1), .val (.int p2), .val (.int p3), .val (.int p4), .val (.int p5), .val (.int p6), .val (.int (own_c0 p1)), .val (.int (own_c1 p1)), .val (.int (own_la p1)), .val (.int (own_lc p1)), .val (.int (own_lb p1)), .val (.int (own_b0 p1)), .val (.int (own_b1 p1)), .val (.int (own_kd p1)), .unset, .unset, .unset, .unset, .unset, .unset, .unset, .unset, .unset] [])) t := fun t kt => pre17 t (by
        show Steps p.tables e below (s₁.setTop (mkF m 90 #[.val (.int p1), .val (.int p2), .val (.int p3), .val (.int p4), .val (.int p5), .val (.int p6), .val (.int (own_c0 p1)), .val (.int (own_c1 p1)), .val (.int (own_la p1)), .val (.int (own_lc p1)), .val (.int (own_lb p1)), .val (.int (own_b0 p1)), .val (.int (own_b1 p1)), .val (.int (own_kd p1)), .unset, .unset, .unset, .unset, .unset, .unset, .unset, .unset, .unset] [(.int (((p1.toUInt32 >>> ((16 : Int32) &&& 31).toUInt32).toInt32) &&& (1 : Int32)))])) _
        refine XS.ifNo X0.here hx rfl (hb hby at_90) rfl ((if0 _ _).trans (feq hc90_16).1) ?_
        show Steps p.tables e below (s₁.setTop (mkF m 93 #[.val (.int p1), .val (.int p2), .val (.int p3), .val (.int p4), .val (.int p5), .val (.int p6), .val (.int (own_c0 p1)), .val (.int (own_c1 p1)), .val (.int (own_la p1)), .val (.int (own_lc p1)), .val (.int (own_lb p1)), .val (.int (own_b0 p1)), .val (.int (own_b1 p1)), .val (.int (own_kd p1)), .unset, .unset, .unset, .unset, .unset, .unset, .unset, .unset, .unset] [])) _
        refine XS.iloadN X0.here hx rfl (hb hby at_93) rfl ?_
        show Steps p.tables e below (s₁.setTop (mkF m 94 #[.val (.int p1), .val (.int p2), .val (.int p3), .val (.int p4), .val (.int p5), .val (.int p6), .val (.int (own_c0 p1)), .val (.int (own_c1 p1)), .val (.int (own_la p1)), .val (.int (own_lc p1)), .val (.int (own_lb p1)), .val (.int (own_b0 p1)), .val (.int (own_b1 p1)), .val (.int (own_kd p1)), .unset, .unset, .unset, .unset, .unset, .unset, .unset, .unset, .unset] [(.int p2)])) _
        refine XS.iload X0.here hx rfl (hb hby at_94) rfl ?_
        show Steps p.tables e below (s₁.setTop (mkF m 96 #[.val (.int p1), .val (.int p2), .val (.int p3), .val (.int p4), .val (.int p5), .val (.int p6), .val (.int (own_c0 p1)), .val (.int (own_c1 p1)), .val (.int (own_la p1)), .val (.int (own_lc p1)), .val (.int (own_lb p1)), .val (.int (own_b0 p1)), .val (.int (own_b1 p1)), .val (.int (own_kd p1)), .unset, .unset, .unset, .unset, .unset, .unset, .unset, .unset, .unset] [(.int p6), (.int p2)])) _
        refine XS.iadd X0.here hx rfl (hb hby at_96) rfl ?_
        show Steps p.tables e below (s₁.setTop (mkF m 97 #[.val (.int p1), .val (.int p2), .val (.int p3), .val (.int p4), .val (.int p5), .val (.int p6), .val (.int (own_c0 p1)), .val (.int (own_c1 p1)), .val (.int (own_la p1)), .val (.int (own_lc p1)), .val (.int (own_lb p1)), .val (.int (own_b0 p1)), .val (.int (own_b1 p1)), .val (.int (own_kd p1)), .unset, .unset, .unset, .unset, .unset, .unset, .unset, .unset, .unset] [(.int (p2 + p6))])) _
        refine XS.goto X0.here hx rfl (pc0 := 97) (pc' := 101) rfl (hb hby at_97) (by decide) (by decide) ?_
        show Steps p.tables e below (s₁.setTop (mkF m 101 #[.val (.int p1), .val (.int p2), .val (.int p3), .val (.int p4), .val (.int p5), .val (.int p6), .val (.int (own_c0 p1)), .val (.int (own_c1 p1)), .val (.int (own_la p1)), .val (.int (own_lc p1)), .val (.int (own_lb p1)), .val (.int (own_b0 p1)), .val (.int (own_b1 p1)), .val (.int (own_kd p1)), .unset, .unset, .unset, .unset, .unset, .unset, .unset, .unset, .unset] [(.int (p2 + p6))])) _
        exact kt)
      have qe : own_p2 p1 p2 p6 = (p2 + p6) := by unfold own_p2; rw [if_neg hc90_16]
      rw [qe] at kt0
      exact pre19 _ kt0
  have pre20 : ∀ t, Steps p.tables e below (s₁.setTop (mkF m 101 #[.val (.int p1), .val (.int p2), .val (.int p3), .val (.int p4), .val (.int p5), .val (.int p6), .val (.int (own_c0 p1)), .val (.int (own_c1 p1)), .val (.int (own_la p1)), .val (.int (own_lc p1)), .val (.int (own_lb p1)), .val (.int (own_b0 p1)), .val (.int (own_b1 p1)), .val (.int (own_kd p1)), .unset, .unset, .unset, .unset, .unset, .unset, .unset, .unset, .unset] [(.int (own_p2 p1 p2 p6))])) t → Steps p.tables e below (s₁.setTop (entryFrame m #[(.int p1), (.int p2), (.int p3), (.int p4), (.int p5), (.int p6)] maxLocals)) t := fun t kt => pre14 t (jn15 t kt)
  have pre21 : ∀ t, Steps p.tables e below (s₁.setTop (mkF m 103 #[.val (.int p1), .val (.int p2), .val (.int p3), .val (.int p4), .val (.int p5), .val (.int p6), .val (.int (own_c0 p1)), .val (.int (own_c1 p1)), .val (.int (own_la p1)), .val (.int (own_lc p1)), .val (.int (own_lb p1)), .val (.int (own_b0 p1)), .val (.int (own_b1 p1)), .val (.int (own_kd p1)), .val (.int (own_p2 p1 p2 p6)), .unset, .unset, .unset, .unset, .unset, .unset, .unset, .unset] [])) t → Steps p.tables e below (s₁.setTop (entryFrame m #[(.int p1), (.int p2), (.int p3), (.int p4), (.int p5), (.int p6)] maxLocals)) t := fun t kt => pre20 t (by
    show Steps p.tables e below (s₁.setTop (mkF m 101 #[.val (.int p1), .val (.int p2), .val (.int p3), .val (.int p4), .val (.int p5), .val (.int p6), .val (.int (own_c0 p1)), .val (.int (own_c1 p1)), .val (.int (own_la p1)), .val (.int (own_lc p1)), .val (.int (own_lb p1)), .val (.int (own_b0 p1)), .val (.int (own_b1 p1)), .val (.int (own_kd p1)), .unset, .unset, .unset, .unset, .unset, .unset, .unset, .unset, .unset] [(.int (own_p2 p1 p2 p6))])) _
    refine XS.istore X0.here hx rfl (hb hby at_101) rfl (l' := #[.val (.int p1), .val (.int p2), .val (.int p3), .val (.int p4), .val (.int p5), .val (.int p6), .val (.int (own_c0 p1)), .val (.int (own_c1 p1)), .val (.int (own_la p1)), .val (.int (own_lc p1)), .val (.int (own_lb p1)), .val (.int (own_b0 p1)), .val (.int (own_b1 p1)), .val (.int (own_kd p1)), .val (.int (own_p2 p1 p2 p6)), .unset, .unset, .unset, .unset, .unset, .unset, .unset, .unset]) rfl ?_
    show Steps p.tables e below (s₁.setTop (mkF m 103 #[.val (.int p1), .val (.int p2), .val (.int p3), .val (.int p4), .val (.int p5), .val (.int p6), .val (.int (own_c0 p1)), .val (.int (own_c1 p1)), .val (.int (own_la p1)), .val (.int (own_lc p1)), .val (.int (own_lb p1)), .val (.int (own_b0 p1)), .val (.int (own_b1 p1)), .val (.int (own_kd p1)), .val (.int (own_p2 p1 p2 p6)), .unset, .unset, .unset, .unset, .unset, .unset, .unset, .unset] [])) _
    exact kt)
  have jn22 : ∀ t, Steps p.tables e below (s₁.setTop (mkF m 120 #[.val (.int p1), .val (.int p2), .val (.int p3), .val (.int p4), .val (.int p5), .val (.int p6), .val (.int (own_c0 p1)), .val (.int (own_c1 p1)), .val (.int (own_la p1)), .val (.int (own_lc p1)), .val (.int (own_lb p1)), .val (.int (own_b0 p1)), .val (.int (own_b1 p1)), .val (.int (own_kd p1)), .val (.int (own_p2 p1 p2 p6)), .unset, .unset, .unset, .unset, .unset, .unset, .unset, .unset] [(.int (own_r2 p1 p3 p6))])) t → Steps p.tables e below (s₁.setTop (mkF m 103 #[.val (.int p1), .val (.int p2), .val (.int p3), .val (.int p4), .val (.int p5), .val (.int p6), .val (.int (own_c0 p1)), .val (.int (own_c1 p1)), .val (.int (own_la p1)), .val (.int (own_lc p1)), .val (.int (own_lb p1)), .val (.int (own_b0 p1)), .val (.int (own_b1 p1)), .val (.int (own_kd p1)), .val (.int (own_p2 p1 p2 p6)), .unset, .unset, .unset, .unset, .unset, .unset, .unset, .unset] [])) t := by
    intro t0 kt0
    have preR22 : ∀ t, Steps p.tables e below (s₁.setTop (mkF m 103 #[.val (.int p1), .val (.int p2), .val (.int p3), .val (.int p4), .val (.int p5), .val (.int p6), .val (.int (own_c0 p1)), .val (.int (own_c1 p1)), .val (.int (own_la p1)), .val (.int (own_lc p1)), .val (.int (own_lb p1)), .val (.int (own_b0 p1)), .val (.int (own_b1 p1)), .val (.int (own_kd p1)), .val (.int (own_p2 p1 p2 p6)), .unset, .unset, .unset, .unset, .unset, .unset, .unset, .unset] [])) t → Steps p.tables e below (s₁.setTop (mkF m 103 #[.val (.int p1), .val (.int p2), .val (.int p3), .val (.int p4), .val (.int p5), .val (.int p6), .val (.int (own_c0 p1)), .val (.int (own_c1 p1)), .val (.int (own_la p1)), .val (.int (own_lc p1)), .val (.int (own_lb p1)), .val (.int (own_b0 p1)), .val (.int (own_b1 p1)), .val (.int (own_kd p1)), .val (.int (own_p2 p1 p2 p6)), .unset, .unset, .unset, .unset, .unset, .unset, .unset, .unset] [])) t := fun t kt => kt
    have pre24 : ∀ t, Steps p.tables e below (s₁.setTop (mkF m 109 #[.val (.int p1), .val (.int p2), .val (.int p3), .val (.int p4), .val (.int p5), .val (.int p6), .val (.int (own_c0 p1)), .val (.int (own_c1 p1)), .val (.int (own_la p1)), .val (.int (own_lc p1)), .val (.int (own_lb p1)), .val (.int (own_b0 p1)), .val (.int (own_b1 p1)), .val (.int (own_kd p1)), .val (.int (own_p2 p1 p2 p6)), .unset, .unset, .unset, .unset, .unset, .unset, .unset, .unset] [(.int (((p1.toUInt32 >>> ((17 : Int32) &&& 31).toUInt32).toInt32) &&& (1 : Int32)))])) t → Steps p.tables e below (s₁.setTop (mkF m 103 #[.val (.int p1), .val (.int p2), .val (.int p3), .val (.int p4), .val (.int p5), .val (.int p6), .val (.int (own_c0 p1)), .val (.int (own_c1 p1)), .val (.int (own_la p1)), .val (.int (own_lc p1)), .val (.int (own_lb p1)), .val (.int (own_b0 p1)), .val (.int (own_b1 p1)), .val (.int (own_kd p1)), .val (.int (own_p2 p1 p2 p6)), .unset, .unset, .unset, .unset, .unset, .unset, .unset, .unset] [])) t := fun t kt => preR22 t (by
      show Steps p.tables e below (s₁.setTop (mkF m 103 #[.val (.int p1), .val (.int p2), .val (.int p3), .val (.int p4), .val (.int p5), .val (.int p6), .val (.int (own_c0 p1)), .val (.int (own_c1 p1)), .val (.int (own_la p1)), .val (.int (own_lc p1)), .val (.int (own_lb p1)), .val (.int (own_b0 p1)), .val (.int (own_b1 p1)), .val (.int (own_kd p1)), .val (.int (own_p2 p1 p2 p6)), .unset, .unset, .unset, .unset, .unset, .unset, .unset, .unset] [])) _
      refine XS.iloadN X0.here hx rfl (hb hby at_103) rfl ?_
      show Steps p.tables e below (s₁.setTop (mkF m 104 #[.val (.int p1), .val (.int p2), .val (.int p3), .val (.int p4), .val (.int p5), .val (.int p6), .val (.int (own_c0 p1)), .val (.int (own_c1 p1)), .val (.int (own_la p1)), .val (.int (own_lc p1)), .val (.int (own_lb p1)), .val (.int (own_b0 p1)), .val (.int (own_b1 p1)), .val (.int (own_kd p1)), .val (.int (own_p2 p1 p2 p6)), .unset, .unset, .unset, .unset, .unset, .unset, .unset, .unset] [(.int p1)])) _
      refine XS.bipush X0.here hx rfl (hb hby at_104) ?_
      show Steps p.tables e below (s₁.setTop (mkF m 106 #[.val (.int p1), .val (.int p2), .val (.int p3), .val (.int p4), .val (.int p5), .val (.int p6), .val (.int (own_c0 p1)), .val (.int (own_c1 p1)), .val (.int (own_la p1)), .val (.int (own_lc p1)), .val (.int (own_lb p1)), .val (.int (own_b0 p1)), .val (.int (own_b1 p1)), .val (.int (own_kd p1)), .val (.int (own_p2 p1 p2 p6)), .unset, .unset, .unset, .unset, .unset, .unset, .unset, .unset] [(.int (17 : Int32)), (.int p1)])) _
      refine XS.iushr X0.here hx rfl (hb hby at_106) rfl ?_
      show Steps p.tables e below (s₁.setTop (mkF m 107 #[.val (.int p1), .val (.int p2), .val (.int p3), .val (.int p4), .val (.int p5), .val (.int p6), .val (.int (own_c0 p1)), .val (.int (own_c1 p1)), .val (.int (own_la p1)), .val (.int (own_lc p1)), .val (.int (own_lb p1)), .val (.int (own_b0 p1)), .val (.int (own_b1 p1)), .val (.int (own_kd p1)), .val (.int (own_p2 p1 p2 p6)), .unset, .unset, .unset, .unset, .unset, .unset, .unset, .unset] [(.int ((p1.toUInt32 >>> ((17 : Int32) &&& 31).toUInt32).toInt32))])) _
      refine XS.iconst X0.here hx rfl (hb hby at_107) ?_
      show Steps p.tables e below (s₁.setTop (mkF m 108 #[.val (.int p1), .val (.int p2), .val (.int p3), .val (.int p4), .val (.int p5), .val (.int p6), .val (.int (own_c0 p1)), .val (.int (own_c1 p1)), .val (.int (own_la p1)), .val (.int (own_lc p1)), .val (.int (own_lb p1)), .val (.int (own_b0 p1)), .val (.int (own_b1 p1)), .val (.int (own_kd p1)), .val (.int (own_p2 p1 p2 p6)), .unset, .unset, .unset, .unset, .unset, .unset, .unset, .unset] [(.int (1 : Int32)), (.int ((p1.toUInt32 >>> ((17 : Int32) &&& 31).toUInt32).toInt32))])) _
      refine XS.iand X0.here hx rfl (hb hby at_108) rfl ?_
      show Steps p.tables e below (s₁.setTop (mkF m 109 #[.val (.int p1), .val (.int p2), .val (.int p3), .val (.int p4), .val (.int p5), .val (.int p6), .val (.int (own_c0 p1)), .val (.int (own_c1 p1)), .val (.int (own_la p1)), .val (.int (own_lc p1)), .val (.int (own_lb p1)), .val (.int (own_b0 p1)), .val (.int (own_b1 p1)), .val (.int (own_kd p1)), .val (.int (own_p2 p1 p2 p6)), .unset, .unset, .unset, .unset, .unset, .unset, .unset, .unset] [(.int (((p1.toUInt32 >>> ((17 : Int32) &&& 31).toUInt32).toInt32) &&& (1 : Int32)))])) _
      exact kt)
    by_cases hc109_23 : (((p1.toUInt32 >>> ((17 : Int32) &&& 31).toUInt32).toInt32) &&& (1 : Int32)) = (0 : Int32)
    · have pre25 : ∀ t, Steps p.tables e below (s₁.setTop (mkF m 120 #[.val (.int p1), .val (.int p2), .val (.int p3), .val (.int p4), .val (.int p5), .val (.int p6), .val (.int (own_c0 p1)), .val (.int (own_c1 p1)), .val (.int (own_la p1)), .val (.int (own_lc p1)), .val (.int (own_lb p1)), .val (.int (own_b0 p1)), .val (.int (own_b1 p1)), .val (.int (own_kd p1)), .val (.int (own_p2 p1 p2 p6)), .unset, .unset, .unset, .unset, .unset, .unset, .unset, .unset] [(.int p3)])) t → Steps p.tables e below (s₁.setTop (mkF m 103 #[.val (.int p1), .val (.int p2), .val (.int p3), .val (.int p4), .val (.int p5), .val (.int p6), .val (.int (own_c0 p1)), .val (.int (own_c1 p1)), .val (.int (own_la p1)), .val (.int (own_lc p1)), .val (.int (own_lb p1)), .val (.int (own_b0 p1)), .val (.int (own_b1 p1)), .val (.int (own_kd p1)), .val (.int (own_p2 p1 p2 p6)), .unset, .unset, .unset, .unset, .unset, .unset, .unset, .unset] [])) t := fun t kt => pre24 t (by
        show Steps p.tables e below (s₁.setTop (mkF m 109 #[.val (.int p1), .val (.int p2), .val (.int p3), .val (.int p4), .val (.int p5), .val (.int p6), .val (.int (own_c0 p1)), .val (.int (own_c1 p1)), .val (.int (own_la p1)), .val (.int (own_lc p1)), .val (.int (own_lb p1)), .val (.int (own_b0 p1)), .val (.int (own_b1 p1)), .val (.int (own_kd p1)), .val (.int (own_p2 p1 p2 p6)), .unset, .unset, .unset, .unset, .unset, .unset, .unset, .unset] [(.int (((p1.toUInt32 >>> ((17 : Int32) &&& 31).toUInt32).toInt32) &&& (1 : Int32)))])) _
        refine XS.ifYes X0.here hx rfl (pc0 := 109) (pc' := 119) rfl (hb hby at_109) rfl ((if0 _ _).trans (teq hc109_23).1) (by decide) (by decide) ?_
        show Steps p.tables e below (s₁.setTop (mkF m 119 #[.val (.int p1), .val (.int p2), .val (.int p3), .val (.int p4), .val (.int p5), .val (.int p6), .val (.int (own_c0 p1)), .val (.int (own_c1 p1)), .val (.int (own_la p1)), .val (.int (own_lc p1)), .val (.int (own_lb p1)), .val (.int (own_b0 p1)), .val (.int (own_b1 p1)), .val (.int (own_kd p1)), .val (.int (own_p2 p1 p2 p6)), .unset, .unset, .unset, .unset, .unset, .unset, .unset, .unset] [])) _
        refine XS.iloadN X0.here hx rfl (hb hby at_119) rfl ?_
        show Steps p.tables e below (s₁.setTop (mkF m 120 #[.val (.int p1), .val (.int p2), .val (.int p3), .val (.int p4), .val (.int p5), .val (.int p6), .val (.int (own_c0 p1)), .val (.int (own_c1 p1)), .val (.int (own_la p1)), .val (.int (own_lc p1)), .val (.int (own_lb p1)), .val (.int (own_b0 p1)), .val (.int (own_b1 p1)), .val (.int (own_kd p1)), .val (.int (own_p2 p1 p2 p6)), .unset, .unset, .unset, .unset, .unset, .unset, .unset, .unset] [(.int p3)])) _
        exact kt)
      have qe : own_r2 p1 p3 p6 = p3 := by unfold own_r2; rw [if_pos hc109_23]
      rw [qe] at kt0
      exact pre25 _ kt0
    · have pre26 : ∀ t, Steps p.tables e below (s₁.setTop (mkF m 120 #[.val (.int p1), .val (.int p2), .val (.int p3), .val (.int p4), .val (.int p5), .val (.int p6), .val (.int (own_c0 p1)), .val (.int (own_c1 p1)), .val (.int (own_la p1)), .val (.int (own_lc p1)), .val (.int (own_lb p1)), .val (.int (own_b0 p1)), .val (.int (own_b1 p1)), .val (.int (own_kd p1)), .val (.int (own_p2 p1 p2 p6)), .unset, .unset, .unset, .unset, .unset, .unset, .unset, .unset] [(.int (p3 + p6))])) t → Steps p.tables e below (s₁.setTop (mkF m 103 #[.val (.int p1), .val (.int p2), .val (.int p3), .val (.int p4), .val (.int p5), .val (.int p6), .val (.int (own_c0 p1)), .val (.int (own_c1 p1)), .val (.int (own_la p1)), .val (.int (own_lc p1)), .val (.int (own_lb p1)), .val (.int (own_b0 p1)), .val (.int (own_b1 p1)), .val (.int (own_kd p1)), .val (.int (own_p2 p1 p2 p6)), .unset, .unset, .unset, .unset, .unset, .unset, .unset, .unset] [])) t := fun t kt => pre24 t (by
        show Steps p.tables e below (s₁.setTop (mkF m 109 #[.val (.int p1), .val (.int p2), .val (.int p3), .val (.int p4), .val (.int p5), .val (.int p6), .val (.int (own_c0 p1)), .val (.int (own_c1 p1)), .val (.int (own_la p1)), .val (.int (own_lc p1)), .val (.int (own_lb p1)), .val (.int (own_b0 p1)), .val (.int (own_b1 p1)), .val (.int (own_kd p1)), .val (.int (own_p2 p1 p2 p6)), .unset, .unset, .unset, .unset, .unset, .unset, .unset, .unset] [(.int (((p1.toUInt32 >>> ((17 : Int32) &&& 31).toUInt32).toInt32) &&& (1 : Int32)))])) _
        refine XS.ifNo X0.here hx rfl (hb hby at_109) rfl ((if0 _ _).trans (feq hc109_23).1) ?_
        show Steps p.tables e below (s₁.setTop (mkF m 112 #[.val (.int p1), .val (.int p2), .val (.int p3), .val (.int p4), .val (.int p5), .val (.int p6), .val (.int (own_c0 p1)), .val (.int (own_c1 p1)), .val (.int (own_la p1)), .val (.int (own_lc p1)), .val (.int (own_lb p1)), .val (.int (own_b0 p1)), .val (.int (own_b1 p1)), .val (.int (own_kd p1)), .val (.int (own_p2 p1 p2 p6)), .unset, .unset, .unset, .unset, .unset, .unset, .unset, .unset] [])) _
        refine XS.iloadN X0.here hx rfl (hb hby at_112) rfl ?_
        show Steps p.tables e below (s₁.setTop (mkF m 113 #[.val (.int p1), .val (.int p2), .val (.int p3), .val (.int p4), .val (.int p5), .val (.int p6), .val (.int (own_c0 p1)), .val (.int (own_c1 p1)), .val (.int (own_la p1)), .val (.int (own_lc p1)), .val (.int (own_lb p1)), .val (.int (own_b0 p1)), .val (.int (own_b1 p1)), .val (.int (own_kd p1)), .val (.int (own_p2 p1 p2 p6)), .unset, .unset, .unset, .unset, .unset, .unset, .unset, .unset] [(.int p3)])) _
        refine XS.iload X0.here hx rfl (hb hby at_113) rfl ?_
        show Steps p.tables e below (s₁.setTop (mkF m 115 #[.val (.int p1), .val (.int p2), .val (.int p3), .val (.int p4), .val (.int p5), .val (.int p6), .val (.int (own_c0 p1)), .val (.int (own_c1 p1)), .val (.int (own_la p1)), .val (.int (own_lc p1)), .val (.int (own_lb p1)), .val (.int (own_b0 p1)), .val (.int (own_b1 p1)), .val (.int (own_kd p1)), .val (.int (own_p2 p1 p2 p6)), .unset, .unset, .unset, .unset, .unset, .unset, .unset, .unset] [(.int p6), (.int p3)])) _
        refine XS.iadd X0.here hx rfl (hb hby at_115) rfl ?_
        show Steps p.tables e below (s₁.setTop (mkF m 116 #[.val (.int p1), .val (.int p2), .val (.int p3), .val (.int p4), .val (.int p5), .val (.int p6), .val (.int (own_c0 p1)), .val (.int (own_c1 p1)), .val (.int (own_la p1)), .val (.int (own_lc p1)), .val (.int (own_lb p1)), .val (.int (own_b0 p1)), .val (.int (own_b1 p1)), .val (.int (own_kd p1)), .val (.int (own_p2 p1 p2 p6)), .unset, .unset, .unset, .unset, .unset, .unset, .unset, .unset] [(.int (p3 + p6))])) _
        refine XS.goto X0.here hx rfl (pc0 := 116) (pc' := 120) rfl (hb hby at_116) (by decide) (by decide) ?_
        show Steps p.tables e below (s₁.setTop (mkF m 120 #[.val (.int p1), .val (.int p2), .val (.int p3), .val (.int p4), .val (.int p5), .val (.int p6), .val (.int (own_c0 p1)), .val (.int (own_c1 p1)), .val (.int (own_la p1)), .val (.int (own_lc p1)), .val (.int (own_lb p1)), .val (.int (own_b0 p1)), .val (.int (own_b1 p1)), .val (.int (own_kd p1)), .val (.int (own_p2 p1 p2 p6)), .unset, .unset, .unset, .unset, .unset, .unset, .unset, .unset] [(.int (p3 + p6))])) _
        exact kt)
      have qe : own_r2 p1 p3 p6 = (p3 + p6) := by unfold own_r2; rw [if_neg hc109_23]
      rw [qe] at kt0
      exact pre26 _ kt0
  have pre27 : ∀ t, Steps p.tables e below (s₁.setTop (mkF m 120 #[.val (.int p1), .val (.int p2), .val (.int p3), .val (.int p4), .val (.int p5), .val (.int p6), .val (.int (own_c0 p1)), .val (.int (own_c1 p1)), .val (.int (own_la p1)), .val (.int (own_lc p1)), .val (.int (own_lb p1)), .val (.int (own_b0 p1)), .val (.int (own_b1 p1)), .val (.int (own_kd p1)), .val (.int (own_p2 p1 p2 p6)), .unset, .unset, .unset, .unset, .unset, .unset, .unset, .unset] [(.int (own_r2 p1 p3 p6))])) t → Steps p.tables e below (s₁.setTop (entryFrame m #[(.int p1), (.int p2), (.int p3), (.int p4), (.int p5), (.int p6)] maxLocals)) t := fun t kt => pre21 t (jn22 t kt)
  have pre28 : ∀ t, Steps p.tables e below (s₁.setTop (mkF m 122 #[.val (.int p1), .val (.int p2), .val (.int p3), .val (.int p4), .val (.int p5), .val (.int p6), .val (.int (own_c0 p1)), .val (.int (own_c1 p1)), .val (.int (own_la p1)), .val (.int (own_lc p1)), .val (.int (own_lb p1)), .val (.int (own_b0 p1)), .val (.int (own_b1 p1)), .val (.int (own_kd p1)), .val (.int (own_p2 p1 p2 p6)), .val (.int (own_r2 p1 p3 p6)), .unset, .unset, .unset, .unset, .unset, .unset, .unset] [])) t → Steps p.tables e below (s₁.setTop (entryFrame m #[(.int p1), (.int p2), (.int p3), (.int p4), (.int p5), (.int p6)] maxLocals)) t := fun t kt => pre27 t (by
    show Steps p.tables e below (s₁.setTop (mkF m 120 #[.val (.int p1), .val (.int p2), .val (.int p3), .val (.int p4), .val (.int p5), .val (.int p6), .val (.int (own_c0 p1)), .val (.int (own_c1 p1)), .val (.int (own_la p1)), .val (.int (own_lc p1)), .val (.int (own_lb p1)), .val (.int (own_b0 p1)), .val (.int (own_b1 p1)), .val (.int (own_kd p1)), .val (.int (own_p2 p1 p2 p6)), .unset, .unset, .unset, .unset, .unset, .unset, .unset, .unset] [(.int (own_r2 p1 p3 p6))])) _
    refine XS.istore X0.here hx rfl (hb hby at_120) rfl (l' := #[.val (.int p1), .val (.int p2), .val (.int p3), .val (.int p4), .val (.int p5), .val (.int p6), .val (.int (own_c0 p1)), .val (.int (own_c1 p1)), .val (.int (own_la p1)), .val (.int (own_lc p1)), .val (.int (own_lb p1)), .val (.int (own_b0 p1)), .val (.int (own_b1 p1)), .val (.int (own_kd p1)), .val (.int (own_p2 p1 p2 p6)), .val (.int (own_r2 p1 p3 p6)), .unset, .unset, .unset, .unset, .unset, .unset, .unset]) rfl ?_
    show Steps p.tables e below (s₁.setTop (mkF m 122 #[.val (.int p1), .val (.int p2), .val (.int p3), .val (.int p4), .val (.int p5), .val (.int p6), .val (.int (own_c0 p1)), .val (.int (own_c1 p1)), .val (.int (own_la p1)), .val (.int (own_lc p1)), .val (.int (own_lb p1)), .val (.int (own_b0 p1)), .val (.int (own_b1 p1)), .val (.int (own_kd p1)), .val (.int (own_p2 p1 p2 p6)), .val (.int (own_r2 p1 p3 p6)), .unset, .unset, .unset, .unset, .unset, .unset, .unset] [])) _
    exact kt)
  have jn29 : ∀ t, Steps p.tables e below (s₁.setTop (mkF m 139 #[.val (.int p1), .val (.int p2), .val (.int p3), .val (.int p4), .val (.int p5), .val (.int p6), .val (.int (own_c0 p1)), .val (.int (own_c1 p1)), .val (.int (own_la p1)), .val (.int (own_lc p1)), .val (.int (own_lb p1)), .val (.int (own_b0 p1)), .val (.int (own_b1 p1)), .val (.int (own_kd p1)), .val (.int (own_p2 p1 p2 p6)), .val (.int (own_r2 p1 p3 p6)), .unset, .unset, .unset, .unset, .unset, .unset, .unset] [(.int (own_w2 p1 p4 p6))])) t → Steps p.tables e below (s₁.setTop (mkF m 122 #[.val (.int p1), .val (.int p2), .val (.int p3), .val (.int p4), .val (.int p5), .val (.int p6), .val (.int (own_c0 p1)), .val (.int (own_c1 p1)), .val (.int (own_la p1)), .val (.int (own_lc p1)), .val (.int (own_lb p1)), .val (.int (own_b0 p1)), .val (.int (own_b1 p1)), .val (.int (own_kd p1)), .val (.int (own_p2 p1 p2 p6)), .val (.int (own_r2 p1 p3 p6)), .unset, .unset, .unset, .unset, .unset, .unset, .unset] [])) t := by
    intro t0 kt0
    have preR29 : ∀ t, Steps p.tables e below (s₁.setTop (mkF m 122 #[.val (.int p1), .val (.int p2), .val (.int p3), .val (.int p4), .val (.int p5), .val (.int p6), .val (.int (own_c0 p1)), .val (.int (own_c1 p1)), .val (.int (own_la p1)), .val (.int (own_lc p1)), .val (.int (own_lb p1)), .val (.int (own_b0 p1)), .val (.int (own_b1 p1)), .val (.int (own_kd p1)), .val (.int (own_p2 p1 p2 p6)), .val (.int (own_r2 p1 p3 p6)), .unset, .unset, .unset, .unset, .unset, .unset, .unset] [])) t → Steps p.tables e below (s₁.setTop (mkF m 122 #[.val (.int p1), .val (.int p2), .val (.int p3), .val (.int p4), .val (.int p5), .val (.int p6), .val (.int (own_c0 p1)), .val (.int (own_c1 p1)), .val (.int (own_la p1)), .val (.int (own_lc p1)), .val (.int (own_lb p1)), .val (.int (own_b0 p1)), .val (.int (own_b1 p1)), .val (.int (own_kd p1)), .val (.int (own_p2 p1 p2 p6)), .val (.int (own_r2 p1 p3 p6)), .unset, .unset, .unset, .unset, .unset, .unset, .unset] [])) t := fun t kt => kt
    have pre31 : ∀ t, Steps p.tables e below (s₁.setTop (mkF m 128 #[.val (.int p1), .val (.int p2), .val (.int p3), .val (.int p4), .val (.int p5), .val (.int p6), .val (.int (own_c0 p1)), .val (.int (own_c1 p1)), .val (.int (own_la p1)), .val (.int (own_lc p1)), .val (.int (own_lb p1)), .val (.int (own_b0 p1)), .val (.int (own_b1 p1)), .val (.int (own_kd p1)), .val (.int (own_p2 p1 p2 p6)), .val (.int (own_r2 p1 p3 p6)), .unset, .unset, .unset, .unset, .unset, .unset, .unset] [(.int (((p1.toUInt32 >>> ((18 : Int32) &&& 31).toUInt32).toInt32) &&& (1 : Int32)))])) t → Steps p.tables e below (s₁.setTop (mkF m 122 #[.val (.int p1), .val (.int p2), .val (.int p3), .val (.int p4), .val (.int p5), .val (.int p6), .val (.int (own_c0 p1)), .val (.int (own_c1 p1)), .val (.int (own_la p1)), .val (.int (own_lc p1)), .val (.int (own_lb p1)), .val (.int (own_b0 p1)), .val (.int (own_b1 p1)), .val (.int (own_kd p1)), .val (.int (own_p2 p1 p2 p6)), .val (.int (own_r2 p1 p3 p6)), .unset, .unset, .unset, .unset, .unset, .unset, .unset] [])) t := fun t kt => preR29 t (by
      show Steps p.tables e below (s₁.setTop (mkF m 122 #[.val (.int p1), .val (.int p2), .val (.int p3), .val (.int p4), .val (.int p5), .val (.int p6), .val (.int (own_c0 p1)), .val (.int (own_c1 p1)), .val (.int (own_la p1)), .val (.int (own_lc p1)), .val (.int (own_lb p1)), .val (.int (own_b0 p1)), .val (.int (own_b1 p1)), .val (.int (own_kd p1)), .val (.int (own_p2 p1 p2 p6)), .val (.int (own_r2 p1 p3 p6)), .unset, .unset, .unset, .unset, .unset, .unset, .unset] [])) _
      refine XS.iloadN X0.here hx rfl (hb hby at_122) rfl ?_
      show Steps p.tables e below (s₁.setTop (mkF m 123 #[.val (.int p1), .val (.int p2), .val (.int p3), .val (.int p4), .val (.int p5), .val (.int p6), .val (.int (own_c0 p1)), .val (.int (own_c1 p1)), .val (.int (own_la p1)), .val (.int (own_lc p1)), .val (.int (own_lb p1)), .val (.int (own_b0 p1)), .val (.int (own_b1 p1)), .val (.int (own_kd p1)), .val (.int (own_p2 p1 p2 p6)), .val (.int (own_r2 p1 p3 p6)), .unset, .unset, .unset, .unset, .unset, .unset, .unset] [(.int p1)])) _
      refine XS.bipush X0.here hx rfl (hb hby at_123) ?_
      show Steps p.tables e below (s₁.setTop (mkF m 125 #[.val (.int p1), .val (.int p2), .val (.int p3), .val (.int p4), .val (.int p5), .val (.int p6), .val (.int (own_c0 p1)), .val (.int (own_c1 p1)), .val (.int (own_la p1)), .val (.int (own_lc p1)), .val (.int (own_lb p1)), .val (.int (own_b0 p1)), .val (.int (own_b1 p1)), .val (.int (own_kd p1)), .val (.int (own_p2 p1 p2 p6)), .val (.int (own_r2 p1 p3 p6)), .unset, .unset, .unset, .unset, .unset, .unset, .unset] [(.int (18 : Int32)), (.int p1)])) _
      refine XS.iushr X0.here hx rfl (hb hby at_125) rfl ?_
      show Steps p.tables e below (s₁.setTop (mkF m 126 #[.val (.int p1), .val (.int p2), .val (.int p3), .val (.int p4), .val (.int p5), .val (.int p6), .val (.int (own_c0 p1)), .val (.int (own_c1 p1)), .val (.int (own_la p1)), .val (.int (own_lc p1)), .val (.int (own_lb p1)), .val (.int (own_b0 p1)), .val (.int (own_b1 p1)), .val (.int (own_kd p1)), .val (.int (own_p2 p1 p2 p6)), .val (.int (own_r2 p1 p3 p6)), .unset, .unset, .unset, .unset, .unset, .unset, .unset] [(.int ((p1.toUInt32 >>> ((18 : Int32) &&& 31).toUInt32).toInt32))])) _
      refine XS.iconst X0.here hx rfl (hb hby at_126) ?_
      show Steps p.tables e below (s₁.setTop (mkF m 127 #[.val (.int p1), .val (.int p2), .val (.int p3), .val (.int p4), .val (.int p5), .val (.int p6), .val (.int (own_c0 p1)), .val (.int (own_c1 p1)), .val (.int (own_la p1)), .val (.int (own_lc p1)), .val (.int (own_lb p1)), .val (.int (own_b0 p1)), .val (.int (own_b1 p1)), .val (.int (own_kd p1)), .val (.int (own_p2 p1 p2 p6)), .val (.int (own_r2 p1 p3 p6)), .unset, .unset, .unset, .unset, .unset, .unset, .unset] [(.int (1 : Int32)), (.int ((p1.toUInt32 >>> ((18 : Int32) &&& 31).toUInt32).toInt32))])) _
      refine XS.iand X0.here hx rfl (hb hby at_127) rfl ?_
      show Steps p.tables e below (s₁.setTop (mkF m 128 #[.val (.int p1), .val (.int p2), .val (.int p3), .val (.int p4), .val (.int p5), .val (.int p6), .val (.int (own_c0 p1)), .val (.int (own_c1 p1)), .val (.int (own_la p1)), .val (.int (own_lc p1)), .val (.int (own_lb p1)), .val (.int (own_b0 p1)), .val (.int (own_b1 p1)), .val (.int (own_kd p1)), .val (.int (own_p2 p1 p2 p6)), .val (.int (own_r2 p1 p3 p6)), .unset, .unset, .unset, .unset, .unset, .unset, .unset] [(.int (((p1.toUInt32 >>> ((18 : Int32) &&& 31).toUInt32).toInt32) &&& (1 : Int32)))])) _
      exact kt)
    by_cases hc128_30 : (((p1.toUInt32 >>> ((18 : Int32) &&& 31).toUInt32).toInt32) &&& (1 : Int32)) = (0 : Int32)
    · have pre32 : ∀ t, Steps p.tables e below (s₁.setTop (mkF m 139 #[.val (.int p1), .val (.int p2), .val (.int p3), .val (.int p4), .val (.int p5), .val (.int p6), .val (.int (own_c0 p1)), .val (.int (own_c1 p1)), .val (.int (own_la p1)), .val (.int (own_lc p1)), .val (.int (own_lb p1)), .val (.int (own_b0 p1)), .val (.int (own_b1 p1)), .val (.int (own_kd p1)), .val (.int (own_p2 p1 p2 p6)), .val (.int (own_r2 p1 p3 p6)), .unset, .unset, .unset, .unset, .unset, .unset, .unset] [(.int p4)])) t → Steps p.tables e below (s₁.setTop (mkF m 122 #[.val (.int p1), .val (.int p2), .val (.int p3), .val (.int p4), .val (.int p5), .val (.int p6), .val (.int (own_c0 p1)), .val (.int (own_c1 p1)), .val (.int (own_la p1)), .val (.int (own_lc p1)), .val (.int (own_lb p1)), .val (.int (own_b0 p1)), .val (.int (own_b1 p1)), .val (.int (own_kd p1)), .val (.int (own_p2 p1 p2 p6)), .val (.int (own_r2 p1 p3 p6)), .unset, .unset, .unset, .unset, .unset, .unset, .unset] [])) t := fun t kt => pre31 t (by
        show Steps p.tables e below (s₁.setTop (mkF m 128 #[.val (.int p1), .val (.int p2), .val (.int p3), .val (.int p4), .val (.int p5), .val (.int p6), .val (.int (own_c0 p1)), .val (.int (own_c1 p1)), .val (.int (own_la p1)), .val (.int (own_lc p1)), .val (.int (own_lb p1)), .val (.int (own_b0 p1)), .val (.int (own_b1 p1)), .val (.int (own_kd p1)), .val (.int (own_p2 p1 p2 p6)), .val (.int (own_r2 p1 p3 p6)), .unset, .unset, .unset, .unset, .unset, .unset, .unset] [(.int (((p1.toUInt32 >>> ((18 : Int32) &&& 31).toUInt32).toInt32) &&& (1 : Int32)))])) _
        refine XS.ifYes X0.here hx rfl (pc0 := 128) (pc' := 138) rfl (hb hby at_128) rfl ((if0 _ _).trans (teq hc128_30).1) (by decide) (by decide) ?_
        show Steps p.tables e below (s₁.setTop (mkF m 138 #[.val (.int p1), .val (.int p2), .val (.int p3), .val (.int p4), .val (.int p5), .val (.int p6), .val (.int (own_c0 p1)), .val (.int (own_c1 p1)), .val (.int (own_la p1)), .val (.int (own_lc p1)), .val (.int (own_lb p1)), .val (.int (own_b0 p1)), .val (.int (own_b1 p1)), .val (.int (own_kd p1)), .val (.int (own_p2 p1 p2 p6)), .val (.int (own_r2 p1 p3 p6)), .unset, .unset, .unset, .unset, .unset, .unset, .unset] [])) _
        refine XS.iloadN X0.here hx rfl (hb hby at_138) rfl ?_
        show Steps p.tables e below (s₁.setTop (mkF m 139 #[.val (.int p1), .val (.int p2), .val (.int p3), .val (.int p4), .val (.int p5), .val (.int p6), .val (.int (own_c0 p1)), .val (.int (own_c1 p1)), .val (.int (own_la p1)), .val (.int (own_lc p1)), .val (.int (own_lb p1)), .val (.int (own_b0 p1)), .val (.int (own_b1 p1)), .val (.int (own_kd p1)), .val (.int (own_p2 p1 p2 p6)), .val (.int (own_r2 p1 p3 p6)), .unset, .unset, .unset, .unset, .unset, .unset, .unset] [(.int p4)])) _
        exact kt)
      have qe : own_w2 p1 p4 p6 = p4 := by unfold own_w2; rw [if_pos hc128_30]
      rw [qe] at kt0
      exact pre32 _ kt0
    · have pre33 : ∀ t, Steps p.tables e below (s₁.setTop (mkF m 139 #[.val (.int p1), .val (.int p2), .val (.int p3), .val (.int p4), .val (.int p5), .val (.int p6), .val (.int (own_c0 p1)), .val (.int (own_c1 p1)), .val (.int (own_la p1)), .val (.int (own_lc p1)), .val (.int (own_lb p1)), .val (.int (own_b0 p1)), .val (.int (own_b1 p1)), .val (.int (own_kd p1)), .val (.int (own_p2 p1 p2 p6)), .val (.int (own_r2 p1 p3 p6)), .unset, .unset, .unset, .unset, .unset, .unset, .unset] [(.int (p4 + p6))])) t → Steps p.tables e below (s₁.setTop (mkF m 122 #[.val (.int p1), .val (.int p2), .val (.int p3), .val (.int p4), .val (.int p5), .val (.int p6), .val (.int (own_c0 p1)), .val (.int (own_c1 p1)), .val (.int (own_la p1)), .val (.int (own_lc p1)), .val (.int (own_lb p1)), .val (.int (own_b0 p1)), .val (.int (own_b1 p1)), .val (.int (own_kd p1)), .val (.int (own_p2 p1 p2 p6)), .val (.int (own_r2 p1 p3 p6)), .unset, .unset, .unset, .unset, .unset, .unset, .unset] [])) t := fun t kt => pre31 t (by
        show Steps p.tables e below (s₁.setTop (mkF m 128 #[.val (.int p1), .val (.int p2), .val (.int p3), .val (.int p4), .val (.int p5), .val (.int p6), .val (.int (own_c0 p1)), .val (.int (own_c1 p1)), .val (.int (own_la p1)), .val (.int (own_lc p1)), .val (.int (own_lb p1)), .val (.int (own_b0 p1)), .val (.int (own_b1 p1)), .val (.int (own_kd p1)), .val (.int (own_p2 p1 p2 p6)), .val (.int (own_r2 p1 p3 p6)), .unset, .unset, .unset, .unset, .unset, .unset, .unset] [(.int (((p1.toUInt32 >>> ((18 : Int32) &&& 31).toUInt32).toInt32) &&& (1 : Int32)))])) _
        refine XS.ifNo X0.here hx rfl (hb hby at_128) rfl ((if0 _ _).trans (feq hc128_30).1) ?_
        show Steps p.tables e below (s₁.setTop (mkF m 131 #[.val (.int p1), .val (.int p2), .val (.int p3), .val (.int p4), .val (.int p5), .val (.int p6), .val (.int (own_c0 p1)), .val (.int (own_c1 p1)), .val (.int (own_la p1)), .val (.int (own_lc p1)), .val (.int (own_lb p1)), .val (.int (own_b0 p1)), .val (.int (own_b1 p1)), .val (.int (own_kd p1)), .val (.int (own_p2 p1 p2 p6)), .val (.int (own_r2 p1 p3 p6)), .unset, .unset, .unset, .unset, .unset, .unset, .unset] [])) _
        refine XS.iloadN X0.here hx rfl (hb hby at_131) rfl ?_
        show Steps p.tables e below (s₁.setTop (mkF m 132 #[.val (.int p1), .val (.int p2), .val (.int p3), .val (.int p4), .val (.int p5), .val (.int p6), .val (.int (own_c0 p1)), .val (.int (own_c1 p1)), .val (.int (own_la p1)), .val (.int (own_lc p1)), .val (.int (own_lb p1)), .val (.int (own_b0 p1)), .val (.int (own_b1 p1)), .val (.int (own_kd p1)), .val (.int (own_p2 p1 p2 p6)), .val (.int (own_r2 p1 p3 p6)), .unset, .unset, .unset, .unset, .unset, .unset, .unset] [(.int p4)])) _
        refine XS.iload X0.here hx rfl (hb hby at_132) rfl ?_
        show Steps p.tables e below (s₁.setTop (mkF m 134 #[.val (.int p1), .val (.int p2), .val (.int p3), .val (.int p4), .val (.int p5), .val (.int p6), .val (.int (own_c0 p1)), .val (.int (own_c1 p1)), .val (.int (own_la p1)), .val (.int (own_lc p1)), .val (.int (own_lb p1)), .val (.int (own_b0 p1)), .val (.int (own_b1 p1)), .val (.int (own_kd p1)), .val (.int (own_p2 p1 p2 p6)), .val (.int (own_r2 p1 p3 p6)), .unset, .unset, .unset, .unset, .unset, .unset, .unset] [(.int p6), (.int p4)])) _
        refine XS.iadd X0.here hx rfl (hb hby at_134) rfl ?_
        show Steps p.tables e below (s₁.setTop (mkF m 135 #[.val (.int p1), .val (.int p2), .val (.int p3), .val (.int p4), .val (.int p5), .val (.int p6), .val (.int (own_c0 p1)), .val (.int (own_c1 p1)), .val (.int (own_la p1)), .val (.int (own_lc p1)), .val (.int (own_lb p1)), .val (.int (own_b0 p1)), .val (.int (own_b1 p1)), .val (.int (own_kd p1)), .val (.int (own_p2 p1 p2 p6)), .val (.int (own_r2 p1 p3 p6)), .unset, .unset, .unset, .unset, .unset, .unset, .unset] [(.int (p4 + p6))])) _
        refine XS.goto X0.here hx rfl (pc0 := 135) (pc' := 139) rfl (hb hby at_135) (by decide) (by decide) ?_
        show Steps p.tables e below (s₁.setTop (mkF m 139 #[.val (.int p1), .val (.int p2), .val (.int p3), .val (.int p4), .val (.int p5), .val (.int p6), .val (.int (own_c0 p1)), .val (.int (own_c1 p1)), .val (.int (own_la p1)), .val (.int (own_lc p1)), .val (.int (own_lb p1)), .val (.int (own_b0 p1)), .val (.int (own_b1 p1)), .val (.int (own_kd p1)), .val (.int (own_p2 p1 p2 p6)), .val (.int (own_r2 p1 p3 p6)), .unset, .unset, .unset, .unset, .unset, .unset, .unset] [(.int (p4 + p6))])) _
        exact kt)
      have qe : own_w2 p1 p4 p6 = (p4 + p6) := by unfold own_w2; rw [if_neg hc128_30]
      rw [qe] at kt0
      exact pre33 _ kt0
  have pre34 : ∀ t, Steps p.tables e below (s₁.setTop (mkF m 139 #[.val (.int p1), .val (.int p2), .val (.int p3), .val (.int p4), .val (.int p5), .val (.int p6), .val (.int (own_c0 p1)), .val (.int (own_c1 p1)), .val (.int (own_la p1)), .val (.int (own_lc p1)), .val (.int (own_lb p1)), .val (.int (own_b0 p1)), .val (.int (own_b1 p1)), .val (.int (own_kd p1)), .val (.int (own_p2 p1 p2 p6)), .val (.int (own_r2 p1 p3 p6)), .unset, .unset, .unset, .unset, .unset, .unset, .unset] [(.int (own_w2 p1 p4 p6))])) t → Steps p.tables e below (s₁.setTop (entryFrame m #[(.int p1), (.int p2), (.int p3), (.int p4), (.int p5), (.int p6)] maxLocals)) t := fun t kt => pre28 t (jn29 t kt)
  have pre35 : ∀ t, Steps p.tables e below (s₁.setTop (mkF m 141 #[.val (.int p1), .val (.int p2), .val (.int p3), .val (.int p4), .val (.int p5), .val (.int p6), .val (.int (own_c0 p1)), .val (.int (own_c1 p1)), .val (.int (own_la p1)), .val (.int (own_lc p1)), .val (.int (own_lb p1)), .val (.int (own_b0 p1)), .val (.int (own_b1 p1)), .val (.int (own_kd p1)), .val (.int (own_p2 p1 p2 p6)), .val (.int (own_r2 p1 p3 p6)), .val (.int (own_w2 p1 p4 p6)), .unset, .unset, .unset, .unset, .unset, .unset] [])) t → Steps p.tables e below (s₁.setTop (entryFrame m #[(.int p1), (.int p2), (.int p3), (.int p4), (.int p5), (.int p6)] maxLocals)) t := fun t kt => pre34 t (by
    show Steps p.tables e below (s₁.setTop (mkF m 139 #[.val (.int p1), .val (.int p2), .val (.int p3), .val (.int p4), .val (.int p5), .val (.int p6), .val (.int (own_c0 p1)), .val (.int (own_c1 p1)), .val (.int (own_la p1)), .val (.int (own_lc p1)), .val (.int (own_lb p1)), .val (.int (own_b0 p1)), .val (.int (own_b1 p1)), .val (.int (own_kd p1)), .val (.int (own_p2 p1 p2 p6)), .val (.int (own_r2 p1 p3 p6)), .unset, .unset, .unset, .unset, .unset, .unset, .unset] [(.int (own_w2 p1 p4 p6))])) _
    refine XS.istore X0.here hx rfl (hb hby at_139) rfl (l' := #[.val (.int p1), .val (.int p2), .val (.int p3), .val (.int p4), .val (.int p5), .val (.int p6), .val (.int (own_c0 p1)), .val (.int (own_c1 p1)), .val (.int (own_la p1)), .val (.int (own_lc p1)), .val (.int (own_lb p1)), .val (.int (own_b0 p1)), .val (.int (own_b1 p1)), .val (.int (own_kd p1)), .val (.int (own_p2 p1 p2 p6)), .val (.int (own_r2 p1 p3 p6)), .val (.int (own_w2 p1 p4 p6)), .unset, .unset, .unset, .unset, .unset, .unset]) rfl ?_
    show Steps p.tables e below (s₁.setTop (mkF m 141 #[.val (.int p1), .val (.int p2), .val (.int p3), .val (.int p4), .val (.int p5), .val (.int p6), .val (.int (own_c0 p1)), .val (.int (own_c1 p1)), .val (.int (own_la p1)), .val (.int (own_lc p1)), .val (.int (own_lb p1)), .val (.int (own_b0 p1)), .val (.int (own_b1 p1)), .val (.int (own_kd p1)), .val (.int (own_p2 p1 p2 p6)), .val (.int (own_r2 p1 p3 p6)), .val (.int (own_w2 p1 p4 p6)), .unset, .unset, .unset, .unset, .unset, .unset] [])) _
    exact kt)
  have jn36 : ∀ t, Steps p.tables e below (s₁.setTop (mkF m 160 #[.val (.int p1), .val (.int p2), .val (.int p3), .val (.int p4), .val (.int p5), .val (.int p6), .val (.int (own_c0 p1)), .val (.int (own_c1 p1)), .val (.int (own_la p1)), .val (.int (own_lc p1)), .val (.int (own_lb p1)), .val (.int (own_b0 p1)), .val (.int (own_b1 p1)), .val (.int (own_kd p1)), .val (.int (own_p2 p1 p2 p6)), .val (.int (own_r2 p1 p3 p6)), .val (.int (own_w2 p1 p4 p6)), .unset, .unset, .unset, .unset, .unset, .unset] [(.int (own_t2 p1 p5 p6))])) t → Steps p.tables e below (s₁.setTop (mkF m 141 #[.val (.int p1), .val (.int p2), .val (.int p3), .val (.int p4), .val (.int p5), .val (.int p6), .val (.int (own_c0 p1)), .val (.int (own_c1 p1)), .val (.int (own_la p1)), .val (.int (own_lc p1)), .val (.int (own_lb p1)), .val (.int (own_b0 p1)), .val (.int (own_b1 p1)), .val (.int (own_kd p1)), .val (.int (own_p2 p1 p2 p6)), .val (.int (own_r2 p1 p3 p6)), .val (.int (own_w2 p1 p4 p6)), .unset, .unset, .unset, .unset, .unset, .unset] [])) t := by
    intro t0 kt0
    have preR36 : ∀ t, Steps p.tables e below (s₁.setTop (mkF m 141 #[.val (.int p1), .val (.int p2), .val (.int p3), .val (.int p4), .val (.int p5), .val (.int p6), .val (.int (own_c0 p1)), .val (.int (own_c1 p1)), .val (.int (own_la p1)), .val (.int (own_lc p1)), .val (.int (own_lb p1)), .val (.int (own_b0 p1)), .val (.int (own_b1 p1)), .val (.int (own_kd p1)), .val (.int (own_p2 p1 p2 p6)), .val (.int (own_r2 p1 p3 p6)), .val (.int (own_w2 p1 p4 p6)), .unset, .unset, .unset, .unset, .unset, .unset] [])) t → Steps p.tables e below (s₁.setTop (mkF m 141 #[.val (.int p1), .val (.int p2), .val (.int p3), .val (.int p4), .val (.int p5), .val (.int p6), .val (.int (own_c0 p1)), .val (.int (own_c1 p1)), .val (.int (own_la p1)), .val (.int (own_lc p1)), .val (.int (own_lb p1)), .val (.int (own_b0 p1)), .val (.int (own_b1 p1)), .val (.int (own_kd p1)), .val (.int (own_p2 p1 p2 p6)), .val (.int (own_r2 p1 p3 p6)), .val (.int (own_w2 p1 p4 p6)), .unset, .unset, .unset, .unset, .unset, .unset] [])) t := fun t kt => kt
    have pre38 : ∀ t, Steps p.tables e below (s₁.setTop (mkF m 147 #[.val (.int p1), .val (.int p2), .val (.int p3), .val (.int p4), .val (.int p5), .val (.int p6), .val (.int (own_c0 p1)), .val (.int (own_c1 p1)), .val (.int (own_la p1)), .val (.int (own_lc p1)), .val (.int (own_lb p1)), .val (.int (own_b0 p1)), .val (.int (own_b1 p1)), .val (.int (own_kd p1)), .val (.int (own_p2 p1 p2 p6)), .val (.int (own_r2 p1 p3 p6)), .val (.int (own_w2 p1 p4 p6)), .unset, .unset, .unset, .unset, .unset, .unset] [(.int (((p1.toUInt32 >>> ((19 : Int32) &&& 31).toUInt32).toInt32) &&& (1 : Int32)))])) t → Steps p.tables e below (s₁.setTop (mkF m 141 #[.val (.int p1), .val (.int p2), .val (.int p3), .val (.int p4), .val (.int p5), .val (.int p6), .val (.int (own_c0 p1)), .val (.int (own_c1 p1)), .val (.int (own_la p1)), .val (.int (own_lc p1)), .val (.int (own_lb p1)), .val (.int (own_b0 p1)), .val (.int (own_b1 p1)), .val (.int (own_kd p1)), .val (.int (own_p2 p1 p2 p6)), .val (.int (own_r2 p1 p3 p6)), .val (.int (own_w2 p1 p4 p6)), .unset, .unset, .unset, .unset, .unset, .unset] [])) t := fun t kt => preR36 t (by
      show Steps p.tables e below (s₁.setTop (mkF m 141 #[.val (.int p1), .val (.int p2), .val (.int p3), .val (.int p4), .val (.int p5), .val (.int p6), .val (.int (own_c0 p1)), .val (.int (own_c1 p1)), .val (.int (own_la p1)), .val (.int (own_lc p1)), .val (.int (own_lb p1)), .val (.int (own_b0 p1)), .val (.int (own_b1 p1)), .val (.int (own_kd p1)), .val (.int (own_p2 p1 p2 p6)), .val (.int (own_r2 p1 p3 p6)), .val (.int (own_w2 p1 p4 p6)), .unset, .unset, .unset, .unset, .unset, .unset] [])) _
      refine XS.iloadN X0.here hx rfl (hb hby at_141) rfl ?_
      show Steps p.tables e below (s₁.setTop (mkF m 142 #[.val (.int p1), .val (.int p2), .val (.int p3), .val (.int p4), .val (.int p5), .val (.int p6), .val (.int (own_c0 p1)), .val (.int (own_c1 p1)), .val (.int (own_la p1)), .val (.int (own_lc p1)), .val (.int (own_lb p1)), .val (.int (own_b0 p1)), .val (.int (own_b1 p1)), .val (.int (own_kd p1)), .val (.int (own_p2 p1 p2 p6)), .val (.int (own_r2 p1 p3 p6)), .val (.int (own_w2 p1 p4 p6)), .unset, .unset, .unset, .unset, .unset, .unset] [(.int p1)])) _
      refine XS.bipush X0.here hx rfl (hb hby at_142) ?_
      show Steps p.tables e below (s₁.setTop (mkF m 144 #[.val (.int p1), .val (.int p2), .val (.int p3), .val (.int p4), .val (.int p5), .val (.int p6), .val (.int (own_c0 p1)), .val (.int (own_c1 p1)), .val (.int (own_la p1)), .val (.int (own_lc p1)), .val (.int (own_lb p1)), .val (.int (own_b0 p1)), .val (.int (own_b1 p1)), .val (.int (own_kd p1)), .val (.int (own_p2 p1 p2 p6)), .val (.int (own_r2 p1 p3 p6)), .val (.int (own_w2 p1 p4 p6)), .unset, .unset, .unset, .unset, .unset, .unset] [(.int (19 : Int32)), (.int p1)])) _
      refine XS.iushr X0.here hx rfl (hb hby at_144) rfl ?_
      show Steps p.tables e below (s₁.setTop (mkF m 145 #[.val (.int p1), .val (.int p2), .val (.int p3), .val (.int p4), .val (.int p5), .val (.int p6), .val (.int (own_c0 p1)), .val (.int (own_c1 p1)), .val (.int (own_la p1)), .val (.int (own_lc p1)), .val (.int (own_lb p1)), .val (.int (own_b0 p1)), .val (.int (own_b1 p1)), .val (.int (own_kd p1)), .val (.int (own_p2 p1 p2 p6)), .val (.int (own_r2 p1 p3 p6)), .val (.int (own_w2 p1 p4 p6)), .unset, .unset, .unset, .unset, .unset, .unset] [(.int ((p1.toUInt32 >>> ((19 : Int32) &&& 31).toUInt32).toInt32))])) _
      refine XS.iconst X0.here hx rfl (hb hby at_145) ?_
      show Steps p.tables e below (s₁.setTop (mkF m 146 #[.val (.int p1), .val (.int p2), .val (.int p3), .val (.int p4), .val (.int p5), .val (.int p6), .val (.int (own_c0 p1)), .val (.int (own_c1 p1)), .val (.int (own_la p1)), .val (.int (own_lc p1)), .val (.int (own_lb p1)), .val (.int (own_b0 p1)), .val (.int (own_b1 p1)), .val (.int (own_kd p1)), .val (.int (own_p2 p1 p2 p6)), .val (.int (own_r2 p1 p3 p6)), .val (.int (own_w2 p1 p4 p6)), .unset, .unset, .unset, .unset, .unset, .unset] [(.int (1 : Int32)), (.int ((p1.toUInt32 >>> ((19 : Int32) &&& 31).toUInt32).toInt32))])) _
      refine XS.iand X0.here hx rfl (hb hby at_146) rfl ?_
      show Steps p.tables e below (s₁.setTop (mkF m 147 #[.val (.int p1), .val (.int p2), .val (.int p3), .val (.int p4), .val (.int p5), .val (.int p6), .val (.int (own_c0 p1)), .val (.int (own_c1 p1)), .val (.int (own_la p1)), .val (.int (own_lc p1)), .val (.int (own_lb p1)), .val (.int (own_b0 p1)), .val (.int (own_b1 p1)), .val (.int (own_kd p1)), .val (.int (own_p2 p1 p2 p6)), .val (.int (own_r2 p1 p3 p6)), .val (.int (own_w2 p1 p4 p6)), .unset, .unset, .unset, .unset, .unset, .unset] [(.int (((p1.toUInt32 >>> ((19 : Int32) &&& 31).toUInt32).toInt32) &&& (1 : Int32)))])) _
      exact kt)
    by_cases hc147_37 : (((p1.toUInt32 >>> ((19 : Int32) &&& 31).toUInt32).toInt32) &&& (1 : Int32)) = (0 : Int32)
    · have pre39 : ∀ t, Steps p.tables e below (s₁.setTop (mkF m 160 #[.val (.int p1), .val (.int p2), .val (.int p3), .val (.int p4), .val (.int p5), .val (.int p6), .val (.int (own_c0 p1)), .val (.int (own_c1 p1)), .val (.int (own_la p1)), .val (.int (own_lc p1)), .val (.int (own_lb p1)), .val (.int (own_b0 p1)), .val (.int (own_b1 p1)), .val (.int (own_kd p1)), .val (.int (own_p2 p1 p2 p6)), .val (.int (own_r2 p1 p3 p6)), .val (.int (own_w2 p1 p4 p6)), .unset, .unset, .unset, .unset, .unset, .unset] [(.int p5)])) t → Steps p.tables e below (s₁.setTop (mkF m 141 #[.val (.int p1), .val (.int p2), .val (.int p3), .val (.int p4), .val (.int p5), .val (.int p6), .val (.int (own_c0 p1)), .val (.int (own_c1 p1)), .val (.int (own_la p1)), .val (.int (own_lc p1)), .val (.int (own_lb p1)), .val (.int (own_b0 p1)), .val (.int (own_b1 p1)), .val (.int (own_kd p1)), .val (.int (own_p2 p1 p2 p6)), .val (.int (own_r2 p1 p3 p6)), .val (.int (own_w2 p1 p4 p6)), .unset, .unset, .unset, .unset, .unset, .unset] [])) t := fun t kt => pre38 t (by
        show Steps p.tables e below (s₁.setTop (mkF m 147 #[.val (.int p1), .val (.int p2), .val (.int p3), .val (.int p4), .val (.int p5), .val (.int p6), .val (.int (own_c0 p1)), .val (.int (own_c1 p1)), .val (.int (own_la p1)), .val (.int (own_lc p1)), .val (.int (own_lb p1)), .val (.int (own_b0 p1)), .val (.int (own_b1 p1)), .val (.int (own_kd p1)), .val (.int (own_p2 p1 p2 p6)), .val (.int (own_r2 p1 p3 p6)), .val (.int (own_w2 p1 p4 p6)), .unset, .unset, .unset, .unset, .unset, .unset] [(.int (((p1.toUInt32 >>> ((19 : Int32) &&& 31).toUInt32).toInt32) &&& (1 : Int32)))])) _
        refine XS.ifYes X0.here hx rfl (pc0 := 147) (pc' := 158) rfl (hb hby at_147) rfl ((if0 _ _).trans (teq hc147_37).1) (by decide) (by decide) ?_
        show Steps p.tables e below (s₁.setTop (mkF m 158 #[.val (.int p1), .val (.int p2), .val (.int p3), .val (.int p4), .val (.int p5), .val (.int p6), .val (.int (own_c0 p1)), .val (.int (own_c1 p1)), .val (.int (own_la p1)), .val (.int (own_lc p1)), .val (.int (own_lb p1)), .val (.int (own_b0 p1)), .val (.int (own_b1 p1)), .val (.int (own_kd p1)), .val (.int (own_p2 p1 p2 p6)), .val (.int (own_r2 p1 p3 p6)), .val (.int (own_w2 p1 p4 p6)), .unset, .unset, .unset, .unset, .unset, .unset] [])) _
        refine XS.iload X0.here hx rfl (hb hby at_158) rfl ?_
        show Steps p.tables e below (s₁.setTop (mkF m 160 #[.val (.int p1), .val (.int p2), .val (.int p3), .val (.int p4), .val (.int p5), .val (.int p6), .val (.int (own_c0 p1)), .val (.int (own_c1 p1)), .val (.int (own_la p1)), .val (.int (own_lc p1)), .val (.int (own_lb p1)), .val (.int (own_b0 p1)), .val (.int (own_b1 p1)), .val (.int (own_kd p1)), .val (.int (own_p2 p1 p2 p6)), .val (.int (own_r2 p1 p3 p6)), .val (.int (own_w2 p1 p4 p6)), .unset, .unset, .unset, .unset, .unset, .unset] [(.int p5)])) _
        exact kt)
      have qe : own_t2 p1 p5 p6 = p5 := by unfold own_t2; rw [if_pos hc147_37]
      rw [qe] at kt0
      exact pre39 _ kt0
    · have pre40 : ∀ t, Steps p.tables e below (s₁.setTop (mkF m 160 #[.val (.int p1), .val (.int p2), .val (.int p3), .val (.int p4), .val (.int p5), .val (.int p6), .val (.int (own_c0 p1)), .val (.int (own_c1 p1)), .val (.int (own_la p1)), .val (.int (own_lc p1)), .val (.int (own_lb p1)), .val (.int (own_b0 p1)), .val (.int (own_b1 p1)), .val (.int (own_kd p1)), .val (.int (own_p2 p1 p2 p6)), .val (.int (own_r2 p1 p3 p6)), .val (.int (own_w2 p1 p4 p6)), .unset, .unset, .unset, .unset, .unset, .unset] [(.int (p5 + p6))])) t → Steps p.tables e below (s₁.setTop (mkF m 141 #[.val (.int p1), .val (.int p2), .val (.int p3), .val (.int p4), .val (.int p5), .val (.int p6), .val (.int (own_c0 p1)), .val (.int (own_c1 p1)), .val (.int (own_la p1)), .val (.int (own_lc p1)), .val (.int (own_lb p1)), .val (.int (own_b0 p1)), .val (.int (own_b1 p1)), .val (.int (own_kd p1)), .val (.int (own_p2 p1 p2 p6)), .val (.int (own_r2 p1 p3 p6)), .val (.int (own_w2 p1 p4 p6)), .unset, .unset, .unset, .unset, .unset, .unset] [])) t := fun t kt => pre38 t (by
        show Steps p.tables e below (s₁.setTop (mkF m 147 #[.val (.int p1), .val (.int p2), .val (.int p3), .val (.int p4), .val (.int p5), .val (.int p6), .val (.int (own_c0 p1)), .val (.int (own_c1 p1)), .val (.int (own_la p1)), .val (.int (own_lc p1)), .val (.int (own_lb p1)), .val (.int (own_b0 p1)), .val (.int (own_b1 p1)), .val (.int (own_kd p1)), .val (.int (own_p2 p1 p2 p6)), .val (.int (own_r2 p1 p3 p6)), .val (.int (own_w2 p1 p4 p6)), .unset, .unset, .unset, .unset, .unset, .unset] [(.int (((p1.toUInt32 >>> ((19 : Int32) &&& 31).toUInt32).toInt32) &&& (1 : Int32)))])) _
        refine XS.ifNo X0.here hx rfl (hb hby at_147) rfl ((if0 _ _).trans (feq hc147_37).1) ?_
        show Steps p.tables e below (s₁.setTop (mkF m 150 #[.val (.int p1), .val (.int p2), .val (.int p3), .val (.int p4), .val (.int p5), .val (.int p6), .val (.int (own_c0 p1)), .val (.int (own_c1 p1)), .val (.int (own_la p1)), .val (.int (own_lc p1)), .val (.int (own_lb p1)), .val (.int (own_b0 p1)), .val (.int (own_b1 p1)), .val (.int (own_kd p1)), .val (.int (own_p2 p1 p2 p6)), .val (.int (own_r2 p1 p3 p6)), .val (.int (own_w2 p1 p4 p6)), .unset, .unset, .unset, .unset, .unset, .unset] [])) _
        refine XS.iload X0.here hx rfl (hb hby at_150) rfl ?_
        show Steps p.tables e below (s₁.setTop (mkF m 152 #[.val (.int p1), .val (.int p2), .val (.int p3), .val (.int p4), .val (.int p5), .val (.int p6), .val (.int (own_c0 p1)), .val (.int (own_c1 p1)), .val (.int (own_la p1)), .val (.int (own_lc p1)), .val (.int (own_lb p1)), .val (.int (own_b0 p1)), .val (.int (own_b1 p1)), .val (.int (own_kd p1)), .val (.int (own_p2 p1 p2 p6)), .val (.int (own_r2 p1 p3 p6)), .val (.int (own_w2 p1 p4 p6)), .unset, .unset, .unset, .unset, .unset, .unset] [(.int p5)])) _
        refine XS.iload X0.here hx rfl (hb hby at_152) rfl ?_
        show Steps p.tables e below (s₁.setTop (mkF m 154 #[.val (.int p1), .val (.int p2), .val (.int p3), .val (.int p4), .val (.int p5), .val (.int p6), .val (.int (own_c0 p1)), .val (.int (own_c1 p1)), .val (.int (own_la p1)), .val (.int (own_lc p1)), .val (.int (own_lb p1)), .val (.int (own_b0 p1)), .val (.int (own_b1 p1)), .val (.int (own_kd p1)), .val (.int (own_p2 p1 p2 p6)), .val (.int (own_r2 p1 p3 p6)), .val (.int (own_w2 p1 p4 p6)), .unset, .unset, .unset, .unset, .unset, .unset] [(.int p6), (.int p5)])) _
        refine XS.iadd X0.here hx rfl (hb hby at_154) rfl ?_
        show Steps p.tables e below (s₁.setTop (mkF m 155 #[.val (.int p1), .val (.int p2), .val (.int p3), .val (.int p4), .val (.int p5), .val (.int p6), .val (.int (own_c0 p1)), .val (.int (own_c1 p1)), .val (.int (own_la p1)), .val (.int (own_lc p1)), .val (.int (own_lb p1)), .val (.int (own_b0 p1)), .val (.int (own_b1 p1)), .val (.int (own_kd p1)), .val (.int (own_p2 p1 p2 p6)), .val (.int (own_r2 p1 p3 p6)), .val (.int (own_w2 p1 p4 p6)), .unset, .unset, .unset, .unset, .unset, .unset] [(.int (p5 + p6))])) _
        refine XS.goto X0.here hx rfl (pc0 := 155) (pc' := 160) rfl (hb hby at_155) (by decide) (by decide) ?_
        show Steps p.tables e below (s₁.setTop (mkF m 160 #[.val (.int p1), .val (.int p2), .val (.int p3), .val (.int p4), .val (.int p5), .val (.int p6), .val (.int (own_c0 p1)), .val (.int (own_c1 p1)), .val (.int (own_la p1)), .val (.int (own_lc p1)), .val (.int (own_lb p1)), .val (.int (own_b0 p1)), .val (.int (own_b1 p1)), .val (.int (own_kd p1)), .val (.int (own_p2 p1 p2 p6)), .val (.int (own_r2 p1 p3 p6)), .val (.int (own_w2 p1 p4 p6)), .unset, .unset, .unset, .unset, .unset, .unset] [(.int (p5 + p6))])) _
        exact kt)
      have qe : own_t2 p1 p5 p6 = (p5 + p6) := by unfold own_t2; rw [if_neg hc147_37]
      rw [qe] at kt0
      exact pre40 _ kt0
  have pre41 : ∀ t, Steps p.tables e below (s₁.setTop (mkF m 160 #[.val (.int p1), .val (.int p2), .val (.int p3), .val (.int p4), .val (.int p5), .val (.int p6), .val (.int (own_c0 p1)), .val (.int (own_c1 p1)), .val (.int (own_la p1)), .val (.int (own_lc p1)), .val (.int (own_lb p1)), .val (.int (own_b0 p1)), .val (.int (own_b1 p1)), .val (.int (own_kd p1)), .val (.int (own_p2 p1 p2 p6)), .val (.int (own_r2 p1 p3 p6)), .val (.int (own_w2 p1 p4 p6)), .unset, .unset, .unset, .unset, .unset, .unset] [(.int (own_t2 p1 p5 p6))])) t → Steps p.tables e below (s₁.setTop (entryFrame m #[(.int p1), (.int p2), (.int p3), (.int p4), (.int p5), (.int p6)] maxLocals)) t := fun t kt => pre35 t (jn36 t kt)
  obtain ⟨_, _, ⟨T42, L42, k42, n42⟩, -, X42, hS42q, hgr42, ⟨Lc42, hQ42, l42, y42, z42⟩, st42⟩ := callSS X0 hx (y := (⟨"com/example/bowerbird/bowerbird/protocol/QueueDataEqualsPinLaw", "name", "(ICC)Ljava/lang/String;"⟩ : MethodName)) hown (mvT hZ (hw _ (List.mem_of_getElem? (i := 0) rfl))) (mvT hZ (hw _ (List.mem_of_getElem? (i := 1) rfl))) (mvT hZ (hw _ (List.mem_of_getElem? (i := 2) rfl))) (mvT hZ (hw _ (List.mem_of_getElem? (i := 3) rfl))) (by decide) (own_backE (W := 0) (rm1 l Z a0 hw [] (own_la p1) (own_c0 p1) (own_c1 p1) st_COMPACT_STRINGS h0 n0 Z0 S_COMPACT_STRINGS hCH hCW (show ¬ ((own_c0 p1) < (0 : Int32)) from (own_in_c0 p1).1) (show ¬ ((255 : Int32) < (own_c0 p1)) from (own_in_c0 p1).2) (show ¬ ((own_c1 p1) < (0 : Int32)) from (own_in_c1 p1).1) (show ¬ ((255 : Int32) < (own_c1 p1)) from (own_in_c1 p1).2) hq168_3) hZ hE (hw _ (List.mem_of_getElem? (i := 3) rfl)) (hw _ (List.mem_of_getElem? (i := 2) rfl)) (by decide) (by decide)) (g := (mkF m 168 #[.val (.int p1), .val (.int p2), .val (.int p3), .val (.int p4), .val (.int p5), .val (.int p6), .val (.int (own_c0 p1)), .val (.int (own_c1 p1)), .val (.int (own_la p1)), .val (.int (own_lc p1)), .val (.int (own_lb p1)), .val (.int (own_b0 p1)), .val (.int (own_b1 p1)), .val (.int (own_kd p1)), .val (.int (own_p2 p1 p2 p6)), .val (.int (own_r2 p1 p3 p6)), .val (.int (own_w2 p1 p4 p6)), .val (.int (own_t2 p1 p5 p6)), .unset, .unset, .unset, .unset, .unset] [(.int (own_c1 p1)), (.int (own_c0 p1)), (.int (own_la p1))])) rfl (by rw [hml]; rfl) (argsL := [(.int (own_la p1)), (.int (own_c0 p1)), (.int (own_c1 p1))]) (rest := []) (lenOf pd_5 rfl) rfl (by show 2 * 0 + _ ≤ _; exact Nat.le_of_eq rfl) (hb hby at_168) (fun _ _ => ⟨rfl, e0, (by decide : 0 + 4 ≤ _), (by decide : 0 + 8 ≤ _)⟩)
  dsimp only [Pt.U, Pt.locs, Pt.cells, Pt.slots] at X42 l42 y42 z42 st42 hQ42 hS42q hgr42
  subst l42 y42 z42
  have X42w := X42
  have hS42 := hS42q
  have hZ42 : Z.Warmed39 (s.setVm T42.vm).vm := State.Warmed39.trans hZ hS42.1
  have hown42 : (s.setVm T42.vm).vm.findClass "com/example/bowerbird/bowerbird/protocol/QueueDataEqualsPinLaw" = some m.cls := (hS42.1.alike.findClass _ _).trans hown
  obtain ⟨⟨x42_0, rfl, N42q, K42q, f42_0⟩, hE42⟩ := hQ42
  have y43 := (own_StaKeep S_COMPACT_STRINGS K42q all0)
  have K42 : Keep h0 T42.heap [] := ((Keep.refl h0 [])).trans K42q all0
  have Z42 : n0 ≤ T42.heap.size := Nat.le_trans Z0 K42q.1
  have N42 := Fr.app N0 N42q
  obtain ⟨_, _, ⟨T44, L44, k44, n44⟩, -, X44, hS44q, hgr44, ⟨Lc44, hQ44, l44, y44, z44⟩, st44⟩ := callSS X42w hx (y := (⟨"com/example/bowerbird/bowerbird/protocol/QueueDataEqualsPinLaw", "name", "(ICC)Ljava/lang/String;"⟩ : MethodName)) hown42 (mvT hZ42 (hw _ (List.mem_of_getElem? (i := 0) rfl))) (mvT hZ42 (hw _ (List.mem_of_getElem? (i := 1) rfl))) (mvT hZ42 (hw _ (List.mem_of_getElem? (i := 2) rfl))) (mvT hZ42 (hw _ (List.mem_of_getElem? (i := 3) rfl))) (by decide) (own_backE (W := 0) (rm1 l Z a0 hw [] (own_lb p1) (own_b0 p1) (own_b1 p1) st_COMPACT_STRINGS T42.heap n0 Z42 y43 hCH hCW (show ¬ ((own_b0 p1) < (0 : Int32)) from (own_in_b0 p1).1) (show ¬ ((255 : Int32) < (own_b0 p1)) from (own_in_b0 p1).2) (show ¬ ((own_b1 p1) < (0 : Int32)) from (own_in_b1 p1).1) (show ¬ ((255 : Int32) < (own_b1 p1)) from (own_in_b1 p1).2) hq168_3) hZ42 hE42 (hw _ (List.mem_of_getElem? (i := 3) rfl)) (hw _ (List.mem_of_getElem? (i := 2) rfl)) (by decide) (by decide)) (g := (mkF m 179 #[.val (.int p1), .val (.int p2), .val (.int p3), .val (.int p4), .val (.int p5), .val (.int p6), .val (.int (own_c0 p1)), .val (.int (own_c1 p1)), .val (.int (own_la p1)), .val (.int (own_lc p1)), .val (.int (own_lb p1)), .val (.int (own_b0 p1)), .val (.int (own_b1 p1)), .val (.int (own_kd p1)), .val (.int (own_p2 p1 p2 p6)), .val (.int (own_r2 p1 p3 p6)), .val (.int (own_w2 p1 p4 p6)), .val (.int (own_t2 p1 p5 p6)), .val (.ref x42_0), .unset, .unset, .unset, .unset] [(.int (own_b1 p1)), (.int (own_b0 p1)), (.int (own_lb p1))])) rfl (by rw [hml]; rfl) (argsL := [(.int (own_lb p1)), (.int (own_b0 p1)), (.int (own_b1 p1))]) (rest := []) (lenOf pd_5 rfl) rfl (by show 2 * 0 + _ ≤ _; exact Nat.le_of_eq rfl) (hb hby at_179) (fun _ _ => ⟨rfl, rfl, (by decide : 4 + 4 ≤ _), (by decide : 8 + 8 ≤ _)⟩)
  dsimp only [Pt.U, Pt.locs, Pt.cells, Pt.slots] at X44 l44 y44 z44 st44 hQ44 hS44q hgr44
  subst l44 y44 z44
  obtain ⟨X44w, hS44, hZ44, hown44⟩ := rebS hS42 (Nat.le_refl _) X44 hS44q hgr44 hZ42 hown42
  obtain ⟨⟨x44_0, rfl, N44q, K44q, f44_0⟩, hE44⟩ := hQ44
  have y45 := (own_Str.keep (a0 := a0) f42_0 K44q all0)
  have K44 : Keep h0 T44.heap [] := (K42).trans K44q all0
  have Z44 : n0 ≤ T44.heap.size := Nat.le_trans Z42 K44q.1
  have N44 := Fr.app N42 N44q
  obtain ⟨T46, h46, X46, e46, E46, A46, D46, -, st46⟩ := newO X44w hx hZ44 hown44 (hw _ (List.mem_of_getElem? (i := 26) rfl)) (hw _ (List.mem_of_getElem? (i := 27) rfl)) (hw _ (List.mem_of_getElem? (i := 28) rfl)) rfl (g := (mkF m 184 #[.val (.int p1), .val (.int p2), .val (.int p3), .val (.int p4), .val (.int p5), .val (.int p6), .val (.int (own_c0 p1)), .val (.int (own_c1 p1)), .val (.int (own_la p1)), .val (.int (own_lc p1)), .val (.int (own_lb p1)), .val (.int (own_b0 p1)), .val (.int (own_b1 p1)), .val (.int (own_kd p1)), .val (.int (own_p2 p1 p2 p6)), .val (.int (own_r2 p1 p3 p6)), .val (.int (own_w2 p1 p4 p6)), .val (.int (own_t2 p1 p5 p6)), .val (.ref x42_0), .val (.ref x44_0), .unset, .unset, .unset] [])) rfl (hb hby at_184) (by decide) (by decide)
  obtain ⟨b46, g46⟩ : ∃ z, z = T44.heap.size := ⟨_, rfl⟩
  rw [← g46] at A46 D46 st46
  have ne_x42_0_b46 : x42_0 ≠ b46 := Nat.ne_of_lt (Nat.lt_of_lt_of_le y45.lt (Nat.le_of_eq g46.symm))
  have ne_x44_0_b46 : x44_0 ≠ b46 := Nat.ne_of_lt (Nat.lt_of_lt_of_le f44_0.lt (Nat.le_of_eq g46.symm))
  have g_b46 : n0 ≤ b46 := Nat.le_trans Z44 (Nat.le_of_eq g46.symm)
  have sz_b46 : h0.size ≤ b46 := Nat.le_trans (K44).1 (Nat.le_of_eq g46.symm)
  have K46 : Keep h0 h46 [] := (K44).ext E46
  have Z46 : n0 ≤ h46.size := Nat.le_trans Z44 E46.1
  have F_brokerName_b46 : Fld Z h46 b46 "com/example/bowerbird/bowerbird/protocol/QueueData" "brokerName" "Ljava/lang/String;" .null := D46 (Or.inr (hw _ (List.mem_of_getElem? (i := 44) rfl))) (ty := (.object "java/lang/String")) (by decide)
  have F_perm_b46 : Fld Z h46 b46 "com/example/bowerbird/bowerbird/protocol/QueueData" "perm" "I" (.int (0 : Int32)) := D46 (Or.inr (hw _ (List.mem_of_getElem? (i := 46) rfl))) (ty := .int) (by decide)
  have F_readQueueNums_b46 : Fld Z h46 b46 "com/example/bowerbird/bowerbird/protocol/QueueData" "readQueueNums" "I" (.int (0 : Int32)) := D46 (Or.inr (hw _ (List.mem_of_getElem? (i := 48) rfl))) (ty := .int) (by decide)
  have F_writeQueueNums_b46 : Fld Z h46 b46 "com/example/bowerbird/bowerbird/protocol/QueueData" "writeQueueNums" "I" (.int (0 : Int32)) := D46 (Or.inr (hw _ (List.mem_of_getElem? (i := 50) rfl))) (ty := .int) (by decide)
  have F_topicSynFlag_b46 : Fld Z h46 b46 "com/example/bowerbird/bowerbird/protocol/QueueData" "topicSynFlag" "I" (.int (0 : Int32)) := D46 (Or.inr (hw _ (List.mem_of_getElem? (i := 52) rfl))) (ty := .int) (by decide)
  obtain ⟨_, _, ⟨T47, L47, k47, n47⟩, -, X47, hS47q, hgr47, ⟨Lc47, hQ47, l47, y47, z47⟩, st47⟩ := X46.specialBackS hx (y := (⟨"com/example/bowerbird/bowerbird/protocol/QueueData", "<init>", "(Ljava/lang/String;IIII)V"⟩ : MethodName)) rfl hown44 (mvT hZ44 (hw _ (List.mem_of_getElem? (i := 29) rfl))) (mvT hZ44 (hw _ (List.mem_of_getElem? (i := 30) rfl))) (mvT hZ44 (hw _ (List.mem_of_getElem? (i := 31) rfl))) (by decide) (backOfS (W := 1) (rm5 l Z a0 hw [] b46 x42_0 p2 p3 p4 p5 (0 : Int32) (0 : Int32) (0 : Int32) (0 : Int32) h46 n0 Z46 A46 F_brokerName_b46 F_perm_b46 F_readQueueNums_b46 F_writeQueueNums_b46 F_topicSynFlag_b46 g_b46) hZ44 (hw _ (List.mem_of_getElem? (i := 31) rfl)) (hw _ (List.mem_of_getElem? (i := 28) rfl)) (by decide) (by decide)) (g := (mkF m 195 #[.val (.int p1), .val (.int p2), .val (.int p3), .val (.int p4), .val (.int p5), .val (.int p6), .val (.int (own_c0 p1)), .val (.int (own_c1 p1)), .val (.int (own_la p1)), .val (.int (own_lc p1)), .val (.int (own_lb p1)), .val (.int (own_b0 p1)), .val (.int (own_b1 p1)), .val (.int (own_kd p1)), .val (.int (own_p2 p1 p2 p6)), .val (.int (own_r2 p1 p3 p6)), .val (.int (own_w2 p1 p4 p6)), .val (.int (own_t2 p1 p5 p6)), .val (.ref x42_0), .val (.ref x44_0), .unset, .unset, .unset] [(.int p5), (.int p4), (.int p3), (.int p2), (.ref x42_0), (.ref b46), (.ref b46)])) rfl (by rw [hml]; rfl) (Steps.refl _) (a := b46) (argsL := [(.ref x42_0), (.int p2), (.int p3), (.int p4), (.int p5)]) (rest := [(.ref b46)]) (lenOf pd_6 rfl) rfl (by show 2 * 0 + _ ≤ _; exact Nat.le_of_eq rfl) (hb hby at_195) (fun _ _ => ⟨rfl, e46, (by decide : 9 + 2 ≤ _), (by decide : 21 + 44 ≤ _)⟩)
  dsimp only [Pt.U, Pt.locs, Pt.cells, Pt.slots] at X47 l47 y47 z47 st47 hQ47 hS47q hgr47
  subst l47 y47 z47
  obtain ⟨X47w, hS47, hZ47, hown47⟩ := rebS hS44 (by rw [e46]; exact (Nat.le_trans (Nat.le_refl _) E46.1)) X47 hS47q hgr47 hZ44 hown44
  obtain ⟨rfl, N47q, K47q, f47_0, f47_1, f47_2, f47_3, f47_4, f47_5⟩ := hQ47
  have y48 := (own_StaKeep ((own_StaKeep y43 K44q all0).ext E46) K47q (allS (P := fun x => ∃ D, Exa Z h46 x D) ⟨_, A46⟩ all0))
  have y49 := (own_Str.keep (a0 := a0) (y45.ext E46) K47q (allS (P := fun x => ∃ C n, Exa Z h46 x C ∧ C ≠ "java/lang/String" ∧ (Jvm.Cond.instantiable C n).before a0 Z = true) ⟨_, _, A46, by decide, (hw _ (List.mem_of_getElem? (i := 27) rfl))⟩ all0))
  have y50 := (own_Str.keep (a0 := a0) (f44_0.ext E46) K47q (allS (P := fun x => ∃ C n, Exa Z h46 x C ∧ C ≠ "java/lang/String" ∧ (Jvm.Cond.instantiable C n).before a0 Z = true) ⟨_, _, A46, by decide, (hw _ (List.mem_of_getElem? (i := 27) rfl))⟩ all0))
  have K47 : Keep h0 T47.heap [] := (K46).trans K47q (allS (P := fun x => x ∈ [] ∨ h0.size ≤ x) (Or.inr sz_b46) all0)
  have Z47 : n0 ≤ T47.heap.size := Nat.le_trans Z46 K47q.1
  have N47 := Fr.app N44 N47q
  have pre52 : ∀ t, Steps p.tables e below (T47.setTop (mkF m 203 #[.val (.int p1), .val (.int p2), .val (.int p3), .val (.int p4), .val (.int p5), .val (.int p6), .val (.int (own_c0 p1)), .val (.int (own_c1 p1)), .val (.int (own_la p1)), .val (.int (own_lc p1)), .val (.int (own_lb p1)), .val (.int (own_b0 p1)), .val (.int (own_b1 p1)), .val (.int (own_kd p1)), .val (.int (own_p2 p1 p2 p6)), .val (.int (own_r2 p1 p3 p6)), .val (.int (own_w2 p1 p4 p6)), .val (.int (own_t2 p1 p5 p6)), .val (.ref x42_0), .val (.ref x44_0), .val (.ref b46), .unset, .unset] [(.int (1 : Int32)), (.int (own_kd p1))])) t → Steps p.tables e below (s₁.setTop (entryFrame m #[(.int p1), (.int p2), (.int p3), (.int p4), (.int p5), (.int p6)] maxLocals)) t := fun t kt => pre41 t (by
    show Steps p.tables e below (s₁.setTop (mkF m 160 #[.val (.int p1), .val (.int p2), .val (.int p3), .val (.int p4), .val (.int p5), .val (.int p6), .val (.int (own_c0 p1)), .val (.int (own_c1 p1)), .val (.int (own_la p1)), .val (.int (own_lc p1)), .val (.int (own_lb p1)), .val (.int (own_b0 p1)), .val (.int (own_b1 p1)), .val (.int (own_kd p1)), .val (.int (own_p2 p1 p2 p6)), .val (.int (own_r2 p1 p3 p6)), .val (.int (own_w2 p1 p4 p6)), .unset, .unset, .unset, .unset, .unset, .unset] [(.int (own_t2 p1 p5 p6))])) _
    refine XS.istore X0.here hx rfl (hb hby at_160) rfl (l' := #[.val (.int p1), .val (.int p2), .val (.int p3), .val (.int p4), .val (.int p5), .val (.int p6), .val (.int (own_c0 p1)), .val (.int (own_c1 p1)), .val (.int (own_la p1)), .val (.int (own_lc p1)), .val (.int (own_lb p1)), .val (.int (own_b0 p1)), .val (.int (own_b1 p1)), .val (.int (own_kd p1)), .val (.int (own_p2 p1 p2 p6)), .val (.int (own_r2 p1 p3 p6)), .val (.int (own_w2 p1 p4 p6)), .val (.int (own_t2 p1 p5 p6)), .unset, .unset, .unset, .unset, .unset]) rfl ?_
    show Steps p.tables e below (s₁.setTop (mkF m 162 #[.val (.int p1), .val (.int p2), .val (.int p3), .val (.int p4), .val (.int p5), .val (.int p6), .val (.int (own_c0 p1)), .val (.int (own_c1 p1)), .val (.int (own_la p1)), .val (.int (own_lc p1)), .val (.int (own_lb p1)), .val (.int (own_b0 p1)), .val (.int (own_b1 p1)), .val (.int (own_kd p1)), .val (.int (own_p2 p1 p2 p6)), .val (.int (own_r2 p1 p3 p6)), .val (.int (own_w2 p1 p4 p6)), .val (.int (own_t2 p1 p5 p6)), .unset, .unset, .unset, .unset, .unset] [])) _
    refine XS.iload X0.here hx rfl (hb hby at_162) rfl ?_
    show Steps p.tables e below (s₁.setTop (mkF m 164 #[.val (.int p1), .val (.int p2), .val (.int p3), .val (.int p4), .val (.int p5), .val (.int p6), .val (.int (own_c0 p1)), .val (.int (own_c1 p1)), .val (.int (own_la p1)), .val (.int (own_lc p1)), .val (.int (own_lb p1)), .val (.int (own_b0 p1)), .val (.int (own_b1 p1)), .val (.int (own_kd p1)), .val (.int (own_p2 p1 p2 p6)), .val (.int (own_r2 p1 p3 p6)), .val (.int (own_w2 p1 p4 p6)), .val (.int (own_t2 p1 p5 p6)), .unset, .unset, .unset, .unset, .unset] [(.int (own_la p1))])) _
    refine XS.iload X0.here hx rfl (hb hby at_164) rfl ?_
    show Steps p.tables e below (s₁.setTop (mkF m 166 #[.val (.int p1), .val (.int p2), .val (.int p3), .val (.int p4), .val (.int p5), .val (.int p6), .val (.int (own_c0 p1)), .val (.int (own_c1 p1)), .val (.int (own_la p1)), .val (.int (own_lc p1)), .val (.int (own_lb p1)), .val (.int (own_b0 p1)), .val (.int (own_b1 p1)), .val (.int (own_kd p1)), .val (.int (own_p2 p1 p2 p6)), .val (.int (own_r2 p1 p3 p6)), .val (.int (own_w2 p1 p4 p6)), .val (.int (own_t2 p1 p5 p6)), .unset, .unset, .unset, .unset, .unset] [(.int (own_c0 p1)), (.int (own_la p1))])) _
    refine XS.iload X0.here hx rfl (hb hby at_166) rfl ?_
    show Steps p.tables e below (s₁.setTop (mkF m 168 #[.val (.int p1), .val (.int p2), .val (.int p3), .val (.int p4), .val (.int p5), .val (.int p6), .val (.int (own_c0 p1)), .val (.int (own_c1 p1)), .val (.int (own_la p1)), .val (.int (own_lc p1)), .val (.int (own_lb p1)), .val (.int (own_b0 p1)), .val (.int (own_b1 p1)), .val (.int (own_kd p1)), .val (.int (own_p2 p1 p2 p6)), .val (.int (own_r2 p1 p3 p6)), .val (.int (own_w2 p1 p4 p6)), .val (.int (own_t2 p1 p5 p6)), .unset, .unset, .unset, .unset, .unset] [(.int (own_c1 p1)), (.int (own_c0 p1)), (.int (own_la p1))])) _
    refine st42.trans ?_
    show Steps p.tables e below (T42.setTop (mkF m 171 #[.val (.int p1), .val (.int p2), .val (.int p3), .val (.int p4), .val (.int p5), .val (.int p6), .val (.int (own_c0 p1)), .val (.int (own_c1 p1)), .val (.int (own_la p1)), .val (.int (own_lc p1)), .val (.int (own_lb p1)), .val (.int (own_b0 p1)), .val (.int (own_b1 p1)), .val (.int (own_kd p1)), .val (.int (own_p2 p1 p2 p6)), .val (.int (own_r2 p1 p3 p6)), .val (.int (own_w2 p1 p4 p6)), .val (.int (own_t2 p1 p5 p6)), .unset, .unset, .unset, .unset, .unset] [(.ref x42_0)])) _
    refine XS.astore X42w.here hx rfl (hb hby at_171) rfl rfl (l' := #[.val (.int p1), .val (.int p2), .val (.int p3), .val (.int p4), .val (.int p5), .val (.int p6), .val (.int (own_c0 p1)), .val (.int (own_c1 p1)), .val (.int (own_la p1)), .val (.int (own_lc p1)), .val (.int (own_lb p1)), .val (.int (own_b0 p1)), .val (.int (own_b1 p1)), .val (.int (own_kd p1)), .val (.int (own_p2 p1 p2 p6)), .val (.int (own_r2 p1 p3 p6)), .val (.int (own_w2 p1 p4 p6)), .val (.int (own_t2 p1 p5 p6)), .val (.ref x42_0), .unset, .unset, .unset, .unset]) rfl ?_
    show Steps p.tables e below (T42.setTop (mkF m 173 #[.val (.int p1), .val (.int p2), .val (.int p3), .val (.int p4), .val (.int p5), .val (.int p6), .val (.int (own_c0 p1)), .val (.int (own_c1 p1)), .val (.int (own_la p1)), .val (.int (own_lc p1)), .val (.int (own_lb p1)), .val (.int (own_b0 p1)), .val (.int (own_b1 p1)), .val (.int (own_kd p1)), .val (.int (own_p2 p1 p2 p6)), .val (.int (own_r2 p1 p3 p6)), .val (.int (own_w2 p1 p4 p6)), .val (.int (own_t2 p1 p5 p6)), .val (.ref x42_0), .unset, .unset, .unset, .unset] [])) _
    refine XS.iload X42w.here hx rfl (hb hby at_173) rfl ?_
    show Steps p.tables e below (T42.setTop (mkF m 175 #[.val (.int p1), .val (.int p2), .val (.int p3), .val (.int p4), .val (.int p5), .val (.int p6), .val (.int (own_c0 p1)), .val (.int (own_c1 p1)), .val (.int (own_la p1)), .val (.int (own_lc p1)), .val (.int (own_lb p1)), .val (.int (own_b0 p1)), .val (.int (own_b1 p1)), .val (.int (own_kd p1)), .val (.int (own_p2 p1 p2 p6)), .val (.int (own_r2 p1 p3 p6)), .val (.int (own_w2 p1 p4 p6)), .val (.int (own_t2 p1 p5 p6)), .val (.ref x42_0), .unset, .unset, .unset, .unset] [(.int (own_lb p1))])) _
    refine XS.iload X42w.here hx rfl (hb hby at_175) rfl ?_
    show Steps p.tables e below (T42.setTop (mkF m 177 #[.val (.int p1), .val (.int p2), .val (.int p3), .val (.int p4), .val (.int p5), .val (.int p6), .val (.int (own_c0 p1)), .val (.int (own_c1 p1)), .val (.int (own_la p1)), .val (.int (own_lc p1)), .val (.int (own_lb p1)), .val (.int (own_b0 p1)), .val (.int (own_b1 p1)), .val (.int (own_kd p1)), .val (.int (own_p2 p1 p2 p6)), .val (.int (own_r2 p1 p3 p6)), .val (.int (own_w2 p1 p4 p6)), .val (.int (own_t2 p1 p5 p6)), .val (.ref x42_0), .unset, .unset, .unset, .unset] [(.int (own_b0 p1)), (.int (own_lb p1))])) _
    refine XS.iload X42w.here hx rfl (hb hby at_177) rfl ?_
    show Steps p.tables e below (T42.setTop (mkF m 179 #[.val (.int p1), .val (.int p2), .val (.int p3), .val (.int p4), .val (.int p5), .val (.int p6), .val (.int (own_c0 p1)), .val (.int (own_c1 p1)), .val (.int (own_la p1)), .val (.int (own_lc p1)), .val (.int (own_lb p1)), .val (.int (own_b0 p1)), .val (.int (own_b1 p1)), .val (.int (own_kd p1)), .val (.int (own_p2 p1 p2 p6)), .val (.int (own_r2 p1 p3 p6)), .val (.int (own_w2 p1 p4 p6)), .val (.int (own_t2 p1 p5 p6)), .val (.ref x42_0), .unset, .unset, .unset, .unset] [(.int (own_b1 p1)), (.int (own_b0 p1)), (.int (own_lb p1))])) _
    refine st44.trans ?_
    show Steps p.tables e below (T44.setTop (mkF m 182 #[.val (.int p1), .val (.int p2), .val (.int p3), .val (.int p4), .val (.int p5), .val (.int p6), .val (.int (own_c0 p1)), .val (.int (own_c1 p1)), .val (.int (own_la p1)), .val (.int (own_lc p1)), .val (.int (own_lb p1)), .val (.int (own_b0 p1)), .val (.int (own_b1 p1)), .val (.int (own_kd p1)), .val (.int (own_p2 p1 p2 p6)), .val (.int (own_r2 p1 p3 p6)), .val (.int (own_w2 p1 p4 p6)), .val (.int (own_t2 p1 p5 p6)), .val (.ref x42_0), .unset, .unset, .unset, .unset] [(.ref x44_0)])) _
    refine XS.astore X44w.here hx rfl (hb hby at_182) rfl rfl (l' := #[.val (.int p1), .val (.int p2), .val (.int p3), .val (.int p4), .val (.int p5), .val (.int p6), .val (.int (own_c0 p1)), .val (.int (own_c1 p1)), .val (.int (own_la p1)), .val (.int (own_lc p1)), .val (.int (own_lb p1)), .val (.int (own_b0 p1)), .val (.int (own_b1 p1)), .val (.int (own_kd p1)), .val (.int (own_p2 p1 p2 p6)), .val (.int (own_r2 p1 p3 p6)), .val (.int (own_w2 p1 p4 p6)), .val (.int (own_t2 p1 p5 p6)), .val (.ref x42_0), .val (.ref x44_0), .unset, .unset, .unset]) rfl ?_
    show Steps p.tables e below (T44.setTop (mkF m 184 #[.val (.int p1), .val (.int p2), .val (.int p3), .val (.int p4), .val (.int p5), .val (.int p6), .val (.int (own_c0 p1)), .val (.int (own_c1 p1)), .val (.int (own_la p1)), .val (.int (own_lc p1)), .val (.int (own_lb p1)), .val (.int (own_b0 p1)), .val (.int (own_b1 p1)), .val (.int (own_kd p1)), .val (.int (own_p2 p1 p2 p6)), .val (.int (own_r2 p1 p3 p6)), .val (.int (own_w2 p1 p4 p6)), .val (.int (own_t2 p1 p5 p6)), .val (.ref x42_0), .val (.ref x44_0), .unset, .unset, .unset] [])) _
    refine st46 _ ?_
    show Steps p.tables e below (T46.setTop (mkF m 187 #[.val (.int p1), .val (.int p2), .val (.int p3), .val (.int p4), .val (.int p5), .val (.int p6), .val (.int (own_c0 p1)), .val (.int (own_c1 p1)), .val (.int (own_la p1)), .val (.int (own_lc p1)), .val (.int (own_lb p1)), .val (.int (own_b0 p1)), .val (.int (own_b1 p1)), .val (.int (own_kd p1)), .val (.int (own_p2 p1 p2 p6)), .val (.int (own_r2 p1 p3 p6)), .val (.int (own_w2 p1 p4 p6)), .val (.int (own_t2 p1 p5 p6)), .val (.ref x42_0), .val (.ref x44_0), .unset, .unset, .unset] [(.ref b46)])) _
    refine XS.dup X46.here hx rfl (hb hby at_187) rfl rfl ?_
    show Steps p.tables e below (T46.setTop (mkF m 188 #[.val (.int p1), .val (.int p2), .val (.int p3), .val (.int p4), .val (.int p5), .val (.int p6), .val (.int (own_c0 p1)), .val (.int (own_c1 p1)), .val (.int (own_la p1)), .val (.int (own_lc p1)), .val (.int (own_lb p1)), .val (.int (own_b0 p1)), .val (.int (own_b1 p1)), .val (.int (own_kd p1)), .val (.int (own_p2 p1 p2 p6)), .val (.int (own_r2 p1 p3 p6)), .val (.int (own_w2 p1 p4 p6)), .val (.int (own_t2 p1 p5 p6)), .val (.ref x42_0), .val (.ref x44_0), .unset, .unset, .unset] [(.ref b46), (.ref b46)])) _
    refine XS.aload X46.here hx rfl (hb hby at_188) rfl rfl ?_
    show Steps p.tables e below (T46.setTop (mkF m 190 #[.val (.int p1), .val (.int p2), .val (.int p3), .val (.int p4), .val (.int p5), .val (.int p6), .val (.int (own_c0 p1)), .val (.int (own_c1 p1)), .val (.int (own_la p1)), .val (.int (own_lc p1)), .val (.int (own_lb p1)), .val (.int (own_b0 p1)), .val (.int (own_b1 p1)), .val (.int (own_kd p1)), .val (.int (own_p2 p1 p2 p6)), .val (.int (own_r2 p1 p3 p6)), .val (.int (own_w2 p1 p4 p6)), .val (.int (own_t2 p1 p5 p6)), .val (.ref x42_0), .val (.ref x44_0), .unset, .unset, .unset] [(.ref x42_0), (.ref b46), (.ref b46)])) _
    refine XS.iloadN X46.here hx rfl (hb hby at_190) rfl ?_
    show Steps p.tables e below (T46.setTop (mkF m 191 #[.val (.int p1), .val (.int p2), .val (.int p3), .val (.int p4), .val (.int p5), .val (.int p6), .val (.int (own_c0 p1)), .val (.int (own_c1 p1)), .val (.int (own_la p1)), .val (.int (own_lc p1)), .val (.int (own_lb p1)), .val (.int (own_b0 p1)), .val (.int (own_b1 p1)), .val (.int (own_kd p1)), .val (.int (own_p2 p1 p2 p6)), .val (.int (own_r2 p1 p3 p6)), .val (.int (own_w2 p1 p4 p6)), .val (.int (own_t2 p1 p5 p6)), .val (.ref x42_0), .val (.ref x44_0), .unset, .unset, .unset] [(.int p2), (.ref x42_0), (.ref b46), (.ref b46)])) _
    refine XS.iloadN X46.here hx rfl (hb hby at_191) rfl ?_
    show Steps p.tables e below (T46.setTop (mkF m 192 #[.val (.int p1), .val (.int p2), .val (.int p3), .val (.int p4), .val (.int p5), .val (.int p6), .val (.int (own_c0 p1)), .val (.int (own_c1 p1)), .val (.int (own_la p1)), .val (.int (own_lc p1)), .val (.int (own_lb p1)), .val (.int (own_b0 p1)), .val (.int (own_b1 p1)), .val (.int (own_kd p1)), .val (.int (own_p2 p1 p2 p6)), .val (.int (own_r2 p1 p3 p6)), .val (.int (own_w2 p1 p4 p6)), .val (.int (own_t2 p1 p5 p6)), .val (.ref x42_0), .val (.ref x44_0), .unset, .unset, .unset] [(.int p3), (.int p2), (.ref x42_0), (.ref b46), (.ref b46)])) _
    refine XS.iloadN X46.here hx rfl (hb hby at_192) rfl ?_
    show Steps p.tables e below (T46.setTop (mkF m 193 #[.val (.int p1), .val (.int p2), .val (.int p3), .val (.int p4), .val (.int p5), .val (.int p6), .val (.int (own_c0 p1)), .val (.int (own_c1 p1)), .val (.int (own_la p1)), .val (.int (own_lc p1)), .val (.int (own_lb p1)), .val (.int (own_b0 p1)), .val (.int (own_b1 p1)), .val (.int (own_kd p1)), .val (.int (own_p2 p1 p2 p6)), .val (.int (own_r2 p1 p3 p6)), .val (.int (own_w2 p1 p4 p6)), .val (.int (own_t2 p1 p5 p6)), .val (.ref x42_0), .val (.ref x44_0), .unset, .unset, .unset] [(.int p4), (.int p3), (.int p2), (.ref x42_0), (.ref b46), (.ref b46)])) _
    refine XS.iload X46.here hx rfl (hb hby at_193) rfl ?_
    show Steps p.tables e below (T46.setTop (mkF m 195 #[.val (.int p1), .val (.int p2), .val (.int p3), .val (.int p4), .val (.int p5), .val (.int p6), .val (.int (own_c0 p1)), .val (.int (own_c1 p1)), .val (.int (own_la p1)), .val (.int (own_lc p1)), .val (.int (own_lb p1)), .val (.int (own_b0 p1)), .val (.int (own_b1 p1)), .val (.int (own_kd p1)), .val (.int (own_p2 p1 p2 p6)), .val (.int (own_r2 p1 p3 p6)), .val (.int (own_w2 p1 p4 p6)), .val (.int (own_t2 p1 p5 p6)), .val (.ref x42_0), .val (.ref x44_0), .unset, .unset, .unset] [(.int p5), (.int p4), (.int p3), (.int p2), (.ref x42_0), (.ref b46), (.ref b46)])) _
    refine st47.trans ?_
    show Steps p.tables e below (T47.setTop (mkF m 198 #[.val (.int p1), .val (.int p2), .val (.int p3), .val (.int p4), .val (.int p5), .val (.int p6), .val (.int (own_c0 p1)), .val (.int (own_c1 p1)), .val (.int (own_la p1)), .val (.int (own_lc p1)), .val (.int (own_lb p1)), .val (.int (own_b0 p1)), .val (.int (own_b1 p1)), .val (.int (own_kd p1)), .val (.int (own_p2 p1 p2 p6)), .val (.int (own_r2 p1 p3 p6)), .val (.int (own_w2 p1 p4 p6)), .val (.int (own_t2 p1 p5 p6)), .val (.ref x42_0), .val (.ref x44_0), .unset, .unset, .unset] [(.ref b46)])) _
    refine XS.astore X47w.here hx rfl (hb hby at_198) rfl rfl (l' := #[.val (.int p1), .val (.int p2), .val (.int p3), .val (.int p4), .val (.int p5), .val (.int p6), .val (.int (own_c0 p1)), .val (.int (own_c1 p1)), .val (.int (own_la p1)), .val (.int (own_lc p1)), .val (.int (own_lb p1)), .val (.int (own_b0 p1)), .val (.int (own_b1 p1)), .val (.int (own_kd p1)), .val (.int (own_p2 p1 p2 p6)), .val (.int (own_r2 p1 p3 p6)), .val (.int (own_w2 p1 p4 p6)), .val (.int (own_t2 p1 p5 p6)), .val (.ref x42_0), .val (.ref x44_0), .val (.ref b46), .unset, .unset]) rfl ?_
    show Steps p.tables e below (T47.setTop (mkF m 200 #[.val (.int p1), .val (.int p2), .val (.int p3), .val (.int p4), .val (.int p5), .val (.int p6), .val (.int (own_c0 p1)), .val (.int (own_c1 p1)), .val (.int (own_la p1)), .val (.int (own_lc p1)), .val (.int (own_lb p1)), .val (.int (own_b0 p1)), .val (.int (own_b1 p1)), .val (.int (own_kd p1)), .val (.int (own_p2 p1 p2 p6)), .val (.int (own_r2 p1 p3 p6)), .val (.int (own_w2 p1 p4 p6)), .val (.int (own_t2 p1 p5 p6)), .val (.ref x42_0), .val (.ref x44_0), .val (.ref b46), .unset, .unset] [])) _
    refine XS.iload X47w.here hx rfl (hb hby at_200) rfl ?_
    show Steps p.tables e below (T47.setTop (mkF m 202 #[.val (.int p1), .val (.int p2), .val (.int p3), .val (.int p4), .val (.int p5), .val (.int p6), .val (.int (own_c0 p1)), .val (.int (own_c1 p1)), .val (.int (own_la p1)), .val (.int (own_lc p1)), .val (.int (own_lb p1)), .val (.int (own_b0 p1)), .val (.int (own_b1 p1)), .val (.int (own_kd p1)), .val (.int (own_p2 p1 p2 p6)), .val (.int (own_r2 p1 p3 p6)), .val (.int (own_w2 p1 p4 p6)), .val (.int (own_t2 p1 p5 p6)), .val (.ref x42_0), .val (.ref x44_0), .val (.ref b46), .unset, .unset] [(.int (own_kd p1))])) _
    refine XS.iconst X47w.here hx rfl (hb hby at_202) ?_
    show Steps p.tables e below (T47.setTop (mkF m 203 #[.val (.int p1), .val (.int p2), .val (.int p3), .val (.int p4), .val (.int p5), .val (.int p6), .val (.int (own_c0 p1)), .val (.int (own_c1 p1)), .val (.int (own_la p1)), .val (.int (own_lc p1)), .val (.int (own_lb p1)), .val (.int (own_b0 p1)), .val (.int (own_b1 p1)), .val (.int (own_kd p1)), .val (.int (own_p2 p1 p2 p6)), .val (.int (own_r2 p1 p3 p6)), .val (.int (own_w2 p1 p4 p6)), .val (.int (own_t2 p1 p5 p6)), .val (.ref x42_0), .val (.ref x44_0), .val (.ref b46), .unset, .unset] [(.int (1 : Int32)), (.int (own_kd p1))])) _
    exact kt)
  by_cases hc203_51 : (own_kd p1) = (1 : Int32)
  · obtain ⟨cq53, kq53, q53a, q53b, q53c⟩ := isOf hZ47 rfl f47_0
    obtain ⟨_, _, ⟨T53, L53, k53, n53⟩, -, X53, ⟨Lc53, hQ53, l53, y53, z53⟩, st53⟩ := X47w.virtualBack hx (y := (⟨"com/example/bowerbird/bowerbird/protocol/QueueData", "equals", "(Ljava/lang/Object;)Z"⟩ : MethodName)) (z := (⟨"com/example/bowerbird/bowerbird/protocol/QueueData", "equals", "(Ljava/lang/Object;)Z"⟩ : MethodName)) hown47 (mvT hZ47 (hw _ (List.mem_of_getElem? (i := 53) rfl))) (mvT hZ47 (hw _ (List.mem_of_getElem? (i := 54) rfl))) (notFace_of_selects (args := #[]) (mvT hZ47 (hw _ (List.mem_of_getElem? (i := 56) rfl)))) (mvT hZ47 (hw _ (List.mem_of_getElem? (i := 56) rfl))) (mvT hZ47 (hw _ (List.mem_of_getElem? (i := 55) rfl))) (by decide) (backOf (W := 0) (rmes l Z a0 hw [] b46 b46 T47.heap n0 Z47 (rfl : b46 = b46)) hZ47 (hw _ (List.mem_of_getElem? (i := 57) rfl)) (hw _ (List.mem_of_getElem? (i := 28) rfl)) (by decide) (by decide)) q53a q53c (g := (mkF m 210 #[.val (.int p1), .val (.int p2), .val (.int p3), .val (.int p4), .val (.int p5), .val (.int p6), .val (.int (own_c0 p1)), .val (.int (own_c1 p1)), .val (.int (own_la p1)), .val (.int (own_lc p1)), .val (.int (own_lb p1)), .val (.int (own_b0 p1)), .val (.int (own_b1 p1)), .val (.int (own_kd p1)), .val (.int (own_p2 p1 p2 p6)), .val (.int (own_r2 p1 p3 p6)), .val (.int (own_w2 p1 p4 p6)), .val (.int (own_t2 p1 p5 p6)), .val (.ref x42_0), .val (.ref x44_0), .val (.ref b46), .unset, .unset] [(.ref b46), (.ref b46)])) rfl (by rw [hml]; rfl) (Steps.refl _) (argsL := [(.ref b46)]) (rest := []) (lenOf pd_4 rfl) rfl (by show 2 * 0 + _ ≤ _; exact Nat.le_of_eq rfl) (hb hby at_210) (fun _ _ => ⟨rfl, rfl, (by decide : 11 + 0 ≤ _), (by decide : 65 + 0 ≤ _)⟩)
    dsimp only [Pt.U, Pt.locs, Pt.cells, Pt.slots] at X53 l53 y53 z53 st53 hQ53
    subst l53 y53 z53
    obtain ⟨rfl, N53q, e53⟩ := hQ53
    have N53 := Fr.app N47 N53q
    obtain ⟨fs, hr, hrun, hended, hEW⟩ := X53.leaveW hS47 (by rw [e53]; exact (Nat.le_refl _)) (v := some (.int (1 : Int32))) (fun h => by rw [Bd.returns] at h; cases h)
    refine ⟨_, _, pre52 _ ?_, hrun, hended, _, _, rfl, ?_, ⟨_, rfl⟩, hEW.2.1, hEW.2.2.1, hEW.2.2.2.mono (by decide) (by decide)⟩
    · show Steps p.tables e below (T47.setTop (mkF m 203 #[.val (.int p1), .val (.int p2), .val (.int p3), .val (.int p4), .val (.int p5), .val (.int p6), .val (.int (own_c0 p1)), .val (.int (own_c1 p1)), .val (.int (own_la p1)), .val (.int (own_lc p1)), .val (.int (own_lb p1)), .val (.int (own_b0 p1)), .val (.int (own_b1 p1)), .val (.int (own_kd p1)), .val (.int (own_p2 p1 p2 p6)), .val (.int (own_r2 p1 p3 p6)), .val (.int (own_w2 p1 p4 p6)), .val (.int (own_t2 p1 p5 p6)), .val (.ref x42_0), .val (.ref x44_0), .val (.ref b46), .unset, .unset] [(.int (1 : Int32)), (.int (own_kd p1))])) _
      refine XS.icmpNo X47w.here hx rfl (hb hby at_203) rfl (teq hc203_51).2 ?_
      show Steps p.tables e below (T47.setTop (mkF m 206 #[.val (.int p1), .val (.int p2), .val (.int p3), .val (.int p4), .val (.int p5), .val (.int p6), .val (.int (own_c0 p1)), .val (.int (own_c1 p1)), .val (.int (own_la p1)), .val (.int (own_lc p1)), .val (.int (own_lb p1)), .val (.int (own_b0 p1)), .val (.int (own_b1 p1)), .val (.int (own_kd p1)), .val (.int (own_p2 p1 p2 p6)), .val (.int (own_r2 p1 p3 p6)), .val (.int (own_w2 p1 p4 p6)), .val (.int (own_t2 p1 p5 p6)), .val (.ref x42_0), .val (.ref x44_0), .val (.ref b46), .unset, .unset] [])) _
      refine XS.aload X47w.here hx rfl (hb hby at_206) rfl rfl ?_
      show Steps p.tables e below (T47.setTop (mkF m 208 #[.val (.int p1), .val (.int p2), .val (.int p3), .val (.int p4), .val (.int p5), .val (.int p6), .val (.int (own_c0 p1)), .val (.int (own_c1 p1)), .val (.int (own_la p1)), .val (.int (own_lc p1)), .val (.int (own_lb p1)), .val (.int (own_b0 p1)), .val (.int (own_b1 p1)), .val (.int (own_kd p1)), .val (.int (own_p2 p1 p2 p6)), .val (.int (own_r2 p1 p3 p6)), .val (.int (own_w2 p1 p4 p6)), .val (.int (own_t2 p1 p5 p6)), .val (.ref x42_0), .val (.ref x44_0), .val (.ref b46), .unset, .unset] [(.ref b46)])) _
      refine XS.aload X47w.here hx rfl (hb hby at_208) rfl rfl ?_
      show Steps p.tables e below (T47.setTop (mkF m 210 #[.val (.int p1), .val (.int p2), .val (.int p3), .val (.int p4), .val (.int p5), .val (.int p6), .val (.int (own_c0 p1)), .val (.int (own_c1 p1)), .val (.int (own_la p1)), .val (.int (own_lc p1)), .val (.int (own_lb p1)), .val (.int (own_b0 p1)), .val (.int (own_b1 p1)), .val (.int (own_kd p1)), .val (.int (own_p2 p1 p2 p6)), .val (.int (own_r2 p1 p3 p6)), .val (.int (own_w2 p1 p4 p6)), .val (.int (own_t2 p1 p5 p6)), .val (.ref x42_0), .val (.ref x44_0), .val (.ref b46), .unset, .unset] [(.ref b46), (.ref b46)])) _
      refine st53.trans ?_
      show Steps p.tables e below (T53.setTop (mkF m 213 #[.val (.int p1), .val (.int p2), .val (.int p3), .val (.int p4), .val (.int p5), .val (.int p6), .val (.int (own_c0 p1)), .val (.int (own_c1 p1)), .val (.int (own_la p1)), .val (.int (own_lc p1)), .val (.int (own_lb p1)), .val (.int (own_b0 p1)), .val (.int (own_b1 p1)), .val (.int (own_kd p1)), .val (.int (own_p2 p1 p2 p6)), .val (.int (own_r2 p1 p3 p6)), .val (.int (own_w2 p1 p4 p6)), .val (.int (own_t2 p1 p5 p6)), .val (.ref x42_0), .val (.ref x44_0), .val (.ref b46), .unset, .unset] [(.int (1 : Int32))])) _
      exact retN X53 hx (t := .boolean) Bd.returns (by simp) (hb hby at_213) hr
    · show Q0 Z p1 p2 p3 p4 p5 p6 st_COMPACT_STRINGS h0 n0 _ T53.heap _
      rw [e53]
      exact ⟨rfl, N53⟩
  · have pre55 : ∀ t, Steps p.tables e below (T47.setTop (mkF m 217 #[.val (.int p1), .val (.int p2), .val (.int p3), .val (.int p4), .val (.int p5), .val (.int p6), .val (.int (own_c0 p1)), .val (.int (own_c1 p1)), .val (.int (own_la p1)), .val (.int (own_lc p1)), .val (.int (own_lb p1)), .val (.int (own_b0 p1)), .val (.int (own_b1 p1)), .val (.int (own_kd p1)), .val (.int (own_p2 p1 p2 p6)), .val (.int (own_r2 p1 p3 p6)), .val (.int (own_w2 p1 p4 p6)), .val (.int (own_t2 p1 p5 p6)), .val (.ref x42_0), .val (.ref x44_0), .val (.ref b46), .unset, .unset] [(.int (2 : Int32)), (.int (own_kd p1))])) t → Steps p.tables e below (s₁.setTop (entryFrame m #[(.int p1), (.int p2), (.int p3), (.int p4), (.int p5), (.int p6)] maxLocals)) t := fun t kt => pre52 t (by
      show Steps p.tables e below (T47.setTop (mkF m 203 #[.val (.int p1), .val (.int p2), .val (.int p3), .val (.int p4), .val (.int p5), .val (.int p6), .val (.int (own_c0 p1)), .val (.int (own_c1 p1)), .val (.int (own_la p1)), .val (.int (own_lc p1)), .val (.int (own_lb p1)), .val (.int (own_b0 p1)), .val (.int (own_b1 p1)), .val (.int (own_kd p1)), .val (.int (own_p2 p1 p2 p6)), .val (.int (own_r2 p1 p3 p6)), .val (.int (own_w2 p1 p4 p6)), .val (.int (own_t2 p1 p5 p6)), .val (.ref x42_0), .val (.ref x44_0), .val (.ref b46), .unset, .unset] [(.int (1 : Int32)), (.int (own_kd p1))])) _
      refine XS.icmpYes X47w.here hx rfl (pc0 := 203) (pc' := 214) rfl (hb hby at_203) rfl (feq hc203_51).2 (by decide) (by decide) ?_
      show Steps p.tables e below (T47.setTop (mkF m 214 #[.val (.int p1), .val (.int p2), .val (.int p3), .val (.int p4), .val (.int p5), .val (.int p6), .val (.int (own_c0 p1)), .val (.int (own_c1 p1)), .val (.int (own_la p1)), .val (.int (own_lc p1)), .val (.int (own_lb p1)), .val (.int (own_b0 p1)), .val (.int (own_b1 p1)), .val (.int (own_kd p1)), .val (.int (own_p2 p1 p2 p6)), .val (.int (own_r2 p1 p3 p6)), .val (.int (own_w2 p1 p4 p6)), .val (.int (own_t2 p1 p5 p6)), .val (.ref x42_0), .val (.ref x44_0), .val (.ref b46), .unset, .unset] [])) _
      refine XS.iload X47w.here hx rfl (hb hby at_214) rfl ?_
      show Steps p.tables e below (T47.setTop (mkF m 216 #[.val (.int p1), .val (.int p2), .val (.int p3), .val (.int p4), .val (.int p5), .val (.int p6), .val (.int (own_c0 p1)), .val (.int (own_c1 p1)), .val (.int (own_la p1)), .val (.int (own_lc p1)), .val (.int (own_lb p1)), .val (.int (own_b0 p1)), .val (.int (own_b1 p1)), .val (.int (own_kd p1)), .val (.int (own_p2 p1 p2 p6)), .val (.int (own_r2 p1 p3 p6)), .val (.int (own_w2 p1 p4 p6)), .val (.int (own_t2 p1 p5 p6)), .val (.ref x42_0), .val (.ref x44_0), .val (.ref b46), .unset, .unset] [(.int (own_kd p1))])) _
      refine XS.iconst X47w.here hx rfl (hb hby at_216) ?_
      show Steps p.tables e below (T47.setTop (mkF m 217 #[.val (.int p1), .val (.int p2), .val (.int p3), .val (.int p4), .val (.int p5), .val (.int p6), .val (.int (own_c0 p1)), .val (.int (own_c1 p1)), .val (.int (own_la p1)), .val (.int (own_lc p1)), .val (.int (own_lb p1)), .val (.int (own_b0 p1)), .val (.int (own_b1 p1)), .val (.int (own_kd p1)), .val (.int (own_p2 p1 p2 p6)), .val (.int (own_r2 p1 p3 p6)), .val (.int (own_w2 p1 p4 p6)), .val (.int (own_t2 p1 p5 p6)), .val (.ref x42_0), .val (.ref x44_0), .val (.ref b46), .unset, .unset] [(.int (2 : Int32)), (.int (own_kd p1))])) _
      exact kt)
    by_cases hc217_54 : (own_kd p1) = (2 : Int32)
    · obtain ⟨cq56, kq56, q56a, q56b, q56c⟩ := isOf hZ47 rfl f47_0
      obtain ⟨_, _, ⟨T56, L56, k56, n56⟩, -, X56, ⟨Lc56, hQ56, l56, y56, z56⟩, st56⟩ := X47w.virtualBack hx (y := (⟨"com/example/bowerbird/bowerbird/protocol/QueueData", "equals", "(Ljava/lang/Object;)Z"⟩ : MethodName)) (z := (⟨"com/example/bowerbird/bowerbird/protocol/QueueData", "equals", "(Ljava/lang/Object;)Z"⟩ : MethodName)) hown47 (mvT hZ47 (hw _ (List.mem_of_getElem? (i := 53) rfl))) (mvT hZ47 (hw _ (List.mem_of_getElem? (i := 54) rfl))) (notFace_of_selects (args := #[]) (mvT hZ47 (hw _ (List.mem_of_getElem? (i := 56) rfl)))) (mvT hZ47 (hw _ (List.mem_of_getElem? (i := 56) rfl))) (mvT hZ47 (hw _ (List.mem_of_getElem? (i := 55) rfl))) (by decide) (backOf (W := 0) (rmen l Z a0 hw [] b46 T47.heap n0 Z47 ) hZ47 (hw _ (List.mem_of_getElem? (i := 57) rfl)) (hw _ (List.mem_of_getElem? (i := 28) rfl)) (by decide) (by decide)) q56a q56c (g := (mkF m 223 #[.val (.int p1), .val (.int p2), .val (.int p3), .val (.int p4), .val (.int p5), .val (.int p6), .val (.int (own_c0 p1)), .val (.int (own_c1 p1)), .val (.int (own_la p1)), .val (.int (own_lc p1)), .val (.int (own_lb p1)), .val (.int (own_b0 p1)), .val (.int (own_b1 p1)), .val (.int (own_kd p1)), .val (.int (own_p2 p1 p2 p6)), .val (.int (own_r2 p1 p3 p6)), .val (.int (own_w2 p1 p4 p6)), .val (.int (own_t2 p1 p5 p6)), .val (.ref x42_0), .val (.ref x44_0), .val (.ref b46), .unset, .unset] [.null, (.ref b46)])) rfl (by rw [hml]; rfl) (Steps.refl _) (argsL := [.null]) (rest := []) (lenOf pd_4 rfl) rfl (by show 2 * 0 + _ ≤ _; exact Nat.le_of_eq rfl) (hb hby at_223) (fun _ _ => ⟨rfl, rfl, (by decide : 11 + 0 ≤ _), (by decide : 65 + 0 ≤ _)⟩)
      dsimp only [Pt.U, Pt.locs, Pt.cells, Pt.slots] at X56 l56 y56 z56 st56 hQ56
      subst l56 y56 z56
      obtain ⟨rfl, N56q, e56⟩ := hQ56
      have N56 := Fr.app N47 N56q
      obtain ⟨fs, hr, hrun, hended, hEW⟩ := X56.leaveW hS47 (by rw [e56]; exact (Nat.le_refl _)) (v := some (.int (1 : Int32))) (fun h => by rw [Bd.returns] at h; cases h)
      refine ⟨_, _, pre55 _ ?_, hrun, hended, _, _, rfl, ?_, ⟨_, rfl⟩, hEW.2.1, hEW.2.2.1, hEW.2.2.2.mono (by decide) (by decide)⟩
      · show Steps p.tables e below (T47.setTop (mkF m 217 #[.val (.int p1), .val (.int p2), .val (.int p3), .val (.int p4), .val (.int p5), .val (.int p6), .val (.int (own_c0 p1)), .val (.int (own_c1 p1)), .val (.int (own_la p1)), .val (.int (own_lc p1)), .val (.int (own_lb p1)), .val (.int (own_b0 p1)), .val (.int (own_b1 p1)), .val (.int (own_kd p1)), .val (.int (own_p2 p1 p2 p6)), .val (.int (own_r2 p1 p3 p6)), .val (.int (own_w2 p1 p4 p6)), .val (.int (own_t2 p1 p5 p6)), .val (.ref x42_0), .val (.ref x44_0), .val (.ref b46), .unset, .unset] [(.int (2 : Int32)), (.int (own_kd p1))])) _
        refine XS.icmpNo X47w.here hx rfl (hb hby at_217) rfl (teq hc217_54).2 ?_
        show Steps p.tables e below (T47.setTop (mkF m 220 #[.val (.int p1), .val (.int p2), .val (.int p3), .val (.int p4), .val (.int p5), .val (.int p6), .val (.int (own_c0 p1)), .val (.int (own_c1 p1)), .val (.int (own_la p1)), .val (.int (own_lc p1)), .val (.int (own_lb p1)), .val (.int (own_b0 p1)), .val (.int (own_b1 p1)), .val (.int (own_kd p1)), .val (.int (own_p2 p1 p2 p6)), .val (.int (own_r2 p1 p3 p6)), .val (.int (own_w2 p1 p4 p6)), .val (.int (own_t2 p1 p5 p6)), .val (.ref x42_0), .val (.ref x44_0), .val (.ref b46), .unset, .unset] [])) _
        refine XS.aload X47w.here hx rfl (hb hby at_220) rfl rfl ?_
        show Steps p.tables e below (T47.setTop (mkF m 222 #[.val (.int p1), .val (.int p2), .val (.int p3), .val (.int p4), .val (.int p5), .val (.int p6), .val (.int (own_c0 p1)), .val (.int (own_c1 p1)), .val (.int (own_la p1)), .val (.int (own_lc p1)), .val (.int (own_lb p1)), .val (.int (own_b0 p1)), .val (.int (own_b1 p1)), .val (.int (own_kd p1)), .val (.int (own_p2 p1 p2 p6)), .val (.int (own_r2 p1 p3 p6)), .val (.int (own_w2 p1 p4 p6)), .val (.int (own_t2 p1 p5 p6)), .val (.ref x42_0), .val (.ref x44_0), .val (.ref b46), .unset, .unset] [(.ref b46)])) _
        refine XS.aconstNull X47w.here hx rfl (hb hby at_222) ?_
        show Steps p.tables e below (T47.setTop (mkF m 223 #[.val (.int p1), .val (.int p2), .val (.int p3), .val (.int p4), .val (.int p5), .val (.int p6), .val (.int (own_c0 p1)), .val (.int (own_c1 p1)), .val (.int (own_la p1)), .val (.int (own_lc p1)), .val (.int (own_lb p1)), .val (.int (own_b0 p1)), .val (.int (own_b1 p1)), .val (.int (own_kd p1)), .val (.int (own_p2 p1 p2 p6)), .val (.int (own_r2 p1 p3 p6)), .val (.int (own_w2 p1 p4 p6)), .val (.int (own_t2 p1 p5 p6)), .val (.ref x42_0), .val (.ref x44_0), .val (.ref b46), .unset, .unset] [.null, (.ref b46)])) _
        refine st56.trans ?_
        show Steps p.tables e below (T56.setTop (mkF m 226 #[.val (.int p1), .val (.int p2), .val (.int p3), .val (.int p4), .val (.int p5), .val (.int p6), .val (.int (own_c0 p1)), .val (.int (own_c1 p1)), .val (.int (own_la p1)), .val (.int (own_lc p1)), .val (.int (own_lb p1)), .val (.int (own_b0 p1)), .val (.int (own_b1 p1)), .val (.int (own_kd p1)), .val (.int (own_p2 p1 p2 p6)), .val (.int (own_r2 p1 p3 p6)), .val (.int (own_w2 p1 p4 p6)), .val (.int (own_t2 p1 p5 p6)), .val (.ref x42_0), .val (.ref x44_0), .val (.ref b46), .unset, .unset] [(.int (0 : Int32))])) _
        refine XS.ifNo X56.here hx rfl (hb hby at_226) rfl ((if0 _ _).trans (teq (by decide : (0 : Int32) = (0 : Int32))).2) ?_
        show Steps p.tables e below (T56.setTop (mkF m 229 #[.val (.int p1), .val (.int p2), .val (.int p3), .val (.int p4), .val (.int p5), .val (.int p6), .val (.int (own_c0 p1)), .val (.int (own_c1 p1)), .val (.int (own_la p1)), .val (.int (own_lc p1)), .val (.int (own_lb p1)), .val (.int (own_b0 p1)), .val (.int (own_b1 p1)), .val (.int (own_kd p1)), .val (.int (own_p2 p1 p2 p6)), .val (.int (own_r2 p1 p3 p6)), .val (.int (own_w2 p1 p4 p6)), .val (.int (own_t2 p1 p5 p6)), .val (.ref x42_0), .val (.ref x44_0), .val (.ref b46), .unset, .unset] [])) _
        refine XS.iconst X56.here hx rfl (hb hby at_229) ?_
        show Steps p.tables e below (T56.setTop (mkF m 230 #[.val (.int p1), .val (.int p2), .val (.int p3), .val (.int p4), .val (.int p5), .val (.int p6), .val (.int (own_c0 p1)), .val (.int (own_c1 p1)), .val (.int (own_la p1)), .val (.int (own_lc p1)), .val (.int (own_lb p1)), .val (.int (own_b0 p1)), .val (.int (own_b1 p1)), .val (.int (own_kd p1)), .val (.int (own_p2 p1 p2 p6)), .val (.int (own_r2 p1 p3 p6)), .val (.int (own_w2 p1 p4 p6)), .val (.int (own_t2 p1 p5 p6)), .val (.ref x42_0), .val (.ref x44_0), .val (.ref b46), .unset, .unset] [(.int (1 : Int32))])) _
        refine XS.goto X56.here hx rfl (pc0 := 230) (pc' := 234) rfl (hb hby at_230) (by decide) (by decide) ?_
        show Steps p.tables e below (T56.setTop (mkF m 234 #[.val (.int p1), .val (.int p2), .val (.int p3), .val (.int p4), .val (.int p5), .val (.int p6), .val (.int (own_c0 p1)), .val (.int (own_c1 p1)), .val (.int (own_la p1)), .val (.int (own_lc p1)), .val (.int (own_lb p1)), .val (.int (own_b0 p1)), .val (.int (own_b1 p1)), .val (.int (own_kd p1)), .val (.int (own_p2 p1 p2 p6)), .val (.int (own_r2 p1 p3 p6)), .val (.int (own_w2 p1 p4 p6)), .val (.int (own_t2 p1 p5 p6)), .val (.ref x42_0), .val (.ref x44_0), .val (.ref b46), .unset, .unset] [(.int (1 : Int32))])) _
        exact retN X56 hx (t := .boolean) Bd.returns (by simp) (hb hby at_234) hr
      · show Q0 Z p1 p2 p3 p4 p5 p6 st_COMPACT_STRINGS h0 n0 _ T56.heap _
        rw [e56]
        exact ⟨rfl, N56⟩
    · have pre58 : ∀ t, Steps p.tables e below (T47.setTop (mkF m 238 #[.val (.int p1), .val (.int p2), .val (.int p3), .val (.int p4), .val (.int p5), .val (.int p6), .val (.int (own_c0 p1)), .val (.int (own_c1 p1)), .val (.int (own_la p1)), .val (.int (own_lc p1)), .val (.int (own_lb p1)), .val (.int (own_b0 p1)), .val (.int (own_b1 p1)), .val (.int (own_kd p1)), .val (.int (own_p2 p1 p2 p6)), .val (.int (own_r2 p1 p3 p6)), .val (.int (own_w2 p1 p4 p6)), .val (.int (own_t2 p1 p5 p6)), .val (.ref x42_0), .val (.ref x44_0), .val (.ref b46), .unset, .unset] [(.int (3 : Int32)), (.int (own_kd p1))])) t → Steps p.tables e below (s₁.setTop (entryFrame m #[(.int p1), (.int p2), (.int p3), (.int p4), (.int p5), (.int p6)] maxLocals)) t := fun t kt => pre55 t (by
        show Steps p.tables e below (T47.setTop (mkF m 217 #[.val (.int p1), .val (.int p2), .val (.int p3), .val (.int p4), .val (.int p5), .val (.int p6), .val (.int (own_c0 p1)), .val (.int (own_c1 p1)), .val (.int (own_la p1)), .val (.int (own_lc p1)), .val (.int (own_lb p1)), .val (.int (own_b0 p1)), .val (.int (own_b1 p1)), .val (.int (own_kd p1)), .val (.int (own_p2 p1 p2 p6)), .val (.int (own_r2 p1 p3 p6)), .val (.int (own_w2 p1 p4 p6)), .val (.int (own_t2 p1 p5 p6)), .val (.ref x42_0), .val (.ref x44_0), .val (.ref b46), .unset, .unset] [(.int (2 : Int32)), (.int (own_kd p1))])) _
        refine XS.icmpYes X47w.here hx rfl (pc0 := 217) (pc' := 235) rfl (hb hby at_217) rfl (feq hc217_54).2 (by decide) (by decide) ?_
        show Steps p.tables e below (T47.setTop (mkF m 235 #[.val (.int p1), .val (.int p2), .val (.int p3), .val (.int p4), .val (.int p5), .val (.int p6), .val (.int (own_c0 p1)), .val (.int (own_c1 p1)), .val (.int (own_la p1)), .val (.int (own_lc p1)), .val (.int (own_lb p1)), .val (.int (own_b0 p1)), .val (.int (own_b1 p1)), .val (.int (own_kd p1)), .val (.int (own_p2 p1 p2 p6)), .val (.int (own_r2 p1 p3 p6)), .val (.int (own_w2 p1 p4 p6)), .val (.int (own_t2 p1 p5 p6)), .val (.ref x42_0), .val (.ref x44_0), .val (.ref b46), .unset, .unset] [])) _
        refine XS.iload X47w.here hx rfl (hb hby at_235) rfl ?_
        show Steps p.tables e below (T47.setTop (mkF m 237 #[.val (.int p1), .val (.int p2), .val (.int p3), .val (.int p4), .val (.int p5), .val (.int p6), .val (.int (own_c0 p1)), .val (.int (own_c1 p1)), .val (.int (own_la p1)), .val (.int (own_lc p1)), .val (.int (own_lb p1)), .val (.int (own_b0 p1)), .val (.int (own_b1 p1)), .val (.int (own_kd p1)), .val (.int (own_p2 p1 p2 p6)), .val (.int (own_r2 p1 p3 p6)), .val (.int (own_w2 p1 p4 p6)), .val (.int (own_t2 p1 p5 p6)), .val (.ref x42_0), .val (.ref x44_0), .val (.ref b46), .unset, .unset] [(.int (own_kd p1))])) _
        refine XS.iconst X47w.here hx rfl (hb hby at_237) ?_
        show Steps p.tables e below (T47.setTop (mkF m 238 #[.val (.int p1), .val (.int p2), .val (.int p3), .val (.int p4), .val (.int p5), .val (.int p6), .val (.int (own_c0 p1)), .val (.int (own_c1 p1)), .val (.int (own_la p1)), .val (.int (own_lc p1)), .val (.int (own_lb p1)), .val (.int (own_b0 p1)), .val (.int (own_b1 p1)), .val (.int (own_kd p1)), .val (.int (own_p2 p1 p2 p6)), .val (.int (own_r2 p1 p3 p6)), .val (.int (own_w2 p1 p4 p6)), .val (.int (own_t2 p1 p5 p6)), .val (.ref x42_0), .val (.ref x44_0), .val (.ref b46), .unset, .unset] [(.int (3 : Int32)), (.int (own_kd p1))])) _
        exact kt)
      by_cases hc238_57 : (own_kd p1) = (3 : Int32)
      · obtain ⟨cq59, kq59, q59a, q59b, q59c⟩ := isOf hZ47 rfl f47_0
        obtain ⟨_, _, ⟨T59, L59, k59, n59⟩, -, X59, ⟨Lc59, hQ59, l59, y59, z59⟩, st59⟩ := X47w.virtualBack hx (y := (⟨"com/example/bowerbird/bowerbird/protocol/QueueData", "equals", "(Ljava/lang/Object;)Z"⟩ : MethodName)) (z := (⟨"com/example/bowerbird/bowerbird/protocol/QueueData", "equals", "(Ljava/lang/Object;)Z"⟩ : MethodName)) hown47 (mvT hZ47 (hw _ (List.mem_of_getElem? (i := 53) rfl))) (mvT hZ47 (hw _ (List.mem_of_getElem? (i := 54) rfl))) (notFace_of_selects (args := #[]) (mvT hZ47 (hw _ (List.mem_of_getElem? (i := 56) rfl)))) (mvT hZ47 (hw _ (List.mem_of_getElem? (i := 56) rfl))) (mvT hZ47 (hw _ (List.mem_of_getElem? (i := 55) rfl))) (by decide) (backOf (W := 0) (rmet l Z a0 hw [] b46 x42_0 T47.heap n0 Z47 f47_0 y49.exa) hZ47 (hw _ (List.mem_of_getElem? (i := 57) rfl)) (hw _ (List.mem_of_getElem? (i := 28) rfl)) (by decide) (by decide)) q59a q59c (g := (mkF m 245 #[.val (.int p1), .val (.int p2), .val (.int p3), .val (.int p4), .val (.int p5), .val (.int p6), .val (.int (own_c0 p1)), .val (.int (own_c1 p1)), .val (.int (own_la p1)), .val (.int (own_lc p1)), .val (.int (own_lb p1)), .val (.int (own_b0 p1)), .val (.int (own_b1 p1)), .val (.int (own_kd p1)), .val (.int (own_p2 p1 p2 p6)), .val (.int (own_r2 p1 p3 p6)), .val (.int (own_w2 p1 p4 p6)), .val (.int (own_t2 p1 p5 p6)), .val (.ref x42_0), .val (.ref x44_0), .val (.ref b46), .unset, .unset] [(.ref x42_0), (.ref b46)])) rfl (by rw [hml]; rfl) (Steps.refl _) (argsL := [(.ref x42_0)]) (rest := []) (lenOf pd_4 rfl) rfl (by show 2 * 0 + _ ≤ _; exact Nat.le_of_eq rfl) (hb hby at_245) (fun _ _ => ⟨rfl, rfl, (by decide : 11 + 0 ≤ _), (by decide : 65 + 0 ≤ _)⟩)
        dsimp only [Pt.U, Pt.locs, Pt.cells, Pt.slots] at X59 l59 y59 z59 st59 hQ59
        subst l59 y59 z59
        obtain ⟨rfl, N59q, e59⟩ := hQ59
        have N59 := Fr.app N47 N59q
        obtain ⟨fs, hr, hrun, hended, hEW⟩ := X59.leaveW hS47 (by rw [e59]; exact (Nat.le_refl _)) (v := some (.int (1 : Int32))) (fun h => by rw [Bd.returns] at h; cases h)
        refine ⟨_, _, pre58 _ ?_, hrun, hended, _, _, rfl, ?_, ⟨_, rfl⟩, hEW.2.1, hEW.2.2.1, hEW.2.2.2.mono (by decide) (by decide)⟩
        · show Steps p.tables e below (T47.setTop (mkF m 238 #[.val (.int p1), .val (.int p2), .val (.int p3), .val (.int p4), .val (.int p5), .val (.int p6), .val (.int (own_c0 p1)), .val (.int (own_c1 p1)), .val (.int (own_la p1)), .val (.int (own_lc p1)), .val (.int (own_lb p1)), .val (.int (own_b0 p1)), .val (.int (own_b1 p1)), .val (.int (own_kd p1)), .val (.int (own_p2 p1 p2 p6)), .val (.int (own_r2 p1 p3 p6)), .val (.int (own_w2 p1 p4 p6)), .val (.int (own_t2 p1 p5 p6)), .val (.ref x42_0), .val (.ref x44_0), .val (.ref b46), .unset, .unset] [(.int (3 : Int32)), (.int (own_kd p1))])) _
          refine XS.icmpNo X47w.here hx rfl (hb hby at_238) rfl (teq hc238_57).2 ?_
          show Steps p.tables e below (T47.setTop (mkF m 241 #[.val (.int p1), .val (.int p2), .val (.int p3), .val (.int p4), .val (.int p5), .val (.int p6), .val (.int (own_c0 p1)), .val (.int (own_c1 p1)), .val (.int (own_la p1)), .val (.int (own_lc p1)), .val (.int (own_lb p1)), .val (.int (own_b0 p1)), .val (.int (own_b1 p1)), .val (.int (own_kd p1)), .val (.int (own_p2 p1 p2 p6)), .val (.int (own_r2 p1 p3 p6)), .val (.int (own_w2 p1 p4 p6)), .val (.int (own_t2 p1 p5 p6)), .val (.ref x42_0), .val (.ref x44_0), .val (.ref b46), .unset, .unset] [])) _
          refine XS.aload X47w.here hx rfl (hb hby at_241) rfl rfl ?_
          show Steps p.tables e below (T47.setTop (mkF m 243 #[.val (.int p1), .val (.int p2), .val (.int p3), .val (.int p4), .val (.int p5), .val (.int p6), .val (.int (own_c0 p1)), .val (.int (own_c1 p1)), .val (.int (own_la p1)), .val (.int (own_lc p1)), .val (.int (own_lb p1)), .val (.int (own_b0 p1)), .val (.int (own_b1 p1)), .val (.int (own_kd p1)), .val (.int (own_p2 p1 p2 p6)), .val (.int (own_r2 p1 p3 p6)), .val (.int (own_w2 p1 p4 p6)), .val (.int (own_t2 p1 p5 p6)), .val (.ref x42_0), .val (.ref x44_0), .val (.ref b46), .unset, .unset] [(.ref b46)])) _
          refine XS.aload X47w.here hx rfl (hb hby at_243) rfl rfl ?_
          show Steps p.tables e below (T47.setTop (mkF m 245 #[.val (.int p1), .val (.int p2), .val (.int p3), .val (.int p4), .val (.int p5), .val (.int p6), .val (.int (own_c0 p1)), .val (.int (own_c1 p1)), .val (.int (own_la p1)), .val (.int (own_lc p1)), .val (.int (own_lb p1)), .val (.int (own_b0 p1)), .val (.int (own_b1 p1)), .val (.int (own_kd p1)), .val (.int (own_p2 p1 p2 p6)), .val (.int (own_r2 p1 p3 p6)), .val (.int (own_w2 p1 p4 p6)), .val (.int (own_t2 p1 p5 p6)), .val (.ref x42_0), .val (.ref x44_0), .val (.ref b46), .unset, .unset] [(.ref x42_0), (.ref b46)])) _
          refine st59.trans ?_
          show Steps p.tables e below (T59.setTop (mkF m 248 #[.val (.int p1), .val (.int p2), .val (.int p3), .val (.int p4), .val (.int p5), .val (.int p6), .val (.int (own_c0 p1)), .val (.int (own_c1 p1)), .val (.int (own_la p1)), .val (.int (own_lc p1)), .val (.int (own_lb p1)), .val (.int (own_b0 p1)), .val (.int (own_b1 p1)), .val (.int (own_kd p1)), .val (.int (own_p2 p1 p2 p6)), .val (.int (own_r2 p1 p3 p6)), .val (.int (own_w2 p1 p4 p6)), .val (.int (own_t2 p1 p5 p6)), .val (.ref x42_0), .val (.ref x44_0), .val (.ref b46), .unset, .unset] [(.int (0 : Int32))])) _
          refine XS.ifNo X59.here hx rfl (hb hby at_248) rfl ((if0 _ _).trans (teq (by decide : (0 : Int32) = (0 : Int32))).2) ?_
          show Steps p.tables e below (T59.setTop (mkF m 251 #[.val (.int p1), .val (.int p2), .val (.int p3), .val (.int p4), .val (.int p5), .val (.int p6), .val (.int (own_c0 p1)), .val (.int (own_c1 p1)), .val (.int (own_la p1)), .val (.int (own_lc p1)), .val (.int (own_lb p1)), .val (.int (own_b0 p1)), .val (.int (own_b1 p1)), .val (.int (own_kd p1)), .val (.int (own_p2 p1 p2 p6)), .val (.int (own_r2 p1 p3 p6)), .val (.int (own_w2 p1 p4 p6)), .val (.int (own_t2 p1 p5 p6)), .val (.ref x42_0), .val (.ref x44_0), .val (.ref b46), .unset, .unset] [])) _
          refine XS.iconst X59.here hx rfl (hb hby at_251) ?_
          show Steps p.tables e below (T59.setTop (mkF m 252 #[.val (.int p1), .val (.int p2), .val (.int p3), .val (.int p4), .val (.int p5), .val (.int p6), .val (.int (own_c0 p1)), .val (.int (own_c1 p1)), .val (.int (own_la p1)), .val (.int (own_lc p1)), .val (.int (own_lb p1)), .val (.int (own_b0 p1)), .val (.int (own_b1 p1)), .val (.int (own_kd p1)), .val (.int (own_p2 p1 p2 p6)), .val (.int (own_r2 p1 p3 p6)), .val (.int (own_w2 p1 p4 p6)), .val (.int (own_t2 p1 p5 p6)), .val (.ref x42_0), .val (.ref x44_0), .val (.ref b46), .unset, .unset] [(.int (1 : Int32))])) _
          refine XS.goto X59.here hx rfl (pc0 := 252) (pc' := 256) rfl (hb hby at_252) (by decide) (by decide) ?_
          show Steps p.tables e below (T59.setTop (mkF m 256 #[.val (.int p1), .val (.int p2), .val (.int p3), .val (.int p4), .val (.int p5), .val (.int p6), .val (.int (own_c0 p1)), .val (.int (own_c1 p1)), .val (.int (own_la p1)), .val (.int (own_lc p1)), .val (.int (own_lb p1)), .val (.int (own_b0 p1)), .val (.int (own_b1 p1)), .val (.int (own_kd p1)), .val (.int (own_p2 p1 p2 p6)), .val (.int (own_r2 p1 p3 p6)), .val (.int (own_w2 p1 p4 p6)), .val (.int (own_t2 p1 p5 p6)), .val (.ref x42_0), .val (.ref x44_0), .val (.ref b46), .unset, .unset] [(.int (1 : Int32))])) _
          exact retN X59 hx (t := .boolean) Bd.returns (by simp) (hb hby at_256) hr
        · show Q0 Z p1 p2 p3 p4 p5 p6 st_COMPACT_STRINGS h0 n0 _ T59.heap _
          rw [e59]
          exact ⟨rfl, N59⟩
      · obtain ⟨T60, h60, X60, e60, E60, A60, D60, -, st60⟩ := newO X47w hx hZ47 hown47 (hw _ (List.mem_of_getElem? (i := 26) rfl)) (hw _ (List.mem_of_getElem? (i := 27) rfl)) (hw _ (List.mem_of_getElem? (i := 28) rfl)) rfl (g := (mkF m 257 #[.val (.int p1), .val (.int p2), .val (.int p3), .val (.int p4), .val (.int p5), .val (.int p6), .val (.int (own_c0 p1)), .val (.int (own_c1 p1)), .val (.int (own_la p1)), .val (.int (own_lc p1)), .val (.int (own_lb p1)), .val (.int (own_b0 p1)), .val (.int (own_b1 p1)), .val (.int (own_kd p1)), .val (.int (own_p2 p1 p2 p6)), .val (.int (own_r2 p1 p3 p6)), .val (.int (own_w2 p1 p4 p6)), .val (.int (own_t2 p1 p5 p6)), .val (.ref x42_0), .val (.ref x44_0), .val (.ref b46), .unset, .unset] [])) rfl (hb hby at_257) (by decide) (by decide)
        obtain ⟨b60, g60⟩ : ∃ z, z = T47.heap.size := ⟨_, rfl⟩
        rw [← g60] at A60 D60 st60
        have ne_x42_0_b60 : x42_0 ≠ b60 := Nat.ne_of_lt (Nat.lt_of_lt_of_le y49.lt (Nat.le_of_eq g60.symm))
        have ne_x44_0_b60 : x44_0 ≠ b60 := Nat.ne_of_lt (Nat.lt_of_lt_of_le y50.lt (Nat.le_of_eq g60.symm))
        have ne_b46_b60 : b46 ≠ b60 := Nat.ne_of_lt (Nat.lt_of_lt_of_le f47_0.lt (Nat.le_of_eq g60.symm))
        have g_b60 : n0 ≤ b60 := Nat.le_trans Z47 (Nat.le_of_eq g60.symm)
        have sz_b60 : h0.size ≤ b60 := Nat.le_trans (K47).1 (Nat.le_of_eq g60.symm)
        have K60 : Keep h0 h60 [] := (K47).ext E60
        have Z60 : n0 ≤ h60.size := Nat.le_trans Z47 E60.1
        have F_brokerName_b60 : Fld Z h60 b60 "com/example/bowerbird/bowerbird/protocol/QueueData" "brokerName" "Ljava/lang/String;" .null := D60 (Or.inr (hw _ (List.mem_of_getElem? (i := 44) rfl))) (ty := (.object "java/lang/String")) (by decide)
        have F_perm_b60 : Fld Z h60 b60 "com/example/bowerbird/bowerbird/protocol/QueueData" "perm" "I" (.int (0 : Int32)) := D60 (Or.inr (hw _ (List.mem_of_getElem? (i := 46) rfl))) (ty := .int) (by decide)
        have F_readQueueNums_b60 : Fld Z h60 b60 "com/example/bowerbird/bowerbird/protocol/QueueData" "readQueueNums" "I" (.int (0 : Int32)) := D60 (Or.inr (hw _ (List.mem_of_getElem? (i := 48) rfl))) (ty := .int) (by decide)
        have F_writeQueueNums_b60 : Fld Z h60 b60 "com/example/bowerbird/bowerbird/protocol/QueueData" "writeQueueNums" "I" (.int (0 : Int32)) := D60 (Or.inr (hw _ (List.mem_of_getElem? (i := 50) rfl))) (ty := .int) (by decide)
        have F_topicSynFlag_b60 : Fld Z h60 b60 "com/example/bowerbird/bowerbird/protocol/QueueData" "topicSynFlag" "I" (.int (0 : Int32)) := D60 (Or.inr (hw _ (List.mem_of_getElem? (i := 52) rfl))) (ty := .int) (by decide)
        obtain ⟨_, _, ⟨T61, L61, k61, n61⟩, -, X61, hS61q, hgr61, ⟨Lc61, hQ61, l61, y61, z61⟩, st61⟩ := X60.specialBackS hx (y := (⟨"com/example/bowerbird/bowerbird/protocol/QueueData", "<init>", "(Ljava/lang/String;IIII)V"⟩ : MethodName)) rfl hown47 (mvT hZ47 (hw _ (List.mem_of_getElem? (i := 29) rfl))) (mvT hZ47 (hw _ (List.mem_of_getElem? (i := 30) rfl))) (mvT hZ47 (hw _ (List.mem_of_getElem? (i := 31) rfl))) (by decide) (backOfS (W := 1) (rm5 l Z a0 hw [] b60 x44_0 (own_p2 p1 p2 p6) (own_r2 p1 p3 p6) (own_w2 p1 p4 p6) (own_t2 p1 p5 p6) (0 : Int32) (0 : Int32) (0 : Int32) (0 : Int32) h60 n0 Z60 A60 F_brokerName_b60 F_perm_b60 F_readQueueNums_b60 F_writeQueueNums_b60 F_topicSynFlag_b60 g_b60) hZ47 (hw _ (List.mem_of_getElem? (i := 31) rfl)) (hw _ (List.mem_of_getElem? (i := 28) rfl)) (by decide) (by decide)) (g := (mkF m 271 #[.val (.int p1), .val (.int p2), .val (.int p3), .val (.int p4), .val (.int p5), .val (.int p6), .val (.int (own_c0 p1)), .val (.int (own_c1 p1)), .val (.int (own_la p1)), .val (.int (own_lc p1)), .val (.int (own_lb p1)), .val (.int (own_b0 p1)), .val (.int (own_b1 p1)), .val (.int (own_kd p1)), .val (.int (own_p2 p1 p2 p6)), .val (.int (own_r2 p1 p3 p6)), .val (.int (own_w2 p1 p4 p6)), .val (.int (own_t2 p1 p5 p6)), .val (.ref x42_0), .val (.ref x44_0), .val (.ref b46), .unset, .unset] [(.int (own_t2 p1 p5 p6)), (.int (own_w2 p1 p4 p6)), (.int (own_r2 p1 p3 p6)), (.int (own_p2 p1 p2 p6)), (.ref x44_0), (.ref b60), (.ref b60)])) rfl (by rw [hml]; rfl) (Steps.refl _) (a := b60) (argsL := [(.ref x44_0), (.int (own_p2 p1 p2 p6)), (.int (own_r2 p1 p3 p6)), (.int (own_w2 p1 p4 p6)), (.int (own_t2 p1 p5 p6))]) (rest := [(.ref b60)]) (lenOf pd_6 rfl) rfl (by show 2 * 0 + _ ≤ _; exact Nat.le_of_eq rfl) (hb hby at_271) (fun _ _ => ⟨rfl, e60, (by decide : 12 + 2 ≤ _), (by decide : 70 + 44 ≤ _)⟩)
        dsimp only [Pt.U, Pt.locs, Pt.cells, Pt.slots] at X61 l61 y61 z61 st61 hQ61 hS61q hgr61
        subst l61 y61 z61
        obtain ⟨X61w, hS61, hZ61, hown61⟩ := rebS hS47 (by rw [e60]; exact (Nat.le_trans (Nat.le_refl _) E60.1)) X61 hS61q hgr61 hZ47 hown47
        obtain ⟨rfl, N61q, K61q, f61_0, f61_1, f61_2, f61_3, f61_4, f61_5⟩ := hQ61
        have y62 := (own_StaKeep (y48.ext E60) K61q (allS (P := fun x => ∃ D, Exa Z h60 x D) ⟨_, A60⟩ all0))
        have y63 := (own_Str.keep (a0 := a0) (y49.ext E60) K61q (allS (P := fun x => ∃ C n, Exa Z h60 x C ∧ C ≠ "java/lang/String" ∧ (Jvm.Cond.instantiable C n).before a0 Z = true) ⟨_, _, A60, by decide, (hw _ (List.mem_of_getElem? (i := 27) rfl))⟩ all0))
        have y64 := (own_Str.keep (a0 := a0) (y50.ext E60) K61q (allS (P := fun x => ∃ C n, Exa Z h60 x C ∧ C ≠ "java/lang/String" ∧ (Jvm.Cond.instantiable C n).before a0 Z = true) ⟨_, _, A60, by decide, (hw _ (List.mem_of_getElem? (i := 27) rfl))⟩ all0))
        have y65 := ((f47_1.ext E60).keep K61q (ninS ne_b46_b60 nin0))
        have y66 := ((f47_2.ext E60).keep K61q (ninS ne_b46_b60 nin0))
        have y67 := ((f47_3.ext E60).keep K61q (ninS ne_b46_b60 nin0))
        have y68 := ((f47_4.ext E60).keep K61q (ninS ne_b46_b60 nin0))
        have y69 := ((f47_5.ext E60).keep K61q (ninS ne_b46_b60 nin0))
        have K61 : Keep h0 T61.heap [] := (K60).trans K61q (allS (P := fun x => x ∈ [] ∨ h0.size ≤ x) (Or.inr sz_b60) all0)
        have Z61 : n0 ≤ T61.heap.size := Nat.le_trans Z60 K61q.1
        have N61 := Fr.app N47 N61q
        have pre70 : ∀ t, Steps p.tables e below (T61.setTop (mkF m 276 #[.val (.int p1), .val (.int p2), .val (.int p3), .val (.int p4), .val (.int p5), .val (.int p6), .val (.int (own_c0 p1)), .val (.int (own_c1 p1)), .val (.int (own_la p1)), .val (.int (own_lc p1)), .val (.int (own_lb p1)), .val (.int (own_b0 p1)), .val (.int (own_b1 p1)), .val (.int (own_kd p1)), .val (.int (own_p2 p1 p2 p6)), .val (.int (own_r2 p1 p3 p6)), .val (.int (own_w2 p1 p4 p6)), .val (.int (own_t2 p1 p5 p6)), .val (.ref x42_0), .val (.ref x44_0), .val (.ref b46), .val (.ref b60), .unset] [])) t → Steps p.tables e below (s₁.setTop (entryFrame m #[(.int p1), (.int p2), (.int p3), (.int p4), (.int p5), (.int p6)] maxLocals)) t := fun t kt => pre58 t (by
          show Steps p.tables e below (T47.setTop (mkF m 238 #[.val (.int p1), .val (.int p2), .val (.int p3), .val (.int p4), .val (.int p5), .val (.int p6), .val (.int (own_c0 p1)), .val (.int (own_c1 p1)), .val (.int (own_la p1)), .val (.int (own_lc p1)), .val (.int (own_lb p1)), .val (.int (own_b0 p1)), .val (.int (own_b1 p1)), .val (.int (own_kd p1)), .val (.int (own_p2 p1 p2 p6)), .val (.int (own_r2 p1 p3 p6)), .val (.int (own_w2 p1 p4 p6)), .val (.int (own_t2 p1 p5 p6)), .val (.ref x42_0), .val (.ref x44_0), .val (.ref b46), .unset, .unset] [(.int (3 : Int32)), (.int (own_kd p1))])) _
          refine XS.icmpYes X47w.here hx rfl (pc0 := 238) (pc' := 257) rfl (hb hby at_238) rfl (feq hc238_57).2 (by decide) (by decide) ?_
          show Steps p.tables e below (T47.setTop (mkF m 257 #[.val (.int p1), .val (.int p2), .val (.int p3), .val (.int p4), .val (.int p5), .val (.int p6), .val (.int (own_c0 p1)), .val (.int (own_c1 p1)), .val (.int (own_la p1)), .val (.int (own_lc p1)), .val (.int (own_lb p1)), .val (.int (own_b0 p1)), .val (.int (own_b1 p1)), .val (.int (own_kd p1)), .val (.int (own_p2 p1 p2 p6)), .val (.int (own_r2 p1 p3 p6)), .val (.int (own_w2 p1 p4 p6)), .val (.int (own_t2 p1 p5 p6)), .val (.ref x42_0), .val (.ref x44_0), .val (.ref b46), .unset, .unset] [])) _
          refine st60 _ ?_
          show Steps p.tables e below (T60.setTop (mkF m 260 #[.val (.int p1), .val (.int p2), .val (.int p3), .val (.int p4), .val (.int p5), .val (.int p6), .val (.int (own_c0 p1)), .val (.int (own_c1 p1)), .val (.int (own_la p1)), .val (.int (own_lc p1)), .val (.int (own_lb p1)), .val (.int (own_b0 p1)), .val (.int (own_b1 p1)), .val (.int (own_kd p1)), .val (.int (own_p2 p1 p2 p6)), .val (.int (own_r2 p1 p3 p6)), .val (.int (own_w2 p1 p4 p6)), .val (.int (own_t2 p1 p5 p6)), .val (.ref x42_0), .val (.ref x44_0), .val (.ref b46), .unset, .unset] [(.ref b60)])) _
          refine XS.dup X60.here hx rfl (hb hby at_260) rfl rfl ?_
          show Steps p.tables e below (T60.setTop (mkF m 261 #[.val (.int p1), .val (.int p2), .val (.int p3), .val (.int p4), .val (.int p5), .val (.int p6), .val (.int (own_c0 p1)), .val (.int (own_c1 p1)), .val (.int (own_la p1)), .val (.int (own_lc p1)), .val (.int (own_lb p1)), .val (.int (own_b0 p1)), .val (.int (own_b1 p1)), .val (.int (own_kd p1)), .val (.int (own_p2 p1 p2 p6)), .val (.int (own_r2 p1 p3 p6)), .val (.int (own_w2 p1 p4 p6)), .val (.int (own_t2 p1 p5 p6)), .val (.ref x42_0), .val (.ref x44_0), .val (.ref b46), .unset, .unset] [(.ref b60), (.ref b60)])) _
          refine XS.aload X60.here hx rfl (hb hby at_261) rfl rfl ?_
          show Steps p.tables e below (T60.setTop (mkF m 263 #[.val (.int p1), .val (.int p2), .val (.int p3), .val (.int p4), .val (.int p5), .val (.int p6), .val (.int (own_c0 p1)), .val (.int (own_c1 p1)), .val (.int (own_la p1)), .val (.int (own_lc p1)), .val (.int (own_lb p1)), .val (.int (own_b0 p1)), .val (.int (own_b1 p1)), .val (.int (own_kd p1)), .val (.int (own_p2 p1 p2 p6)), .val (.int (own_r2 p1 p3 p6)), .val (.int (own_w2 p1 p4 p6)), .val (.int (own_t2 p1 p5 p6)), .val (.ref x42_0), .val (.ref x44_0), .val (.ref b46), .unset, .unset] [(.ref x44_0), (.ref b60), (.ref b60)])) _
          refine XS.iload X60.here hx rfl (hb hby at_263) rfl ?_
          show Steps p.tables e below (T60.setTop (mkF m 265 #[.val (.int p1), .val (.int p2), .val (.int p3), .val (.int p4), .val (.int p5), .val (.int p6), .val (.int (own_c0 p1)), .val (.int (own_c1 p1)), .val (.int (own_la p1)), .val (.int (own_lc p1)), .val (.int (own_lb p1)), .val (.int (own_b0 p1)), .val (.int (own_b1 p1)), .val (.int (own_kd p1)), .val (.int (own_p2 p1 p2 p6)), .val (.int (own_r2 p1 p3 p6)), .val (.int (own_w2 p1 p4 p6)), .val (.int (own_t2 p1 p5 p6)), .val (.ref x42_0), .val (.ref x44_0), .val (.ref b46), .unset, .unset] [(.int (own_p2 p1 p2 p6)), (.ref x44_0), (.ref b60), (.ref b60)])) _
          refine XS.iload X60.here hx rfl (hb hby at_265) rfl ?_
          show Steps p.tables e below (T60.setTop (mkF m 267 #[.val (.int p1), .val (.int p2), .val (.int p3), .val (.int p4), .val (.int p5), .val (.int p6), .val (.int (own_c0 p1)), .val (.int (own_c1 p1)), .val (.int (own_la p1)), .val (.int (own_lc p1)), .val (.int (own_lb p1)), .val (.int (own_b0 p1)), .val (.int (own_b1 p1)), .val (.int (own_kd p1)), .val (.int (own_p2 p1 p2 p6)), .val (.int (own_r2 p1 p3 p6)), .val (.int (own_w2 p1 p4 p6)), .val (.int (own_t2 p1 p5 p6)), .val (.ref x42_0), .val (.ref x44_0), .val (.ref b46), .unset, .unset] [(.int (own_r2 p1 p3 p6)), (.int (own_p2 p1 p2 p6)), (.ref x44_0), (.ref b60), (.ref b60)])) _
          refine XS.iload X60.here hx rfl (hb hby at_267) rfl ?_
          show Steps p.tables e below (T60.setTop (mkF m 269 #[.val (.int p1), .val (.int p2), .val (.int p3), .val (.int p4), .val (.int p5), .val (.int p6), .val (.int (own_c0 p1)), .val (.int (own_c1 p1)), .val (.int (own_la p1)), .val (.int (own_lc p1)), .val (.int (own_lb p1)), .val (.int (own_b0 p1)), .val (.int (own_b1 p1)), .val (.int (own_kd p1)), .val (.int (own_p2 p1 p2 p6)), .val (.int (own_r2 p1 p3 p6)), .val (.int (own_w2 p1 p4 p6)), .val (.int (own_t2 p1 p5 p6)), .val (.ref x42_0), .val (.ref x44_0), .val (.ref b46), .unset, .unset] [(.int (own_w2 p1 p4 p6)), (.int (own_r2 p1 p3 p6)), (.int (own_p2 p1 p2 p6)), (.ref x44_0), (.ref b60), (.ref b60)])) _
          refine XS.iload X60.here hx rfl (hb hby at_269) rfl ?_
          show Steps p.tables e below (T60.setTop (mkF m 271 #[.val (.int p1), .val (.int p2), .val (.int p3), .val (.int p4), .val (.int p5), .val (.int p6), .val (.int (own_c0 p1)), .val (.int (own_c1 p1)), .val (.int (own_la p1)), .val (.int (own_lc p1)), .val (.int (own_lb p1)), .val (.int (own_b0 p1)), .val (.int (own_b1 p1)), .val (.int (own_kd p1)), .val (.int (own_p2 p1 p2 p6)), .val (.int (own_r2 p1 p3 p6)), .val (.int (own_w2 p1 p4 p6)), .val (.int (own_t2 p1 p5 p6)), .val (.ref x42_0), .val (.ref x44_0), .val (.ref b46), .unset, .unset] [(.int (own_t2 p1 p5 p6)), (.int (own_w2 p1 p4 p6)), (.int (own_r2 p1 p3 p6)), (.int (own_p2 p1 p2 p6)), (.ref x44_0), (.ref b60), (.ref b60)])) _
          refine st61.trans ?_
          show Steps p.tables e below (T61.setTop (mkF m 274 #[.val (.int p1), .val (.int p2), .val (.int p3), .val (.int p4), .val (.int p5), .val (.int p6), .val (.int (own_c0 p1)), .val (.int (own_c1 p1)), .val (.int (own_la p1)), .val (.int (own_lc p1)), .val (.int (own_lb p1)), .val (.int (own_b0 p1)), .val (.int (own_b1 p1)), .val (.int (own_kd p1)), .val (.int (own_p2 p1 p2 p6)), .val (.int (own_r2 p1 p3 p6)), .val (.int (own_w2 p1 p4 p6)), .val (.int (own_t2 p1 p5 p6)), .val (.ref x42_0), .val (.ref x44_0), .val (.ref b46), .unset, .unset] [(.ref b60)])) _
          refine XS.astore X61w.here hx rfl (hb hby at_274) rfl rfl (l' := #[.val (.int p1), .val (.int p2), .val (.int p3), .val (.int p4), .val (.int p5), .val (.int p6), .val (.int (own_c0 p1)), .val (.int (own_c1 p1)), .val (.int (own_la p1)), .val (.int (own_lc p1)), .val (.int (own_lb p1)), .val (.int (own_b0 p1)), .val (.int (own_b1 p1)), .val (.int (own_kd p1)), .val (.int (own_p2 p1 p2 p6)), .val (.int (own_r2 p1 p3 p6)), .val (.int (own_w2 p1 p4 p6)), .val (.int (own_t2 p1 p5 p6)), .val (.ref x42_0), .val (.ref x44_0), .val (.ref b46), .val (.ref b60), .unset]) rfl ?_
          show Steps p.tables e below (T61.setTop (mkF m 276 #[.val (.int p1), .val (.int p2), .val (.int p3), .val (.int p4), .val (.int p5), .val (.int p6), .val (.int (own_c0 p1)), .val (.int (own_c1 p1)), .val (.int (own_la p1)), .val (.int (own_lc p1)), .val (.int (own_lb p1)), .val (.int (own_b0 p1)), .val (.int (own_b1 p1)), .val (.int (own_kd p1)), .val (.int (own_p2 p1 p2 p6)), .val (.int (own_r2 p1 p3 p6)), .val (.int (own_w2 p1 p4 p6)), .val (.int (own_t2 p1 p5 p6)), .val (.ref x42_0), .val (.ref x44_0), .val (.ref b46), .val (.ref b60), .unset] [])) _
          exact kt)
        have jn71 : ∀ t, Steps p.tables e below (T61.setTop (mkF m 339 #[.val (.int p1), .val (.int p2), .val (.int p3), .val (.int p4), .val (.int p5), .val (.int p6), .val (.int (own_c0 p1)), .val (.int (own_c1 p1)), .val (.int (own_la p1)), .val (.int (own_lc p1)), .val (.int (own_lb p1)), .val (.int (own_b0 p1)), .val (.int (own_b1 p1)), .val (.int (own_kd p1)), .val (.int (own_p2 p1 p2 p6)), .val (.int (own_r2 p1 p3 p6)), .val (.int (own_w2 p1 p4 p6)), .val (.int (own_t2 p1 p5 p6)), .val (.ref x42_0), .val (.ref x44_0), .val (.ref b46), .val (.ref b60), .unset] [(.int (own_exp p1 p2 p3 p4 p5 p6))])) t → Steps p.tables e below (T61.setTop (mkF m 276 #[.val (.int p1), .val (.int p2), .val (.int p3), .val (.int p4), .val (.int p5), .val (.int p6), .val (.int (own_c0 p1)), .val (.int (own_c1 p1)), .val (.int (own_la p1)), .val (.int (own_lc p1)), .val (.int (own_lb p1)), .val (.int (own_b0 p1)), .val (.int (own_b1 p1)), .val (.int (own_kd p1)), .val (.int (own_p2 p1 p2 p6)), .val (.int (own_r2 p1 p3 p6)), .val (.int (own_w2 p1 p4 p6)), .val (.int (own_t2 p1 p5 p6)), .val (.ref x42_0), .val (.ref x44_0), .val (.ref b46), .val (.ref b60), .unset] [])) t := by
          intro t0 kt0
          have preR71 : ∀ t, Steps p.tables e below (T61.setTop (mkF m 276 #[.val (.int p1), .val (.int p2), .val (.int p3), .val (.int p4), .val (.int p5), .val (.int p6), .val (.int (own_c0 p1)), .val (.int (own_c1 p1)), .val (.int (own_la p1)), .val (.int (own_lc p1)), .val (.int (own_lb p1)), .val (.int (own_b0 p1)), .val (.int (own_b1 p1)), .val (.int (own_kd p1)), .val (.int (own_p2 p1 p2 p6)), .val (.int (own_r2 p1 p3 p6)), .val (.int (own_w2 p1 p4 p6)), .val (.int (own_t2 p1 p5 p6)), .val (.ref x42_0), .val (.ref x44_0), .val (.ref b46), .val (.ref b60), .unset] [])) t → Steps p.tables e below (T61.setTop (mkF m 276 #[.val (.int p1), .val (.int p2), .val (.int p3), .val (.int p4), .val (.int p5), .val (.int p6), .val (.int (own_c0 p1)), .val (.int (own_c1 p1)), .val (.int (own_la p1)), .val (.int (own_lc p1)), .val (.int (own_lb p1)), .val (.int (own_b0 p1)), .val (.int (own_b1 p1)), .val (.int (own_kd p1)), .val (.int (own_p2 p1 p2 p6)), .val (.int (own_r2 p1 p3 p6)), .val (.int (own_w2 p1 p4 p6)), .val (.int (own_t2 p1 p5 p6)), .val (.ref x42_0), .val (.ref x44_0), .val (.ref b46), .val (.ref b60), .unset] [])) t := fun t kt => kt
          have pre73 : ∀ t, Steps p.tables e below (T61.setTop (mkF m 280 #[.val (.int p1), .val (.int p2), .val (.int p3), .val (.int p4), .val (.int p5), .val (.int p6), .val (.int (own_c0 p1)), .val (.int (own_c1 p1)), .val (.int (own_la p1)), .val (.int (own_lc p1)), .val (.int (own_lb p1)), .val (.int (own_b0 p1)), .val (.int (own_b1 p1)), .val (.int (own_kd p1)), .val (.int (own_p2 p1 p2 p6)), .val (.int (own_r2 p1 p3 p6)), .val (.int (own_w2 p1 p4 p6)), .val (.int (own_t2 p1 p5 p6)), .val (.ref x42_0), .val (.ref x44_0), .val (.ref b46), .val (.ref b60), .unset] [(.int (own_lb p1)), (.int (own_la p1))])) t → Steps p.tables e below (T61.setTop (mkF m 276 #[.val (.int p1), .val (.int p2), .val (.int p3), .val (.int p4), .val (.int p5), .val (.int p6), .val (.int (own_c0 p1)), .val (.int (own_c1 p1)), .val (.int (own_la p1)), .val (.int (own_lc p1)), .val (.int (own_lb p1)), .val (.int (own_b0 p1)), .val (.int (own_b1 p1)), .val (.int (own_kd p1)), .val (.int (own_p2 p1 p2 p6)), .val (.int (own_r2 p1 p3 p6)), .val (.int (own_w2 p1 p4 p6)), .val (.int (own_t2 p1 p5 p6)), .val (.ref x42_0), .val (.ref x44_0), .val (.ref b46), .val (.ref b60), .unset] [])) t := fun t kt => preR71 t (by
            show Steps p.tables e below (T61.setTop (mkF m 276 #[.val (.int p1), .val (.int p2), .val (.int p3), .val (.int p4), .val (.int p5), .val (.int p6), .val (.int (own_c0 p1)), .val (.int (own_c1 p1)), .val (.int (own_la p1)), .val (.int (own_lc p1)), .val (.int (own_lb p1)), .val (.int (own_b0 p1)), .val (.int (own_b1 p1)), .val (.int (own_kd p1)), .val (.int (own_p2 p1 p2 p6)), .val (.int (own_r2 p1 p3 p6)), .val (.int (own_w2 p1 p4 p6)), .val (.int (own_t2 p1 p5 p6)), .val (.ref x42_0), .val (.ref x44_0), .val (.ref b46), .val (.ref b60), .unset] [])) _
            refine XS.iload X61w.here hx rfl (hb hby at_276) rfl ?_
            show Steps p.tables e below (T61.setTop (mkF m 278 #[.val (.int p1), .val (.int p2), .val (.int p3), .val (.int p4), .val (.int p5), .val (.int p6), .val (.int (own_c0 p1)), .val (.int (own_c1 p1)), .val (.int (own_la p1)), .val (.int (own_lc p1)), .val (.int (own_lb p1)), .val (.int (own_b0 p1)), .val (.int (own_b1 p1)), .val (.int (own_kd p1)), .val (.int (own_p2 p1 p2 p6)), .val (.int (own_r2 p1 p3 p6)), .val (.int (own_w2 p1 p4 p6)), .val (.int (own_t2 p1 p5 p6)), .val (.ref x42_0), .val (.ref x44_0), .val (.ref b46), .val (.ref b60), .unset] [(.int (own_la p1))])) _
            refine XS.iload X61w.here hx rfl (hb hby at_278) rfl ?_
            show Steps p.tables e below (T61.setTop (mkF m 280 #[.val (.int p1), .val (.int p2), .val (.int p3), .val (.int p4), .val (.int p5), .val (.int p6), .val (.int (own_c0 p1)), .val (.int (own_c1 p1)), .val (.int (own_la p1)), .val (.int (own_lc p1)), .val (.int (own_lb p1)), .val (.int (own_b0 p1)), .val (.int (own_b1 p1)), .val (.int (own_kd p1)), .val (.int (own_p2 p1 p2 p6)), .val (.int (own_r2 p1 p3 p6)), .val (.int (own_w2 p1 p4 p6)), .val (.int (own_t2 p1 p5 p6)), .val (.ref x42_0), .val (.ref x44_0), .val (.ref b46), .val (.ref b60), .unset] [(.int (own_lb p1)), (.int (own_la p1))])) _
            exact kt)
          by_cases hc280_72 : (own_la p1) = (own_lb p1)
          · have pre75 : ∀ t, Steps p.tables e below (T61.setTop (mkF m 286 #[.val (.int p1), .val (.int p2), .val (.int p3), .val (.int p4), .val (.int p5), .val (.int p6), .val (.int (own_c0 p1)), .val (.int (own_c1 p1)), .val (.int (own_la p1)), .val (.int (own_lc p1)), .val (.int (own_lb p1)), .val (.int (own_b0 p1)), .val (.int (own_b1 p1)), .val (.int (own_kd p1)), .val (.int (own_p2 p1 p2 p6)), .val (.int (own_r2 p1 p3 p6)), .val (.int (own_w2 p1 p4 p6)), .val (.int (own_t2 p1 p5 p6)), .val (.ref x42_0), .val (.ref x44_0), .val (.ref b46), .val (.ref b60), .unset] [(.int (1 : Int32)), (.int (own_la p1))])) t → Steps p.tables e below (T61.setTop (mkF m 276 #[.val (.int p1), .val (.int p2), .val (.int p3), .val (.int p4), .val (.int p5), .val (.int p6), .val (.int (own_c0 p1)), .val (.int (own_c1 p1)), .val (.int (own_la p1)), .val (.int (own_lc p1)), .val (.int (own_lb p1)), .val (.int (own_b0 p1)), .val (.int (own_b1 p1)), .val (.int (own_kd p1)), .val (.int (own_p2 p1 p2 p6)), .val (.int (own_r2 p1 p3 p6)), .val (.int (own_w2 p1 p4 p6)), .val (.int (own_t2 p1 p5 p6)), .val (.ref x42_0), .val (.ref x44_0), .val (.ref b46), .val (.ref b60), .unset] [])) t := fun t kt => pre73 t (by
              show Steps p.tables e below (T61.setTop (mkF m 280 #[.val (.int p1), .val (.int p2), .val (.int p3), .val (.int p4), .val (.int p5), .val (.int p6), .val (.int (own_c0 p1)), .val (.int (own_c1 p1)), .val (.int (own_la p1)), .val (.int (own_lc p1)), .val (.int (own_lb p1)), .val (.int (own_b0 p1)), .val (.int (own_b1 p1)), .val (.int (own_kd p1)), .val (.int (own_p2 p1 p2 p6)), .val (.int (own_r2 p1 p3 p6)), .val (.int (own_w2 p1 p4 p6)), .val (.int (own_t2 p1 p5 p6)), .val (.ref x42_0), .val (.ref x44_0), .val (.ref b46), .val (.ref b60), .unset] [(.int (own_lb p1)), (.int (own_la p1))])) _
              refine XS.icmpNo X61w.here hx rfl (hb hby at_280) rfl (teq hc280_72).2 ?_
              show Steps p.tables e below (T61.setTop (mkF m 283 #[.val (.int p1), .val (.int p2), .val (.int p3), .val (.int p4), .val (.int p5), .val (.int p6), .val (.int (own_c0 p1)), .val (.int (own_c1 p1)), .val (.int (own_la p1)), .val (.int (own_lc p1)), .val (.int (own_lb p1)), .val (.int (own_b0 p1)), .val (.int (own_b1 p1)), .val (.int (own_kd p1)), .val (.int (own_p2 p1 p2 p6)), .val (.int (own_r2 p1 p3 p6)), .val (.int (own_w2 p1 p4 p6)), .val (.int (own_t2 p1 p5 p6)), .val (.ref x42_0), .val (.ref x44_0), .val (.ref b46), .val (.ref b60), .unset] [])) _
              refine XS.iload X61w.here hx rfl (hb hby at_283) rfl ?_
              show Steps p.tables e below (T61.setTop (mkF m 285 #[.val (.int p1), .val (.int p2), .val (.int p3), .val (.int p4), .val (.int p5), .val (.int p6), .val (.int (own_c0 p1)), .val (.int (own_c1 p1)), .val (.int (own_la p1)), .val (.int (own_lc p1)), .val (.int (own_lb p1)), .val (.int (own_b0 p1)), .val (.int (own_b1 p1)), .val (.int (own_kd p1)), .val (.int (own_p2 p1 p2 p6)), .val (.int (own_r2 p1 p3 p6)), .val (.int (own_w2 p1 p4 p6)), .val (.int (own_t2 p1 p5 p6)), .val (.ref x42_0), .val (.ref x44_0), .val (.ref b46), .val (.ref b60), .unset] [(.int (own_la p1))])) _
              refine XS.iconst X61w.here hx rfl (hb hby at_285) ?_
              show Steps p.tables e below (T61.setTop (mkF m 286 #[.val (.int p1), .val (.int p2), .val (.int p3), .val (.int p4), .val (.int p5), .val (.int p6), .val (.int (own_c0 p1)), .val (.int (own_c1 p1)), .val (.int (own_la p1)), .val (.int (own_lc p1)), .val (.int (own_lb p1)), .val (.int (own_b0 p1)), .val (.int (own_b1 p1)), .val (.int (own_kd p1)), .val (.int (own_p2 p1 p2 p6)), .val (.int (own_r2 p1 p3 p6)), .val (.int (own_w2 p1 p4 p6)), .val (.int (own_t2 p1 p5 p6)), .val (.ref x42_0), .val (.ref x44_0), .val (.ref b46), .val (.ref b60), .unset] [(.int (1 : Int32)), (.int (own_la p1))])) _
              exact kt)
            by_cases hc286_74 : (own_la p1) < (1 : Int32)
            · have pre77 : ∀ t, Steps p.tables e below (T61.setTop (mkF m 299 #[.val (.int p1), .val (.int p2), .val (.int p3), .val (.int p4), .val (.int p5), .val (.int p6), .val (.int (own_c0 p1)), .val (.int (own_c1 p1)), .val (.int (own_la p1)), .val (.int (own_lc p1)), .val (.int (own_lb p1)), .val (.int (own_b0 p1)), .val (.int (own_b1 p1)), .val (.int (own_kd p1)), .val (.int (own_p2 p1 p2 p6)), .val (.int (own_r2 p1 p3 p6)), .val (.int (own_w2 p1 p4 p6)), .val (.int (own_t2 p1 p5 p6)), .val (.ref x42_0), .val (.ref x44_0), .val (.ref b46), .val (.ref b60), .unset] [(.int (2 : Int32)), (.int (own_la p1))])) t → Steps p.tables e below (T61.setTop (mkF m 276 #[.val (.int p1), .val (.int p2), .val (.int p3), .val (.int p4), .val (.int p5), .val (.int p6), .val (.int (own_c0 p1)), .val (.int (own_c1 p1)), .val (.int (own_la p1)), .val (.int (own_lc p1)), .val (.int (own_lb p1)), .val (.int (own_b0 p1)), .val (.int (own_b1 p1)), .val (.int (own_kd p1)), .val (.int (own_p2 p1 p2 p6)), .val (.int (own_r2 p1 p3 p6)), .val (.int (own_w2 p1 p4 p6)), .val (.int (own_t2 p1 p5 p6)), .val (.ref x42_0), .val (.ref x44_0), .val (.ref b46), .val (.ref b60), .unset] [])) t := fun t kt => pre75 t (by
                show Steps p.tables e below (T61.setTop (mkF m 286 #[.val (.int p1), .val (.int p2), .val (.int p3), .val (.int p4), .val (.int p5), .val (.int p6), .val (.int (own_c0 p1)), .val (.int (own_c1 p1)), .val (.int (own_la p1)), .val (.int (own_lc p1)), .val (.int (own_lb p1)), .val (.int (own_b0 p1)), .val (.int (own_b1 p1)), .val (.int (own_kd p1)), .val (.int (own_p2 p1 p2 p6)), .val (.int (own_r2 p1 p3 p6)), .val (.int (own_w2 p1 p4 p6)), .val (.int (own_t2 p1 p5 p6)), .val (.ref x42_0), .val (.ref x44_0), .val (.ref b46), .val (.ref b60), .unset] [(.int (1 : Int32)), (.int (own_la p1))])) _
                refine XS.icmpYes X61w.here hx rfl (pc0 := 286) (pc' := 296) rfl (hb hby at_286) rfl (tlt hc286_74).1 (by decide) (by decide) ?_
                show Steps p.tables e below (T61.setTop (mkF m 296 #[.val (.int p1), .val (.int p2), .val (.int p3), .val (.int p4), .val (.int p5), .val (.int p6), .val (.int (own_c0 p1)), .val (.int (own_c1 p1)), .val (.int (own_la p1)), .val (.int (own_lc p1)), .val (.int (own_lb p1)), .val (.int (own_b0 p1)), .val (.int (own_b1 p1)), .val (.int (own_kd p1)), .val (.int (own_p2 p1 p2 p6)), .val (.int (own_r2 p1 p3 p6)), .val (.int (own_w2 p1 p4 p6)), .val (.int (own_t2 p1 p5 p6)), .val (.ref x42_0), .val (.ref x44_0), .val (.ref b46), .val (.ref b60), .unset] [])) _
                refine XS.iload X61w.here hx rfl (hb hby at_296) rfl ?_
                show Steps p.tables e below (T61.setTop (mkF m 298 #[.val (.int p1), .val (.int p2), .val (.int p3), .val (.int p4), .val (.int p5), .val (.int p6), .val (.int (own_c0 p1)), .val (.int (own_c1 p1)), .val (.int (own_la p1)), .val (.int (own_lc p1)), .val (.int (own_lb p1)), .val (.int (own_b0 p1)), .val (.int (own_b1 p1)), .val (.int (own_kd p1)), .val (.int (own_p2 p1 p2 p6)), .val (.int (own_r2 p1 p3 p6)), .val (.int (own_w2 p1 p4 p6)), .val (.int (own_t2 p1 p5 p6)), .val (.ref x42_0), .val (.ref x44_0), .val (.ref b46), .val (.ref b60), .unset] [(.int (own_la p1))])) _
                refine XS.iconst X61w.here hx rfl (hb hby at_298) ?_
                show Steps p.tables e below (T61.setTop (mkF m 299 #[.val (.int p1), .val (.int p2), .val (.int p3), .val (.int p4), .val (.int p5), .val (.int p6), .val (.int (own_c0 p1)), .val (.int (own_c1 p1)), .val (.int (own_la p1)), .val (.int (own_lc p1)), .val (.int (own_lb p1)), .val (.int (own_b0 p1)), .val (.int (own_b1 p1)), .val (.int (own_kd p1)), .val (.int (own_p2 p1 p2 p6)), .val (.int (own_r2 p1 p3 p6)), .val (.int (own_w2 p1 p4 p6)), .val (.int (own_t2 p1 p5 p6)), .val (.ref x42_0), .val (.ref x44_0), .val (.ref b46), .val (.ref b60), .unset] [(.int (2 : Int32)), (.int (own_la p1))])) _
                exact kt)
              by_cases hc299_76 : (own_la p1) < (2 : Int32)
              · have pre79 : ∀ t, Steps p.tables e below (T61.setTop (mkF m 312 #[.val (.int p1), .val (.int p2), .val (.int p3), .val (.int p4), .val (.int p5), .val (.int p6), .val (.int (own_c0 p1)), .val (.int (own_c1 p1)), .val (.int (own_la p1)), .val (.int (own_lc p1)), .val (.int (own_lb p1)), .val (.int (own_b0 p1)), .val (.int (own_b1 p1)), .val (.int (own_kd p1)), .val (.int (own_p2 p1 p2 p6)), .val (.int (own_r2 p1 p3 p6)), .val (.int (own_w2 p1 p4 p6)), .val (.int (own_t2 p1 p5 p6)), .val (.ref x42_0), .val (.ref x44_0), .val (.ref b46), .val (.ref b60), .unset] [(.int (own_p2 p1 p2 p6)), (.int p2)])) t → Steps p.tables e below (T61.setTop (mkF m 276 #[.val (.int p1), .val (.int p2), .val (.int p3), .val (.int p4), .val (.int p5), .val (.int p6), .val (.int (own_c0 p1)), .val (.int (own_c1 p1)), .val (.int (own_la p1)), .val (.int (own_lc p1)), .val (.int (own_lb p1)), .val (.int (own_b0 p1)), .val (.int (own_b1 p1)), .val (.int (own_kd p1)), .val (.int (own_p2 p1 p2 p6)), .val (.int (own_r2 p1 p3 p6)), .val (.int (own_w2 p1 p4 p6)), .val (.int (own_t2 p1 p5 p6)), .val (.ref x42_0), .val (.ref x44_0), .val (.ref b46), .val (.ref b60), .unset] [])) t := fun t kt => pre77 t (by
                  show Steps p.tables e below (T61.setTop (mkF m 299 #[.val (.int p1), .val (.int p2), .val (.int p3), .val (.int p4), .val (.int p5), .val (.int p6), .val (.int (own_c0 p1)), .val (.int (own_c1 p1)), .val (.int (own_la p1)), .val (.int (own_lc p1)), .val (.int (own_lb p1)), .val (.int (own_b0 p1)), .val (.int (own_b1 p1)), .val (.int (own_kd p1)), .val (.int (own_p2 p1 p2 p6)), .val (.int (own_r2 p1 p3 p6)), .val (.int (own_w2 p1 p4 p6)), .val (.int (own_t2 p1 p5 p6)), .val (.ref x42_0), .val (.ref x44_0), .val (.ref b46), .val (.ref b60), .unset] [(.int (2 : Int32)), (.int (own_la p1))])) _
                  refine XS.icmpYes X61w.here hx rfl (pc0 := 299) (pc' := 309) rfl (hb hby at_299) rfl (tlt hc299_76).1 (by decide) (by decide) ?_
                  show Steps p.tables e below (T61.setTop (mkF m 309 #[.val (.int p1), .val (.int p2), .val (.int p3), .val (.int p4), .val (.int p5), .val (.int p6), .val (.int (own_c0 p1)), .val (.int (own_c1 p1)), .val (.int (own_la p1)), .val (.int (own_lc p1)), .val (.int (own_lb p1)), .val (.int (own_b0 p1)), .val (.int (own_b1 p1)), .val (.int (own_kd p1)), .val (.int (own_p2 p1 p2 p6)), .val (.int (own_r2 p1 p3 p6)), .val (.int (own_w2 p1 p4 p6)), .val (.int (own_t2 p1 p5 p6)), .val (.ref x42_0), .val (.ref x44_0), .val (.ref b46), .val (.ref b60), .unset] [])) _
                  refine XS.iloadN X61w.here hx rfl (hb hby at_309) rfl ?_
                  show Steps p.tables e below (T61.setTop (mkF m 310 #[.val (.int p1), .val (.int p2), .val (.int p3), .val (.int p4), .val (.int p5), .val (.int p6), .val (.int (own_c0 p1)), .val (.int (own_c1 p1)), .val (.int (own_la p1)), .val (.int (own_lc p1)), .val (.int (own_lb p1)), .val (.int (own_b0 p1)), .val (.int (own_b1 p1)), .val (.int (own_kd p1)), .val (.int (own_p2 p1 p2 p6)), .val (.int (own_r2 p1 p3 p6)), .val (.int (own_w2 p1 p4 p6)), .val (.int (own_t2 p1 p5 p6)), .val (.ref x42_0), .val (.ref x44_0), .val (.ref b46), .val (.ref b60), .unset] [(.int p2)])) _
                  refine XS.iload X61w.here hx rfl (hb hby at_310) rfl ?_
                  show Steps p.tables e below (T61.setTop (mkF m 312 #[.val (.int p1), .val (.int p2), .val (.int p3), .val (.int p4), .val (.int p5), .val (.int p6), .val (.int (own_c0 p1)), .val (.int (own_c1 p1)), .val (.int (own_la p1)), .val (.int (own_lc p1)), .val (.int (own_lb p1)), .val (.int (own_b0 p1)), .val (.int (own_b1 p1)), .val (.int (own_kd p1)), .val (.int (own_p2 p1 p2 p6)), .val (.int (own_r2 p1 p3 p6)), .val (.int (own_w2 p1 p4 p6)), .val (.int (own_t2 p1 p5 p6)), .val (.ref x42_0), .val (.ref x44_0), .val (.ref b46), .val (.ref b60), .unset] [(.int (own_p2 p1 p2 p6)), (.int p2)])) _
                  exact kt)
                by_cases hc312_78 : p2 = (own_p2 p1 p2 p6)
                · have pre81 : ∀ t, Steps p.tables e below (T61.setTop (mkF m 318 #[.val (.int p1), .val (.int p2), .val (.int p3), .val (.int p4), .val (.int p5), .val (.int p6), .val (.int (own_c0 p1)), .val (.int (own_c1 p1)), .val (.int (own_la p1)), .val (.int (own_lc p1)), .val (.int (own_lb p1)), .val (.int (own_b0 p1)), .val (.int (own_b1 p1)), .val (.int (own_kd p1)), .val (.int (own_p2 p1 p2 p6)), .val (.int (own_r2 p1 p3 p6)), .val (.int (own_w2 p1 p4 p6)), .val (.int (own_t2 p1 p5 p6)), .val (.ref x42_0), .val (.ref x44_0), .val (.ref b46), .val (.ref b60), .unset] [(.int (own_r2 p1 p3 p6)), (.int p3)])) t → Steps p.tables e below (T61.setTop (mkF m 276 #[.val (.int p1), .val (.int p2), .val (.int p3), .val (.int p4), .val (.int p5), .val (.int p6), .val (.int (own_c0 p1)), .val (.int (own_c1 p1)), .val (.int (own_la p1)), .val (.int (own_lc p1)), .val (.int (own_lb p1)), .val (.int (own_b0 p1)), .val (.int (own_b1 p1)), .val (.int (own_kd p1)), .val (.int (own_p2 p1 p2 p6)), .val (.int (own_r2 p1 p3 p6)), .val (.int (own_w2 p1 p4 p6)), .val (.int (own_t2 p1 p5 p6)), .val (.ref x42_0), .val (.ref x44_0), .val (.ref b46), .val (.ref b60), .unset] [])) t := fun t kt => pre79 t (by
                    show Steps p.tables e below (T61.setTop (mkF m 312 #[.val (.int p1), .val (.int p2), .val (.int p3), .val (.int p4), .val (.int p5), .val (.int p6), .val (.int (own_c0 p1)), .val (.int (own_c1 p1)), .val (.int (own_la p1)), .val (.int (own_lc p1)), .val (.int (own_lb p1)), .val (.int (own_b0 p1)), .val (.int (own_b1 p1)), .val (.int (own_kd p1)), .val (.int (own_p2 p1 p2 p6)), .val (.int (own_r2 p1 p3 p6)), .val (.int (own_w2 p1 p4 p6)), .val (.int (own_t2 p1 p5 p6)), .val (.ref x42_0), .val (.ref x44_0), .val (.ref b46), .val (.ref b60), .unset] [(.int (own_p2 p1 p2 p6)), (.int p2)])) _
                    refine XS.icmpNo X61w.here hx rfl (hb hby at_312) rfl (teq hc312_78).2 ?_
                    show Steps p.tables e below (T61.setTop (mkF m 315 #[.val (.int p1), .val (.int p2), .val (.int p3), .val (.int p4), .val (.int p5), .val (.int p6), .val (.int (own_c0 p1)), .val (.int (own_c1 p1)), .val (.int (own_la p1)), .val (.int (own_lc p1)), .val (.int (own_lb p1)), .val (.int (own_b0 p1)), .val (.int (own_b1 p1)), .val (.int (own_kd p1)), .val (.int (own_p2 p1 p2 p6)), .val (.int (own_r2 p1 p3 p6)), .val (.int (own_w2 p1 p4 p6)), .val (.int (own_t2 p1 p5 p6)), .val (.ref x42_0), .val (.ref x44_0), .val (.ref b46), .val (.ref b60), .unset] [])) _
                    refine XS.iloadN X61w.here hx rfl (hb hby at_315) rfl ?_
                    show Steps p.tables e below (T61.setTop (mkF m 316 #[.val (.int p1), .val (.int p2), .val (.int p3), .val (.int p4), .val (.int p5), .val (.int p6), .val (.int (own_c0 p1)), .val (.int (own_c1 p1)), .val (.int (own_la p1)), .val (.int (own_lc p1)), .val (.int (own_lb p1)), .val (.int (own_b0 p1)), .val (.int (own_b1 p1)), .val (.int (own_kd p1)), .val (.int (own_p2 p1 p2 p6)), .val (.int (own_r2 p1 p3 p6)), .val (.int (own_w2 p1 p4 p6)), .val (.int (own_t2 p1 p5 p6)), .val (.ref x42_0), .val (.ref x44_0), .val (.ref b46), .val (.ref b60), .unset] [(.int p3)])) _
                    refine XS.iload X61w.here hx rfl (hb hby at_316) rfl ?_
                    show Steps p.tables e below (T61.setTop (mkF m 318 #[.val (.int p1), .val (.int p2), .val (.int p3), .val (.int p4), .val (.int p5), .val (.int p6), .val (.int (own_c0 p1)), .val (.int (own_c1 p1)), .val (.int (own_la p1)), .val (.int (own_lc p1)), .val (.int (own_lb p1)), .val (.int (own_b0 p1)), .val (.int (own_b1 p1)), .val (.int (own_kd p1)), .val (.int (own_p2 p1 p2 p6)), .val (.int (own_r2 p1 p3 p6)), .val (.int (own_w2 p1 p4 p6)), .val (.int (own_t2 p1 p5 p6)), .val (.ref x42_0), .val (.ref x44_0), .val (.ref b46), .val (.ref b60), .unset] [(.int (own_r2 p1 p3 p6)), (.int p3)])) _
                    exact kt)
                  by_cases hc318_80 : p3 = (own_r2 p1 p3 p6)
                  · have pre83 : ∀ t, Steps p.tables e below (T61.setTop (mkF m 324 #[.val (.int p1), .val (.int p2), .val (.int p3), .val (.int p4), .val (.int p5), .val (.int p6), .val (.int (own_c0 p1)), .val (.int (own_c1 p1)), .val (.int (own_la p1)), .val (.int (own_lc p1)), .val (.int (own_lb p1)), .val (.int (own_b0 p1)), .val (.int (own_b1 p1)), .val (.int (own_kd p1)), .val (.int (own_p2 p1 p2 p6)), .val (.int (own_r2 p1 p3 p6)), .val (.int (own_w2 p1 p4 p6)), .val (.int (own_t2 p1 p5 p6)), .val (.ref x42_0), .val (.ref x44_0), .val (.ref b46), .val (.ref b60), .unset] [(.int (own_w2 p1 p4 p6)), (.int p4)])) t → Steps p.tables e below (T61.setTop (mkF m 276 #[.val (.int p1), .val (.int p2), .val (.int p3), .val (.int p4), .val (.int p5), .val (.int p6), .val (.int (own_c0 p1)), .val (.int (own_c1 p1)), .val (.int (own_la p1)), .val (.int (own_lc p1)), .val (.int (own_lb p1)), .val (.int (own_b0 p1)), .val (.int (own_b1 p1)), .val (.int (own_kd p1)), .val (.int (own_p2 p1 p2 p6)), .val (.int (own_r2 p1 p3 p6)), .val (.int (own_w2 p1 p4 p6)), .val (.int (own_t2 p1 p5 p6)), .val (.ref x42_0), .val (.ref x44_0), .val (.ref b46), .val (.ref b60), .unset] [])) t := fun t kt => pre81 t (by
                      show Steps p.tables e below (T61.setTop (mkF m 318 #[.val (.int p1), .val (.int p2), .val (.int p3), .val (.int p4), .val (.int p5), .val (.int p6), .val (.int (own_c0 p1)), .val (.int (own_c1 p1)), .val (.int (own_la p1)), .val (.int (own_lc p1)), .val (.int (own_lb p1)), .val (.int (own_b0 p1)), .val (.int (own_b1 p1)), .val (.int (own_kd p1)), .val (.int (own_p2 p1 p2 p6)), .val (.int (own_r2 p1 p3 p6)), .val (.int (own_w2 p1 p4 p6)), .val (.int (own_t2 p1 p5 p6)), .val (.ref x42_0), .val (.ref x44_0), .val (.ref b46), .val (.ref b60), .unset] [(.int (own_r2 p1 p3 p6)), (.int p3)])) _
                      refine XS.icmpNo X61w.here hx rfl (hb hby at_318) rfl (teq hc318_80).2 ?_
                      show Steps p.tables e below (T61.setTop (mkF m 321 #[.val (.int p1), .val (.int p2), .val (.int p3), .val (.int p4), .val (.int p5), .val (.int p6), .val (.int (own_c0 p1)), .val (.int (own_c1 p1)), .val (.int (own_la p1)), .val (.int (own_lc p1)), .val (.int (own_lb p1)), .val (.int (own_b0 p1)), .val (.int (own_b1 p1)), .val (.int (own_kd p1)), .val (.int (own_p2 p1 p2 p6)), .val (.int (own_r2 p1 p3 p6)), .val (.int (own_w2 p1 p4 p6)), .val (.int (own_t2 p1 p5 p6)), .val (.ref x42_0), .val (.ref x44_0), .val (.ref b46), .val (.ref b60), .unset] [])) _
                      refine XS.iloadN X61w.here hx rfl (hb hby at_321) rfl ?_
                      show Steps p.tables e below (T61.setTop (mkF m 322 #[.val (.int p1), .val (.int p2), .val (.int p3), .val (.int p4), .val (.int p5), .val (.int p6), .val (.int (own_c0 p1)), .val (.int (own_c1 p1)), .val (.int (own_la p1)), .val (.int (own_lc p1)), .val (.int (own_lb p1)), .val (.int (own_b0 p1)), .val (.int (own_b1 p1)), .val (.int (own_kd p1)), .val (.int (own_p2 p1 p2 p6)), .val (.int (own_r2 p1 p3 p6)), .val (.int (own_w2 p1 p4 p6)), .val (.int (own_t2 p1 p5 p6)), .val (.ref x42_0), .val (.ref x44_0), .val (.ref b46), .val (.ref b60), .unset] [(.int p4)])) _
                      refine XS.iload X61w.here hx rfl (hb hby at_322) rfl ?_
                      show Steps p.tables e below (T61.setTop (mkF m 324 #[.val (.int p1), .val (.int p2), .val (.int p3), .val (.int p4), .val (.int p5), .val (.int p6), .val (.int (own_c0 p1)), .val (.int (own_c1 p1)), .val (.int (own_la p1)), .val (.int (own_lc p1)), .val (.int (own_lb p1)), .val (.int (own_b0 p1)), .val (.int (own_b1 p1)), .val (.int (own_kd p1)), .val (.int (own_p2 p1 p2 p6)), .val (.int (own_r2 p1 p3 p6)), .val (.int (own_w2 p1 p4 p6)), .val (.int (own_t2 p1 p5 p6)), .val (.ref x42_0), .val (.ref x44_0), .val (.ref b46), .val (.ref b60), .unset] [(.int (own_w2 p1 p4 p6)), (.int p4)])) _
                      exact kt)
                    by_cases hc324_82 : p4 = (own_w2 p1 p4 p6)
                    · have pre85 : ∀ t, Steps p.tables e below (T61.setTop (mkF m 331 #[.val (.int p1), .val (.int p2), .val (.int p3), .val (.int p4), .val (.int p5), .val (.int p6), .val (.int (own_c0 p1)), .val (.int (own_c1 p1)), .val (.int (own_la p1)), .val (.int (own_lc p1)), .val (.int (own_lb p1)), .val (.int (own_b0 p1)), .val (.int (own_b1 p1)), .val (.int (own_kd p1)), .val (.int (own_p2 p1 p2 p6)), .val (.int (own_r2 p1 p3 p6)), .val (.int (own_w2 p1 p4 p6)), .val (.int (own_t2 p1 p5 p6)), .val (.ref x42_0), .val (.ref x44_0), .val (.ref b46), .val (.ref b60), .unset] [(.int (own_t2 p1 p5 p6)), (.int p5)])) t → Steps p.tables e below (T61.setTop (mkF m 276 #[.val (.int p1), .val (.int p2), .val (.int p3), .val (.int p4), .val (.int p5), .val (.int p6), .val (.int (own_c0 p1)), .val (.int (own_c1 p1)), .val (.int (own_la p1)), .val (.int (own_lc p1)), .val (.int (own_lb p1)), .val (.int (own_b0 p1)), .val (.int (own_b1 p1)), .val (.int (own_kd p1)), .val (.int (own_p2 p1 p2 p6)), .val (.int (own_r2 p1 p3 p6)), .val (.int (own_w2 p1 p4 p6)), .val (.int (own_t2 p1 p5 p6)), .val (.ref x42_0), .val (.ref x44_0), .val (.ref b46), .val (.ref b60), .unset] [])) t := fun t kt => pre83 t (by
                        show Steps p.tables e below (T61.setTop (mkF m 324 #[.val (.int p1), .val (.int p2), .val (.int p3), .val (.int p4), .val (.int p5), .val (.int p6), .val (.int (own_c0 p1)), .val (.int (own_c1 p1)), .val (.int (own_la p1)), .val (.int (own_lc p1)), .val (.int (own_lb p1)), .val (.int (own_b0 p1)), .val (.int (own_b1 p1)), .val (.int (own_kd p1)), .val (.int (own_p2 p1 p2 p6)), .val (.int (own_r2 p1 p3 p6)), .val (.int (own_w2 p1 p4 p6)), .val (.int (own_t2 p1 p5 p6)), .val (.ref x42_0), .val (.ref x44_0), .val (.ref b46), .val (.ref b60), .unset] [(.int (own_w2 p1 p4 p6)), (.int p4)])) _
                        refine XS.icmpNo X61w.here hx rfl (hb hby at_324) rfl (teq hc324_82).2 ?_
                        show Steps p.tables e below (T61.setTop (mkF m 327 #[.val (.int p1), .val (.int p2), .val (.int p3), .val (.int p4), .val (.int p5), .val (.int p6), .val (.int (own_c0 p1)), .val (.int (own_c1 p1)), .val (.int (own_la p1)), .val (.int (own_lc p1)), .val (.int (own_lb p1)), .val (.int (own_b0 p1)), .val (.int (own_b1 p1)), .val (.int (own_kd p1)), .val (.int (own_p2 p1 p2 p6)), .val (.int (own_r2 p1 p3 p6)), .val (.int (own_w2 p1 p4 p6)), .val (.int (own_t2 p1 p5 p6)), .val (.ref x42_0), .val (.ref x44_0), .val (.ref b46), .val (.ref b60), .unset] [])) _
                        refine XS.iload X61w.here hx rfl (hb hby at_327) rfl ?_
                        show Steps p.tables e below (T61.setTop (mkF m 329 #[.val (.int p1), .val (.int p2), .val (.int p3), .val (.int p4), .val (.int p5), .val (.int p6), .val (.int (own_c0 p1)), .val (.int (own_c1 p1)), .val (.int (own_la p1)), .val (.int (own_lc p1)), .val (.int (own_lb p1)), .val (.int (own_b0 p1)), .val (.int (own_b1 p1)), .val (.int (own_kd p1)), .val (.int (own_p2 p1 p2 p6)), .val (.int (own_r2 p1 p3 p6)), .val (.int (own_w2 p1 p4 p6)), .val (.int (own_t2 p1 p5 p6)), .val (.ref x42_0), .val (.ref x44_0), .val (.ref b46), .val (.ref b60), .unset] [(.int p5)])) _
                        refine XS.iload X61w.here hx rfl (hb hby at_329) rfl ?_
                        show Steps p.tables e below (T61.setTop (mkF m 331 #[.val (.int p1), .val (.int p2), .val (.int p3), .val (.int p4), .val (.int p5), .val (.int p6), .val (.int (own_c0 p1)), .val (.int (own_c1 p1)), .val (.int (own_la p1)), .val (.int (own_lc p1)), .val (.int (own_lb p1)), .val (.int (own_b0 p1)), .val (.int (own_b1 p1)), .val (.int (own_kd p1)), .val (.int (own_p2 p1 p2 p6)), .val (.int (own_r2 p1 p3 p6)), .val (.int (own_w2 p1 p4 p6)), .val (.int (own_t2 p1 p5 p6)), .val (.ref x42_0), .val (.ref x44_0), .val (.ref b46), .val (.ref b60), .unset] [(.int (own_t2 p1 p5 p6)), (.int p5)])) _
                        exact kt)
                      by_cases hc331_84 : p5 = (own_t2 p1 p5 p6)
                      · have pre86 : ∀ t, Steps p.tables e below (T61.setTop (mkF m 339 #[.val (.int p1), .val (.int p2), .val (.int p3), .val (.int p4), .val (.int p5), .val (.int p6), .val (.int (own_c0 p1)), .val (.int (own_c1 p1)), .val (.int (own_la p1)), .val (.int (own_lc p1)), .val (.int (own_lb p1)), .val (.int (own_b0 p1)), .val (.int (own_b1 p1)), .val (.int (own_kd p1)), .val (.int (own_p2 p1 p2 p6)), .val (.int (own_r2 p1 p3 p6)), .val (.int (own_w2 p1 p4 p6)), .val (.int (own_t2 p1 p5 p6)), .val (.ref x42_0), .val (.ref x44_0), .val (.ref b46), .val (.ref b60), .unset] [(.int (1 : Int32))])) t → Steps p.tables e below (T61.setTop (mkF m 276 #[.val (.int p1), .val (.int p2), .val (.int p3), .val (.int p4), .val (.int p5), .val (.int p6), .val (.int (own_c0 p1)), .val (.int (own_c1 p1)), .val (.int (own_la p1)), .val (.int (own_lc p1)), .val (.int (own_lb p1)), .val (.int (own_b0 p1)), .val (.int (own_b1 p1)), .val (.int (own_kd p1)), .val (.int (own_p2 p1 p2 p6)), .val (.int (own_r2 p1 p3 p6)), .val (.int (own_w2 p1 p4 p6)), .val (.int (own_t2 p1 p5 p6)), .val (.ref x42_0), .val (.ref x44_0), .val (.ref b46), .val (.ref b60), .unset] [])) t := fun t kt => pre85 t (by
                          show Steps p.tables e below (T61.setTop (mkF m 331 #[.val (.int p1), .val (.int p2), .val (.int p3), .val (.int p4), .val (.int p5), .val (.int p6), .val (.int (own_c0 p1)), .val (.int (own_c1 p1)), .val (.int (own_la p1)), .val (.int (own_lc p1)), .val (.int (own_lb p1)), .val (.int (own_b0 p1)), .val (.int (own_b1 p1)), .val (.int (own_kd p1)), .val (.int (own_p2 p1 p2 p6)), .val (.int (own_r2 p1 p3 p6)), .val (.int (own_w2 p1 p4 p6)), .val (.int (own_t2 p1 p5 p6)), .val (.ref x42_0), .val (.ref x44_0), .val (.ref b46), .val (.ref b60), .unset] [(.int (own_t2 p1 p5 p6)), (.int p5)])) _
                          refine XS.icmpNo X61w.here hx rfl (hb hby at_331) rfl (teq hc331_84).2 ?_
                          show Steps p.tables e below (T61.setTop (mkF m 334 #[.val (.int p1), .val (.int p2), .val (.int p3), .val (.int p4), .val (.int p5), .val (.int p6), .val (.int (own_c0 p1)), .val (.int (own_c1 p1)), .val (.int (own_la p1)), .val (.int (own_lc p1)), .val (.int (own_lb p1)), .val (.int (own_b0 p1)), .val (.int (own_b1 p1)), .val (.int (own_kd p1)), .val (.int (own_p2 p1 p2 p6)), .val (.int (own_r2 p1 p3 p6)), .val (.int (own_w2 p1 p4 p6)), .val (.int (own_t2 p1 p5 p6)), .val (.ref x42_0), .val (.ref x44_0), .val (.ref b46), .val (.ref b60), .unset] [])) _
                          refine XS.iconst X61w.here hx rfl (hb hby at_334) ?_
                          show Steps p.tables e below (T61.setTop (mkF m 335 #[.val (.int p1), .val (.int p2), .val (.int p3), .val (.int p4), .val (.int p5), .val (.int p6), .val (.int (own_c0 p1)), .val (.int (own_c1 p1)), .val (.int (own_la p1)), .val (.int (own_lc p1)), .val (.int (own_lb p1)), .val (.int (own_b0 p1)), .val (.int (own_b1 p1)), .val (.int (own_kd p1)), .val (.int (own_p2 p1 p2 p6)), .val (.int (own_r2 p1 p3 p6)), .val (.int (own_w2 p1 p4 p6)), .val (.int (own_t2 p1 p5 p6)), .val (.ref x42_0), .val (.ref x44_0), .val (.ref b46), .val (.ref b60), .unset] [(.int (1 : Int32))])) _
                          refine XS.goto X61w.here hx rfl (pc0 := 335) (pc' := 339) rfl (hb hby at_335) (by decide) (by decide) ?_
                          show Steps p.tables e below (T61.setTop (mkF m 339 #[.val (.int p1), .val (.int p2), .val (.int p3), .val (.int p4), .val (.int p5), .val (.int p6), .val (.int (own_c0 p1)), .val (.int (own_c1 p1)), .val (.int (own_la p1)), .val (.int (own_lc p1)), .val (.int (own_lb p1)), .val (.int (own_b0 p1)), .val (.int (own_b1 p1)), .val (.int (own_kd p1)), .val (.int (own_p2 p1 p2 p6)), .val (.int (own_r2 p1 p3 p6)), .val (.int (own_w2 p1 p4 p6)), .val (.int (own_t2 p1 p5 p6)), .val (.ref x42_0), .val (.ref x44_0), .val (.ref b46), .val (.ref b60), .unset] [(.int (1 : Int32))])) _
                          exact kt)
                        have qe : own_exp p1 p2 p3 p4 p5 p6 = (1 : Int32) := by unfold own_exp; rw [if_pos hc280_72, if_pos hc286_74, if_pos hc299_76, if_pos hc312_78, if_pos hc318_80, if_pos hc324_82, if_pos hc331_84]
                        rw [qe] at kt0
                        exact pre86 _ kt0
                      · have pre87 : ∀ t, Steps p.tables e below (T61.setTop (mkF m 339 #[.val (.int p1), .val (.int p2), .val (.int p3), .val (.int p4), .val (.int p5), .val (.int p6), .val (.int (own_c0 p1)), .val (.int (own_c1 p1)), .val (.int (own_la p1)), .val (.int (own_lc p1)), .val (.int (own_lb p1)), .val (.int (own_b0 p1)), .val (.int (own_b1 p1)), .val (.int (own_kd p1)), .val (.int (own_p2 p1 p2 p6)), .val (.int (own_r2 p1 p3 p6)), .val (.int (own_w2 p1 p4 p6)), .val (.int (own_t2 p1 p5 p6)), .val (.ref x42_0), .val (.ref x44_0), .val (.ref b46), .val (.ref b60), .unset] [(.int (0 : Int32))])) t → Steps p.tables e below (T61.setTop (mkF m 276 #[.val (.int p1), .val (.int p2), .val (.int p3), .val (.int p4), .val (.int p5), .val (.int p6), .val (.int (own_c0 p1)), .val (.int (own_c1 p1)), .val (.int (own_la p1)), .val (.int (own_lc p1)), .val (.int (own_lb p1)), .val (.int (own_b0 p1)), .val (.int (own_b1 p1)), .val (.int (own_kd p1)), .val (.int (own_p2 p1 p2 p6)), .val (.int (own_r2 p1 p3 p6)), .val (.int (own_w2 p1 p4 p6)), .val (.int (own_t2 p1 p5 p6)), .val (.ref x42_0), .val (.ref x44_0), .val (.ref b46), .val (.ref b60), .unset] [])) t := fun t kt => pre85 t (by
                          show Steps p.tables e below (T61.setTop (mkF m 331 #[.val (.int p1), .val (.int p2), .val (.int p3), .val (.int p4), .val (.int p5), .val (.int p6), .val (.int (own_c0 p1)), .val (.int (own_c1 p1)), .val (.int (own_la p1)), .val (.int (own_lc p1)), .val (.int (own_lb p1)), .val (.int (own_b0 p1)), .val (.int (own_b1 p1)), .val (.int (own_kd p1)), .val (.int (own_p2 p1 p2 p6)), .val (.int (own_r2 p1 p3 p6)), .val (.int (own_w2 p1 p4 p6)), .val (.int (own_t2 p1 p5 p6)), .val (.ref x42_0), .val (.ref x44_0), .val (.ref b46), .val (.ref b60), .unset] [(.int (own_t2 p1 p5 p6)), (.int p5)])) _
                          refine XS.icmpYes X61w.here hx rfl (pc0 := 331) (pc' := 338) rfl (hb hby at_331) rfl (feq hc331_84).2 (by decide) (by decide) ?_
                          show Steps p.tables e below (T61.setTop (mkF m 338 #[.val (.int p1), .val (.int p2), .val (.int p3), .val (.int p4), .val (.int p5), .val (.int p6), .val (.int (own_c0 p1)), .val (.int (own_c1 p1)), .val (.int (own_la p1)), .val (.int (own_lc p1)), .val (.int (own_lb p1)), .val (.int (own_b0 p1)), .val (.int (own_b1 p1)), .val (.int (own_kd p1)), .val (.int (own_p2 p1 p2 p6)), .val (.int (own_r2 p1 p3 p6)), .val (.int (own_w2 p1 p4 p6)), .val (.int (own_t2 p1 p5 p6)), .val (.ref x42_0), .val (.ref x44_0), .val (.ref b46), .val (.ref b60), .unset] [])) _
                          refine XS.iconst X61w.here hx rfl (hb hby at_338) ?_
                          show Steps p.tables e below (T61.setTop (mkF m 339 #[.val (.int p1), .val (.int p2), .val (.int p3), .val (.int p4), .val (.int p5), .val (.int p6), .val (.int (own_c0 p1)), .val (.int (own_c1 p1)), .val (.int (own_la p1)), .val (.int (own_lc p1)), .val (.int (own_lb p1)), .val (.int (own_b0 p1)), .val (.int (own_b1 p1)), .val (.int (own_kd p1)), .val (.int (own_p2 p1 p2 p6)), .val (.int (own_r2 p1 p3 p6)), .val (.int (own_w2 p1 p4 p6)), .val (.int (own_t2 p1 p5 p6)), .val (.ref x42_0), .val (.ref x44_0), .val (.ref b46), .val (.ref b60), .unset] [(.int (0 : Int32))])) _
                          exact kt)
                        have qe : own_exp p1 p2 p3 p4 p5 p6 = (0 : Int32) := by unfold own_exp; rw [if_pos hc280_72, if_pos hc286_74, if_pos hc299_76, if_pos hc312_78, if_pos hc318_80, if_pos hc324_82, if_neg hc331_84]
                        rw [qe] at kt0
                        exact pre87 _ kt0
                    · have pre88 : ∀ t, Steps p.tables e below (T61.setTop (mkF m 339 #[.val (.int p1), .val (.int p2), .val (.int p3), .val (.int p4), .val (.int p5), .val (.int p6), .val (.int (own_c0 p1)), .val (.int (own_c1 p1)), .val (.int (own_la p1)), .val (.int (own_lc p1)), .val (.int (own_lb p1)), .val (.int (own_b0 p1)), .val (.int (own_b1 p1)), .val (.int (own_kd p1)), .val (.int (own_p2 p1 p2 p6)), .val (.int (own_r2 p1 p3 p6)), .val (.int (own_w2 p1 p4 p6)), .val (.int (own_t2 p1 p5 p6)), .val (.ref x42_0), .val (.ref x44_0), .val (.ref b46), .val (.ref b60), .unset] [(.int (0 : Int32))])) t → Steps p.tables e below (T61.setTop (mkF m 276 #[.val (.int p1), .val (.int p2), .val (.int p3), .val (.int p4), .val (.int p5), .val (.int p6), .val (.int (own_c0 p1)), .val (.int (own_c1 p1)), .val (.int (own_la p1)), .val (.int (own_lc p1)), .val (.int (own_lb p1)), .val (.int (own_b0 p1)), .val (.int (own_b1 p1)), .val (.int (own_kd p1)), .val (.int (own_p2 p1 p2 p6)), .val (.int (own_r2 p1 p3 p6)), .val (.int (own_w2 p1 p4 p6)), .val (.int (own_t2 p1 p5 p6)), .val (.ref x42_0), .val (.ref x44_0), .val (.ref b46), .val (.ref b60), .unset] [])) t := fun t kt => pre83 t (by
                        show Steps p.tables e below (T61.setTop (mkF m 324 #[.val (.int p1), .val (.int p2), .val (.int p3), .val (.int p4), .val (.int p5), .val (.int p6), .val (.int (own_c0 p1)), .val (.int (own_c1 p1)), .val (.int (own_la p1)), .val (.int (own_lc p1)), .val (.int (own_lb p1)), .val (.int (own_b0 p1)), .val (.int (own_b1 p1)), .val (.int (own_kd p1)), .val (.int (own_p2 p1 p2 p6)), .val (.int (own_r2 p1 p3 p6)), .val (.int (own_w2 p1 p4 p6)), .val (.int (own_t2 p1 p5 p6)), .val (.ref x42_0), .val (.ref x44_0), .val (.ref b46), .val (.ref b60), .unset] [(.int (own_w2 p1 p4 p6)), (.int p4)])) _
                        refine XS.icmpYes X61w.here hx rfl (pc0 := 324) (pc' := 338) rfl (hb hby at_324) rfl (feq hc324_82).2 (by decide) (by decide) ?_
                        show Steps p.tables e below (T61.setTop (mkF m 338 #[.val (.int p1), .val (.int p2), .val (.int p3), .val (.int p4), .val (.int p5), .val (.int p6), .val (.int (own_c0 p1)), .val (.int (own_c1 p1)), .val (.int (own_la p1)), .val (.int (own_lc p1)), .val (.int (own_lb p1)), .val (.int (own_b0 p1)), .val (.int (own_b1 p1)), .val (.int (own_kd p1)), .val (.int (own_p2 p1 p2 p6)), .val (.int (own_r2 p1 p3 p6)), .val (.int (own_w2 p1 p4 p6)), .val (.int (own_t2 p1 p5 p6)), .val (.ref x42_0), .val (.ref x44_0), .val (.ref b46), .val (.ref b60), .unset] [])) _
                        refine XS.iconst X61w.here hx rfl (hb hby at_338) ?_
                        show Steps p.tables e below (T61.setTop (mkF m 339 #[.val (.int p1), .val (.int p2), .val (.int p3), .val (.int p4), .val (.int p5), .val (.int p6), .val (.int (own_c0 p1)), .val (.int (own_c1 p1)), .val (.int (own_la p1)), .val (.int (own_lc p1)), .val (.int (own_lb p1)), .val (.int (own_b0 p1)), .val (.int (own_b1 p1)), .val (.int (own_kd p1)), .val (.int (own_p2 p1 p2 p6)), .val (.int (own_r2 p1 p3 p6)), .val (.int (own_w2 p1 p4 p6)), .val (.int (own_t2 p1 p5 p6)), .val (.ref x42_0), .val (.ref x44_0), .val (.ref b46), .val (.ref b60), .unset] [(.int (0 : Int32))])) _
                        exact kt)
                      have qe : own_exp p1 p2 p3 p4 p5 p6 = (0 : Int32) := by unfold own_exp; rw [if_pos hc280_72, if_pos hc286_74, if_pos hc299_76, if_pos hc312_78, if_pos hc318_80, if_neg hc324_82]
                      rw [qe] at kt0
                      exact pre88 _ kt0
                  · have pre89 : ∀ t, Steps p.tables e below (T61.setTop (mkF m 339 #[.val (.int p1), .val (.int p2), .val (.int p3), .val (.int p4), .val (.int p5), .val (.int p6), .val (.int (own_c0 p1)), .val (.int (own_c1 p1)), .val (.int (own_la p1)), .val (.int (own_lc p1)), .val (.int (own_lb p1)), .val (.int (own_b0 p1)), .val (.int (own_b1 p1)), .val (.int (own_kd p1)), .val (.int (own_p2 p1 p2 p6)), .val (.int (own_r2 p1 p3 p6)), .val (.int (own_w2 p1 p4 p6)), .val (.int (own_t2 p1 p5 p6)), .val (.ref x42_0), .val (.ref x44_0), .val (.ref b46), .val (.ref b60), .unset] [(.int (0 : Int32))])) t → Steps p.tables e below (T61.setTop (mkF m 276 #[.val (.int p1), .val (.int p2), .val (.int p3), .val (.int p4), .val (.int p5), .val (.int p6), .val (.int (own_c0 p1)), .val (.int (own_c1 p1)), .val (.int (own_la p1)), .val (.int (own_lc p1)), .val (.int (own_lb p1)), .val (.int (own_b0 p1)), .val (.int (own_b1 p1)), .val (.int (own_kd p1)), .val (.int (own_p2 p1 p2 p6)), .val (.int (own_r2 p1 p3 p6)), .val (.int (own_w2 p1 p4 p6)), .val (.int (own_t2 p1 p5 p6)), .val (.ref x42_0), .val (.ref x44_0), .val (.ref b46), .val (.ref b60), .unset] [])) t := fun t kt => pre81 t (by
                      show Steps p.tables e below (T61.setTop (mkF m 318 #[.val (.int p1), .val (.int p2), .val (.int p3), .val (.int p4), .val (.int p5), .val (.int p6), .val (.int (own_c0 p1)), .val (.int (own_c1 p1)), .val (.int (own_la p1)), .val (.int (own_lc p1)), .val (.int (own_lb p1)), .val (.int (own_b0 p1)), .val (.int (own_b1 p1)), .val (.int (own_kd p1)), .val (.int (own_p2 p1 p2 p6)), .val (.int (own_r2 p1 p3 p6)), .val (.int (own_w2 p1 p4 p6)), .val (.int (own_t2 p1 p5 p6)), .val (.ref x42_0), .val (.ref x44_0), .val (.ref b46), .val (.ref b60), .unset] [(.int (own_r2 p1 p3 p6)), (.int p3)])) _
                      refine XS.icmpYes X61w.here hx rfl (pc0 := 318) (pc' := 338) rfl (hb hby at_318) rfl (feq hc318_80).2 (by decide) (by decide) ?_
                      show Steps p.tables e below (T61.setTop (mkF m 338 #[.val (.int p1), .val (.int p2), .val (.int p3), .val (.int p4), .val (.int p5), .val (.int p6), .val (.int (own_c0 p1)), .val (.int (own_c1 p1)), .val (.int (own_la p1)), .val (.int (own_lc p1)), .val (.int (own_lb p1)), .val (.int (own_b0 p1)), .val (.int (own_b1 p1)), .val (.int (own_kd p1)), .val (.int (own_p2 p1 p2 p6)), .val (.int (own_r2 p1 p3 p6)), .val (.int (own_w2 p1 p4 p6)), .val (.int (own_t2 p1 p5 p6)), .val (.ref x42_0), .val (.ref x44_0), .val (.ref b46), .val (.ref b60), .unset] [])) _
                      refine XS.iconst X61w.here hx rfl (hb hby at_338) ?_
                      show Steps p.tables e below (T61.setTop (mkF m 339 #[.val (.int p1), .val (.int p2), .val (.int p3), .val (.int p4), .val (.int p5), .val (.int p6), .val (.int (own_c0 p1)), .val (.int (own_c1 p1)), .val (.int (own_la p1)), .val (.int (own_lc p1)), .val (.int (own_lb p1)), .val (.int (own_b0 p1)), .val (.int (own_b1 p1)), .val (.int (own_kd p1)), .val (.int (own_p2 p1 p2 p6)), .val (.int (own_r2 p1 p3 p6)), .val (.int (own_w2 p1 p4 p6)), .val (.int (own_t2 p1 p5 p6)), .val (.ref x42_0), .val (.ref x44_0), .val (.ref b46), .val (.ref b60), .unset] [(.int (0 : Int32))])) _
                      exact kt)
                    have qe : own_exp p1 p2 p3 p4 p5 p6 = (0 : Int32) := by unfold own_exp; rw [if_pos hc280_72, if_pos hc286_74, if_pos hc299_76, if_pos hc312_78, if_neg hc318_80]
                    rw [qe] at kt0
                    exact pre89 _ kt0
                · have pre90 : ∀ t, Steps p.tables e below (T61.setTop (mkF m 339 #[.val (.int p1), .val (.int p2), .val (.int p3), .val (.int p4), .val (.int p5), .val (.int p6), .val (.int (own_c0 p1)), .val (.int (own_c1 p1)), .val (.int (own_la p1)), .val (.int (own_lc p1)), .val (.int (own_lb p1)), .val (.int (own_b0 p1)), .val (.int (own_b1 p1)), .val (.int (own_kd p1)), .val (.int (own_p2 p1 p2 p6)), .val (.int (own_r2 p1 p3 p6)), .val (.int (own_w2 p1 p4 p6)), .val (.int (own_t2 p1 p5 p6)), .val (.ref x42_0), .val (.ref x44_0), .val (.ref b46), .val (.ref b60), .unset] [(.int (0 : Int32))])) t → Steps p.tables e below (T61.setTop (mkF m 276 #[.val (.int p1), .val (.int p2), .val (.int p3), .val (.int p4), .val (.int p5), .val (.int p6), .val (.int (own_c0 p1)), .val (.int (own_c1 p1)), .val (.int (own_la p1)), .val (.int (own_lc p1)), .val (.int (own_lb p1)), .val (.int (own_b0 p1)), .val (.int (own_b1 p1)), .val (.int (own_kd p1)), .val (.int (own_p2 p1 p2 p6)), .val (.int (own_r2 p1 p3 p6)), .val (.int (own_w2 p1 p4 p6)), .val (.int (own_t2 p1 p5 p6)), .val (.ref x42_0), .val (.ref x44_0), .val (.ref b46), .val (.ref b60), .unset] [])) t := fun t kt => pre79 t (by
                    show Steps p.tables e below (T61.setTop (mkF m 312 #[.val (.int p1), .val (.int p2), .val (.int p3), .val (.int p4), .val (.int p5), .val (.int p6), .val (.int (own_c0 p1)), .val (.int (own_c1 p1)), .val (.int (own_la p1)), .val (.int (own_lc p1)), .val (.int (own_lb p1)), .val (.int (own_b0 p1)), .val (.int (own_b1 p1)), .val (.int (own_kd p1)), .val (.int (own_p2 p1 p2 p6)), .val (.int (own_r2 p1 p3 p6)), .val (.int (own_w2 p1 p4 p6)), .val (.int (own_t2 p1 p5 p6)), .val (.ref x42_0), .val (.ref x44_0), .val (.ref b46), .val (.ref b60), .unset] [(.int (own_p2 p1 p2 p6)), (.int p2)])) _
                    refine XS.icmpYes X61w.here hx rfl (pc0 := 312) (pc' := 338) rfl (hb hby at_312) rfl (feq hc312_78).2 (by decide) (by decide) ?_
                    show Steps p.tables e below (T61.setTop (mkF m 338 #[.val (.int p1), .val (.int p2), .val (.int p3), .val (.int p4), .val (.int p5), .val (.int p6), .val (.int (own_c0 p1)), .val (.int (own_c1 p1)), .val (.int (own_la p1)), .val (.int (own_lc p1)), .val (.int (own_lb p1)), .val (.int (own_b0 p1)), .val (.int (own_b1 p1)), .val (.int (own_kd p1)), .val (.int (own_p2 p1 p2 p6)), .val (.int (own_r2 p1 p3 p6)), .val (.int (own_w2 p1 p4 p6)), .val (.int (own_t2 p1 p5 p6)), .val (.ref x42_0), .val (.ref x44_0), .val (.ref b46), .val (.ref b60), .unset] [])) _
                    refine XS.iconst X61w.here hx rfl (hb hby at_338) ?_
                    show Steps p.tables e below (T61.setTop (mkF m 339 #[.val (.int p1), .val (.int p2), .val (.int p3), .val (.int p4), .val (.int p5), .val (.int p6), .val (.int (own_c0 p1)), .val (.int (own_c1 p1)), .val (.int (own_la p1)), .val (.int (own_lc p1)), .val (.int (own_lb p1)), .val (.int (own_b0 p1)), .val (.int (own_b1 p1)), .val (.int (own_kd p1)), .val (.int (own_p2 p1 p2 p6)), .val (.int (own_r2 p1 p3 p6)), .val (.int (own_w2 p1 p4 p6)), .val (.int (own_t2 p1 p5 p6)), .val (.ref x42_0), .val (.ref x44_0), .val (.ref b46), .val (.ref b60), .unset] [(.int (0 : Int32))])) _
                    exact kt)
                  have qe : own_exp p1 p2 p3 p4 p5 p6 = (0 : Int32) := by unfold own_exp; rw [if_pos hc280_72, if_pos hc286_74, if_pos hc299_76, if_neg hc312_78]
                  rw [qe] at kt0
                  exact pre90 _ kt0
              · have pre92 : ∀ t, Steps p.tables e below (T61.setTop (mkF m 306 #[.val (.int p1), .val (.int p2), .val (.int p3), .val (.int p4), .val (.int p5), .val (.int p6), .val (.int (own_c0 p1)), .val (.int (own_c1 p1)), .val (.int (own_la p1)), .val (.int (own_lc p1)), .val (.int (own_lb p1)), .val (.int (own_b0 p1)), .val (.int (own_b1 p1)), .val (.int (own_kd p1)), .val (.int (own_p2 p1 p2 p6)), .val (.int (own_r2 p1 p3 p6)), .val (.int (own_w2 p1 p4 p6)), .val (.int (own_t2 p1 p5 p6)), .val (.ref x42_0), .val (.ref x44_0), .val (.ref b46), .val (.ref b60), .unset] [(.int (own_b1 p1)), (.int (own_c1 p1))])) t → Steps p.tables e below (T61.setTop (mkF m 276 #[.val (.int p1), .val (.int p2), .val (.int p3), .val (.int p4), .val (.int p5), .val (.int p6), .val (.int (own_c0 p1)), .val (.int (own_c1 p1)), .val (.int (own_la p1)), .val (.int (own_lc p1)), .val (.int (own_lb p1)), .val (.int (own_b0 p1)), .val (.int (own_b1 p1)), .val (.int (own_kd p1)), .val (.int (own_p2 p1 p2 p6)), .val (.int (own_r2 p1 p3 p6)), .val (.int (own_w2 p1 p4 p6)), .val (.int (own_t2 p1 p5 p6)), .val (.ref x42_0), .val (.ref x44_0), .val (.ref b46), .val (.ref b60), .unset] [])) t := fun t kt => pre77 t (by
                  show Steps p.tables e below (T61.setTop (mkF m 299 #[.val (.int p1), .val (.int p2), .val (.int p3), .val (.int p4), .val (.int p5), .val (.int p6), .val (.int (own_c0 p1)), .val (.int (own_c1 p1)), .val (.int (own_la p1)), .val (.int (own_lc p1)), .val (.int (own_lb p1)), .val (.int (own_b0 p1)), .val (.int (own_b1 p1)), .val (.int (own_kd p1)), .val (.int (own_p2 p1 p2 p6)), .val (.int (own_r2 p1 p3 p6)), .val (.int (own_w2 p1 p4 p6)), .val (.int (own_t2 p1 p5 p6)), .val (.ref x42_0), .val (.ref x44_0), .val (.ref b46), .val (.ref b60), .unset] [(.int (2 : Int32)), (.int (own_la p1))])) _
                  refine XS.icmpNo X61w.here hx rfl (hb hby at_299) rfl (flt hc299_76).1 ?_
                  show Steps p.tables e below (T61.setTop (mkF m 302 #[.val (.int p1), .val (.int p2), .val (.int p3), .val (.int p4), .val (.int p5), .val (.int p6), .val (.int (own_c0 p1)), .val (.int (own_c1 p1)), .val (.int (own_la p1)), .val (.int (own_lc p1)), .val (.int (own_lb p1)), .val (.int (own_b0 p1)), .val (.int (own_b1 p1)), .val (.int (own_kd p1)), .val (.int (own_p2 p1 p2 p6)), .val (.int (own_r2 p1 p3 p6)), .val (.int (own_w2 p1 p4 p6)), .val (.int (own_t2 p1 p5 p6)), .val (.ref x42_0), .val (.ref x44_0), .val (.ref b46), .val (.ref b60), .unset] [])) _
                  refine XS.iload X61w.here hx rfl (hb hby at_302) rfl ?_
                  show Steps p.tables e below (T61.setTop (mkF m 304 #[.val (.int p1), .val (.int p2), .val (.int p3), .val (.int p4), .val (.int p5), .val (.int p6), .val (.int (own_c0 p1)), .val (.int (own_c1 p1)), .val (.int (own_la p1)), .val (.int (own_lc p1)), .val (.int (own_lb p1)), .val (.int (own_b0 p1)), .val (.int (own_b1 p1)), .val (.int (own_kd p1)), .val (.int (own_p2 p1 p2 p6)), .val (.int (own_r2 p1 p3 p6)), .val (.int (own_w2 p1 p4 p6)), .val (.int (own_t2 p1 p5 p6)), .val (.ref x42_0), .val (.ref x44_0), .val (.ref b46), .val (.ref b60), .unset] [(.int (own_c1 p1))])) _
                  refine XS.iload X61w.here hx rfl (hb hby at_304) rfl ?_
                  show Steps p.tables e below (T61.setTop (mkF m 306 #[.val (.int p1), .val (.int p2), .val (.int p3), .val (.int p4), .val (.int p5), .val (.int p6), .val (.int (own_c0 p1)), .val (.int (own_c1 p1)), .val (.int (own_la p1)), .val (.int (own_lc p1)), .val (.int (own_lb p1)), .val (.int (own_b0 p1)), .val (.int (own_b1 p1)), .val (.int (own_kd p1)), .val (.int (own_p2 p1 p2 p6)), .val (.int (own_r2 p1 p3 p6)), .val (.int (own_w2 p1 p4 p6)), .val (.int (own_t2 p1 p5 p6)), .val (.ref x42_0), .val (.ref x44_0), .val (.ref b46), .val (.ref b60), .unset] [(.int (own_b1 p1)), (.int (own_c1 p1))])) _
                  exact kt)
                by_cases hc306_91 : (own_c1 p1) = (own_b1 p1)
                · have pre94 : ∀ t, Steps p.tables e below (T61.setTop (mkF m 312 #[.val (.int p1), .val (.int p2), .val (.int p3), .val (.int p4), .val (.int p5), .val (.int p6), .val (.int (own_c0 p1)), .val (.int (own_c1 p1)), .val (.int (own_la p1)), .val (.int (own_lc p1)), .val (.int (own_lb p1)), .val (.int (own_b0 p1)), .val (.int (own_b1 p1)), .val (.int (own_kd p1)), .val (.int (own_p2 p1 p2 p6)), .val (.int (own_r2 p1 p3 p6)), .val (.int (own_w2 p1 p4 p6)), .val (.int (own_t2 p1 p5 p6)), .val (.ref x42_0), .val (.ref x44_0), .val (.ref b46), .val (.ref b60), .unset] [(.int (own_p2 p1 p2 p6)), (.int p2)])) t → Steps p.tables e below (T61.setTop (mkF m 276 #[.val (.int p1), .val (.int p2), .val (.int p3), .val (.int p4), .val (.int p5), .val (.int p6), .val (.int (own_c0 p1)), .val (.int (own_c1 p1)), .val (.int (own_la p1)), .val (.int (own_lc p1)), .val (.int (own_lb p1)), .val (.int (own_b0 p1)), .val (.int (own_b1 p1)), .val (.int (own_kd p1)), .val (.int (own_p2 p1 p2 p6)), .val (.int (own_r2 p1 p3 p6)), .val (.int (own_w2 p1 p4 p6)), .val (.int (own_t2 p1 p5 p6)), .val (.ref x42_0), .val (.ref x44_0), .val (.ref b46), .val (.ref b60), .unset] [])) t := fun t kt => pre92 t (by
                    show Steps p.tables e below (T61.setTop (mkF m 306 #[.val (.int p1), .val (.int p2), .val (.int p3), .val (.int p4), .val (.int p5), .val (.int p6), .val (.int (own_c0 p1)), .val (.int (own_c1 p1)), .val (.int (own_la p1)), .val (.int (own_lc p1)), .val (.int (own_lb p1)), .val (.int (own_b0 p1)), .val (.int (own_b1 p1)), .val (.int (own_kd p1)), .val (.int (own_p2 p1 p2 p6)), .val (.int (own_r2 p1 p3 p6)), .val (.int (own_w2 p1 p4 p6)), .val (.int (own_t2 p1 p5 p6)), .val (.ref x42_0), .val (.ref x44_0), .val (.ref b46), .val (.ref b60), .unset] [(.int (own_b1 p1)), (.int (own_c1 p1))])) _
                    refine XS.icmpNo X61w.here hx rfl (hb hby at_306) rfl (teq hc306_91).2 ?_
                    show Steps p.tables e below (T61.setTop (mkF m 309 #[.val (.int p1), .val (.int p2), .val (.int p3), .val (.int p4), .val (.int p5), .val (.int p6), .val (.int (own_c0 p1)), .val (.int (own_c1 p1)), .val (.int (own_la p1)), .val (.int (own_lc p1)), .val (.int (own_lb p1)), .val (.int (own_b0 p1)), .val (.int (own_b1 p1)), .val (.int (own_kd p1)), .val (.int (own_p2 p1 p2 p6)), .val (.int (own_r2 p1 p3 p6)), .val (.int (own_w2 p1 p4 p6)), .val (.int (own_t2 p1 p5 p6)), .val (.ref x42_0), .val (.ref x44_0), .val (.ref b46), .val (.ref b60), .unset] [])) _
                    refine XS.iloadN X61w.here hx rfl (hb hby at_309) rfl ?_
                    show Steps p.tables e below (T61.setTop (mkF m 310 #[.val (.int p1), .val (.int p2), .val (.int p3), .val (.int p4), .val (.int p5), .val (.int p6), .val (.int (own_c0 p1)), .val (.int (own_c1 p1)), .val (.int (own_la p1)), .val (.int (own_lc p1)), .val (.int (own_lb p1)), .val (.int (own_b0 p1)), .val (.int (own_b1 p1)), .val (.int (own_kd p1)), .val (.int (own_p2 p1 p2 p6)), .val (.int (own_r2 p1 p3 p6)), .val (.int (own_w2 p1 p4 p6)), .val (.int (own_t2 p1 p5 p6)), .val (.ref x42_0), .val (.ref x44_0), .val (.ref b46), .val (.ref b60), .unset] [(.int p2)])) _
                    refine XS.iload X61w.here hx rfl (hb hby at_310) rfl ?_
                    show Steps p.tables e below (T61.setTop (mkF m 312 #[.val (.int p1), .val (.int p2), .val (.int p3), .val (.int p4), .val (.int p5), .val (.int p6), .val (.int (own_c0 p1)), .val (.int (own_c1 p1)), .val (.int (own_la p1)), .val (.int (own_lc p1)), .val (.int (own_lb p1)), .val (.int (own_b0 p1)), .val (.int (own_b1 p1)), .val (.int (own_kd p1)), .val (.int (own_p2 p1 p2 p6)), .val (.int (own_r2 p1 p3 p6)), .val (.int (own_w2 p1 p4 p6)), .val (.int (own_t2 p1 p5 p6)), .val (.ref x42_0), .val (.ref x44_0), .val (.ref b46), .val (.ref b60), .unset] [(.int (own_p2 p1 p2 p6)), (.int p2)])) _
                    exact kt)
                  by_cases hc312_93 : p2 = (own_p2 p1 p2 p6)
                  · have pre96 : ∀ t, Steps p.tables e below (T61.setTop (mkF m 318 #[.val (.int p1), .val (.int p2), .val (.int p3), .val (.int p4), .val (.int p5), .val (.int p6), .val (.int (own_c0 p1)), .val (.int (own_c1 p1)), .val (.int (own_la p1)), .val (.int (own_lc p1)), .val (.int (own_lb p1)), .val (.int (own_b0 p1)), .val (.int (own_b1 p1)), .val (.int (own_kd p1)), .val (.int (own_p2 p1 p2 p6)), .val (.int (own_r2 p1 p3 p6)), .val (.int (own_w2 p1 p4 p6)), .val (.int (own_t2 p1 p5 p6)), .val (.ref x42_0), .val (.ref x44_0), .val (.ref b46), .val (.ref b60), .unset] [(.int (own_r2 p1 p3 p6)), (.int p3)])) t → Steps p.tables e below (T61.setTop (mkF m 276 #[.val (.int p1), .val (.int p2), .val (.int p3), .val (.int p4), .val (.int p5), .val (.int p6), .val (.int (own_c0 p1)), .val (.int (own_c1 p1)), .val (.int (own_la p1)), .val (.int (own_lc p1)), .val (.int (own_lb p1)), .val (.int (own_b0 p1)), .val (.int (own_b1 p1)), .val (.int (own_kd p1)), .val (.int (own_p2 p1 p2 p6)), .val (.int (own_r2 p1 p3 p6)), .val (.int (own_w2 p1 p4 p6)), .val (.int (own_t2 p1 p5 p6)), .val (.ref x42_0), .val (.ref x44_0), .val (.ref b46), .val (.ref b60), .unset] [])) t := fun t kt => pre94 t (by
                      show Steps p.tables e below (T61.setTop (mkF m 312 #[.val (.int p1), .val (.int p2), .val (.int p3), .val (.int p4), .val (.int p5), .val (.int p6), .val (.int (own_c0 p1)), .val (.int (own_c1 p1)), .val (.int (own_la p1)), .val (.int (own_lc p1)), .val (.int (own_lb p1)), .val (.int (own_b0 p1)), .val (.int (own_b1 p1)), .val (.int (own_kd p1)), .val (.int (own_p2 p1 p2 p6)), .val (.int (own_r2 p1 p3 p6)), .val (.int (own_w2 p1 p4 p6)), .val (.int (own_t2 p1 p5 p6)), .val (.ref x42_0), .val (.ref x44_0), .val (.ref b46), .val (.ref b60), .unset] [(.int (own_p2 p1 p2 p6)), (.int p2)])) _
                      refine XS.icmpNo X61w.here hx rfl (hb hby at_312) rfl (teq hc312_93).2 ?_
                      show Steps p.tables e below (T61.setTop (mkF m 315 #[.val (.int p1), .val (.int p2), .val (.int p3), .val (.int p4), .val (.int p5), .val (.int p6), .val (.int (own_c0 p1)), .val (.int (own_c1 p1)), .val (.int (own_la p1)), .val (.int (own_lc p1)), .val (.int (own_lb p1)), .val (.int (own_b0 p1)), .val (.int (own_b1 p1)), .val (.int (own_kd p1)), .val (.int (own_p2 p1 p2 p6)), .val (.int (own_r2 p1 p3 p6)), .val (.int (own_w2 p1 p4 p6)), .val (.int (own_t2 p1 p5 p6)), .val (.ref x42_0), .val (.ref x44_0), .val (.ref b46), .val (.ref b60), .unset] [])) _
                      refine XS.iloadN X61w.here hx rfl (hb hby at_315) rfl ?_
                      show Steps p.tables e below (T61.setTop (mkF m 316 #[.val (.int p1), .val (.int p2), .val (.int p3), .val (.int p4), .val (.int p5), .val (.int p6), .val (.int (own_c0 p1)), .val (.int (own_c1 p1)), .val (.int (own_la p1)), .val (.int (own_lc p1)), .val (.int (own_lb p1)), .val (.int (own_b0 p1)), .val (.int (own_b1 p1)), .val (.int (own_kd p1)), .val (.int (own_p2 p1 p2 p6)), .val (.int (own_r2 p1 p3 p6)), .val (.int (own_w2 p1 p4 p6)), .val (.int (own_t2 p1 p5 p6)), .val (.ref x42_0), .val (.ref x44_0), .val (.ref b46), .val (.ref b60), .unset] [(.int p3)])) _
                      refine XS.iload X61w.here hx rfl (hb hby at_316) rfl ?_
                      show Steps p.tables e below (T61.setTop (mkF m 318 #[.val (.int p1), .val (.int p2), .val (.int p3), .val (.int p4), .val (.int p5), .val (.int p6), .val (.int (own_c0 p1)), .val (.int (own_c1 p1)), .val (.int (own_la p1)), .val (.int (own_lc p1)), .val (.int (own_lb p1)), .val (.int (own_b0 p1)), .val (.int (own_b1 p1)), .val (.int (own_kd p1)), .val (.int (own_p2 p1 p2 p6)), .val (.int (own_r2 p1 p3 p6)), .val (.int (own_w2 p1 p4 p6)), .val (.int (own_t2 p1 p5 p6)), .val (.ref x42_0), .val (.ref x44_0), .val (.ref b46), .val (.ref b60), .unset] [(.int (own_r2 p1 p3 p6)), (.int p3)])) _
                      exact kt)
                    by_cases hc318_95 : p3 = (own_r2 p1 p3 p6)
                    · have pre98 : ∀ t, Steps p.tables e below (T61.setTop (mkF m 324 #[.val (.int p1), .val (.int p2), .val (.int p3), .val (.int p4), .val (.int p5), .val (.int p6), .val (.int (own_c0 p1)), .val (.int (own_c1 p1)), .val (.int (own_la p1)), .val (.int (own_lc p1)), .val (.int (own_lb p1)), .val (.int (own_b0 p1)), .val (.int (own_b1 p1)), .val (.int (own_kd p1)), .val (.int (own_p2 p1 p2 p6)), .val (.int (own_r2 p1 p3 p6)), .val (.int (own_w2 p1 p4 p6)), .val (.int (own_t2 p1 p5 p6)), .val (.ref x42_0), .val (.ref x44_0), .val (.ref b46), .val (.ref b60), .unset] [(.int (own_w2 p1 p4 p6)), (.int p4)])) t → Steps p.tables e below (T61.setTop (mkF m 276 #[.val (.int p1), .val (.int p2), .val (.int p3), .val (.int p4), .val (.int p5), .val (.int p6), .val (.int (own_c0 p1)), .val (.int (own_c1 p1)), .val (.int (own_la p1)), .val (.int (own_lc p1)), .val (.int (own_lb p1)), .val (.int (own_b0 p1)), .val (.int (own_b1 p1)), .val (.int (own_kd p1)), .val (.int (own_p2 p1 p2 p6)), .val (.int (own_r2 p1 p3 p6)), .val (.int (own_w2 p1 p4 p6)), .val (.int (own_t2 p1 p5 p6)), .val (.ref x42_0), .val (.ref x44_0), .val (.ref b46), .val (.ref b60), .unset] [])) t := fun t kt => pre96 t (by
                        show Steps p.tables e below (T61.setTop (mkF m 318 #[.val (.int p1), .val (.int p2), .val (.int p3), .val (.int p4), .val (.int p5), .val (.int p6), .val (.int (own_c0 p1)), .val (.int (own_c1 p1)), .val (.int (own_la p1)), .val (.int (own_lc p1)), .val (.int (own_lb p1)), .val (.int (own_b0 p1)), .val (.int (own_b1 p1)), .val (.int (own_kd p1)), .val (.int (own_p2 p1 p2 p6)), .val (.int (own_r2 p1 p3 p6)), .val (.int (own_w2 p1 p4 p6)), .val (.int (own_t2 p1 p5 p6)), .val (.ref x42_0), .val (.ref x44_0), .val (.ref b46), .val (.ref b60), .unset] [(.int (own_r2 p1 p3 p6)), (.int p3)])) _
                        refine XS.icmpNo X61w.here hx rfl (hb hby at_318) rfl (teq hc318_95).2 ?_
                        show Steps p.tables e below (T61.setTop (mkF m 321 #[.val (.int p1), .val (.int p2), .val (.int p3), .val (.int p4), .val (.int p5), .val (.int p6), .val (.int (own_c0 p1)), .val (.int (own_c1 p1)), .val (.int (own_la p1)), .val (.int (own_lc p1)), .val (.int (own_lb p1)), .val (.int (own_b0 p1)), .val (.int (own_b1 p1)), .val (.int (own_kd p1)), .val (.int (own_p2 p1 p2 p6)), .val (.int (own_r2 p1 p3 p6)), .val (.int (own_w2 p1 p4 p6)), .val (.int (own_t2 p1 p5 p6)), .val (.ref x42_0), .val (.ref x44_0), .val (.ref b46), .val (.ref b60), .unset] [])) _
                        refine XS.iloadN X61w.here hx rfl (hb hby at_321) rfl ?_
                        show Steps p.tables e below (T61.setTop (mkF m 322 #[.val (.int p1), .val (.int p2), .val (.int p3), .val (.int p4), .val (.int p5), .val (.int p6), .val (.int (own_c0 p1)), .val (.int (own_c1 p1)), .val (.int (own_la p1)), .val (.int (own_lc p1)), .val (.int (own_lb p1)), .val (.int (own_b0 p1)), .val (.int (own_b1 p1)), .val (.int (own_kd p1)), .val (.int (own_p2 p1 p2 p6)), .val (.int (own_r2 p1 p3 p6)), .val (.int (own_w2 p1 p4 p6)), .val (.int (own_t2 p1 p5 p6)), .val (.ref x42_0), .val (.ref x44_0), .val (.ref b46), .val (.ref b60), .unset] [(.int p4)])) _
                        refine XS.iload X61w.here hx rfl (hb hby at_322) rfl ?_
                        show Steps p.tables e below (T61.setTop (mkF m 324 #[.val (.int p1), .val (.int p2), .val (.int p3), .val (.int p4), .val (.int p5), .val (.int p6), .val (.int (own_c0 p1)), .val (.int (own_c1 p1)), .val (.int (own_la p1)), .val (.int (own_lc p1)), .val (.int (own_lb p1)), .val (.int (own_b0 p1)), .val (.int (own_b1 p1)), .val (.int (own_kd p1)), .val (.int (own_p2 p1 p2 p6)), .val (.int (own_r2 p1 p3 p6)), .val (.int (own_w2 p1 p4 p6)), .val (.int (own_t2 p1 p5 p6)), .val (.ref x42_0), .val (.ref x44_0), .val (.ref b46), .val (.ref b60), .unset] [(.int (own_w2 p1 p4 p6)), (.int p4)])) _
                        exact kt)
                      by_cases hc324_97 : p4 = (own_w2 p1 p4 p6)
                      · have pre100 : ∀ t, Steps p.tables e below (T61.setTop (mkF m 331 #[.val (.int p1), .val (.int p2), .val (.int p3), .val (.int p4), .val (.int p5), .val (.int p6), .val (.int (own_c0 p1)), .val (.int (own_c1 p1)), .val (.int (own_la p1)), .val (.int (own_lc p1)), .val (.int (own_lb p1)), .val (.int (own_b0 p1)), .val (.int (own_b1 p1)), .val (.int (own_kd p1)), .val (.int (own_p2 p1 p2 p6)), .val (.int (own_r2 p1 p3 p6)), .val (.int (own_w2 p1 p4 p6)), .val (.int (own_t2 p1 p5 p6)), .val (.ref x42_0), .val (.ref x44_0), .val (.ref b46), .val (.ref b60), .unset] [(.int (own_t2 p1 p5 p6)), (.int p5)])) t → Steps p.tables e below (T61.setTop (mkF m 276 #[.val (.int p1), .val (.int p2), .val (.int p3), .val (.int p4), .val (.int p5), .val (.int p6), .val (.int (own_c0 p1)), .val (.int (own_c1 p1)), .val (.int (own_la p1)), .val (.int (own_lc p1)), .val (.int (own_lb p1)), .val (.int (own_b0 p1)), .val (.int (own_b1 p1)), .val (.int (own_kd p1)), .val (.int (own_p2 p1 p2 p6)), .val (.int (own_r2 p1 p3 p6)), .val (.int (own_w2 p1 p4 p6)), .val (.int (own_t2 p1 p5 p6)), .val (.ref x42_0), .val (.ref x44_0), .val (.ref b46), .val (.ref b60), .unset] [])) t := fun t kt => pre98 t (by
                          show Steps p.tables e below (T61.setTop (mkF m 324 #[.val (.int p1), .val (.int p2), .val (.int p3), .val (.int p4), .val (.int p5), .val (.int p6), .val (.int (own_c0 p1)), .val (.int (own_c1 p1)), .val (.int (own_la p1)), .val (.int (own_lc p1)), .val (.int (own_lb p1)), .val (.int (own_b0 p1)), .val (.int (own_b1 p1)), .val (.int (own_kd p1)), .val (.int (own_p2 p1 p2 p6)), .val (.int (own_r2 p1 p3 p6)), .val (.int (own_w2 p1 p4 p6)), .val (.int (own_t2 p1 p5 p6)), .val (.ref x42_0), .val (.ref x44_0), .val (.ref b46), .val (.ref b60), .unset] [(.int (own_w2 p1 p4 p6)), (.int p4)])) _
                          refine XS.icmpNo X61w.here hx rfl (hb hby at_324) rfl (teq hc324_97).2 ?_
                          show Steps p.tables e below (T61.setTop (mkF m 327 #[.val (.int p1), .val (.int p2), .val (.int p3), .val (.int p4), .val (.int p5), .val (.int p6), .val (.int (own_c0 p1)), .val (.int (own_c1 p1)), .val (.int (own_la p1)), .val (.int (own_lc p1)), .val (.int (own_lb p1)), .val (.int (own_b0 p1)), .val (.int (own_b1 p1)), .val (.int (own_kd p1)), .val (.int (own_p2 p1 p2 p6)), .val (.int (own_r2 p1 p3 p6)), .val (.int (own_w2 p1 p4 p6)), .val (.int (own_t2 p1 p5 p6)), .val (.ref x42_0), .val (.ref x44_0), .val (.ref b46), .val (.ref b60), .unset] [])) _
                          refine XS.iload X61w.here hx rfl (hb hby at_327) rfl ?_
                          show Steps p.tables e below (T61.setTop (mkF m 329 #[.val (.int p1), .val (.int p2), .val (.int p3), .val (.int p4), .val (.int p5), .val (.int p6), .val (.int (own_c0 p1)), .val (.int (own_c1 p1)), .val (.int (own_la p1)), .val (.int (own_lc p1)), .val (.int (own_lb p1)), .val (.int (own_b0 p1)), .val (.int (own_b1 p1)), .val (.int (own_kd p1)), .val (.int (own_p2 p1 p2 p6)), .val (.int (own_r2 p1 p3 p6)), .val (.int (own_w2 p1 p4 p6)), .val (.int (own_t2 p1 p5 p6)), .val (.ref x42_0), .val (.ref x44_0), .val (.ref b46), .val (.ref b60), .unset] [(.int p5)])) _
                          refine XS.iload X61w.here hx rfl (hb hby at_329) rfl ?_
                          show Steps p.tables e below (T61.setTop (mkF m 331 #[.val (.int p1), .val (.int p2), .val (.int p3), .val (.int p4), .val (.int p5), .val (.int p6), .val (.int (own_c0 p1)), .val (.int (own_c1 p1)), .val (.int (own_la p1)), .val (.int (own_lc p1)), .val (.int (own_lb p1)), .val (.int (own_b0 p1)), .val (.int (own_b1 p1)), .val (.int (own_kd p1)), .val (.int (own_p2 p1 p2 p6)), .val (.int (own_r2 p1 p3 p6)), .val (.int (own_w2 p1 p4 p6)), .val (.int (own_t2 p1 p5 p6)), .val (.ref x42_0), .val (.ref x44_0), .val (.ref b46), .val (.ref b60), .unset] [(.int (own_t2 p1 p5 p6)), (.int p5)])) _
                          exact kt)
                        by_cases hc331_99 : p5 = (own_t2 p1 p5 p6)
                        · have pre101 : ∀ t, Steps p.tables e below (T61.setTop (mkF m 339 #[.val (.int p1), .val (.int p2), .val (.int p3), .val (.int p4), .val (.int p5), .val (.int p6), .val (.int (own_c0 p1)), .val (.int (own_c1 p1)), .val (.int (own_la p1)), .val (.int (own_lc p1)), .val (.int (own_lb p1)), .val (.int (own_b0 p1)), .val (.int (own_b1 p1)), .val (.int (own_kd p1)), .val (.int (own_p2 p1 p2 p6)), .val (.int (own_r2 p1 p3 p6)), .val (.int (own_w2 p1 p4 p6)), .val (.int (own_t2 p1 p5 p6)), .val (.ref x42_0), .val (.ref x44_0), .val (.ref b46), .val (.ref b60), .unset] [(.int (1 : Int32))])) t → Steps p.tables e below (T61.setTop (mkF m 276 #[.val (.int p1), .val (.int p2), .val (.int p3), .val (.int p4), .val (.int p5), .val (.int p6), .val (.int (own_c0 p1)), .val (.int (own_c1 p1)), .val (.int (own_la p1)), .val (.int (own_lc p1)), .val (.int (own_lb p1)), .val (.int (own_b0 p1)), .val (.int (own_b1 p1)), .val (.int (own_kd p1)), .val (.int (own_p2 p1 p2 p6)), .val (.int (own_r2 p1 p3 p6)), .val (.int (own_w2 p1 p4 p6)), .val (.int (own_t2 p1 p5 p6)), .val (.ref x42_0), .val (.ref x44_0), .val (.ref b46), .val (.ref b60), .unset] [])) t := fun t kt => pre100 t (by
                            show Steps p.tables e below (T61.setTop (mkF m 331 #[.val (.int p1), .val (.int p2), .val (.int p3), .val (.int p4), .val (.int p5), .val (.int p6), .val (.int (own_c0 p1)), .val (.int (own_c1 p1)), .val (.int (own_la p1)), .val (.int (own_lc p1)), .val (.int (own_lb p1)), .val (.int (own_b0 p1)), .val (.int (own_b1 p1)), .val (.int (own_kd p1)), .val (.int (own_p2 p1 p2 p6)), .val (.int (own_r2 p1 p3 p6)), .val (.int (own_w2 p1 p4 p6)), .val (.int (own_t2 p1 p5 p6)), .val (.ref x42_0), .val (.ref x44_0), .val (.ref b46), .val (.ref b60), .unset] [(.int (own_t2 p1 p5 p6)), (.int p5)])) _
                            refine XS.icmpNo X61w.here hx rfl (hb hby at_331) rfl (teq hc331_99).2 ?_
                            show Steps p.tables e below (T61.setTop (mkF m 334 #[.val (.int p1), .val (.int p2), .val (.int p3), .val (.int p4), .val (.int p5), .val (.int p6), .val (.int (own_c0 p1)), .val (.int (own_c1 p1)), .val (.int (own_la p1)), .val (.int (own_lc p1)), .val (.int (own_lb p1)), .val (.int (own_b0 p1)), .val (.int (own_b1 p1)), .val (.int (own_kd p1)), .val (.int (own_p2 p1 p2 p6)), .val (.int (own_r2 p1 p3 p6)), .val (.int (own_w2 p1 p4 p6)), .val (.int (own_t2 p1 p5 p6)), .val (.ref x42_0), .val (.ref x44_0), .val (.ref b46), .val (.ref b60), .unset] [])) _
                            refine XS.iconst X61w.here hx rfl (hb hby at_334) ?_
                            show Steps p.tables e below (T61.setTop (mkF m 335 #[.val (.int p1), .val (.int p2), .val (.int p3), .val (.int p4), .val (.int p5), .val (.int p6), .val (.int (own_c0 p1)), .val (.int (own_c1 p1)), .val (.int (own_la p1)), .val (.int (own_lc p1)), .val (.int (own_lb p1)), .val (.int (own_b0 p1)), .val (.int (own_b1 p1)), .val (.int (own_kd p1)), .val (.int (own_p2 p1 p2 p6)), .val (.int (own_r2 p1 p3 p6)), .val (.int (own_w2 p1 p4 p6)), .val (.int (own_t2 p1 p5 p6)), .val (.ref x42_0), .val (.ref x44_0), .val (.ref b46), .val (.ref b60), .unset] [(.int (1 : Int32))])) _
                            refine XS.goto X61w.here hx rfl (pc0 := 335) (pc' := 339) rfl (hb hby at_335) (by decide) (by decide) ?_
                            show Steps p.tables e below (T61.setTop (mkF m 339 #[.val (.int p1), .val (.int p2), .val (.int p3), .val (.int p4), .val (.int p5), .val (.int p6), .val (.int (own_c0 p1)), .val (.int (own_c1 p1)), .val (.int (own_la p1)), .val (.int (own_lc p1)), .val (.int (own_lb p1)), .val (.int (own_b0 p1)), .val (.int (own_b1 p1)), .val (.int (own_kd p1)), .val (.int (own_p2 p1 p2 p6)), .val (.int (own_r2 p1 p3 p6)), .val (.int (own_w2 p1 p4 p6)), .val (.int (own_t2 p1 p5 p6)), .val (.ref x42_0), .val (.ref x44_0), .val (.ref b46), .val (.ref b60), .unset] [(.int (1 : Int32))])) _
                            exact kt)
                          have qe : own_exp p1 p2 p3 p4 p5 p6 = (1 : Int32) := by unfold own_exp; rw [if_pos hc280_72, if_pos hc286_74, if_neg hc299_76, if_pos hc306_91, if_pos hc312_93, if_pos hc318_95, if_pos hc324_97, if_pos hc331_99]
                          rw [qe] at kt0
                          exact pre101 _ kt0
                        · have pre102 : ∀ t, Steps p.tables e below (T61.setTop (mkF m 339 #[.val (.int p1), .val (.int p2), .val (.int p3), .val (.int p4), .val (.int p5), .val (.int p6), .val (.int (own_c0 p1)), .val (.int (own_c1 p1)), .val (.int (own_la p1)), .val (.int (own_lc p1)), .val (.int (own_lb p1)), .val (.int (own_b0 p1)), .val (.int (own_b1 p1)), .val (.int (own_kd p1)), .val (.int (own_p2 p1 p2 p6)), .val (.int (own_r2 p1 p3 p6)), .val (.int (own_w2 p1 p4 p6)), .val (.int (own_t2 p1 p5 p6)), .val (.ref x42_0), .val (.ref x44_0), .val (.ref b46), .val (.ref b60), .unset] [(.int (0 : Int32))])) t → Steps p.tables e below (T61.setTop (mkF m 276 #[.val (.int p1), .val (.int p2), .val (.int p3), .val (.int p4), .val (.int p5), .val (.int p6), .val (.int (own_c0 p1)), .val (.int (own_c1 p1)), .val (.int (own_la p1)), .val (.int (own_lc p1)), .val (.int (own_lb p1)), .val (.int (own_b0 p1)), .val (.int (own_b1 p1)), .val (.int (own_kd p1)), .val (.int (own_p2 p1 p2 p6)), .val (.int (own_r2 p1 p3 p6)), .val (.int (own_w2 p1 p4 p6)), .val (.int (own_t2 p1 p5 p6)), .val (.ref x42_0), .val (.ref x44_0), .val (.ref b46), .val (.ref b60), .unset] [])) t := fun t kt => pre100 t (by
                            show Steps p.tables e below (T61.setTop (mkF m 331 #[.val (.int p1), .val (.int p2), .val (.int p3), .val (.int p4), .val (.int p5), .val (.int p6), .val (.int (own_c0 p1)), .val (.int (own_c1 p1)), .val (.int (own_la p1)), .val (.int (own_lc p1)), .val (.int (own_lb p1)), .val (.int (own_b0 p1)), .val (.int (own_b1 p1)), .val (.int (own_kd p1)), .val (.int (own_p2 p1 p2 p6)), .val (.int (own_r2 p1 p3 p6)), .val (.int (own_w2 p1 p4 p6)), .val (.int (own_t2 p1 p5 p6)), .val (.ref x42_0), .val (.ref x44_0), .val (.ref b46), .val (.ref b60), .unset] [(.int (own_t2 p1 p5 p6)), (.int p5)])) _
                            refine XS.icmpYes X61w.here hx rfl (pc0 := 331) (pc' := 338) rfl (hb hby at_331) rfl (feq hc331_99).2 (by decide) (by decide) ?_
                            show Steps p.tables e below (T61.setTop (mkF m 338 #[.val (.int p1), .val (.int p2), .val (.int p3), .val (.int p4), .val (.int p5), .val (.int p6), .val (.int (own_c0 p1)), .val (.int (own_c1 p1)), .val (.int (own_la p1)), .val (.int (own_lc p1)), .val (.int (own_lb p1)), .val (.int (own_b0 p1)), .val (.int (own_b1 p1)), .val (.int (own_kd p1)), .val (.int (own_p2 p1 p2 p6)), .val (.int (own_r2 p1 p3 p6)), .val (.int (own_w2 p1 p4 p6)), .val (.int (own_t2 p1 p5 p6)), .val (.ref x42_0), .val (.ref x44_0), .val (.ref b46), .val (.ref b60), .unset] [])) _
                            refine XS.iconst X61w.here hx rfl (hb hby at_338) ?_
                            show Steps p.tables e below (T61.setTop (mkF m 339 #[.val (.int p1), .val (.int p2), .val (.int p3), .val (.int p4), .val (.int p5), .val (.int p6), .val (.int (own_c0 p1)), .val (.int (own_c1 p1)), .val (.int (own_la p1)), .val (.int (own_lc p1)), .val (.int (own_lb p1)), .val (.int (own_b0 p1)), .val (.int (own_b1 p1)), .val (.int (own_kd p1)), .val (.int (own_p2 p1 p2 p6)), .val (.int (own_r2 p1 p3 p6)), .val (.int (own_w2 p1 p4 p6)), .val (.int (own_t2 p1 p5 p6)), .val (.ref x42_0), .val (.ref x44_0), .val (.ref b46), .val (.ref b60), .unset] [(.int (0 : Int32))])) _
                            exact kt)
                          have qe : own_exp p1 p2 p3 p4 p5 p6 = (0 : Int32) := by unfold own_exp; rw [if_pos hc280_72, if_pos hc286_74, if_neg hc299_76, if_pos hc306_91, if_pos hc312_93, if_pos hc318_95, if_pos hc324_97, if_neg hc331_99]
                          rw [qe] at kt0
                          exact pre102 _ kt0
                      · have pre103 : ∀ t, Steps p.tables e below (T61.setTop (mkF m 339 #[.val (.int p1), .val (.int p2), .val (.int p3), .val (.int p4), .val (.int p5), .val (.int p6), .val (.int (own_c0 p1)), .val (.int (own_c1 p1)), .val (.int (own_la p1)), .val (.int (own_lc p1)), .val (.int (own_lb p1)), .val (.int (own_b0 p1)), .val (.int (own_b1 p1)), .val (.int (own_kd p1)), .val (.int (own_p2 p1 p2 p6)), .val (.int (own_r2 p1 p3 p6)), .val (.int (own_w2 p1 p4 p6)), .val (.int (own_t2 p1 p5 p6)), .val (.ref x42_0), .val (.ref x44_0), .val (.ref b46), .val (.ref b60), .unset] [(.int (0 : Int32))])) t → Steps p.tables e below (T61.setTop (mkF m 276 #[.val (.int p1), .val (.int p2), .val (.int p3), .val (.int p4), .val (.int p5), .val (.int p6), .val (.int (own_c0 p1)), .val (.int (own_c1 p1)), .val (.int (own_la p1)), .val (.int (own_lc p1)), .val (.int (own_lb p1)), .val (.int (own_b0 p1)), .val (.int (own_b1 p1)), .val (.int (own_kd p1)), .val (.int (own_p2 p1 p2 p6)), .val (.int (own_r2 p1 p3 p6)), .val (.int (own_w2 p1 p4 p6)), .val (.int (own_t2 p1 p5 p6)), .val (.ref x42_0), .val (.ref x44_0), .val (.ref b46), .val (.ref b60), .unset] [])) t := fun t kt => pre98 t (by
                          show Steps p.tables e below (T61.setTop (mkF m 324 #[.val (.int p1), .val (.int p2), .val (.int p3), .val (.int p4), .val (.int p5), .val (.int p6), .val (.int (own_c0 p1)), .val (.int (own_c1 p1)), .val (.int (own_la p1)), .val (.int (own_lc p1)), .val (.int (own_lb p1)), .val (.int (own_b0 p1)), .val (.int (own_b1 p1)), .val (.int (own_kd p1)), .val (.int (own_p2 p1 p2 p6)), .val (.int (own_r2 p1 p3 p6)), .val (.int (own_w2 p1 p4 p6)), .val (.int (own_t2 p1 p5 p6)), .val (.ref x42_0), .val (.ref x44_0), .val (.ref b46), .val (.ref b60), .unset] [(.int (own_w2 p1 p4 p6)), (.int p4)])) _
                          refine XS.icmpYes X61w.here hx rfl (pc0 := 324) (pc' := 338) rfl (hb hby at_324) rfl (feq hc324_97).2 (by decide) (by decide) ?_
                          show Steps p.tables e below (T61.setTop (mkF m 338 #[.val (.int p1), .val (.int p2), .val (.int p3), .val (.int p4), .val (.int p5), .val (.int p6), .val (.int (own_c0 p1)), .val (.int (own_c1 p1)), .val (.int (own_la p1)), .val (.int (own_lc p1)), .val (.int (own_lb p1)), .val (.int (own_b0 p1)), .val (.int (own_b1 p1)), .val (.int (own_kd p1)), .val (.int (own_p2 p1 p2 p6)), .val (.int (own_r2 p1 p3 p6)), .val (.int (own_w2 p1 p4 p6)), .val (.int (own_t2 p1 p5 p6)), .val (.ref x42_0), .val (.ref x44_0), .val (.ref b46), .val (.ref b60), .unset] [])) _
                          refine XS.iconst X61w.here hx rfl (hb hby at_338) ?_
                          show Steps p.tables e below (T61.setTop (mkF m 339 #[.val (.int p1), .val (.int p2), .val (.int p3), .val (.int p4), .val (.int p5), .val (.int p6), .val (.int (own_c0 p1)), .val (.int (own_c1 p1)), .val (.int (own_la p1)), .val (.int (own_lc p1)), .val (.int (own_lb p1)), .val (.int (own_b0 p1)), .val (.int (own_b1 p1)), .val (.int (own_kd p1)), .val (.int (own_p2 p1 p2 p6)), .val (.int (own_r2 p1 p3 p6)), .val (.int (own_w2 p1 p4 p6)), .val (.int (own_t2 p1 p5 p6)), .val (.ref x42_0), .val (.ref x44_0), .val (.ref b46), .val (.ref b60), .unset] [(.int (0 : Int32))])) _
                          exact kt)
                        have qe : own_exp p1 p2 p3 p4 p5 p6 = (0 : Int32) := by unfold own_exp; rw [if_pos hc280_72, if_pos hc286_74, if_neg hc299_76, if_pos hc306_91, if_pos hc312_93, if_pos hc318_95, if_neg hc324_97]
                        rw [qe] at kt0
                        exact pre103 _ kt0
                    · have pre104 : ∀ t, Steps p.tables e below (T61.setTop (mkF m 339 #[.val (.int p1), .val (.int p2), .val (.int p3), .val (.int p4), .val (.int p5), .val (.int p6), .val (.int (own_c0 p1)), .val (.int (own_c1 p1)), .val (.int (own_la p1)), .val (.int (own_lc p1)), .val (.int (own_lb p1)), .val (.int (own_b0 p1)), .val (.int (own_b1 p1)), .val (.int (own_kd p1)), .val (.int (own_p2 p1 p2 p6)), .val (.int (own_r2 p1 p3 p6)), .val (.int (own_w2 p1 p4 p6)), .val (.int (own_t2 p1 p5 p6)), .val (.ref x42_0), .val (.ref x44_0), .val (.ref b46), .val (.ref b60), .unset] [(.int (0 : Int32))])) t → Steps p.tables e below (T61.setTop (mkF m 276 #[.val (.int p1), .val (.int p2), .val (.int p3), .val (.int p4), .val (.int p5), .val (.int p6), .val (.int (own_c0 p1)), .val (.int (own_c1 p1)), .val (.int (own_la p1)), .val (.int (own_lc p1)), .val (.int (own_lb p1)), .val (.int (own_b0 p1)), .val (.int (own_b1 p1)), .val (.int (own_kd p1)), .val (.int (own_p2 p1 p2 p6)), .val (.int (own_r2 p1 p3 p6)), .val (.int (own_w2 p1 p4 p6)), .val (.int (own_t2 p1 p5 p6)), .val (.ref x42_0), .val (.ref x44_0), .val (.ref b46), .val (.ref b60), .unset] [])) t := fun t kt => pre96 t (by
                        show Steps p.tables e below (T61.setTop (mkF m 318 #[.val (.int p1), .val (.int p2), .val (.int p3), .val (.int p4), .val (.int p5), .val (.int p6), .val (.int (own_c0 p1)), .val (.int (own_c1 p1)), .val (.int (own_la p1)), .val (.int (own_lc p1)), .val (.int (own_lb p1)), .val (.int (own_b0 p1)), .val (.int (own_b1 p1)), .val (.int (own_kd p1)), .val (.int (own_p2 p1 p2 p6)), .val (.int (own_r2 p1 p3 p6)), .val (.int (own_w2 p1 p4 p6)), .val (.int (own_t2 p1 p5 p6)), .val (.ref x42_0), .val (.ref x44_0), .val (.ref b46), .val (.ref b60), .unset] [(.int (own_r2 p1 p3 p6)), (.int p3)])) _
                        refine XS.icmpYes X61w.here hx rfl (pc0 := 318) (pc' := 338) rfl (hb hby at_318) rfl (feq hc318_95).2 (by decide) (by decide) ?_
                        show Steps p.tables e below (T61.setTop (mkF m 338 #[.val (.int p1), .val (.int p2), .val (.int p3), .val (.int p4), .val (.int p5), .val (.int p6), .val (.int (own_c0 p1)), .val (.int (own_c1 p1)), .val (.int (own_la p1)), .val (.int (own_lc p1)), .val (.int (own_lb p1)), .val (.int (own_b0 p1)), .val (.int (own_b1 p1)), .val (.int (own_kd p1)), .val (.int (own_p2 p1 p2 p6)), .val (.int (own_r2 p1 p3 p6)), .val (.int (own_w2 p1 p4 p6)), .val (.int (own_t2 p1 p5 p6)), .val (.ref x42_0), .val (.ref x44_0), .val (.ref b46), .val (.ref b60), .unset] [])) _
                        refine XS.iconst X61w.here hx rfl (hb hby at_338) ?_
                        show Steps p.tables e below (T61.setTop (mkF m 339 #[.val (.int p1), .val (.int p2), .val (.int p3), .val (.int p4), .val (.int p5), .val (.int p6), .val (.int (own_c0 p1)), .val (.int (own_c1 p1)), .val (.int (own_la p1)), .val (.int (own_lc p1)), .val (.int (own_lb p1)), .val (.int (own_b0 p1)), .val (.int (own_b1 p1)), .val (.int (own_kd p1)), .val (.int (own_p2 p1 p2 p6)), .val (.int (own_r2 p1 p3 p6)), .val (.int (own_w2 p1 p4 p6)), .val (.int (own_t2 p1 p5 p6)), .val (.ref x42_0), .val (.ref x44_0), .val (.ref b46), .val (.ref b60), .unset] [(.int (0 : Int32))])) _
                        exact kt)
                      have qe : own_exp p1 p2 p3 p4 p5 p6 = (0 : Int32) := by unfold own_exp; rw [if_pos hc280_72, if_pos hc286_74, if_neg hc299_76, if_pos hc306_91, if_pos hc312_93, if_neg hc318_95]
                      rw [qe] at kt0
                      exact pre104 _ kt0
                  · have pre105 : ∀ t, Steps p.tables e below (T61.setTop (mkF m 339 #[.val (.int p1), .val (.int p2), .val (.int p3), .val (.int p4), .val (.int p5), .val (.int p6), .val (.int (own_c0 p1)), .val (.int (own_c1 p1)), .val (.int (own_la p1)), .val (.int (own_lc p1)), .val (.int (own_lb p1)), .val (.int (own_b0 p1)), .val (.int (own_b1 p1)), .val (.int (own_kd p1)), .val (.int (own_p2 p1 p2 p6)), .val (.int (own_r2 p1 p3 p6)), .val (.int (own_w2 p1 p4 p6)), .val (.int (own_t2 p1 p5 p6)), .val (.ref x42_0), .val (.ref x44_0), .val (.ref b46), .val (.ref b60), .unset] [(.int (0 : Int32))])) t → Steps p.tables e below (T61.setTop (mkF m 276 #[.val (.int p1), .val (.int p2), .val (.int p3), .val (.int p4), .val (.int p5), .val (.int p6), .val (.int (own_c0 p1)), .val (.int (own_c1 p1)), .val (.int (own_la p1)), .val (.int (own_lc p1)), .val (.int (own_lb p1)), .val (.int (own_b0 p1)), .val (.int (own_b1 p1)), .val (.int (own_kd p1)), .val (.int (own_p2 p1 p2 p6)), .val (.int (own_r2 p1 p3 p6)), .val (.int (own_w2 p1 p4 p6)), .val (.int (own_t2 p1 p5 p6)), .val (.ref x42_0), .val (.ref x44_0), .val (.ref b46), .val (.ref b60), .unset] [])) t := fun t kt => pre94 t (by
                      show Steps p.tables e below (T61.setTop (mkF m 312 #[.val (.int p1), .val (.int p2), .val (.int p3), .val (.int p4), .val (.int p5), .val (.int p6), .val (.int (own_c0 p1)), .val (.int (own_c1 p1)), .val (.int (own_la p1)), .val (.int (own_lc p1)), .val (.int (own_lb p1)), .val (.int (own_b0 p1)), .val (.int (own_b1 p1)), .val (.int (own_kd p1)), .val (.int (own_p2 p1 p2 p6)), .val (.int (own_r2 p1 p3 p6)), .val (.int (own_w2 p1 p4 p6)), .val (.int (own_t2 p1 p5 p6)), .val (.ref x42_0), .val (.ref x44_0), .val (.ref b46), .val (.ref b60), .unset] [(.int (own_p2 p1 p2 p6)), (.int p2)])) _
                      refine XS.icmpYes X61w.here hx rfl (pc0 := 312) (pc' := 338) rfl (hb hby at_312) rfl (feq hc312_93).2 (by decide) (by decide) ?_
                      show Steps p.tables e below (T61.setTop (mkF m 338 #[.val (.int p1), .val (.int p2), .val (.int p3), .val (.int p4), .val (.int p5), .val (.int p6), .val (.int (own_c0 p1)), .val (.int (own_c1 p1)), .val (.int (own_la p1)), .val (.int (own_lc p1)), .val (.int (own_lb p1)), .val (.int (own_b0 p1)), .val (.int (own_b1 p1)), .val (.int (own_kd p1)), .val (.int (own_p2 p1 p2 p6)), .val (.int (own_r2 p1 p3 p6)), .val (.int (own_w2 p1 p4 p6)), .val (.int (own_t2 p1 p5 p6)), .val (.ref x42_0), .val (.ref x44_0), .val (.ref b46), .val (.ref b60), .unset] [])) _
                      refine XS.iconst X61w.here hx rfl (hb hby at_338) ?_
                      show Steps p.tables e below (T61.setTop (mkF m 339 #[.val (.int p1), .val (.int p2), .val (.int p3), .val (.int p4), .val (.int p5), .val (.int p6), .val (.int (own_c0 p1)), .val (.int (own_c1 p1)), .val (.int (own_la p1)), .val (.int (own_lc p1)), .val (.int (own_lb p1)), .val (.int (own_b0 p1)), .val (.int (own_b1 p1)), .val (.int (own_kd p1)), .val (.int (own_p2 p1 p2 p6)), .val (.int (own_r2 p1 p3 p6)), .val (.int (own_w2 p1 p4 p6)), .val (.int (own_t2 p1 p5 p6)), .val (.ref x42_0), .val (.ref x44_0), .val (.ref b46), .val (.ref b60), .unset] [(.int (0 : Int32))])) _
                      exact kt)
                    have qe : own_exp p1 p2 p3 p4 p5 p6 = (0 : Int32) := by unfold own_exp; rw [if_pos hc280_72, if_pos hc286_74, if_neg hc299_76, if_pos hc306_91, if_neg hc312_93]
                    rw [qe] at kt0
                    exact pre105 _ kt0
                · have pre106 : ∀ t, Steps p.tables e below (T61.setTop (mkF m 339 #[.val (.int p1), .val (.int p2), .val (.int p3), .val (.int p4), .val (.int p5), .val (.int p6), .val (.int (own_c0 p1)), .val (.int (own_c1 p1)), .val (.int (own_la p1)), .val (.int (own_lc p1)), .val (.int (own_lb p1)), .val (.int (own_b0 p1)), .val (.int (own_b1 p1)), .val (.int (own_kd p1)), .val (.int (own_p2 p1 p2 p6)), .val (.int (own_r2 p1 p3 p6)), .val (.int (own_w2 p1 p4 p6)), .val (.int (own_t2 p1 p5 p6)), .val (.ref x42_0), .val (.ref x44_0), .val (.ref b46), .val (.ref b60), .unset] [(.int (0 : Int32))])) t → Steps p.tables e below (T61.setTop (mkF m 276 #[.val (.int p1), .val (.int p2), .val (.int p3), .val (.int p4), .val (.int p5), .val (.int p6), .val (.int (own_c0 p1)), .val (.int (own_c1 p1)), .val (.int (own_la p1)), .val (.int (own_lc p1)), .val (.int (own_lb p1)), .val (.int (own_b0 p1)), .val (.int (own_b1 p1)), .val (.int (own_kd p1)), .val (.int (own_p2 p1 p2 p6)), .val (.int (own_r2 p1 p3 p6)), .val (.int (own_w2 p1 p4 p6)), .val (.int (own_t2 p1 p5 p6)), .val (.ref x42_0), .val (.ref x44_0), .val (.ref b46), .val (.ref b60), .unset] [])) t := fun t kt => pre92 t (by
                    show Steps p.tables e below (T61.setTop (mkF m 306 #[.val (.int p1), .val (.int p2), .val (.int p3), .val (.int p4), .val (.int p5), .val (.int p6), .val (.int (own_c0 p1)), .val (.int (own_c1 p1)), .val (.int (own_la p1)), .val (.int (own_lc p1)), .val (.int (own_lb p1)), .val (.int (own_b0 p1)), .val (.int (own_b1 p1)), .val (.int (own_kd p1)), .val (.int (own_p2 p1 p2 p6)), .val (.int (own_r2 p1 p3 p6)), .val (.int (own_w2 p1 p4 p6)), .val (.int (own_t2 p1 p5 p6)), .val (.ref x42_0), .val (.ref x44_0), .val (.ref b46), .val (.ref b60), .unset] [(.int (own_b1 p1)), (.int (own_c1 p1))])) _
                    refine XS.icmpYes X61w.here hx rfl (pc0 := 306) (pc' := 338) rfl (hb hby at_306) rfl (feq hc306_91).2 (by decide) (by decide) ?_
                    show Steps p.tables e below (T61.setTop (mkF m 338 #[.val (.int p1), .val (.int p2), .val (.int p3), .val (.int p4), .val (.int p5), .val (.int p6), .val (.int (own_c0 p1)), .val (.int (own_c1 p1)), .val (.int (own_la p1)), .val (.int (own_lc p1)), .val (.int (own_lb p1)), .val (.int (own_b0 p1)), .val (.int (own_b1 p1)), .val (.int (own_kd p1)), .val (.int (own_p2 p1 p2 p6)), .val (.int (own_r2 p1 p3 p6)), .val (.int (own_w2 p1 p4 p6)), .val (.int (own_t2 p1 p5 p6)), .val (.ref x42_0), .val (.ref x44_0), .val (.ref b46), .val (.ref b60), .unset] [])) _
                    refine XS.iconst X61w.here hx rfl (hb hby at_338) ?_
                    show Steps p.tables e below (T61.setTop (mkF m 339 #[.val (.int p1), .val (.int p2), .val (.int p3), .val (.int p4), .val (.int p5), .val (.int p6), .val (.int (own_c0 p1)), .val (.int (own_c1 p1)), .val (.int (own_la p1)), .val (.int (own_lc p1)), .val (.int (own_lb p1)), .val (.int (own_b0 p1)), .val (.int (own_b1 p1)), .val (.int (own_kd p1)), .val (.int (own_p2 p1 p2 p6)), .val (.int (own_r2 p1 p3 p6)), .val (.int (own_w2 p1 p4 p6)), .val (.int (own_t2 p1 p5 p6)), .val (.ref x42_0), .val (.ref x44_0), .val (.ref b46), .val (.ref b60), .unset] [(.int (0 : Int32))])) _
                    exact kt)
                  have qe : own_exp p1 p2 p3 p4 p5 p6 = (0 : Int32) := by unfold own_exp; rw [if_pos hc280_72, if_pos hc286_74, if_neg hc299_76, if_neg hc306_91]
                  rw [qe] at kt0
                  exact pre106 _ kt0
            · have pre108 : ∀ t, Steps p.tables e below (T61.setTop (mkF m 293 #[.val (.int p1), .val (.int p2), .val (.int p3), .val (.int p4), .val (.int p5), .val (.int p6), .val (.int (own_c0 p1)), .val (.int (own_c1 p1)), .val (.int (own_la p1)), .val (.int (own_lc p1)), .val (.int (own_lb p1)), .val (.int (own_b0 p1)), .val (.int (own_b1 p1)), .val (.int (own_kd p1)), .val (.int (own_p2 p1 p2 p6)), .val (.int (own_r2 p1 p3 p6)), .val (.int (own_w2 p1 p4 p6)), .val (.int (own_t2 p1 p5 p6)), .val (.ref x42_0), .val (.ref x44_0), .val (.ref b46), .val (.ref b60), .unset] [(.int (own_b0 p1)), (.int (own_c0 p1))])) t → Steps p.tables e below (T61.setTop (mkF m 276 #[.val (.int p1), .val (.int p2), .val (.int p3), .val (.int p4), .val (.int p5), .val (.int p6), .val (.int (own_c0 p1)), .val (.int (own_c1 p1)), .val (.int (own_la p1)), .val (.int (own_lc p1)), .val (.int (own_lb p1)), .val (.int (own_b0 p1)), .val (.int (own_b1 p1)), .val (.int (own_kd p1)), .val (.int (own_p2 p1 p2 p6)), .val (.int (own_r2 p1 p3 p6)), .val (.int (own_w2 p1 p4 p6)), .val (.int (own_t2 p1 p5 p6)), .val (.ref x42_0), .val (.ref x44_0), .val (.ref b46), .val (.ref b60), .unset] [])) t := fun t kt => pre75 t (by
                show Steps p.tables e below (T61.setTop (mkF m 286 #[.val (.int p1), .val (.int p2), .val (.int p3), .val (.int p4), .val (.int p5), .val (.int p6), .val (.int (own_c0 p1)), .val (.int (own_c1 p1)), .val (.int (own_la p1)), .val (.int (own_lc p1)), .val (.int (own_lb p1)), .val (.int (own_b0 p1)), .val (.int (own_b1 p1)), .val (.int (own_kd p1)), .val (.int (own_p2 p1 p2 p6)), .val (.int (own_r2 p1 p3 p6)), .val (.int (own_w2 p1 p4 p6)), .val (.int (own_t2 p1 p5 p6)), .val (.ref x42_0), .val (.ref x44_0), .val (.ref b46), .val (.ref b60), .unset] [(.int (1 : Int32)), (.int (own_la p1))])) _
                refine XS.icmpNo X61w.here hx rfl (hb hby at_286) rfl (flt hc286_74).1 ?_
                show Steps p.tables e below (T61.setTop (mkF m 289 #[.val (.int p1), .val (.int p2), .val (.int p3), .val (.int p4), .val (.int p5), .val (.int p6), .val (.int (own_c0 p1)), .val (.int (own_c1 p1)), .val (.int (own_la p1)), .val (.int (own_lc p1)), .val (.int (own_lb p1)), .val (.int (own_b0 p1)), .val (.int (own_b1 p1)), .val (.int (own_kd p1)), .val (.int (own_p2 p1 p2 p6)), .val (.int (own_r2 p1 p3 p6)), .val (.int (own_w2 p1 p4 p6)), .val (.int (own_t2 p1 p5 p6)), .val (.ref x42_0), .val (.ref x44_0), .val (.ref b46), .val (.ref b60), .unset] [])) _
                refine XS.iload X61w.here hx rfl (hb hby at_289) rfl ?_
                show Steps p.tables e below (T61.setTop (mkF m 291 #[.val (.int p1), .val (.int p2), .val (.int p3), .val (.int p4), .val (.int p5), .val (.int p6), .val (.int (own_c0 p1)), .val (.int (own_c1 p1)), .val (.int (own_la p1)), .val (.int (own_lc p1)), .val (.int (own_lb p1)), .val (.int (own_b0 p1)), .val (.int (own_b1 p1)), .val (.int (own_kd p1)), .val (.int (own_p2 p1 p2 p6)), .val (.int (own_r2 p1 p3 p6)), .val (.int (own_w2 p1 p4 p6)), .val (.int (own_t2 p1 p5 p6)), .val (.ref x42_0), .val (.ref x44_0), .val (.ref b46), .val (.ref b60), .unset] [(.int (own_c0 p1))])) _
                refine XS.iload X61w.here hx rfl (hb hby at_291) rfl ?_
                show Steps p.tables e below (T61.setTop (mkF m 293 #[.val (.int p1), .val (.int p2), .val (.int p3), .val (.int p4), .val (.int p5), .val (.int p6), .val (.int (own_c0 p1)), .val (.int (own_c1 p1)), .val (.int (own_la p1)), .val (.int (own_lc p1)), .val (.int (own_lb p1)), .val (.int (own_b0 p1)), .val (.int (own_b1 p1)), .val (.int (own_kd p1)), .val (.int (own_p2 p1 p2 p6)), .val (.int (own_r2 p1 p3 p6)), .val (.int (own_w2 p1 p4 p6)), .val (.int (own_t2 p1 p5 p6)), .val (.ref x42_0), .val (.ref x44_0), .val (.ref b46), .val (.ref b60), .unset] [(.int (own_b0 p1)), (.int (own_c0 p1))])) _
                exact kt)
              by_cases hc293_107 : (own_c0 p1) = (own_b0 p1)
              · have pre110 : ∀ t, Steps p.tables e below (T61.setTop (mkF m 299 #[.val (.int p1), .val (.int p2), .val (.int p3), .val (.int p4), .val (.int p5), .val (.int p6), .val (.int (own_c0 p1)), .val (.int (own_c1 p1)), .val (.int (own_la p1)), .val (.int (own_lc p1)), .val (.int (own_lb p1)), .val (.int (own_b0 p1)), .val (.int (own_b1 p1)), .val (.int (own_kd p1)), .val (.int (own_p2 p1 p2 p6)), .val (.int (own_r2 p1 p3 p6)), .val (.int (own_w2 p1 p4 p6)), .val (.int (own_t2 p1 p5 p6)), .val (.ref x42_0), .val (.ref x44_0), .val (.ref b46), .val (.ref b60), .unset] [(.int (2 : Int32)), (.int (own_la p1))])) t → Steps p.tables e below (T61.setTop (mkF m 276 #[.val (.int p1), .val (.int p2), .val (.int p3), .val (.int p4), .val (.int p5), .val (.int p6), .val (.int (own_c0 p1)), .val (.int (own_c1 p1)), .val (.int (own_la p1)), .val (.int (own_lc p1)), .val (.int (own_lb p1)), .val (.int (own_b0 p1)), .val (.int (own_b1 p1)), .val (.int (own_kd p1)), .val (.int (own_p2 p1 p2 p6)), .val (.int (own_r2 p1 p3 p6)), .val (.int (own_w2 p1 p4 p6)), .val (.int (own_t2 p1 p5 p6)), .val (.ref x42_0), .val (.ref x44_0), .val (.ref b46), .val (.ref b60), .unset] [])) t := fun t kt => pre108 t (by
                  show Steps p.tables e below (T61.setTop (mkF m 293 #[.val (.int p1), .val (.int p2), .val (.int p3), .val (.int p4), .val (.int p5), .val (.int p6), .val (.int (own_c0 p1)), .val (.int (own_c1 p1)), .val (.int (own_la p1)), .val (.int (own_lc p1)), .val (.int (own_lb p1)), .val (.int (own_b0 p1)), .val (.int (own_b1 p1)), .val (.int (own_kd p1)), .val (.int (own_p2 p1 p2 p6)), .val (.int (own_r2 p1 p3 p6)), .val (.int (own_w2 p1 p4 p6)), .val (.int (own_t2 p1 p5 p6)), .val (.ref x42_0), .val (.ref x44_0), .val (.ref b46), .val (.ref b60), .unset] [(.int (own_b0 p1)), (.int (own_c0 p1))])) _
                  refine XS.icmpNo X61w.here hx rfl (hb hby at_293) rfl (teq hc293_107).2 ?_
                  show Steps p.tables e below (T61.setTop (mkF m 296 #[.val (.int p1), .val (.int p2), .val (.int p3), .val (.int p4), .val (.int p5), .val (.int p6), .val (.int (own_c0 p1)), .val (.int (own_c1 p1)), .val (.int (own_la p1)), .val (.int (own_lc p1)), .val (.int (own_lb p1)), .val (.int (own_b0 p1)), .val (.int (own_b1 p1)), .val (.int (own_kd p1)), .val (.int (own_p2 p1 p2 p6)), .val (.int (own_r2 p1 p3 p6)), .val (.int (own_w2 p1 p4 p6)), .val (.int (own_t2 p1 p5 p6)), .val (.ref x42_0), .val (.ref x44_0), .val (.ref b46), .val (.ref b60), .unset] [])) _
                  refine XS.iload X61w.here hx rfl (hb hby at_296) rfl ?_
                  show Steps p.tables e below (T61.setTop (mkF m 298 #[.val (.int p1), .val (.int p2), .val (.int p3), .val (.int p4), .val (.int p5), .val (.int p6), .val (.int (own_c0 p1)), .val (.int (own_c1 p1)), .val (.int (own_la p1)), .val (.int (own_lc p1)), .val (.int (own_lb p1)), .val (.int (own_b0 p1)), .val (.int (own_b1 p1)), .val (.int (own_kd p1)), .val (.int (own_p2 p1 p2 p6)), .val (.int (own_r2 p1 p3 p6)), .val (.int (own_w2 p1 p4 p6)), .val (.int (own_t2 p1 p5 p6)), .val (.ref x42_0), .val (.ref x44_0), .val (.ref b46), .val (.ref b60), .unset] [(.int (own_la p1))])) _
                  refine XS.iconst X61w.here hx rfl (hb hby at_298) ?_
                  show Steps p.tables e below (T61.setTop (mkF m 299 #[.val (.int p1), .val (.int p2), .val (.int p3), .val (.int p4), .val (.int p5), .val (.int p6), .val (.int (own_c0 p1)), .val (.int (own_c1 p1)), .val (.int (own_la p1)), .val (.int (own_lc p1)), .val (.int (own_lb p1)), .val (.int (own_b0 p1)), .val (.int (own_b1 p1)), .val (.int (own_kd p1)), .val (.int (own_p2 p1 p2 p6)), .val (.int (own_r2 p1 p3 p6)), .val (.int (own_w2 p1 p4 p6)), .val (.int (own_t2 p1 p5 p6)), .val (.ref x42_0), .val (.ref x44_0), .val (.ref b46), .val (.ref b60), .unset] [(.int (2 : Int32)), (.int (own_la p1))])) _
                  exact kt)
                by_cases hc299_109 : (own_la p1) < (2 : Int32)
                · have pre112 : ∀ t, Steps p.tables e below (T61.setTop (mkF m 312 #[.val (.int p1), .val (.int p2), .val (.int p3), .val (.int p4), .val (.int p5), .val (.int p6), .val (.int (own_c0 p1)), .val (.int (own_c1 p1)), .val (.int (own_la p1)), .val (.int (own_lc p1)), .val (.int (own_lb p1)), .val (.int (own_b0 p1)), .val (.int (own_b1 p1)), .val (.int (own_kd p1)), .val (.int (own_p2 p1 p2 p6)), .val (.int (own_r2 p1 p3 p6)), .val (.int (own_w2 p1 p4 p6)), .val (.int (own_t2 p1 p5 p6)), .val (.ref x42_0), .val (.ref x44_0), .val (.ref b46), .val (.ref b60), .unset] [(.int (own_p2 p1 p2 p6)), (.int p2)])) t → Steps p.tables e below (T61.setTop (mkF m 276 #[.val (.int p1), .val (.int p2), .val (.int p3), .val (.int p4), .val (.int p5), .val (.int p6), .val (.int (own_c0 p1)), .val (.int (own_c1 p1)), .val (.int (own_la p1)), .val (.int (own_lc p1)), .val (.int (own_lb p1)), .val (.int (own_b0 p1)), .val (.int (own_b1 p1)), .val (.int (own_kd p1)), .val (.int (own_p2 p1 p2 p6)), .val (.int (own_r2 p1 p3 p6)), .val (.int (own_w2 p1 p4 p6)), .val (.int (own_t2 p1 p5 p6)), .val (.ref x42_0), .val (.ref x44_0), .val (.ref b46), .val (.ref b60), .unset] [])) t := fun t kt => pre110 t (by
                    show Steps p.tables e below (T61.setTop (mkF m 299 #[.val (.int p1), .val (.int p2), .val (.int p3), .val (.int p4), .val (.int p5), .val (.int p6), .val (.int (own_c0 p1)), .val (.int (own_c1 p1)), .val (.int (own_la p1)), .val (.int (own_lc p1)), .val (.int (own_lb p1)), .val (.int (own_b0 p1)), .val (.int (own_b1 p1)), .val (.int (own_kd p1)), .val (.int (own_p2 p1 p2 p6)), .val (.int (own_r2 p1 p3 p6)), .val (.int (own_w2 p1 p4 p6)), .val (.int (own_t2 p1 p5 p6)), .val (.ref x42_0), .val (.ref x44_0), .val (.ref b46), .val (.ref b60), .unset] [(.int (2 : Int32)), (.int (own_la p1))])) _
                    refine XS.icmpYes X61w.here hx rfl (pc0 := 299) (pc' := 309) rfl (hb hby at_299) rfl (tlt hc299_109).1 (by decide) (by decide) ?_
                    show Steps p.tables e below (T61.setTop (mkF m 309 #[.val (.int p1), .val (.int p2), .val (.int p3), .val (.int p4), .val (.int p5), .val (.int p6), .val (.int (own_c0 p1)), .val (.int (own_c1 p1)), .val (.int (own_la p1)), .val (.int (own_lc p1)), .val (.int (own_lb p1)), .val (.int (own_b0 p1)), .val (.int (own_b1 p1)), .val (.int (own_kd p1)), .val (.int (own_p2 p1 p2 p6)), .val (.int (own_r2 p1 p3 p6)), .val (.int (own_w2 p1 p4 p6)), .val (.int (own_t2 p1 p5 p6)), .val (.ref x42_0), .val (.ref x44_0), .val (.ref b46), .val (.ref b60), .unset] [])) _
                    refine XS.iloadN X61w.here hx rfl (hb hby at_309) rfl ?_
                    show Steps p.tables e below (T61.setTop (mkF m 310 #[.val (.int p1), .val (.int p2), .val (.int p3), .val (.int p4), .val (.int p5), .val (.int p6), .val (.int (own_c0 p1)), .val (.int (own_c1 p1)), .val (.int (own_la p1)), .val (.int (own_lc p1)), .val (.int (own_lb p1)), .val (.int (own_b0 p1)), .val (.int (own_b1 p1)), .val (.int (own_kd p1)), .val (.int (own_p2 p1 p2 p6)), .val (.int (own_r2 p1 p3 p6)), .val (.int (own_w2 p1 p4 p6)), .val (.int (own_t2 p1 p5 p6)), .val (.ref x42_0), .val (.ref x44_0), .val (.ref b46), .val (.ref b60), .unset] [(.int p2)])) _
                    refine XS.iload X61w.here hx rfl (hb hby at_310) rfl ?_
                    show Steps p.tables e below (T61.setTop (mkF m 312 #[.val (.int p1), .val (.int p2), .val (.int p3), .val (.int p4), .val (.int p5), .val (.int p6), .val (.int (own_c0 p1)), .val (.int (own_c1 p1)), .val (.int (own_la p1)), .val (.int (own_lc p1)), .val (.int (own_lb p1)), .val (.int (own_b0 p1)), .val (.int (own_b1 p1)), .val (.int (own_kd p1)), .val (.int (own_p2 p1 p2 p6)), .val (.int (own_r2 p1 p3 p6)), .val (.int (own_w2 p1 p4 p6)), .val (.int (own_t2 p1 p5 p6)), .val (.ref x42_0), .val (.ref x44_0), .val (.ref b46), .val (.ref b60), .unset] [(.int (own_p2 p1 p2 p6)), (.int p2)])) _
                    exact kt)
                  by_cases hc312_111 : p2 = (own_p2 p1 p2 p6)
                  · have pre114 : ∀ t, Steps p.tables e below (T61.setTop (mkF m 318 #[.val (.int p1), .val (.int p2), .val (.int p3), .val (.int p4), .val (.int p5), .val (.int p6), .val (.int (own_c0 p1)), .val (.int (own_c1 p1)), .val (.int (own_la p1)), .val (.int (own_lc p1)), .val (.int (own_lb p1)), .val (.int (own_b0 p1)), .val (.int (own_b1 p1)), .val (.int (own_kd p1)), .val (.int (own_p2 p1 p2 p6)), .val (.int (own_r2 p1 p3 p6)), .val (.int (own_w2 p1 p4 p6)), .val (.int (own_t2 p1 p5 p6)), .val (.ref x42_0), .val (.ref x44_0), .val (.ref b46), .val (.ref b60), .unset] [(.int (own_r2 p1 p3 p6)), (.int p3)])) t → Steps p.tables e below (T61.setTop (mkF m 276 #[.val (.int p1), .val (.int p2), .val (.int p3), .val (.int p4), .val (.int p5), .val (.int p6), .val (.int (own_c0 p1)), .val (.int (own_c1 p1)), .val (.int (own_la p1)), .val (.int (own_lc p1)), .val (.int (own_lb p1)), .val (.int (own_b0 p1)), .val (.int (own_b1 p1)), .val (.int (own_kd p1)), .val (.int (own_p2 p1 p2 p6)), .val (.int (own_r2 p1 p3 p6)), .val (.int (own_w2 p1 p4 p6)), .val (.int (own_t2 p1 p5 p6)), .val (.ref x42_0), .val (.ref x44_0), .val (.ref b46), .val (.ref b60), .unset] [])) t := fun t kt => pre112 t (by
                      show Steps p.tables e below (T61.setTop (mkF m 312 #[.val (.int p1), .val (.int p2), .val (.int p3), .val (.int p4), .val (.int p5), .val (.int p6), .val (.int (own_c0 p1)), .val (.int (own_c1 p1)), .val (.int (own_la p1)), .val (.int (own_lc p1)), .val (.int (own_lb p1)), .val (.int (own_b0 p1)), .val (.int (own_b1 p1)), .val (.int (own_kd p1)), .val (.int (own_p2 p1 p2 p6)), .val (.int (own_r2 p1 p3 p6)), .val (.int (own_w2 p1 p4 p6)), .val (.int (own_t2 p1 p5 p6)), .val (.ref x42_0), .val (.ref x44_0), .val (.ref b46), .val (.ref b60), .unset] [(.int (own_p2 p1 p2 p6)), (.int p2)])) _
                      refine XS.icmpNo X61w.here hx rfl (hb hby at_312) rfl (teq hc312_111).2 ?_
                      show Steps p.tables e below (T61.setTop (mkF m 315 #[.val (.int p1), .val (.int p2), .val (.int p3), .val (.int p4), .val (.int p5), .val (.int p6), .val (.int (own_c0 p1)), .val (.int (own_c1 p1)), .val (.int (own_la p1)), .val (.int (own_lc p1)), .val (.int (own_lb p1)), .val (.int (own_b0 p1)), .val (.int (own_b1 p1)), .val (.int (own_kd p1)), .val (.int (own_p2 p1 p2 p6)), .val (.int (own_r2 p1 p3 p6)), .val (.int (own_w2 p1 p4 p6)), .val (.int (own_t2 p1 p5 p6)), .val (.ref x42_0), .val (.ref x44_0), .val (.ref b46), .val (.ref b60), .unset] [])) _
                      refine XS.iloadN X61w.here hx rfl (hb hby at_315) rfl ?_
                      show Steps p.tables e below (T61.setTop (mkF m 316 #[.val (.int p1), .val (.int p2), .val (.int p3), .val (.int p4), .val (.int p5), .val (.int p6), .val (.int (own_c0 p1)), .val (.int (own_c1 p1)), .val (.int (own_la p1)), .val (.int (own_lc p1)), .val (.int (own_lb p1)), .val (.int (own_b0 p1)), .val (.int (own_b1 p1)), .val (.int (own_kd p1)), .val (.int (own_p2 p1 p2 p6)), .val (.int (own_r2 p1 p3 p6)), .val (.int (own_w2 p1 p4 p6)), .val (.int (own_t2 p1 p5 p6)), .val (.ref x42_0), .val (.ref x44_0), .val (.ref b46), .val (.ref b60), .unset] [(.int p3)])) _
                      refine XS.iload X61w.here hx rfl (hb hby at_316) rfl ?_
                      show Steps p.tables e below (T61.setTop (mkF m 318 #[.val (.int p1), .val (.int p2), .val (.int p3), .val (.int p4), .val (.int p5), .val (.int p6), .val (.int (own_c0 p1)), .val (.int (own_c1 p1)), .val (.int (own_la p1)), .val (.int (own_lc p1)), .val (.int (own_lb p1)), .val (.int (own_b0 p1)), .val (.int (own_b1 p1)), .val (.int (own_kd p1)), .val (.int (own_p2 p1 p2 p6)), .val (.int (own_r2 p1 p3 p6)), .val (.int (own_w2 p1 p4 p6)), .val (.int (own_t2 p1 p5 p6)), .val (.ref x42_0), .val (.ref x44_0), .val (.ref b46), .val (.ref b60), .unset] [(.int (own_r2 p1 p3 p6)), (.int p3)])) _
                      exact kt)
                    by_cases hc318_113 : p3 = (own_r2 p1 p3 p6)
                    · have pre116 : ∀ t, Steps p.tables e below (T61.setTop (mkF m 324 #[.val (.int p1), .val (.int p2), .val (.int p3), .val (.int p4), .val (.int p5), .val (.int p6), .val (.int (own_c0 p1)), .val (.int (own_c1 p1)), .val (.int (own_la p1)), .val (.int (own_lc p1)), .val (.int (own_lb p1)), .val (.int (own_b0 p1)), .val (.int (own_b1 p1)), .val (.int (own_kd p1)), .val (.int (own_p2 p1 p2 p6)), .val (.int (own_r2 p1 p3 p6)), .val (.int (own_w2 p1 p4 p6)), .val (.int (own_t2 p1 p5 p6)), .val (.ref x42_0), .val (.ref x44_0), .val (.ref b46), .val (.ref b60), .unset] [(.int (own_w2 p1 p4 p6)), (.int p4)])) t → Steps p.tables e below (T61.setTop (mkF m 276 #[.val (.int p1), .val (.int p2), .val (.int p3), .val (.int p4), .val (.int p5), .val (.int p6), .val (.int (own_c0 p1)), .val (.int (own_c1 p1)), .val (.int (own_la p1)), .val (.int (own_lc p1)), .val (.int (own_lb p1)), .val (.int (own_b0 p1)), .val (.int (own_b1 p1)), .val (.int (own_kd p1)), .val (.int (own_p2 p1 p2 p6)), .val (.int (own_r2 p1 p3 p6)), .val (.int (own_w2 p1 p4 p6)), .val (.int (own_t2 p1 p5 p6)), .val (.ref x42_0), .val (.ref x44_0), .val (.ref b46), .val (.ref b60), .unset] [])) t := fun t kt => pre114 t (by
                        show Steps p.tables e below (T61.setTop (mkF m 318 #[.val (.int p1), .val (.int p2), .val (.int p3), .val (.int p4), .val (.int p5), .val (.int p6), .val (.int (own_c0 p1)), .val (.int (own_c1 p1)), .val (.int (own_la p1)), .val (.int (own_lc p1)), .val (.int (own_lb p1)), .val (.int (own_b0 p1)), .val (.int (own_b1 p1)), .val (.int (own_kd p1)), .val (.int (own_p2 p1 p2 p6)), .val (.int (own_r2 p1 p3 p6)), .val (.int (own_w2 p1 p4 p6)), .val (.int (own_t2 p1 p5 p6)), .val (.ref x42_0), .val (.ref x44_0), .val (.ref b46), .val (.ref b60), .unset] [(.int (own_r2 p1 p3 p6)), (.int p3)])) _
                        refine XS.icmpNo X61w.here hx rfl (hb hby at_318) rfl (teq hc318_113).2 ?_
                        show Steps p.tables e below (T61.setTop (mkF m 321 #[.val (.int p1), .val (.int p2), .val (.int p3), .val (.int p4), .val (.int p5), .val (.int p6), .val (.int (own_c0 p1)), .val (.int (own_c1 p1)), .val (.int (own_la p1)), .val (.int (own_lc p1)), .val (.int (own_lb p1)), .val (.int (own_b0 p1)), .val (.int (own_b1 p1)), .val (.int (own_kd p1)), .val (.int (own_p2 p1 p2 p6)), .val (.int (own_r2 p1 p3 p6)), .val (.int (own_w2 p1 p4 p6)), .val (.int (own_t2 p1 p5 p6)), .val (.ref x42_0), .val (.ref x44_0), .val (.ref b46), .val (.ref b60), .unset] [])) _
                        refine XS.iloadN X61w.here hx rfl (hb hby at_321) rfl ?_
                        show Steps p.tables e below (T61.setTop (mkF m 322 #[.val (.int p1), .val (.int p2), .val (.int p3), .val (.int p4), .val (.int p5), .val (.int p6), .val (.int (own_c0 p1)), .val (.int (own_c1 p1)), .val (.int (own_la p1)), .val (.int (own_lc p1)), .val (.int (own_lb p1)), .val (.int (own_b0 p1)), .val (.int (own_b1 p1)), .val (.int (own_kd p1)), .val (.int (own_p2 p1 p2 p6)), .val (.int (own_r2 p1 p3 p6)), .val (.int (own_w2 p1 p4 p6)), .val (.int (own_t2 p1 p5 p6)), .val (.ref x42_0), .val (.ref x44_0), .val (.ref b46), .val (.ref b60), .unset] [(.int p4)])) _
                        refine XS.iload X61w.here hx rfl (hb hby at_322) rfl ?_
                        show Steps p.tables e below (T61.setTop (mkF m 324 #[.val (.int p1), .val (.int p2), .val (.int p3), .val (.int p4), .val (.int p5), .val (.int p6), .val (.int (own_c0 p1)), .val (.int (own_c1 p1)), .val (.int (own_la p1)), .val (.int (own_lc p1)), .val (.int (own_lb p1)), .val (.int (own_b0 p1)), .val (.int (own_b1 p1)), .val (.int (own_kd p1)), .val (.int (own_p2 p1 p2 p6)), .val (.int (own_r2 p1 p3 p6)), .val (.int (own_w2 p1 p4 p6)), .val (.int (own_t2 p1 p5 p6)), .val (.ref x42_0), .val (.ref x44_0), .val (.ref b46), .val (.ref b60), .unset] [(.int (own_w2 p1 p4 p6)), (.int p4)])) _
                        exact kt)
                      by_cases hc324_115 : p4 = (own_w2 p1 p4 p6)
                      · have pre118 : ∀ t, Steps p.tables e below (T61.setTop (mkF m 331 #[.val (.int p1), .val (.int p2), .val (.int p3), .val (.int p4), .val (.int p5), .val (.int p6), .val (.int (own_c0 p1)), .val (.int (own_c1 p1)), .val (.int (own_la p1)), .val (.int (own_lc p1)), .val (.int (own_lb p1)), .val (.int (own_b0 p1)), .val (.int (own_b1 p1)), .val (.int (own_kd p1)), .val (.int (own_p2 p1 p2 p6)), .val (.int (own_r2 p1 p3 p6)), .val (.int (own_w2 p1 p4 p6)), .val (.int (own_t2 p1 p5 p6)), .val (.ref x42_0), .val (.ref x44_0), .val (.ref b46), .val (.ref b60), .unset] [(.int (own_t2 p1 p5 p6)), (.int p5)])) t → Steps p.tables e below (T61.setTop (mkF m 276 #[.val (.int p1), .val (.int p2), .val (.int p3), .val (.int p4), .val (.int p5), .val (.int p6), .val (.int (own_c0 p1)), .val (.int (own_c1 p1)), .val (.int (own_la p1)), .val (.int (own_lc p1)), .val (.int (own_lb p1)), .val (.int (own_b0 p1)), .val (.int (own_b1 p1)), .val (.int (own_kd p1)), .val (.int (own_p2 p1 p2 p6)), .val (.int (own_r2 p1 p3 p6)), .val (.int (own_w2 p1 p4 p6)), .val (.int (own_t2 p1 p5 p6)), .val (.ref x42_0), .val (.ref x44_0), .val (.ref b46), .val (.ref b60), .unset] [])) t := fun t kt => pre116 t (by
                          show Steps p.tables e below (T61.setTop (mkF m 324 #[.val (.int p1), .val (.int p2), .val (.int p3), .val (.int p4), .val (.int p5), .val (.int p6), .val (.int (own_c0 p1)), .val (.int (own_c1 p1)), .val (.int (own_la p1)), .val (.int (own_lc p1)), .val (.int (own_lb p1)), .val (.int (own_b0 p1)), .val (.int (own_b1 p1)), .val (.int (own_kd p1)), .val (.int (own_p2 p1 p2 p6)), .val (.int (own_r2 p1 p3 p6)), .val (.int (own_w2 p1 p4 p6)), .val (.int (own_t2 p1 p5 p6)), .val (.ref x42_0), .val (.ref x44_0), .val (.ref b46), .val (.ref b60), .unset] [(.int (own_w2 p1 p4 p6)), (.int p4)])) _
                          refine XS.icmpNo X61w.here hx rfl (hb hby at_324) rfl (teq hc324_115).2 ?_
                          show Steps p.tables e below (T61.setTop (mkF m 327 #[.val (.int p1), .val (.int p2), .val (.int p3), .val (.int p4), .val (.int p5), .val (.int p6), .val (.int (own_c0 p1)), .val (.int (own_c1 p1)), .val (.int (own_la p1)), .val (.int (own_lc p1)), .val (.int (own_lb p1)), .val (.int (own_b0 p1)), .val (.int (own_b1 p1)), .val (.int (own_kd p1)), .val (.int (own_p2 p1 p2 p6)), .val (.int (own_r2 p1 p3 p6)), .val (.int (own_w2 p1 p4 p6)), .val (.int (own_t2 p1 p5 p6)), .val (.ref x42_0), .val (.ref x44_0), .val (.ref b46), .val (.ref b60), .unset] [])) _
                          refine XS.iload X61w.here hx rfl (hb hby at_327) rfl ?_
                          show Steps p.tables e below (T61.setTop (mkF m 329 #[.val (.int p1), .val (.int p2), .val (.int p3), .val (.int p4), .val (.int p5), .val (.int p6), .val (.int (own_c0 p1)), .val (.int (own_c1 p1)), .val (.int (own_la p1)), .val (.int (own_lc p1)), .val (.int (own_lb p1)), .val (.int (own_b0 p1)), .val (.int (own_b1 p1)), .val (.int (own_kd p1)), .val (.int (own_p2 p1 p2 p6)), .val (.int (own_r2 p1 p3 p6)), .val (.int (own_w2 p1 p4 p6)), .val (.int (own_t2 p1 p5 p6)), .val (.ref x42_0), .val (.ref x44_0), .val (.ref b46), .val (.ref b60), .unset] [(.int p5)])) _
                          refine XS.iload X61w.here hx rfl (hb hby at_329) rfl ?_
                          show Steps p.tables e below (T61.setTop (mkF m 331 #[.val (.int p1), .val (.int p2), .val (.int p3), .val (.int p4), .val (.int p5), .val (.int p6), .val (.int (own_c0 p1)), .val (.int (own_c1 p1)), .val (.int (own_la p1)), .val (.int (own_lc p1)), .val (.int (own_lb p1)), .val (.int (own_b0 p1)), .val (.int (own_b1 p1)), .val (.int (own_kd p1)), .val (.int (own_p2 p1 p2 p6)), .val (.int (own_r2 p1 p3 p6)), .val (.int (own_w2 p1 p4 p6)), .val (.int (own_t2 p1 p5 p6)), .val (.ref x42_0), .val (.ref x44_0), .val (.ref b46), .val (.ref b60), .unset] [(.int (own_t2 p1 p5 p6)), (.int p5)])) _
                          exact kt)
                        by_cases hc331_117 : p5 = (own_t2 p1 p5 p6)
                        · have pre119 : ∀ t, Steps p.tables e below (T61.setTop (mkF m 339 #[.val (.int p1), .val (.int p2), .val (.int p3), .val (.int p4), .val (.int p5), .val (.int p6), .val (.int (own_c0 p1)), .val (.int (own_c1 p1)), .val (.int (own_la p1)), .val (.int (own_lc p1)), .val (.int (own_lb p1)), .val (.int (own_b0 p1)), .val (.int (own_b1 p1)), .val (.int (own_kd p1)), .val (.int (own_p2 p1 p2 p6)), .val (.int (own_r2 p1 p3 p6)), .val (.int (own_w2 p1 p4 p6)), .val (.int (own_t2 p1 p5 p6)), .val (.ref x42_0), .val (.ref x44_0), .val (.ref b46), .val (.ref b60), .unset] [(.int (1 : Int32))])) t → Steps p.tables e below (T61.setTop (mkF m 276 #[.val (.int p1), .val (.int p2), .val (.int p3), .val (.int p4), .val (.int p5), .val (.int p6), .val (.int (own_c0 p1)), .val (.int (own_c1 p1)), .val (.int (own_la p1)), .val (.int (own_lc p1)), .val (.int (own_lb p1)), .val (.int (own_b0 p1)), .val (.int (own_b1 p1)), .val (.int (own_kd p1)), .val (.int (own_p2 p1 p2 p6)), .val (.int (own_r2 p1 p3 p6)), .val (.int (own_w2 p1 p4 p6)), .val (.int (own_t2 p1 p5 p6)), .val (.ref x42_0), .val (.ref x44_0), .val (.ref b46), .val (.ref b60), .unset] [])) t := fun t kt => pre118 t (by
                            show Steps p.tables e below (T61.setTop (mkF m 331 #[.val (.int p1), .val (.int p2), .val (.int p3), .val (.int p4), .val (.int p5), .val (.int p6), .val (.int (own_c0 p1)), .val (.int (own_c1 p1)), .val (.int (own_la p1)), .val (.int (own_lc p1)), .val (.int (own_lb p1)), .val (.int (own_b0 p1)), .val (.int (own_b1 p1)), .val (.int (own_kd p1)), .val (.int (own_p2 p1 p2 p6)), .val (.int (own_r2 p1 p3 p6)), .val (.int (own_w2 p1 p4 p6)), .val (.int (own_t2 p1 p5 p6)), .val (.ref x42_0), .val (.ref x44_0), .val (.ref b46), .val (.ref b60), .unset] [(.int (own_t2 p1 p5 p6)), (.int p5)])) _
                            refine XS.icmpNo X61w.here hx rfl (hb hby at_331) rfl (teq hc331_117).2 ?_
                            show Steps p.tables e below (T61.setTop (mkF m 334 #[.val (.int p1), .val (.int p2), .val (.int p3), .val (.int p4), .val (.int p5), .val (.int p6), .val (.int (own_c0 p1)), .val (.int (own_c1 p1)), .val (.int (own_la p1)), .val (.int (own_lc p1)), .val (.int (own_lb p1)), .val (.int (own_b0 p1)), .val (.int (own_b1 p1)), .val (.int (own_kd p1)), .val (.int (own_p2 p1 p2 p6)), .val (.int (own_r2 p1 p3 p6)), .val (.int (own_w2 p1 p4 p6)), .val (.int (own_t2 p1 p5 p6)), .val (.ref x42_0), .val (.ref x44_0), .val (.ref b46), .val (.ref b60), .unset] [])) _
                            refine XS.iconst X61w.here hx rfl (hb hby at_334) ?_
                            show Steps p.tables e below (T61.setTop (mkF m 335 #[.val (.int p1), .val (.int p2), .val (.int p3), .val (.int p4), .val (.int p5), .val (.int p6), .val (.int (own_c0 p1)), .val (.int (own_c1 p1)), .val (.int (own_la p1)), .val (.int (own_lc p1)), .val (.int (own_lb p1)), .val (.int (own_b0 p1)), .val (.int (own_b1 p1)), .val (.int (own_kd p1)), .val (.int (own_p2 p1 p2 p6)), .val (.int (own_r2 p1 p3 p6)), .val (.int (own_w2 p1 p4 p6)), .val (.int (own_t2 p1 p5 p6)), .val (.ref x42_0), .val (.ref x44_0), .val (.ref b46), .val (.ref b60), .unset] [(.int (1 : Int32))])) _
                            refine XS.goto X61w.here hx rfl (pc0 := 335) (pc' := 339) rfl (hb hby at_335) (by decide) (by decide) ?_
                            show Steps p.tables e below (T61.setTop (mkF m 339 #[.val (.int p1), .val (.int p2), .val (.int p3), .val (.int p4), .val (.int p5), .val (.int p6), .val (.int (own_c0 p1)), .val (.int (own_c1 p1)), .val (.int (own_la p1)), .val (.int (own_lc p1)), .val (.int (own_lb p1)), .val (.int (own_b0 p1)), .val (.int (own_b1 p1)), .val (.int (own_kd p1)), .val (.int (own_p2 p1 p2 p6)), .val (.int (own_r2 p1 p3 p6)), .val (.int (own_w2 p1 p4 p6)), .val (.int (own_t2 p1 p5 p6)), .val (.ref x42_0), .val (.ref x44_0), .val (.ref b46), .val (.ref b60), .unset] [(.int (1 : Int32))])) _
                            exact kt)
                          have qe : own_exp p1 p2 p3 p4 p5 p6 = (1 : Int32) := by unfold own_exp; rw [if_pos hc280_72, if_neg hc286_74, if_pos hc293_107, if_pos hc299_109, if_pos hc312_111, if_pos hc318_113, if_pos hc324_115, if_pos hc331_117]
                          rw [qe] at kt0
                          exact pre119 _ kt0
                        · have pre120 : ∀ t, Steps p.tables e below (T61.setTop (mkF m 339 #[.val (.int p1), .val (.int p2), .val (.int p3), .val (.int p4), .val (.int p5), .val (.int p6), .val (.int (own_c0 p1)), .val (.int (own_c1 p1)), .val (.int (own_la p1)), .val (.int (own_lc p1)), .val (.int (own_lb p1)), .val (.int (own_b0 p1)), .val (.int (own_b1 p1)), .val (.int (own_kd p1)), .val (.int (own_p2 p1 p2 p6)), .val (.int (own_r2 p1 p3 p6)), .val (.int (own_w2 p1 p4 p6)), .val (.int (own_t2 p1 p5 p6)), .val (.ref x42_0), .val (.ref x44_0), .val (.ref b46), .val (.ref b60), .unset] [(.int (0 : Int32))])) t → Steps p.tables e below (T61.setTop (mkF m 276 #[.val (.int p1), .val (.int p2), .val (.int p3), .val (.int p4), .val (.int p5), .val (.int p6), .val (.int (own_c0 p1)), .val (.int (own_c1 p1)), .val (.int (own_la p1)), .val (.int (own_lc p1)), .val (.int (own_lb p1)), .val (.int (own_b0 p1)), .val (.int (own_b1 p1)), .val (.int (own_kd p1)), .val (.int (own_p2 p1 p2 p6)), .val (.int (own_r2 p1 p3 p6)), .val (.int (own_w2 p1 p4 p6)), .val (.int (own_t2 p1 p5 p6)), .val (.ref x42_0), .val (.ref x44_0), .val (.ref b46), .val (.ref b60), .unset] [])) t := fun t kt => pre118 t (by
                            show Steps p.tables e below (T61.setTop (mkF m 331 #[.val (.int p1), .val (.int p2), .val (.int p3), .val (.int p4), .val (.int p5), .val (.int p6), .val (.int (own_c0 p1)), .val (.int (own_c1 p1)), .val (.int (own_la p1)), .val (.int (own_lc p1)), .val (.int (own_lb p1)), .val (.int (own_b0 p1)), .val (.int (own_b1 p1)), .val (.int (own_kd p1)), .val (.int (own_p2 p1 p2 p6)), .val (.int (own_r2 p1 p3 p6)), .val (.int (own_w2 p1 p4 p6)), .val (.int (own_t2 p1 p5 p6)), .val (.ref x42_0), .val (.ref x44_0), .val (.ref b46), .val (.ref b60), .unset] [(.int (own_t2 p1 p5 p6)), (.int p5)])) _
                            refine XS.icmpYes X61w.here hx rfl (pc0 := 331) (pc' := 338) rfl (hb hby at_331) rfl (feq hc331_117).2 (by decide) (by decide) ?_
                            show Steps p.tables e below (T61.setTop (mkF m 338 #[.val (.int p1), .val (.int p2), .val (.int p3), .val (.int p4), .val (.int p5), .val (.int p6), .val (.int (own_c0 p1)), .val (.int (own_c1 p1)), .val (.int (own_la p1)), .val (.int (own_lc p1)), .val (.int (own_lb p1)), .val (.int (own_b0 p1)), .val (.int (own_b1 p1)), .val (.int (own_kd p1)), .val (.int (own_p2 p1 p2 p6)), .val (.int (own_r2 p1 p3 p6)), .val (.int (own_w2 p1 p4 p6)), .val (.int (own_t2 p1 p5 p6)), .val (.ref x42_0), .val (.ref x44_0), .val (.ref b46), .val (.ref b60), .unset] [])) _
                            refine XS.iconst X61w.here hx rfl (hb hby at_338) ?_
                            show Steps p.tables e below (T61.setTop (mkF m 339 #[.val (.int p1), .val (.int p2), .val (.int p3), .val (.int p4), .val (.int p5), .val (.int p6), .val (.int (own_c0 p1)), .val (.int (own_c1 p1)), .val (.int (own_la p1)), .val (.int (own_lc p1)), .val (.int (own_lb p1)), .val (.int (own_b0 p1)), .val (.int (own_b1 p1)), .val (.int (own_kd p1)), .val (.int (own_p2 p1 p2 p6)), .val (.int (own_r2 p1 p3 p6)), .val (.int (own_w2 p1 p4 p6)), .val (.int (own_t2 p1 p5 p6)), .val (.ref x42_0), .val (.ref x44_0), .val (.ref b46), .val (.ref b60), .unset] [(.int (0 : Int32))])) _
                            exact kt)
                          have qe : own_exp p1 p2 p3 p4 p5 p6 = (0 : Int32) := by unfold own_exp; rw [if_pos hc280_72, if_neg hc286_74, if_pos hc293_107, if_pos hc299_109, if_pos hc312_111, if_pos hc318_113, if_pos hc324_115, if_neg hc331_117]
                          rw [qe] at kt0
                          exact pre120 _ kt0
                      · have pre121 : ∀ t, Steps p.tables e below (T61.setTop (mkF m 339 #[.val (.int p1), .val (.int p2), .val (.int p3), .val (.int p4), .val (.int p5), .val (.int p6), .val (.int (own_c0 p1)), .val (.int (own_c1 p1)), .val (.int (own_la p1)), .val (.int (own_lc p1)), .val (.int (own_lb p1)), .val (.int (own_b0 p1)), .val (.int (own_b1 p1)), .val (.int (own_kd p1)), .val (.int (own_p2 p1 p2 p6)), .val (.int (own_r2 p1 p3 p6)), .val (.int (own_w2 p1 p4 p6)), .val (.int (own_t2 p1 p5 p6)), .val (.ref x42_0), .val (.ref x44_0), .val (.ref b46), .val (.ref b60), .unset] [(.int (0 : Int32))])) t → Steps p.tables e below (T61.setTop (mkF m 276 #[.val (.int p1), .val (.int p2), .val (.int p3), .val (.int p4), .val (.int p5), .val (.int p6), .val (.int (own_c0 p1)), .val (.int (own_c1 p1)), .val (.int (own_la p1)), .val (.int (own_lc p1)), .val (.int (own_lb p1)), .val (.int (own_b0 p1)), .val (.int (own_b1 p1)), .val (.int (own_kd p1)), .val (.int (own_p2 p1 p2 p6)), .val (.int (own_r2 p1 p3 p6)), .val (.int (own_w2 p1 p4 p6)), .val (.int (own_t2 p1 p5 p6)), .val (.ref x42_0), .val (.ref x44_0), .val (.ref b46), .val (.ref b60), .unset] [])) t := fun t kt => pre116 t (by
                          show Steps p.tables e below (T61.setTop (mkF m 324 #[.val (.int p1), .val (.int p2), .val (.int p3), .val (.int p4), .val (.int p5), .val (.int p6), .val (.int (own_c0 p1)), .val (.int (own_c1 p1)), .val (.int (own_la p1)), .val (.int (own_lc p1)), .val (.int (own_lb p1)), .val (.int (own_b0 p1)), .val (.int (own_b1 p1)), .val (.int (own_kd p1)), .val (.int (own_p2 p1 p2 p6)), .val (.int (own_r2 p1 p3 p6)), .val (.int (own_w2 p1 p4 p6)), .val (.int (own_t2 p1 p5 p6)), .val (.ref x42_0), .val (.ref x44_0), .val (.ref b46), .val (.ref b60), .unset] [(.int (own_w2 p1 p4 p6)), (.int p4)])) _
                          refine XS.icmpYes X61w.here hx rfl (pc0 := 324) (pc' := 338) rfl (hb hby at_324) rfl (feq hc324_115).2 (by decide) (by decide) ?_
                          show Steps p.tables e below (T61.setTop (mkF m 338 #[.val (.int p1), .val (.int p2), .val (.int p3), .val (.int p4), .val (.int p5), .val (.int p6), .val (.int (own_c0 p1)), .val (.int (own_c1 p1)), .val (.int (own_la p1)), .val (.int (own_lc p1)), .val (.int (own_lb p1)), .val (.int (own_b0 p1)), .val (.int (own_b1 p1)), .val (.int (own_kd p1)), .val (.int (own_p2 p1 p2 p6)), .val (.int (own_r2 p1 p3 p6)), .val (.int (own_w2 p1 p4 p6)), .val (.int (own_t2 p1 p5 p6)), .val (.ref x42_0), .val (.ref x44_0), .val (.ref b46), .val (.ref b60), .unset] [])) _
                          refine XS.iconst X61w.here hx rfl (hb hby at_338) ?_
                          show Steps p.tables e below (T61.setTop (mkF m 339 #[.val (.int p1), .val (.int p2), .val (.int p3), .val (.int p4), .val (.int p5), .val (.int p6), .val (.int (own_c0 p1)), .val (.int (own_c1 p1)), .val (.int (own_la p1)), .val (.int (own_lc p1)), .val (.int (own_lb p1)), .val (.int (own_b0 p1)), .val (.int (own_b1 p1)), .val (.int (own_kd p1)), .val (.int (own_p2 p1 p2 p6)), .val (.int (own_r2 p1 p3 p6)), .val (.int (own_w2 p1 p4 p6)), .val (.int (own_t2 p1 p5 p6)), .val (.ref x42_0), .val (.ref x44_0), .val (.ref b46), .val (.ref b60), .unset] [(.int (0 : Int32))])) _
                          exact kt)
                        have qe : own_exp p1 p2 p3 p4 p5 p6 = (0 : Int32) := by unfold own_exp; rw [if_pos hc280_72, if_neg hc286_74, if_pos hc293_107, if_pos hc299_109, if_pos hc312_111, if_pos hc318_113, if_neg hc324_115]
                        rw [qe] at kt0
                        exact pre121 _ kt0
                    · have pre122 : ∀ t, Steps p.tables e below (T61.setTop (mkF m 339 #[.val (.int p1), .val (.int p2), .val (.int p3), .val (.int p4), .val (.int p5), .val (.int p6), .val (.int (own_c0 p1)), .val (.int (own_c1 p1)), .val (.int (own_la p1)), .val (.int (own_lc p1)), .val (.int (own_lb p1)), .val (.int (own_b0 p1)), .val (.int (own_b1 p1)), .val (.int (own_kd p1)), .val (.int (own_p2 p1 p2 p6)), .val (.int (own_r2 p1 p3 p6)), .val (.int (own_w2 p1 p4 p6)), .val (.int (own_t2 p1 p5 p6)), .val (.ref x42_0), .val (.ref x44_0), .val (.ref b46), .val (.ref b60), .unset] [(.int (0 : Int32))])) t → Steps p.tables e below (T61.setTop (mkF m 276 #[.val (.int p1), .val (.int p2), .val (.int p3), .val (.int p4), .val (.int p5), .val (.int p6), .val (.int (own_c0 p1)), .val (.int (own_c1 p1)), .val (.int (own_la p1)), .val (.int (own_lc p1)), .val (.int (own_lb p1)), .val (.int (own_b0 p1)), .val (.int (own_b1 p1)), .val (.int (own_kd p1)), .val (.int (own_p2 p1 p2 p6)), .val (.int (own_r2 p1 p3 p6)), .val (.int (own_w2 p1 p4 p6)), .val (.int (own_t2 p1 p5 p6)), .val (.ref x42_0), .val (.ref x44_0), .val (.ref b46), .val (.ref b60), .unset] [])) t := fun t kt => pre114 t (by
                        show Steps p.tables e below (T61.setTop (mkF m 318 #[.val (.int p1), .val (.int p2), .val (.int p3), .val (.int p4), .val (.int p5), .val (.int p6), .val (.int (own_c0 p1)), .val (.int (own_c1 p1)), .val (.int (own_la p1)), .val (.int (own_lc p1)), .val (.int (own_lb p1)), .val (.int (own_b0 p1)), .val (.int (own_b1 p1)), .val (.int (own_kd p1)), .val (.int (own_p2 p1 p2 p6)), .val (.int (own_r2 p1 p3 p6)), .val (.int (own_w2 p1 p4 p6)), .val (.int (own_t2 p1 p5 p6)), .val (.ref x42_0), .val (.ref x44_0), .val (.ref b46), .val (.ref b60), .unset] [(.int (own_r2 p1 p3 p6)), (.int p3)])) _
                        refine XS.icmpYes X61w.here hx rfl (pc0 := 318) (pc' := 338) rfl (hb hby at_318) rfl (feq hc318_113).2 (by decide) (by decide) ?_
                        show Steps p.tables e below (T61.setTop (mkF m 338 #[.val (.int p1), .val (.int p2), .val (.int p3), .val (.int p4), .val (.int p5), .val (.int p6), .val (.int (own_c0 p1)), .val (.int (own_c1 p1)), .val (.int (own_la p1)), .val (.int (own_lc p1)), .val (.int (own_lb p1)), .val (.int (own_b0 p1)), .val (.int (own_b1 p1)), .val (.int (own_kd p1)), .val (.int (own_p2 p1 p2 p6)), .val (.int (own_r2 p1 p3 p6)), .val (.int (own_w2 p1 p4 p6)), .val (.int (own_t2 p1 p5 p6)), .val (.ref x42_0), .val (.ref x44_0), .val (.ref b46), .val (.ref b60), .unset] [])) _
                        refine XS.iconst X61w.here hx rfl (hb hby at_338) ?_
                        show Steps p.tables e below (T61.setTop (mkF m 339 #[.val (.int p1), .val (.int p2), .val (.int p3), .val (.int p4), .val (.int p5), .val (.int p6), .val (.int (own_c0 p1)), .val (.int (own_c1 p1)), .val (.int (own_la p1)), .val (.int (own_lc p1)), .val (.int (own_lb p1)), .val (.int (own_b0 p1)), .val (.int (own_b1 p1)), .val (.int (own_kd p1)), .val (.int (own_p2 p1 p2 p6)), .val (.int (own_r2 p1 p3 p6)), .val (.int (own_w2 p1 p4 p6)), .val (.int (own_t2 p1 p5 p6)), .val (.ref x42_0), .val (.ref x44_0), .val (.ref b46), .val (.ref b60), .unset] [(.int (0 : Int32))])) _
                        exact kt)
                      have qe : own_exp p1 p2 p3 p4 p5 p6 = (0 : Int32) := by unfold own_exp; rw [if_pos hc280_72, if_neg hc286_74, if_pos hc293_107, if_pos hc299_109, if_pos hc312_111, if_neg hc318_113]
                      rw [qe] at kt0
                      exact pre122 _ kt0
                  · have pre123 : ∀ t, Steps p.tables e below (T61.setTop (mkF m 339 #[.val (.int p1), .val (.int p2), .val (.int p3), .val (.int p4), .val (.int p5), .val (.int p6), .val (.int (own_c0 p1)), .val (.int (own_c1 p1)), .val (.int (own_la p1)), .val (.int (own_lc p1)), .val (.int (own_lb p1)), .val (.int (own_b0 p1)), .val (.int (own_b1 p1)), .val (.int (own_kd p1)), .val (.int (own_p2 p1 p2 p6)), .val (.int (own_r2 p1 p3 p6)), .val (.int (own_w2 p1 p4 p6)), .val (.int (own_t2 p1 p5 p6)), .val (.ref x42_0), .val (.ref x44_0), .val (.ref b46), .val (.ref b60), .unset] [(.int (0 : Int32))])) t → Steps p.tables e below (T61.setTop (mkF m 276 #[.val (.int p1), .val (.int p2), .val (.int p3), .val (.int p4), .val (.int p5), .val (.int p6), .val (.int (own_c0 p1)), .val (.int (own_c1 p1)), .val (.int (own_la p1)), .val (.int (own_lc p1)), .val (.int (own_lb p1)), .val (.int (own_b0 p1)), .val (.int (own_b1 p1)), .val (.int (own_kd p1)), .val (.int (own_p2 p1 p2 p6)), .val (.int (own_r2 p1 p3 p6)), .val (.int (own_w2 p1 p4 p6)), .val (.int (own_t2 p1 p5 p6)), .val (.ref x42_0), .val (.ref x44_0), .val (.ref b46), .val (.ref b60), .unset] [])) t := fun t kt => pre112 t (by
                      show Steps p.tables e below (T61.setTop (mkF m 312 #[.val (.int p1), .val (.int p2), .val (.int p3), .val (.int p4), .val (.int p5), .val (.int p6), .val (.int (own_c0 p1)), .val (.int (own_c1 p1)), .val (.int (own_la p1)), .val (.int (own_lc p1)), .val (.int (own_lb p1)), .val (.int (own_b0 p1)), .val (.int (own_b1 p1)), .val (.int (own_kd p1)), .val (.int (own_p2 p1 p2 p6)), .val (.int (own_r2 p1 p3 p6)), .val (.int (own_w2 p1 p4 p6)), .val (.int (own_t2 p1 p5 p6)), .val (.ref x42_0), .val (.ref x44_0), .val (.ref b46), .val (.ref b60), .unset] [(.int (own_p2 p1 p2 p6)), (.int p2)])) _
                      refine XS.icmpYes X61w.here hx rfl (pc0 := 312) (pc' := 338) rfl (hb hby at_312) rfl (feq hc312_111).2 (by decide) (by decide) ?_
                      show Steps p.tables e below (T61.setTop (mkF m 338 #[.val (.int p1), .val (.int p2), .val (.int p3), .val (.int p4), .val (.int p5), .val (.int p6), .val (.int (own_c0 p1)), .val (.int (own_c1 p1)), .val (.int (own_la p1)), .val (.int (own_lc p1)), .val (.int (own_lb p1)), .val (.int (own_b0 p1)), .val (.int (own_b1 p1)), .val (.int (own_kd p1)), .val (.int (own_p2 p1 p2 p6)), .val (.int (own_r2 p1 p3 p6)), .val (.int (own_w2 p1 p4 p6)), .val (.int (own_t2 p1 p5 p6)), .val (.ref x42_0), .val (.ref x44_0), .val (.ref b46), .val (.ref b60), .unset] [])) _
                      refine XS.iconst X61w.here hx rfl (hb hby at_338) ?_
                      show Steps p.tables e below (T61.setTop (mkF m 339 #[.val (.int p1), .val (.int p2), .val (.int p3), .val (.int p4), .val (.int p5), .val (.int p6), .val (.int (own_c0 p1)), .val (.int (own_c1 p1)), .val (.int (own_la p1)), .val (.int (own_lc p1)), .val (.int (own_lb p1)), .val (.int (own_b0 p1)), .val (.int (own_b1 p1)), .val (.int (own_kd p1)), .val (.int (own_p2 p1 p2 p6)), .val (.int (own_r2 p1 p3 p6)), .val (.int (own_w2 p1 p4 p6)), .val (.int (own_t2 p1 p5 p6)), .val (.ref x42_0), .val (.ref x44_0), .val (.ref b46), .val (.ref b60), .unset] [(.int (0 : Int32))])) _
                      exact kt)
                    have qe : own_exp p1 p2 p3 p4 p5 p6 = (0 : Int32) := by unfold own_exp; rw [if_pos hc280_72, if_neg hc286_74, if_pos hc293_107, if_pos hc299_109, if_neg hc312_111]
                    rw [qe] at kt0
                    exact pre123 _ kt0
                · have pre125 : ∀ t, Steps p.tables e below (T61.setTop (mkF m 306 #[.val (.int p1), .val (.int p2), .val (.int p3), .val (.int p4), .val (.int p5), .val (.int p6), .val (.int (own_c0 p1)), .val (.int (own_c1 p1)), .val (.int (own_la p1)), .val (.int (own_lc p1)), .val (.int (own_lb p1)), .val (.int (own_b0 p1)), .val (.int (own_b1 p1)), .val (.int (own_kd p1)), .val (.int (own_p2 p1 p2 p6)), .val (.int (own_r2 p1 p3 p6)), .val (.int (own_w2 p1 p4 p6)), .val (.int (own_t2 p1 p5 p6)), .val (.ref x42_0), .val (.ref x44_0), .val (.ref b46), .val (.ref b60), .unset] [(.int (own_b1 p1)), (.int (own_c1 p1))])) t → Steps p.tables e below (T61.setTop (mkF m 276 #[.val (.int p1), .val (.int p2), .val (.int p3), .val (.int p4), .val (.int p5), .val (.int p6), .val (.int (own_c0 p1)), .val (.int (own_c1 p1)), .val (.int (own_la p1)), .val (.int (own_lc p1)), .val (.int (own_lb p1)), .val (.int (own_b0 p1)), .val (.int (own_b1 p1)), .val (.int (own_kd p1)), .val (.int (own_p2 p1 p2 p6)), .val (.int (own_r2 p1 p3 p6)), .val (.int (own_w2 p1 p4 p6)), .val (.int (own_t2 p1 p5 p6)), .val (.ref x42_0), .val (.ref x44_0), .val (.ref b46), .val (.ref b60), .unset] [])) t := fun t kt => pre110 t (by
                    show Steps p.tables e below (T61.setTop (mkF m 299 #[.val (.int p1), .val (.int p2), .val (.int p3), .val (.int p4), .val (.int p5), .val (.int p6), .val (.int (own_c0 p1)), .val (.int (own_c1 p1)), .val (.int (own_la p1)), .val (.int (own_lc p1)), .val (.int (own_lb p1)), .val (.int (own_b0 p1)), .val (.int (own_b1 p1)), .val (.int (own_kd p1)), .val (.int (own_p2 p1 p2 p6)), .val (.int (own_r2 p1 p3 p6)), .val (.int (own_w2 p1 p4 p6)), .val (.int (own_t2 p1 p5 p6)), .val (.ref x42_0), .val (.ref x44_0), .val (.ref b46), .val (.ref b60), .unset] [(.int (2 : Int32)), (.int (own_la p1))])) _
                    refine XS.icmpNo X61w.here hx rfl (hb hby at_299) rfl (flt hc299_109).1 ?_
                    show Steps p.tables e below (T61.setTop (mkF m 302 #[.val (.int p1), .val (.int p2), .val (.int p3), .val (.int p4), .val (.int p5), .val (.int p6), .val (.int (own_c0 p1)), .val (.int (own_c1 p1)), .val (.int (own_la p1)), .val (.int (own_lc p1)), .val (.int (own_lb p1)), .val (.int (own_b0 p1)), .val (.int (own_b1 p1)), .val (.int (own_kd p1)), .val (.int (own_p2 p1 p2 p6)), .val (.int (own_r2 p1 p3 p6)), .val (.int (own_w2 p1 p4 p6)), .val (.int (own_t2 p1 p5 p6)), .val (.ref x42_0), .val (.ref x44_0), .val (.ref b46), .val (.ref b60), .unset] [])) _
                    refine XS.iload X61w.here hx rfl (hb hby at_302) rfl ?_
                    show Steps p.tables e below (T61.setTop (mkF m 304 #[.val (.int p1), .val (.int p2), .val (.int p3), .val (.int p4), .val (.int p5), .val (.int p6), .val (.int (own_c0 p1)), .val (.int (own_c1 p1)), .val (.int (own_la p1)), .val (.int (own_lc p1)), .val (.int (own_lb p1)), .val (.int (own_b0 p1)), .val (.int (own_b1 p1)), .val (.int (own_kd p1)), .val (.int (own_p2 p1 p2 p6)), .val (.int (own_r2 p1 p3 p6)), .val (.int (own_w2 p1 p4 p6)), .val (.int (own_t2 p1 p5 p6)), .val (.ref x42_0), .val (.ref x44_0), .val (.ref b46), .val (.ref b60), .unset] [(.int (own_c1 p1))])) _
                    refine XS.iload X61w.here hx rfl (hb hby at_304) rfl ?_
                    show Steps p.tables e below (T61.setTop (mkF m 306 #[.val (.int p1), .val (.int p2), .val (.int p3), .val (.int p4), .val (.int p5), .val (.int p6), .val (.int (own_c0 p1)), .val (.int (own_c1 p1)), .val (.int (own_la p1)), .val (.int (own_lc p1)), .val (.int (own_lb p1)), .val (.int (own_b0 p1)), .val (.int (own_b1 p1)), .val (.int (own_kd p1)), .val (.int (own_p2 p1 p2 p6)), .val (.int (own_r2 p1 p3 p6)), .val (.int (own_w2 p1 p4 p6)), .val (.int (own_t2 p1 p5 p6)), .val (.ref x42_0), .val (.ref x44_0), .val (.ref b46), .val (.ref b60), .unset] [(.int (own_b1 p1)), (.int (own_c1 p1))])) _
                    exact kt)
                  by_cases hc306_124 : (own_c1 p1) = (own_b1 p1)
                  · have pre127 : ∀ t, Steps p.tables e below (T61.setTop (mkF m 312 #[.val (.int p1), .val (.int p2), .val (.int p3), .val (.int p4), .val (.int p5), .val (.int p6), .val (.int (own_c0 p1)), .val (.int (own_c1 p1)), .val (.int (own_la p1)), .val (.int (own_lc p1)), .val (.int (own_lb p1)), .val (.int (own_b0 p1)), .val (.int (own_b1 p1)), .val (.int (own_kd p1)), .val (.int (own_p2 p1 p2 p6)), .val (.int (own_r2 p1 p3 p6)), .val (.int (own_w2 p1 p4 p6)), .val (.int (own_t2 p1 p5 p6)), .val (.ref x42_0), .val (.ref x44_0), .val (.ref b46), .val (.ref b60), .unset] [(.int (own_p2 p1 p2 p6)), (.int p2)])) t → Steps p.tables e below (T61.setTop (mkF m 276 #[.val (.int p1), .val (.int p2), .val (.int p3), .val (.int p4), .val (.int p5), .val (.int p6), .val (.int (own_c0 p1)), .val (.int (own_c1 p1)), .val (.int (own_la p1)), .val (.int (own_lc p1)), .val (.int (own_lb p1)), .val (.int (own_b0 p1)), .val (.int (own_b1 p1)), .val (.int (own_kd p1)), .val (.int (own_p2 p1 p2 p6)), .val (.int (own_r2 p1 p3 p6)), .val (.int (own_w2 p1 p4 p6)), .val (.int (own_t2 p1 p5 p6)), .val (.ref x42_0), .val (.ref x44_0), .val (.ref b46), .val (.ref b60), .unset] [])) t := fun t kt => pre125 t (by
                      show Steps p.tables e below (T61.setTop (mkF m 306 #[.val (.int p1), .val (.int p2), .val (.int p3), .val (.int p4), .val (.int p5), .val (.int p6), .val (.int (own_c0 p1)), .val (.int (own_c1 p1)), .val (.int (own_la p1)), .val (.int (own_lc p1)), .val (.int (own_lb p1)), .val (.int (own_b0 p1)), .val (.int (own_b1 p1)), .val (.int (own_kd p1)), .val (.int (own_p2 p1 p2 p6)), .val (.int (own_r2 p1 p3 p6)), .val (.int (own_w2 p1 p4 p6)), .val (.int (own_t2 p1 p5 p6)), .val (.ref x42_0), .val (.ref x44_0), .val (.ref b46), .val (.ref b60), .unset] [(.int (own_b1 p1)), (.int (own_c1 p1))])) _
                      refine XS.icmpNo X61w.here hx rfl (hb hby at_306) rfl (teq hc306_124).2 ?_
                      show Steps p.tables e below (T61.setTop (mkF m 309 #[.val (.int p1), .val (.int p2), .val (.int p3), .val (.int p4), .val (.int p5), .val (.int p6), .val (.int (own_c0 p1)), .val (.int (own_c1 p1)), .val (.int (own_la p1)), .val (.int (own_lc p1)), .val (.int (own_lb p1)), .val (.int (own_b0 p1)), .val (.int (own_b1 p1)), .val (.int (own_kd p1)), .val (.int (own_p2 p1 p2 p6)), .val (.int (own_r2 p1 p3 p6)), .val (.int (own_w2 p1 p4 p6)), .val (.int (own_t2 p1 p5 p6)), .val (.ref x42_0), .val (.ref x44_0), .val (.ref b46), .val (.ref b60), .unset] [])) _
                      refine XS.iloadN X61w.here hx rfl (hb hby at_309) rfl ?_
                      show Steps p.tables e below (T61.setTop (mkF m 310 #[.val (.int p1), .val (.int p2), .val (.int p3), .val (.int p4), .val (.int p5), .val (.int p6), .val (.int (own_c0 p1)), .val (.int (own_c1 p1)), .val (.int (own_la p1)), .val (.int (own_lc p1)), .val (.int (own_lb p1)), .val (.int (own_b0 p1)), .val (.int (own_b1 p1)), .val (.int (own_kd p1)), .val (.int (own_p2 p1 p2 p6)), .val (.int (own_r2 p1 p3 p6)), .val (.int (own_w2 p1 p4 p6)), .val (.int (own_t2 p1 p5 p6)), .val (.ref x42_0), .val (.ref x44_0), .val (.ref b46), .val (.ref b60), .unset] [(.int p2)])) _
                      refine XS.iload X61w.here hx rfl (hb hby at_310) rfl ?_
                      show Steps p.tables e below (T61.setTop (mkF m 312 #[.val (.int p1), .val (.int p2), .val (.int p3), .val (.int p4), .val (.int p5), .val (.int p6), .val (.int (own_c0 p1)), .val (.int (own_c1 p1)), .val (.int (own_la p1)), .val (.int (own_lc p1)), .val (.int (own_lb p1)), .val (.int (own_b0 p1)), .val (.int (own_b1 p1)), .val (.int (own_kd p1)), .val (.int (own_p2 p1 p2 p6)), .val (.int (own_r2 p1 p3 p6)), .val (.int (own_w2 p1 p4 p6)), .val (.int (own_t2 p1 p5 p6)), .val (.ref x42_0), .val (.ref x44_0), .val (.ref b46), .val (.ref b60), .unset] [(.int (own_p2 p1 p2 p6)), (.int p2)])) _
                      exact kt)
                    by_cases hc312_126 : p2 = (own_p2 p1 p2 p6)
                    · have pre129 : ∀ t, Steps p.tables e below (T61.setTop (mkF m 318 #[.val (.int p1), .val (.int p2), .val (.int p3), .val (.int p4), .val (.int p5), .val (.int p6), .val (.int (own_c0 p1)), .val (.int (own_c1 p1)), .val (.int (own_la p1)), .val (.int (own_lc p1)), .val (.int (own_lb p1)), .val (.int (own_b0 p1)), .val (.int (own_b1 p1)), .val (.int (own_kd p1)), .val (.int (own_p2 p1 p2 p6)), .val (.int (own_r2 p1 p3 p6)), .val (.int (own_w2 p1 p4 p6)), .val (.int (own_t2 p1 p5 p6)), .val (.ref x42_0), .val (.ref x44_0), .val (.ref b46), .val (.ref b60), .unset] [(.int (own_r2 p1 p3 p6)), (.int p3)])) t → Steps p.tables e below (T61.setTop (mkF m 276 #[.val (.int p1), .val (.int p2), .val (.int p3), .val (.int p4), .val (.int p5), .val (.int p6), .val (.int (own_c0 p1)), .val (.int (own_c1 p1)), .val (.int (own_la p1)), .val (.int (own_lc p1)), .val (.int (own_lb p1)), .val (.int (own_b0 p1)), .val (.int (own_b1 p1)), .val (.int (own_kd p1)), .val (.int (own_p2 p1 p2 p6)), .val (.int (own_r2 p1 p3 p6)), .val (.int (own_w2 p1 p4 p6)), .val (.int (own_t2 p1 p5 p6)), .val (.ref x42_0), .val (.ref x44_0), .val (.ref b46), .val (.ref b60), .unset] [])) t := fun t kt => pre127 t (by
                        show Steps p.tables e below (T61.setTop (mkF m 312 #[.val (.int p1), .val (.int p2), .val (.int p3), .val (.int p4), .val (.int p5), .val (.int p6), .val (.int (own_c0 p1)), .val (.int (own_c1 p1)), .val (.int (own_la p1)), .val (.int (own_lc p1)), .val (.int (own_lb p1)), .val (.int (own_b0 p1)), .val (.int (own_b1 p1)), .val (.int (own_kd p1)), .val (.int (own_p2 p1 p2 p6)), .val (.int (own_r2 p1 p3 p6)), .val (.int (own_w2 p1 p4 p6)), .val (.int (own_t2 p1 p5 p6)), .val (.ref x42_0), .val (.ref x44_0), .val (.ref b46), .val (.ref b60), .unset] [(.int (own_p2 p1 p2 p6)), (.int p2)])) _
                        refine XS.icmpNo X61w.here hx rfl (hb hby at_312) rfl (teq hc312_126).2 ?_
                        show Steps p.tables e below (T61.setTop (mkF m 315 #[.val (.int p1), .val (.int p2), .val (.int p3), .val (.int p4), .val (.int p5), .val (.int p6), .val (.int (own_c0 p1)), .val (.int (own_c1 p1)), .val (.int (own_la p1)), .val (.int (own_lc p1)), .val (.int (own_lb p1)), .val (.int (own_b0 p1)), .val (.int (own_b1 p1)), .val (.int (own_kd p1)), .val (.int (own_p2 p1 p2 p6)), .val (.int (own_r2 p1 p3 p6)), .val (.int (own_w2 p1 p4 p6)), .val (.int (own_t2 p1 p5 p6)), .val (.ref x42_0), .val (.ref x44_0), .val (.ref b46), .val (.ref b60), .unset] [])) _
                        refine XS.iloadN X61w.here hx rfl (hb hby at_315) rfl ?_
                        show Steps p.tables e below (T61.setTop (mkF m 316 #[.val (.int p1), .val (.int p2), .val (.int p3), .val (.int p4), .val (.int p5), .val (.int p6), .val (.int (own_c0 p1)), .val (.int (own_c1 p1)), .val (.int (own_la p1)), .val (.int (own_lc p1)), .val (.int (own_lb p1)), .val (.int (own_b0 p1)), .val (.int (own_b1 p1)), .val (.int (own_kd p1)), .val (.int (own_p2 p1 p2 p6)), .val (.int (own_r2 p1 p3 p6)), .val (.int (own_w2 p1 p4 p6)), .val (.int (own_t2 p1 p5 p6)), .val (.ref x42_0), .val (.ref x44_0), .val (.ref b46), .val (.ref b60), .unset] [(.int p3)])) _
                        refine XS.iload X61w.here hx rfl (hb hby at_316) rfl ?_
                        show Steps p.tables e below (T61.setTop (mkF m 318 #[.val (.int p1), .val (.int p2), .val (.int p3), .val (.int p4), .val (.int p5), .val (.int p6), .val (.int (own_c0 p1)), .val (.int (own_c1 p1)), .val (.int (own_la p1)), .val (.int (own_lc p1)), .val (.int (own_lb p1)), .val (.int (own_b0 p1)), .val (.int (own_b1 p1)), .val (.int (own_kd p1)), .val (.int (own_p2 p1 p2 p6)), .val (.int (own_r2 p1 p3 p6)), .val (.int (own_w2 p1 p4 p6)), .val (.int (own_t2 p1 p5 p6)), .val (.ref x42_0), .val (.ref x44_0), .val (.ref b46), .val (.ref b60), .unset] [(.int (own_r2 p1 p3 p6)), (.int p3)])) _
                        exact kt)
                      by_cases hc318_128 : p3 = (own_r2 p1 p3 p6)
                      · have pre131 : ∀ t, Steps p.tables e below (T61.setTop (mkF m 324 #[.val (.int p1), .val (.int p2), .val (.int p3), .val (.int p4), .val (.int p5), .val (.int p6), .val (.int (own_c0 p1)), .val (.int (own_c1 p1)), .val (.int (own_la p1)), .val (.int (own_lc p1)), .val (.int (own_lb p1)), .val (.int (own_b0 p1)), .val (.int (own_b1 p1)), .val (.int (own_kd p1)), .val (.int (own_p2 p1 p2 p6)), .val (.int (own_r2 p1 p3 p6)), .val (.int (own_w2 p1 p4 p6)), .val (.int (own_t2 p1 p5 p6)), .val (.ref x42_0), .val (.ref x44_0), .val (.ref b46), .val (.ref b60), .unset] [(.int (own_w2 p1 p4 p6)), (.int p4)])) t → Steps p.tables e below (T61.setTop (mkF m 276 #[.val (.int p1), .val (.int p2), .val (.int p3), .val (.int p4), .val (.int p5), .val (.int p6), .val (.int (own_c0 p1)), .val (.int (own_c1 p1)), .val (.int (own_la p1)), .val (.int (own_lc p1)), .val (.int (own_lb p1)), .val (.int (own_b0 p1)), .val (.int (own_b1 p1)), .val (.int (own_kd p1)), .val (.int (own_p2 p1 p2 p6)), .val (.int (own_r2 p1 p3 p6)), .val (.int (own_w2 p1 p4 p6)), .val (.int (own_t2 p1 p5 p6)), .val (.ref x42_0), .val (.ref x44_0), .val (.ref b46), .val (.ref b60), .unset] [])) t := fun t kt => pre129 t (by
                          show Steps p.tables e below (T61.setTop (mkF m 318 #[.val (.int p1), .val (.int p2), .val (.int p3), .val (.int p4), .val (.int p5), .val (.int p6), .val (.int (own_c0 p1)), .val (.int (own_c1 p1)), .val (.int (own_la p1)), .val (.int (own_lc p1)), .val (.int (own_lb p1)), .val (.int (own_b0 p1)), .val (.int (own_b1 p1)), .val (.int (own_kd p1)), .val (.int (own_p2 p1 p2 p6)), .val (.int (own_r2 p1 p3 p6)), .val (.int (own_w2 p1 p4 p6)), .val (.int (own_t2 p1 p5 p6)), .val (.ref x42_0), .val (.ref x44_0), .val (.ref b46), .val (.ref b60), .unset] [(.int (own_r2 p1 p3 p6)), (.int p3)])) _
                          refine XS.icmpNo X61w.here hx rfl (hb hby at_318) rfl (teq hc318_128).2 ?_
                          show Steps p.tables e below (T61.setTop (mkF m 321 #[.val (.int p1), .val (.int p2), .val (.int p3), .val (.int p4), .val (.int p5), .val (.int p6), .val (.int (own_c0 p1)), .val (.int (own_c1 p1)), .val (.int (own_la p1)), .val (.int (own_lc p1)), .val (.int (own_lb p1)), .val (.int (own_b0 p1)), .val (.int (own_b1 p1)), .val (.int (own_kd p1)), .val (.int (own_p2 p1 p2 p6)), .val (.int (own_r2 p1 p3 p6)), .val (.int (own_w2 p1 p4 p6)), .val (.int (own_t2 p1 p5 p6)), .val (.ref x42_0), .val (.ref x44_0), .val (.ref b46), .val (.ref b60), .unset] [])) _
                          refine XS.iloadN X61w.here hx rfl (hb hby at_321) rfl ?_
                          show Steps p.tables e below (T61.setTop (mkF m 322 #[.val (.int p1), .val (.int p2), .val (.int p3), .val (.int p4), .val (.int p5), .val (.int p6), .val (.int (own_c0 p1)), .val (.int (own_c1 p1)), .val (.int (own_la p1)), .val (.int (own_lc p1)), .val (.int (own_lb p1)), .val (.int (own_b0 p1)), .val (.int (own_b1 p1)), .val (.int (own_kd p1)), .val (.int (own_p2 p1 p2 p6)), .val (.int (own_r2 p1 p3 p6)), .val (.int (own_w2 p1 p4 p6)), .val (.int (own_t2 p1 p5 p6)), .val (.ref x42_0), .val (.ref x44_0), .val (.ref b46), .val (.ref b60), .unset] [(.int p4)])) _
                          refine XS.iload X61w.here hx rfl (hb hby at_322) rfl ?_
                          show Steps p.tables e below (T61.setTop (mkF m 324 #[.val (.int p1), .val (.int p2), .val (.int p3), .val (.int p4), .val (.int p5), .val (.int p6), .val (.int (own_c0 p1)), .val (.int (own_c1 p1)), .val (.int (own_la p1)), .val (.int (own_lc p1)), .val (.int (own_lb p1)), .val (.int (own_b0 p1)), .val (.int (own_b1 p1)), .val (.int (own_kd p1)), .val (.int (own_p2 p1 p2 p6)), .val (.int (own_r2 p1 p3 p6)), .val (.int (own_w2 p1 p4 p6)), .val (.int (own_t2 p1 p5 p6)), .val (.ref x42_0), .val (.ref x44_0), .val (.ref b46), .val (.ref b60), .unset] [(.int (own_w2 p1 p4 p6)), (.int p4)])) _
                          exact kt)
                        by_cases hc324_130 : p4 = (own_w2 p1 p4 p6)
                        · have pre133 : ∀ t, Steps p.tables e below (T61.setTop (mkF m 331 #[.val (.int p1), .val (.int p2), .val (.int p3), .val (.int p4), .val (.int p5), .val (.int p6), .val (.int (own_c0 p1)), .val (.int (own_c1 p1)), .val (.int (own_la p1)), .val (.int (own_lc p1)), .val (.int (own_lb p1)), .val (.int (own_b0 p1)), .val (.int (own_b1 p1)), .val (.int (own_kd p1)), .val (.int (own_p2 p1 p2 p6)), .val (.int (own_r2 p1 p3 p6)), .val (.int (own_w2 p1 p4 p6)), .val (.int (own_t2 p1 p5 p6)), .val (.ref x42_0), .val (.ref x44_0), .val (.ref b46), .val (.ref b60), .unset] [(.int (own_t2 p1 p5 p6)), (.int p5)])) t → Steps p.tables e below (T61.setTop (mkF m 276 #[.val (.int p1), .val (.int p2), .val (.int p3), .val (.int p4), .val (.int p5), .val (.int p6), .val (.int (own_c0 p1)), .val (.int (own_c1 p1)), .val (.int (own_la p1)), .val (.int (own_lc p1)), .val (.int (own_lb p1)), .val (.int (own_b0 p1)), .val (.int (own_b1 p1)), .val (.int (own_kd p1)), .val (.int (own_p2 p1 p2 p6)), .val (.int (own_r2 p1 p3 p6)), .val (.int (own_w2 p1 p4 p6)), .val (.int (own_t2 p1 p5 p6)), .val (.ref x42_0), .val (.ref x44_0), .val (.ref b46), .val (.ref b60), .unset] [])) t := fun t kt => pre131 t (by
                            show Steps p.tables e below (T61.setTop (mkF m 324 #[.val (.int p1), .val (.int p2), .val (.int p3), .val (.int p4), .val (.int p5), .val (.int p6), .val (.int (own_c0 p1)), .val (.int (own_c1 p1)), .val (.int (own_la p1)), .val (.int (own_lc p1)), .val (.int (own_lb p1)), .val (.int (own_b0 p1)), .val (.int (own_b1 p1)), .val (.int (own_kd p1)), .val (.int (own_p2 p1 p2 p6)), .val (.int (own_r2 p1 p3 p6)), .val (.int (own_w2 p1 p4 p6)), .val (.int (own_t2 p1 p5 p6)), .val (.ref x42_0), .val (.ref x44_0), .val (.ref b46), .val (.ref b60), .unset] [(.int (own_w2 p1 p4 p6)), (.int p4)])) _
                            refine XS.icmpNo X61w.here hx rfl (hb hby at_324) rfl (teq hc324_130).2 ?_
                            show Steps p.tables e below (T61.setTop (mkF m 327 #[.val (.int p1), .val (.int p2), .val (.int p3), .val (.int p4), .val (.int p5), .val (.int p6), .val (.int (own_c0 p1)), .val (.int (own_c1 p1)), .val (.int (own_la p1)), .val (.int (own_lc p1)), .val (.int (own_lb p1)), .val (.int (own_b0 p1)), .val (.int (own_b1 p1)), .val (.int (own_kd p1)), .val (.int (own_p2 p1 p2 p6)), .val (.int (own_r2 p1 p3 p6)), .val (.int (own_w2 p1 p4 p6)), .val (.int (own_t2 p1 p5 p6)), .val (.ref x42_0), .val (.ref x44_0), .val (.ref b46), .val (.ref b60), .unset] [])) _
                            refine XS.iload X61w.here hx rfl (hb hby at_327) rfl ?_
                            show Steps p.tables e below (T61.setTop (mkF m 329 #[.val (.int p1), .val (.int p2), .val (.int p3), .val (.int p4), .val (.int p5), .val (.int p6), .val (.int (own_c0 p1)), .val (.int (own_c1 p1)), .val (.int (own_la p1)), .val (.int (own_lc p1)), .val (.int (own_lb p1)), .val (.int (own_b0 p1)), .val (.int (own_b1 p1)), .val (.int (own_kd p1)), .val (.int (own_p2 p1 p2 p6)), .val (.int (own_r2 p1 p3 p6)), .val (.int (own_w2 p1 p4 p6)), .val (.int (own_t2 p1 p5 p6)), .val (.ref x42_0), .val (.ref x44_0), .val (.ref b46), .val (.ref b60), .unset] [(.int p5)])) _
                            refine XS.iload X61w.here hx rfl (hb hby at_329) rfl ?_
                            show Steps p.tables e below (T61.setTop (mkF m 331 #[.val (.int p1), .val (.int p2), .val (.int p3), .val (.int p4), .val (.int p5), .val (.int p6), .val (.int (own_c0 p1)), .val (.int (own_c1 p1)), .val (.int (own_la p1)), .val (.int (own_lc p1)), .val (.int (own_lb p1)), .val (.int (own_b0 p1)), .val (.int (own_b1 p1)), .val (.int (own_kd p1)), .val (.int (own_p2 p1 p2 p6)), .val (.int (own_r2 p1 p3 p6)), .val (.int (own_w2 p1 p4 p6)), .val (.int (own_t2 p1 p5 p6)), .val (.ref x42_0), .val (.ref x44_0), .val (.ref b46), .val (.ref b60), .unset] [(.int (own_t2 p1 p5 p6)), (.int p5)])) _
                            exact kt)
                          by_cases hc331_132 : p5 = (own_t2 p1 p5 p6)
                          · have pre134 : ∀ t, Steps p.tables e below (T61.setTop (mkF m 339 #[.val (.int p1), .val (.int p2), .val (.int p3), .val (.int p4), .val (.int p5), .val (.int p6), .val (.int (own_c0 p1)), .val (.int (own_c1 p1)), .val (.int (own_la p1)), .val (.int (own_lc p1)), .val (.int (own_lb p1)), .val (.int (own_b0 p1)), .val (.int (own_b1 p1)), .val (.int (own_kd p1)), .val (.int (own_p2 p1 p2 p6)), .val (.int (own_r2 p1 p3 p6)), .val (.int (own_w2 p1 p4 p6)), .val (.int (own_t2 p1 p5 p6)), .val (.ref x42_0), .val (.ref x44_0), .val (.ref b46), .val (.ref b60), .unset] [(.int (1 : Int32))])) t → Steps p.tables e below (T61.setTop (mkF m 276 #[.val (.int p1), .val (.int p2), .val (.int p3), .val (.int p4), .val (.int p5), .val (.int p6), .val (.int (own_c0 p1)), .val (.int (own_c1 p1)), .val (.int (own_la p1)), .val (.int (own_lc p1)), .val (.int (own_lb p1)), .val (.int (own_b0 p1)), .val (.int (own_b1 p1)), .val (.int (own_kd p1)), .val (.int (own_p2 p1 p2 p6)), .val (.int (own_r2 p1 p3 p6)), .val (.int (own_w2 p1 p4 p6)), .val (.int (own_t2 p1 p5 p6)), .val (.ref x42_0), .val (.ref x44_0), .val (.ref b46), .val (.ref b60), .unset] [])) t := fun t kt => pre133 t (by
                              show Steps p.tables e below (T61.setTop (mkF m 331 #[.val (.int p1), .val (.int p2), .val (.int p3), .val (.int p4), .val (.int p5), .val (.int p6), .val (.int (own_c0 p1)), .val (.int (own_c1 p1)), .val (.int (own_la p1)), .val (.int (own_lc p1)), .val (.int (own_lb p1)), .val (.int (own_b0 p1)), .val (.int (own_b1 p1)), .val (.int (own_kd p1)), .val (.int (own_p2 p1 p2 p6)), .val (.int (own_r2 p1 p3 p6)), .val (.int (own_w2 p1 p4 p6)), .val (.int (own_t2 p1 p5 p6)), .val (.ref x42_0), .val (.ref x44_0), .val (.ref b46), .val (.ref b60), .unset] [(.int (own_t2 p1 p5 p6)), (.int p5)])) _
                              refine XS.icmpNo X61w.here hx rfl (hb hby at_331) rfl (teq hc331_132).2 ?_
                              show Steps p.tables e below (T61.setTop (mkF m 334 #[.val (.int p1), .val (.int p2), .val (.int p3), .val (.int p4), .val (.int p5), .val (.int p6), .val (.int (own_c0 p1)), .val (.int (own_c1 p1)), .val (.int (own_la p1)), .val (.int (own_lc p1)), .val (.int (own_lb p1)), .val (.int (own_b0 p1)), .val (.int (own_b1 p1)), .val (.int (own_kd p1)), .val (.int (own_p2 p1 p2 p6)), .val (.int (own_r2 p1 p3 p6)), .val (.int (own_w2 p1 p4 p6)), .val (.int (own_t2 p1 p5 p6)), .val (.ref x42_0), .val (.ref x44_0), .val (.ref b46), .val (.ref b60), .unset] [])) _
                              refine XS.iconst X61w.here hx rfl (hb hby at_334) ?_
                              show Steps p.tables e below (T61.setTop (mkF m 335 #[.val (.int p1), .val (.int p2), .val (.int p3), .val (.int p4), .val (.int p5), .val (.int p6), .val (.int (own_c0 p1)), .val (.int (own_c1 p1)), .val (.int (own_la p1)), .val (.int (own_lc p1)), .val (.int (own_lb p1)), .val (.int (own_b0 p1)), .val (.int (own_b1 p1)), .val (.int (own_kd p1)), .val (.int (own_p2 p1 p2 p6)), .val (.int (own_r2 p1 p3 p6)), .val (.int (own_w2 p1 p4 p6)), .val (.int (own_t2 p1 p5 p6)), .val (.ref x42_0), .val (.ref x44_0), .val (.ref b46), .val (.ref b60), .unset] [(.int (1 : Int32))])) _
                              refine XS.goto X61w.here hx rfl (pc0 := 335) (pc' := 339) rfl (hb hby at_335) (by decide) (by decide) ?_
                              show Steps p.tables e below (T61.setTop (mkF m 339 #[.val (.int p1), .val (.int p2), .val (.int p3), .val (.int p4), .val (.int p5), .val (.int p6), .val (.int (own_c0 p1)), .val (.int (own_c1 p1)), .val (.int (own_la p1)), .val (.int (own_lc p1)), .val (.int (own_lb p1)), .val (.int (own_b0 p1)), .val (.int (own_b1 p1)), .val (.int (own_kd p1)), .val (.int (own_p2 p1 p2 p6)), .val (.int (own_r2 p1 p3 p6)), .val (.int (own_w2 p1 p4 p6)), .val (.int (own_t2 p1 p5 p6)), .val (.ref x42_0), .val (.ref x44_0), .val (.ref b46), .val (.ref b60), .unset] [(.int (1 : Int32))])) _
                              exact kt)
                            have qe : own_exp p1 p2 p3 p4 p5 p6 = (1 : Int32) := by unfold own_exp; rw [if_pos hc280_72, if_neg hc286_74, if_pos hc293_107, if_neg hc299_109, if_pos hc306_124, if_pos hc312_126, if_pos hc318_128, if_pos hc324_130, if_pos hc331_132]
                            rw [qe] at kt0
                            exact pre134 _ kt0
                          · have pre135 : ∀ t, Steps p.tables e below (T61.setTop (mkF m 339 #[.val (.int p1), .val (.int p2), .val (.int p3), .val (.int p4), .val (.int p5), .val (.int p6), .val (.int (own_c0 p1)), .val (.int (own_c1 p1)), .val (.int (own_la p1)), .val (.int (own_lc p1)), .val (.int (own_lb p1)), .val (.int (own_b0 p1)), .val (.int (own_b1 p1)), .val (.int (own_kd p1)), .val (.int (own_p2 p1 p2 p6)), .val (.int (own_r2 p1 p3 p6)), .val (.int (own_w2 p1 p4 p6)), .val (.int (own_t2 p1 p5 p6)), .val (.ref x42_0), .val (.ref x44_0), .val (.ref b46), .val (.ref b60), .unset] [(.int (0 : Int32))])) t → Steps p.tables e below (T61.setTop (mkF m 276 #[.val (.int p1), .val (.int p2), .val (.int p3), .val (.int p4), .val (.int p5), .val (.int p6), .val (.int (own_c0 p1)), .val (.int (own_c1 p1)), .val (.int (own_la p1)), .val (.int (own_lc p1)), .val (.int (own_lb p1)), .val (.int (own_b0 p1)), .val (.int (own_b1 p1)), .val (.int (own_kd p1)), .val (.int (own_p2 p1 p2 p6)), .val (.int (own_r2 p1 p3 p6)), .val (.int (own_w2 p1 p4 p6)), .val (.int (own_t2 p1 p5 p6)), .val (.ref x42_0), .val (.ref x44_0), .val (.ref b46), .val (.ref b60), .unset] [])) t := fun t kt => pre133 t (by
                              show Steps p.tables e below (T61.setTop (mkF m 331 #[.val (.int p1), .val (.int p2), .val (.int p3), .val (.int p4), .val (.int p5), .val (.int p6), .val (.int (own_c0 p1)), .val (.int (own_c1 p1)), .val (.int (own_la p1)), .val (.int (own_lc p1)), .val (.int (own_lb p1)), .val (.int (own_b0 p1)), .val (.int (own_b1 p1)), .val (.int (own_kd p1)), .val (.int (own_p2 p1 p2 p6)), .val (.int (own_r2 p1 p3 p6)), .val (.int (own_w2 p1 p4 p6)), .val (.int (own_t2 p1 p5 p6)), .val (.ref x42_0), .val (.ref x44_0), .val (.ref b46), .val (.ref b60), .unset] [(.int (own_t2 p1 p5 p6)), (.int p5)])) _
                              refine XS.icmpYes X61w.here hx rfl (pc0 := 331) (pc' := 338) rfl (hb hby at_331) rfl (feq hc331_132).2 (by decide) (by decide) ?_
                              show Steps p.tables e below (T61.setTop (mkF m 338 #[.val (.int p1), .val (.int p2), .val (.int p3), .val (.int p4), .val (.int p5), .val (.int p6), .val (.int (own_c0 p1)), .val (.int (own_c1 p1)), .val (.int (own_la p1)), .val (.int (own_lc p1)), .val (.int (own_lb p1)), .val (.int (own_b0 p1)), .val (.int (own_b1 p1)), .val (.int (own_kd p1)), .val (.int (own_p2 p1 p2 p6)), .val (.int (own_r2 p1 p3 p6)), .val (.int (own_w2 p1 p4 p6)), .val (.int (own_t2 p1 p5 p6)), .val (.ref x42_0), .val (.ref x44_0), .val (.ref b46), .val (.ref b60), .unset] [])) _
                              refine XS.iconst X61w.here hx rfl (hb hby at_338) ?_
                              show Steps p.tables e below (T61.setTop (mkF m 339 #[.val (.int p1), .val (.int p2), .val (.int p3), .val (.int p4), .val (.int p5), .val (.int p6), .val (.int (own_c0 p1)), .val (.int (own_c1 p1)), .val (.int (own_la p1)), .val (.int (own_lc p1)), .val (.int (own_lb p1)), .val (.int (own_b0 p1)), .val (.int (own_b1 p1)), .val (.int (own_kd p1)), .val (.int (own_p2 p1 p2 p6)), .val (.int (own_r2 p1 p3 p6)), .val (.int (own_w2 p1 p4 p6)), .val (.int (own_t2 p1 p5 p6)), .val (.ref x42_0), .val (.ref x44_0), .val (.ref b46), .val (.ref b60), .unset] [(.int (0 : Int32))])) _
                              exact kt)
                            have qe : own_exp p1 p2 p3 p4 p5 p6 = (0 : Int32) := by unfold own_exp; rw [if_pos hc280_72, if_neg hc286_74, if_pos hc293_107, if_neg hc299_109, if_pos hc306_124, if_pos hc312_126, if_pos hc318_128, if_pos hc324_130, if_neg hc331_132]
                            rw [qe] at kt0
                            exact pre135 _ kt0
                        · have pre136 : ∀ t, Steps p.tables e below (T61.setTop (mkF m 339 #[.val (.int p1), .val (.int p2), .val (.int p3), .val (.int p4), .val (.int p5), .val (.int p6), .val (.int (own_c0 p1)), .val (.int (own_c1 p1)), .val (.int (own_la p1)), .val (.int (own_lc p1)), .val (.int (own_lb p1)), .val (.int (own_b0 p1)), .val (.int (own_b1 p1)), .val (.int (own_kd p1)), .val (.int (own_p2 p1 p2 p6)), .val (.int (own_r2 p1 p3 p6)), .val (.int (own_w2 p1 p4 p6)), .val (.int (own_t2 p1 p5 p6)), .val (.ref x42_0), .val (.ref x44_0), .val (.ref b46), .val (.ref b60), .unset] [(.int (0 : Int32))])) t → Steps p.tables e below (T61.setTop (mkF m 276 #[.val (.int p1), .val (.int p2), .val (.int p3), .val (.int p4), .val (.int p5), .val (.int p6), .val (.int (own_c0 p1)), .val (.int (own_c1 p1)), .val (.int (own_la p1)), .val (.int (own_lc p1)), .val (.int (own_lb p1)), .val (.int (own_b0 p1)), .val (.int (own_b1 p1)), .val (.int (own_kd p1)), .val (.int (own_p2 p1 p2 p6)), .val (.int (own_r2 p1 p3 p6)), .val (.int (own_w2 p1 p4 p6)), .val (.int (own_t2 p1 p5 p6)), .val (.ref x42_0), .val (.ref x44_0), .val (.ref b46), .val (.ref b60), .unset] [])) t := fun t kt => pre131 t (by
                            show Steps p.tables e below (T61.setTop (mkF m 324 #[.val (.int p1), .val (.int p2), .val (.int p3), .val (.int p4), .val (.int p5), .val (.int p6), .val (.int (own_c0 p1)), .val (.int (own_c1 p1)), .val (.int (own_la p1)), .val (.int (own_lc p1)), .val (.int (own_lb p1)), .val (.int (own_b0 p1)), .val (.int (own_b1 p1)), .val (.int (own_kd p1)), .val (.int (own_p2 p1 p2 p6)), .val (.int (own_r2 p1 p3 p6)), .val (.int (own_w2 p1 p4 p6)), .val (.int (own_t2 p1 p5 p6)), .val (.ref x42_0), .val (.ref x44_0), .val (.ref b46), .val (.ref b60), .unset] [(.int (own_w2 p1 p4 p6)), (.int p4)])) _
                            refine XS.icmpYes X61w.here hx rfl (pc0 := 324) (pc' := 338) rfl (hb hby at_324) rfl (feq hc324_130).2 (by decide) (by decide) ?_
                            show Steps p.tables e below (T61.setTop (mkF m 338 #[.val (.int p1), .val (.int p2), .val (.int p3), .val (.int p4), .val (.int p5), .val (.int p6), .val (.int (own_c0 p1)), .val (.int (own_c1 p1)), .val (.int (own_la p1)), .val (.int (own_lc p1)), .val (.int (own_lb p1)), .val (.int (own_b0 p1)), .val (.int (own_b1 p1)), .val (.int (own_kd p1)), .val (.int (own_p2 p1 p2 p6)), .val (.int (own_r2 p1 p3 p6)), .val (.int (own_w2 p1 p4 p6)), .val (.int (own_t2 p1 p5 p6)), .val (.ref x42_0), .val (.ref x44_0), .val (.ref b46), .val (.ref b60), .unset] [])) _
                            refine XS.iconst X61w.here hx rfl (hb hby at_338) ?_
                            show Steps p.tables e below (T61.setTop (mkF m 339 #[.val (.int p1), .val (.int p2), .val (.int p3), .val (.int p4), .val (.int p5), .val (.int p6), .val (.int (own_c0 p1)), .val (.int (own_c1 p1)), .val (.int (own_la p1)), .val (.int (own_lc p1)), .val (.int (own_lb p1)), .val (.int (own_b0 p1)), .val (.int (own_b1 p1)), .val (.int (own_kd p1)), .val (.int (own_p2 p1 p2 p6)), .val (.int (own_r2 p1 p3 p6)), .val (.int (own_w2 p1 p4 p6)), .val (.int (own_t2 p1 p5 p6)), .val (.ref x42_0), .val (.ref x44_0), .val (.ref b46), .val (.ref b60), .unset] [(.int (0 : Int32))])) _
                            exact kt)
                          have qe : own_exp p1 p2 p3 p4 p5 p6 = (0 : Int32) := by unfold own_exp; rw [if_pos hc280_72, if_neg hc286_74, if_pos hc293_107, if_neg hc299_109, if_pos hc306_124, if_pos hc312_126, if_pos hc318_128, if_neg hc324_130]
                          rw [qe] at kt0
                          exact pre136 _ kt0
                      · have pre137 : ∀ t, Steps p.tables e below (T61.setTop (mkF m 339 #[.val (.int p1), .val (.int p2), .val (.int p3), .val (.int p4), .val (.int p5), .val (.int p6), .val (.int (own_c0 p1)), .val (.int (own_c1 p1)), .val (.int (own_la p1)), .val (.int (own_lc p1)), .val (.int (own_lb p1)), .val (.int (own_b0 p1)), .val (.int (own_b1 p1)), .val (.int (own_kd p1)), .val (.int (own_p2 p1 p2 p6)), .val (.int (own_r2 p1 p3 p6)), .val (.int (own_w2 p1 p4 p6)), .val (.int (own_t2 p1 p5 p6)), .val (.ref x42_0), .val (.ref x44_0), .val (.ref b46), .val (.ref b60), .unset] [(.int (0 : Int32))])) t → Steps p.tables e below (T61.setTop (mkF m 276 #[.val (.int p1), .val (.int p2), .val (.int p3), .val (.int p4), .val (.int p5), .val (.int p6), .val (.int (own_c0 p1)), .val (.int (own_c1 p1)), .val (.int (own_la p1)), .val (.int (own_lc p1)), .val (.int (own_lb p1)), .val (.int (own_b0 p1)), .val (.int (own_b1 p1)), .val (.int (own_kd p1)), .val (.int (own_p2 p1 p2 p6)), .val (.int (own_r2 p1 p3 p6)), .val (.int (own_w2 p1 p4 p6)), .val (.int (own_t2 p1 p5 p6)), .val (.ref x42_0), .val (.ref x44_0), .val (.ref b46), .val (.ref b60), .unset] [])) t := fun t kt => pre129 t (by
                          show Steps p.tables e below (T61.setTop (mkF m 318 #[.val (.int p1), .val (.int p2), .val (.int p3), .val (.int p4), .val (.int p5), .val (.int p6), .val (.int (own_c0 p1)), .val (.int (own_c1 p1)), .val (.int (own_la p1)), .val (.int (own_lc p1)), .val (.int (own_lb p1)), .val (.int (own_b0 p1)), .val (.int (own_b1 p1)), .val (.int (own_kd p1)), .val (.int (own_p2 p1 p2 p6)), .val (.int (own_r2 p1 p3 p6)), .val (.int (own_w2 p1 p4 p6)), .val (.int (own_t2 p1 p5 p6)), .val (.ref x42_0), .val (.ref x44_0), .val (.ref b46), .val (.ref b60), .unset] [(.int (own_r2 p1 p3 p6)), (.int p3)])) _
                          refine XS.icmpYes X61w.here hx rfl (pc0 := 318) (pc' := 338) rfl (hb hby at_318) rfl (feq hc318_128).2 (by decide) (by decide) ?_
                          show Steps p.tables e below (T61.setTop (mkF m 338 #[.val (.int p1), .val (.int p2), .val (.int p3), .val (.int p4), .val (.int p5), .val (.int p6), .val (.int (own_c0 p1)), .val (.int (own_c1 p1)), .val (.int (own_la p1)), .val (.int (own_lc p1)), .val (.int (own_lb p1)), .val (.int (own_b0 p1)), .val (.int (own_b1 p1)), .val (.int (own_kd p1)), .val (.int (own_p2 p1 p2 p6)), .val (.int (own_r2 p1 p3 p6)), .val (.int (own_w2 p1 p4 p6)), .val (.int (own_t2 p1 p5 p6)), .val (.ref x42_0), .val (.ref x44_0), .val (.ref b46), .val (.ref b60), .unset] [])) _
                          refine XS.iconst X61w.here hx rfl (hb hby at_338) ?_
                          show Steps p.tables e below (T61.setTop (mkF m 339 #[.val (.int p1), .val (.int p2), .val (.int p3), .val (.int p4), .val (.int p5), .val (.int p6), .val (.int (own_c0 p1)), .val (.int (own_c1 p1)), .val (.int (own_la p1)), .val (.int (own_lc p1)), .val (.int (own_lb p1)), .val (.int (own_b0 p1)), .val (.int (own_b1 p1)), .val (.int (own_kd p1)), .val (.int (own_p2 p1 p2 p6)), .val (.int (own_r2 p1 p3 p6)), .val (.int (own_w2 p1 p4 p6)), .val (.int (own_t2 p1 p5 p6)), .val (.ref x42_0), .val (.ref x44_0), .val (.ref b46), .val (.ref b60), .unset] [(.int (0 : Int32))])) _
                          exact kt)
                        have qe : own_exp p1 p2 p3 p4 p5 p6 = (0 : Int32) := by unfold own_exp; rw [if_pos hc280_72, if_neg hc286_74, if_pos hc293_107, if_neg hc299_109, if_pos hc306_124, if_pos hc312_126, if_neg hc318_128]
                        rw [qe] at kt0
                        exact pre137 _ kt0
                    · have pre138 : ∀ t, Steps p.tables e below (T61.setTop (mkF m 339 #[.val (.int p1), .val (.int p2), .val (.int p3), .val (.int p4), .val (.int p5), .val (.int p6), .val (.int (own_c0 p1)), .val (.int (own_c1 p1)), .val (.int (own_la p1)), .val (.int (own_lc p1)), .val (.int (own_lb p1)), .val (.int (own_b0 p1)), .val (.int (own_b1 p1)), .val (.int (own_kd p1)), .val (.int (own_p2 p1 p2 p6)), .val (.int (own_r2 p1 p3 p6)), .val (.int (own_w2 p1 p4 p6)), .val (.int (own_t2 p1 p5 p6)), .val (.ref x42_0), .val (.ref x44_0), .val (.ref b46), .val (.ref b60), .unset] [(.int (0 : Int32))])) t → Steps p.tables e below (T61.setTop (mkF m 276 #[.val (.int p1), .val (.int p2), .val (.int p3), .val (.int p4), .val (.int p5), .val (.int p6), .val (.int (own_c0 p1)), .val (.int (own_c1 p1)), .val (.int (own_la p1)), .val (.int (own_lc p1)), .val (.int (own_lb p1)), .val (.int (own_b0 p1)), .val (.int (own_b1 p1)), .val (.int (own_kd p1)), .val (.int (own_p2 p1 p2 p6)), .val (.int (own_r2 p1 p3 p6)), .val (.int (own_w2 p1 p4 p6)), .val (.int (own_t2 p1 p5 p6)), .val (.ref x42_0), .val (.ref x44_0), .val (.ref b46), .val (.ref b60), .unset] [])) t := fun t kt => pre127 t (by
                        show Steps p.tables e below (T61.setTop (mkF m 312 #[.val (.int p1), .val (.int p2), .val (.int p3), .val (.int p4), .val (.int p5), .val (.int p6), .val (.int (own_c0 p1)), .val (.int (own_c1 p1)), .val (.int (own_la p1)), .val (.int (own_lc p1)), .val (.int (own_lb p1)), .val (.int (own_b0 p1)), .val (.int (own_b1 p1)), .val (.int (own_kd p1)), .val (.int (own_p2 p1 p2 p6)), .val (.int (own_r2 p1 p3 p6)), .val (.int (own_w2 p1 p4 p6)), .val (.int (own_t2 p1 p5 p6)), .val (.ref x42_0), .val (.ref x44_0), .val (.ref b46), .val (.ref b60), .unset] [(.int (own_p2 p1 p2 p6)), (.int p2)])) _
                        refine XS.icmpYes X61w.here hx rfl (pc0 := 312) (pc' := 338) rfl (hb hby at_312) rfl (feq hc312_126).2 (by decide) (by decide) ?_
                        show Steps p.tables e below (T61.setTop (mkF m 338 #[.val (.int p1), .val (.int p2), .val (.int p3), .val (.int p4), .val (.int p5), .val (.int p6), .val (.int (own_c0 p1)), .val (.int (own_c1 p1)), .val (.int (own_la p1)), .val (.int (own_lc p1)), .val (.int (own_lb p1)), .val (.int (own_b0 p1)), .val (.int (own_b1 p1)), .val (.int (own_kd p1)), .val (.int (own_p2 p1 p2 p6)), .val (.int (own_r2 p1 p3 p6)), .val (.int (own_w2 p1 p4 p6)), .val (.int (own_t2 p1 p5 p6)), .val (.ref x42_0), .val (.ref x44_0), .val (.ref b46), .val (.ref b60), .unset] [])) _
                        refine XS.iconst X61w.here hx rfl (hb hby at_338) ?_
                        show Steps p.tables e below (T61.setTop (mkF m 339 #[.val (.int p1), .val (.int p2), .val (.int p3), .val (.int p4), .val (.int p5), .val (.int p6), .val (.int (own_c0 p1)), .val (.int (own_c1 p1)), .val (.int (own_la p1)), .val (.int (own_lc p1)), .val (.int (own_lb p1)), .val (.int (own_b0 p1)), .val (.int (own_b1 p1)), .val (.int (own_kd p1)), .val (.int (own_p2 p1 p2 p6)), .val (.int (own_r2 p1 p3 p6)), .val (.int (own_w2 p1 p4 p6)), .val (.int (own_t2 p1 p5 p6)), .val (.ref x42_0), .val (.ref x44_0), .val (.ref b46), .val (.ref b60), .unset] [(.int (0 : Int32))])) _
                        exact kt)
                      have qe : own_exp p1 p2 p3 p4 p5 p6 = (0 : Int32) := by unfold own_exp; rw [if_pos hc280_72, if_neg hc286_74, if_pos hc293_107, if_neg hc299_109, if_pos hc306_124, if_neg hc312_126]
                      rw [qe] at kt0
                      exact pre138 _ kt0
                  · have pre139 : ∀ t, Steps p.tables e below (T61.setTop (mkF m 339 #[.val (.int p1), .val (.int p2), .val (.int p3), .val (.int p4), .val (.int p5), .val (.int p6), .val (.int (own_c0 p1)), .val (.int (own_c1 p1)), .val (.int (own_la p1)), .val (.int (own_lc p1)), .val (.int (own_lb p1)), .val (.int (own_b0 p1)), .val (.int (own_b1 p1)), .val (.int (own_kd p1)), .val (.int (own_p2 p1 p2 p6)), .val (.int (own_r2 p1 p3 p6)), .val (.int (own_w2 p1 p4 p6)), .val (.int (own_t2 p1 p5 p6)), .val (.ref x42_0), .val (.ref x44_0), .val (.ref b46), .val (.ref b60), .unset] [(.int (0 : Int32))])) t → Steps p.tables e below (T61.setTop (mkF m 276 #[.val (.int p1), .val (.int p2), .val (.int p3), .val (.int p4), .val (.int p5), .val (.int p6), .val (.int (own_c0 p1)), .val (.int (own_c1 p1)), .val (.int (own_la p1)), .val (.int (own_lc p1)), .val (.int (own_lb p1)), .val (.int (own_b0 p1)), .val (.int (own_b1 p1)), .val (.int (own_kd p1)), .val (.int (own_p2 p1 p2 p6)), .val (.int (own_r2 p1 p3 p6)), .val (.int (own_w2 p1 p4 p6)), .val (.int (own_t2 p1 p5 p6)), .val (.ref x42_0), .val (.ref x44_0), .val (.ref b46), .val (.ref b60), .unset] [])) t := fun t kt => pre125 t (by
                      show Steps p.tables e below (T61.setTop (mkF m 306 #[.val (.int p1), .val (.int p2), .val (.int p3), .val (.int p4), .val (.int p5), .val (.int p6), .val (.int (own_c0 p1)), .val (.int (own_c1 p1)), .val (.int (own_la p1)), .val (.int (own_lc p1)), .val (.int (own_lb p1)), .val (.int (own_b0 p1)), .val (.int (own_b1 p1)), .val (.int (own_kd p1)), .val (.int (own_p2 p1 p2 p6)), .val (.int (own_r2 p1 p3 p6)), .val (.int (own_w2 p1 p4 p6)), .val (.int (own_t2 p1 p5 p6)), .val (.ref x42_0), .val (.ref x44_0), .val (.ref b46), .val (.ref b60), .unset] [(.int (own_b1 p1)), (.int (own_c1 p1))])) _
                      refine XS.icmpYes X61w.here hx rfl (pc0 := 306) (pc' := 338) rfl (hb hby at_306) rfl (feq hc306_124).2 (by decide) (by decide) ?_
                      show Steps p.tables e below (T61.setTop (mkF m 338 #[.val (.int p1), .val (.int p2), .val (.int p3), .val (.int p4), .val (.int p5), .val (.int p6), .val (.int (own_c0 p1)), .val (.int (own_c1 p1)), .val (.int (own_la p1)), .val (.int (own_lc p1)), .val (.int (own_lb p1)), .val (.int (own_b0 p1)), .val (.int (own_b1 p1)), .val (.int (own_kd p1)), .val (.int (own_p2 p1 p2 p6)), .val (.int (own_r2 p1 p3 p6)), .val (.int (own_w2 p1 p4 p6)), .val (.int (own_t2 p1 p5 p6)), .val (.ref x42_0), .val (.ref x44_0), .val (.ref b46), .val (.ref b60), .unset] [])) _
                      refine XS.iconst X61w.here hx rfl (hb hby at_338) ?_
                      show Steps p.tables e below (T61.setTop (mkF m 339 #[.val (.int p1), .val (.int p2), .val (.int p3), .val (.int p4), .val (.int p5), .val (.int p6), .val (.int (own_c0 p1)), .val (.int (own_c1 p1)), .val (.int (own_la p1)), .val (.int (own_lc p1)), .val (.int (own_lb p1)), .val (.int (own_b0 p1)), .val (.int (own_b1 p1)), .val (.int (own_kd p1)), .val (.int (own_p2 p1 p2 p6)), .val (.int (own_r2 p1 p3 p6)), .val (.int (own_w2 p1 p4 p6)), .val (.int (own_t2 p1 p5 p6)), .val (.ref x42_0), .val (.ref x44_0), .val (.ref b46), .val (.ref b60), .unset] [(.int (0 : Int32))])) _
                      exact kt)
                    have qe : own_exp p1 p2 p3 p4 p5 p6 = (0 : Int32) := by unfold own_exp; rw [if_pos hc280_72, if_neg hc286_74, if_pos hc293_107, if_neg hc299_109, if_neg hc306_124]
                    rw [qe] at kt0
                    exact pre139 _ kt0
              · have pre140 : ∀ t, Steps p.tables e below (T61.setTop (mkF m 339 #[.val (.int p1), .val (.int p2), .val (.int p3), .val (.int p4), .val (.int p5), .val (.int p6), .val (.int (own_c0 p1)), .val (.int (own_c1 p1)), .val (.int (own_la p1)), .val (.int (own_lc p1)), .val (.int (own_lb p1)), .val (.int (own_b0 p1)), .val (.int (own_b1 p1)), .val (.int (own_kd p1)), .val (.int (own_p2 p1 p2 p6)), .val (.int (own_r2 p1 p3 p6)), .val (.int (own_w2 p1 p4 p6)), .val (.int (own_t2 p1 p5 p6)), .val (.ref x42_0), .val (.ref x44_0), .val (.ref b46), .val (.ref b60), .unset] [(.int (0 : Int32))])) t → Steps p.tables e below (T61.setTop (mkF m 276 #[.val (.int p1), .val (.int p2), .val (.int p3), .val (.int p4), .val (.int p5), .val (.int p6), .val (.int (own_c0 p1)), .val (.int (own_c1 p1)), .val (.int (own_la p1)), .val (.int (own_lc p1)), .val (.int (own_lb p1)), .val (.int (own_b0 p1)), .val (.int (own_b1 p1)), .val (.int (own_kd p1)), .val (.int (own_p2 p1 p2 p6)), .val (.int (own_r2 p1 p3 p6)), .val (.int (own_w2 p1 p4 p6)), .val (.int (own_t2 p1 p5 p6)), .val (.ref x42_0), .val (.ref x44_0), .val (.ref b46), .val (.ref b60), .unset] [])) t := fun t kt => pre108 t (by
                  show Steps p.tables e below (T61.setTop (mkF m 293 #[.val (.int p1), .val (.int p2), .val (.int p3), .val (.int p4), .val (.int p5), .val (.int p6), .val (.int (own_c0 p1)), .val (.int (own_c1 p1)), .val (.int (own_la p1)), .val (.int (own_lc p1)), .val (.int (own_lb p1)), .val (.int (own_b0 p1)), .val (.int (own_b1 p1)), .val (.int (own_kd p1)), .val (.int (own_p2 p1 p2 p6)), .val (.int (own_r2 p1 p3 p6)), .val (.int (own_w2 p1 p4 p6)), .val (.int (own_t2 p1 p5 p6)), .val (.ref x42_0), .val (.ref x44_0), .val (.ref b46), .val (.ref b60), .unset] [(.int (own_b0 p1)), (.int (own_c0 p1))])) _
                  refine XS.icmpYes X61w.here hx rfl (pc0 := 293) (pc' := 338) rfl (hb hby at_293) rfl (feq hc293_107).2 (by decide) (by decide) ?_
                  show Steps p.tables e below (T61.setTop (mkF m 338 #[.val (.int p1), .val (.int p2), .val (.int p3), .val (.int p4), .val (.int p5), .val (.int p6), .val (.int (own_c0 p1)), .val (.int (own_c1 p1)), .val (.int (own_la p1)), .val (.int (own_lc p1)), .val (.int (own_lb p1)), .val (.int (own_b0 p1)), .val (.int (own_b1 p1)), .val (.int (own_kd p1)), .val (.int (own_p2 p1 p2 p6)), .val (.int (own_r2 p1 p3 p6)), .val (.int (own_w2 p1 p4 p6)), .val (.int (own_t2 p1 p5 p6)), .val (.ref x42_0), .val (.ref x44_0), .val (.ref b46), .val (.ref b60), .unset] [])) _
                  refine XS.iconst X61w.here hx rfl (hb hby at_338) ?_
                  show Steps p.tables e below (T61.setTop (mkF m 339 #[.val (.int p1), .val (.int p2), .val (.int p3), .val (.int p4), .val (.int p5), .val (.int p6), .val (.int (own_c0 p1)), .val (.int (own_c1 p1)), .val (.int (own_la p1)), .val (.int (own_lc p1)), .val (.int (own_lb p1)), .val (.int (own_b0 p1)), .val (.int (own_b1 p1)), .val (.int (own_kd p1)), .val (.int (own_p2 p1 p2 p6)), .val (.int (own_r2 p1 p3 p6)), .val (.int (own_w2 p1 p4 p6)), .val (.int (own_t2 p1 p5 p6)), .val (.ref x42_0), .val (.ref x44_0), .val (.ref b46), .val (.ref b60), .unset] [(.int (0 : Int32))])) _
                  exact kt)
                have qe : own_exp p1 p2 p3 p4 p5 p6 = (0 : Int32) := by unfold own_exp; rw [if_pos hc280_72, if_neg hc286_74, if_neg hc293_107]
                rw [qe] at kt0
                exact pre140 _ kt0
          · have pre141 : ∀ t, Steps p.tables e below (T61.setTop (mkF m 339 #[.val (.int p1), .val (.int p2), .val (.int p3), .val (.int p4), .val (.int p5), .val (.int p6), .val (.int (own_c0 p1)), .val (.int (own_c1 p1)), .val (.int (own_la p1)), .val (.int (own_lc p1)), .val (.int (own_lb p1)), .val (.int (own_b0 p1)), .val (.int (own_b1 p1)), .val (.int (own_kd p1)), .val (.int (own_p2 p1 p2 p6)), .val (.int (own_r2 p1 p3 p6)), .val (.int (own_w2 p1 p4 p6)), .val (.int (own_t2 p1 p5 p6)), .val (.ref x42_0), .val (.ref x44_0), .val (.ref b46), .val (.ref b60), .unset] [(.int (0 : Int32))])) t → Steps p.tables e below (T61.setTop (mkF m 276 #[.val (.int p1), .val (.int p2), .val (.int p3), .val (.int p4), .val (.int p5), .val (.int p6), .val (.int (own_c0 p1)), .val (.int (own_c1 p1)), .val (.int (own_la p1)), .val (.int (own_lc p1)), .val (.int (own_lb p1)), .val (.int (own_b0 p1)), .val (.int (own_b1 p1)), .val (.int (own_kd p1)), .val (.int (own_p2 p1 p2 p6)), .val (.int (own_r2 p1 p3 p6)), .val (.int (own_w2 p1 p4 p6)), .val (.int (own_t2 p1 p5 p6)), .val (.ref x42_0), .val (.ref x44_0), .val (.ref b46), .val (.ref b60), .unset] [])) t := fun t kt => pre73 t (by
              show Steps p.tables e below (T61.setTop (mkF m 280 #[.val (.int p1), .val (.int p2), .val (.int p3), .val (.int p4), .val (.int p5), .val (.int p6), .val (.int (own_c0 p1)), .val (.int (own_c1 p1)), .val (.int (own_la p1)), .val (.int (own_lc p1)), .val (.int (own_lb p1)), .val (.int (own_b0 p1)), .val (.int (own_b1 p1)), .val (.int (own_kd p1)), .val (.int (own_p2 p1 p2 p6)), .val (.int (own_r2 p1 p3 p6)), .val (.int (own_w2 p1 p4 p6)), .val (.int (own_t2 p1 p5 p6)), .val (.ref x42_0), .val (.ref x44_0), .val (.ref b46), .val (.ref b60), .unset] [(.int (own_lb p1)), (.int (own_la p1))])) _
              refine XS.icmpYes X61w.here hx rfl (pc0 := 280) (pc' := 338) rfl (hb hby at_280) rfl (feq hc280_72).2 (by decide) (by decide) ?_
              show Steps p.tables e below (T61.setTop (mkF m 338 #[.val (.int p1), .val (.int p2), .val (.int p3), .val (.int p4), .val (.int p5), .val (.int p6), .val (.int (own_c0 p1)), .val (.int (own_c1 p1)), .val (.int (own_la p1)), .val (.int (own_lc p1)), .val (.int (own_lb p1)), .val (.int (own_b0 p1)), .val (.int (own_b1 p1)), .val (.int (own_kd p1)), .val (.int (own_p2 p1 p2 p6)), .val (.int (own_r2 p1 p3 p6)), .val (.int (own_w2 p1 p4 p6)), .val (.int (own_t2 p1 p5 p6)), .val (.ref x42_0), .val (.ref x44_0), .val (.ref b46), .val (.ref b60), .unset] [])) _
              refine XS.iconst X61w.here hx rfl (hb hby at_338) ?_
              show Steps p.tables e below (T61.setTop (mkF m 339 #[.val (.int p1), .val (.int p2), .val (.int p3), .val (.int p4), .val (.int p5), .val (.int p6), .val (.int (own_c0 p1)), .val (.int (own_c1 p1)), .val (.int (own_la p1)), .val (.int (own_lc p1)), .val (.int (own_lb p1)), .val (.int (own_b0 p1)), .val (.int (own_b1 p1)), .val (.int (own_kd p1)), .val (.int (own_p2 p1 p2 p6)), .val (.int (own_r2 p1 p3 p6)), .val (.int (own_w2 p1 p4 p6)), .val (.int (own_t2 p1 p5 p6)), .val (.ref x42_0), .val (.ref x44_0), .val (.ref b46), .val (.ref b60), .unset] [(.int (0 : Int32))])) _
              exact kt)
            have qe : own_exp p1 p2 p3 p4 p5 p6 = (0 : Int32) := by unfold own_exp; rw [if_neg hc280_72]
            rw [qe] at kt0
            exact pre141 _ kt0
        have pre142 : ∀ t, Steps p.tables e below (T61.setTop (mkF m 339 #[.val (.int p1), .val (.int p2), .val (.int p3), .val (.int p4), .val (.int p5), .val (.int p6), .val (.int (own_c0 p1)), .val (.int (own_c1 p1)), .val (.int (own_la p1)), .val (.int (own_lc p1)), .val (.int (own_lb p1)), .val (.int (own_b0 p1)), .val (.int (own_b1 p1)), .val (.int (own_kd p1)), .val (.int (own_p2 p1 p2 p6)), .val (.int (own_r2 p1 p3 p6)), .val (.int (own_w2 p1 p4 p6)), .val (.int (own_t2 p1 p5 p6)), .val (.ref x42_0), .val (.ref x44_0), .val (.ref b46), .val (.ref b60), .unset] [(.int (own_exp p1 p2 p3 p4 p5 p6))])) t → Steps p.tables e below (s₁.setTop (entryFrame m #[(.int p1), (.int p2), (.int p3), (.int p4), (.int p5), (.int p6)] maxLocals)) t := fun t kt => pre70 t (jn71 t kt)
        obtain ⟨cq143, kq143, q143a, q143b, q143c⟩ := isOf hZ61 rfl ((f47_0.ext E60).keep K61q)
        obtain ⟨_, _, ⟨T143, L143, k143, n143⟩, -, X143, ⟨Lc143, hQ143, l143, y143, z143⟩, st143⟩ := X61w.virtualBack hx (y := (⟨"com/example/bowerbird/bowerbird/protocol/QueueData", "equals", "(Ljava/lang/Object;)Z"⟩ : MethodName)) (z := (⟨"com/example/bowerbird/bowerbird/protocol/QueueData", "equals", "(Ljava/lang/Object;)Z"⟩ : MethodName)) hown61 (mvT hZ61 (hw _ (List.mem_of_getElem? (i := 53) rfl))) (mvT hZ61 (hw _ (List.mem_of_getElem? (i := 54) rfl))) (notFace_of_selects (args := #[]) (mvT hZ61 (hw _ (List.mem_of_getElem? (i := 56) rfl)))) (mvT hZ61 (hw _ (List.mem_of_getElem? (i := 56) rfl))) (mvT hZ61 (hw _ (List.mem_of_getElem? (i := 55) rfl))) (by decide) (backOf (W := 0) (rmeq l Z a0 hw [] b46 b60 x42_0 p2 p3 p4 p5 x44_0 (own_p2 p1 p2 p6) (own_r2 p1 p3 p6) (own_w2 p1 p4 p6) (own_t2 p1 p5 p6) (own_cs (own_la p1) (own_c0 p1) (own_c1 p1)) (own_cs (own_lb p1) (own_b0 p1) (own_b1 p1)) st_COMPACT_STRINGS T61.heap n0 Z61 ((f47_0.ext E60).keep K61q) f61_0 y65 y66 y67 y68 y69 f61_1 f61_2 f61_3 f61_4 f61_5 y63 y64 y62 (Ne.symm ne_b46_b60) hq168_3) hZ61 (hw _ (List.mem_of_getElem? (i := 57) rfl)) (hw _ (List.mem_of_getElem? (i := 28) rfl)) (by decide) (by decide)) q143a q143c (g := (mkF m 345 #[.val (.int p1), .val (.int p2), .val (.int p3), .val (.int p4), .val (.int p5), .val (.int p6), .val (.int (own_c0 p1)), .val (.int (own_c1 p1)), .val (.int (own_la p1)), .val (.int (own_lc p1)), .val (.int (own_lb p1)), .val (.int (own_b0 p1)), .val (.int (own_b1 p1)), .val (.int (own_kd p1)), .val (.int (own_p2 p1 p2 p6)), .val (.int (own_r2 p1 p3 p6)), .val (.int (own_w2 p1 p4 p6)), .val (.int (own_t2 p1 p5 p6)), .val (.ref x42_0), .val (.ref x44_0), .val (.ref b46), .val (.ref b60), .val (.int (own_exp p1 p2 p3 p4 p5 p6))] [(.ref b60), (.ref b46)])) rfl (by rw [hml]; rfl) (Steps.refl _) (argsL := [(.ref b60)]) (rest := []) (lenOf pd_4 rfl) rfl (by show 2 * 0 + _ ≤ _; exact Nat.le_of_eq rfl) (hb hby at_345) (fun _ _ => ⟨rfl, rfl, (by decide : 14 + 0 ≤ _), (by decide : 114 + 0 ≤ _)⟩)
        dsimp only [Pt.U, Pt.locs, Pt.cells, Pt.slots] at X143 l143 y143 z143 st143 hQ143
        subst l143 y143 z143
        obtain ⟨rfl, N143q, e143⟩ := hQ143
        have N143 := Fr.app N61 N143q
        have hc350_144 : (Feq p2 p3 p4 p5 (own_p2 p1 p2 p6) (own_r2 p1 p3 p6) (own_w2 p1 p4 p6) (own_t2 p1 p5 p6) (own_cs (own_la p1) (own_c0 p1) (own_c1 p1)) (own_cs (own_lb p1) (own_b0 p1) (own_b1 p1))) = (own_exp p1 p2 p3 p4 p5 p6) := own_m1 p1 p2 p3 p4 p5 p6
        obtain ⟨cq145, kq145, q145a, q145b, q145c⟩ := isOf hZ61 e143 f61_0
        obtain ⟨_, _, ⟨T145, L145, k145, n145⟩, -, X145, ⟨Lc145, hQ145, l145, y145, z145⟩, st145⟩ := X143.virtualBack hx (y := (⟨"com/example/bowerbird/bowerbird/protocol/QueueData", "equals", "(Ljava/lang/Object;)Z"⟩ : MethodName)) (z := (⟨"com/example/bowerbird/bowerbird/protocol/QueueData", "equals", "(Ljava/lang/Object;)Z"⟩ : MethodName)) hown61 (mvT hZ61 (hw _ (List.mem_of_getElem? (i := 53) rfl))) (mvT hZ61 (hw _ (List.mem_of_getElem? (i := 54) rfl))) (notFace_of_selects (args := #[]) (mvT hZ61 (hw _ (List.mem_of_getElem? (i := 56) rfl)))) (mvT hZ61 (hw _ (List.mem_of_getElem? (i := 56) rfl))) (mvT hZ61 (hw _ (List.mem_of_getElem? (i := 55) rfl))) (by decide) (backOf (W := 0) (rmeq l Z a0 hw [] b60 b46 x44_0 (own_p2 p1 p2 p6) (own_r2 p1 p3 p6) (own_w2 p1 p4 p6) (own_t2 p1 p5 p6) x42_0 p2 p3 p4 p5 (own_cs (own_lb p1) (own_b0 p1) (own_b1 p1)) (own_cs (own_la p1) (own_c0 p1) (own_c1 p1)) st_COMPACT_STRINGS T61.heap n0 Z61 f61_0 ((f47_0.ext E60).keep K61q) f61_1 f61_2 f61_3 f61_4 f61_5 y65 y66 y67 y68 y69 y64 y63 y62 ne_b46_b60 hq168_3) hZ61 (hw _ (List.mem_of_getElem? (i := 57) rfl)) (hw _ (List.mem_of_getElem? (i := 28) rfl)) (by decide) (by decide)) q145a q145c (g := (mkF m 357 #[.val (.int p1), .val (.int p2), .val (.int p3), .val (.int p4), .val (.int p5), .val (.int p6), .val (.int (own_c0 p1)), .val (.int (own_c1 p1)), .val (.int (own_la p1)), .val (.int (own_lc p1)), .val (.int (own_lb p1)), .val (.int (own_b0 p1)), .val (.int (own_b1 p1)), .val (.int (own_kd p1)), .val (.int (own_p2 p1 p2 p6)), .val (.int (own_r2 p1 p3 p6)), .val (.int (own_w2 p1 p4 p6)), .val (.int (own_t2 p1 p5 p6)), .val (.ref x42_0), .val (.ref x44_0), .val (.ref b46), .val (.ref b60), .val (.int (own_exp p1 p2 p3 p4 p5 p6))] [(.ref b46), (.ref b60)])) rfl (by rw [hml]; rfl) (Steps.refl _) (argsL := [(.ref b46)]) (rest := []) (lenOf pd_4 rfl) rfl (by show 2 * 0 + _ ≤ _; exact Nat.le_of_eq rfl) (hb hby at_357) (fun _ _ => ⟨rfl, e143, (by decide : 14 + 0 ≤ _), (by decide : 114 + 0 ≤ _)⟩)
        dsimp only [Pt.U, Pt.locs, Pt.cells, Pt.slots] at X145 l145 y145 z145 st145 hQ145
        subst l145 y145 z145
        obtain ⟨rfl, N145q, e145⟩ := hQ145
        have N145 := Fr.app N143 N145q
        have hc362_146 : (Feq (own_p2 p1 p2 p6) (own_r2 p1 p3 p6) (own_w2 p1 p4 p6) (own_t2 p1 p5 p6) p2 p3 p4 p5 (own_cs (own_lb p1) (own_b0 p1) (own_b1 p1)) (own_cs (own_la p1) (own_c0 p1) (own_c1 p1))) = (own_exp p1 p2 p3 p4 p5 p6) := own_m2 p1 p2 p3 p4 p5 p6
        obtain ⟨fs, hr, hrun, hended, hEW⟩ := X145.leaveW hS61 (by rw [e145]; exact (Nat.le_refl _)) (v := some (.int (1 : Int32))) (fun h => by rw [Bd.returns] at h; cases h)
        refine ⟨_, _, pre142 _ ?_, hrun, hended, _, _, rfl, ?_, ⟨_, rfl⟩, hEW.2.1, hEW.2.2.1, hEW.2.2.2.mono (by decide) (by decide)⟩
        · show Steps p.tables e below (T61.setTop (mkF m 339 #[.val (.int p1), .val (.int p2), .val (.int p3), .val (.int p4), .val (.int p5), .val (.int p6), .val (.int (own_c0 p1)), .val (.int (own_c1 p1)), .val (.int (own_la p1)), .val (.int (own_lc p1)), .val (.int (own_lb p1)), .val (.int (own_b0 p1)), .val (.int (own_b1 p1)), .val (.int (own_kd p1)), .val (.int (own_p2 p1 p2 p6)), .val (.int (own_r2 p1 p3 p6)), .val (.int (own_w2 p1 p4 p6)), .val (.int (own_t2 p1 p5 p6)), .val (.ref x42_0), .val (.ref x44_0), .val (.ref b46), .val (.ref b60), .unset] [(.int (own_exp p1 p2 p3 p4 p5 p6))])) _
          refine XS.istore X61w.here hx rfl (hb hby at_339) rfl (l' := #[.val (.int p1), .val (.int p2), .val (.int p3), .val (.int p4), .val (.int p5), .val (.int p6), .val (.int (own_c0 p1)), .val (.int (own_c1 p1)), .val (.int (own_la p1)), .val (.int (own_lc p1)), .val (.int (own_lb p1)), .val (.int (own_b0 p1)), .val (.int (own_b1 p1)), .val (.int (own_kd p1)), .val (.int (own_p2 p1 p2 p6)), .val (.int (own_r2 p1 p3 p6)), .val (.int (own_w2 p1 p4 p6)), .val (.int (own_t2 p1 p5 p6)), .val (.ref x42_0), .val (.ref x44_0), .val (.ref b46), .val (.ref b60), .val (.int (own_exp p1 p2 p3 p4 p5 p6))]) rfl ?_
          show Steps p.tables e below (T61.setTop (mkF m 341 #[.val (.int p1), .val (.int p2), .val (.int p3), .val (.int p4), .val (.int p5), .val (.int p6), .val (.int (own_c0 p1)), .val (.int (own_c1 p1)), .val (.int (own_la p1)), .val (.int (own_lc p1)), .val (.int (own_lb p1)), .val (.int (own_b0 p1)), .val (.int (own_b1 p1)), .val (.int (own_kd p1)), .val (.int (own_p2 p1 p2 p6)), .val (.int (own_r2 p1 p3 p6)), .val (.int (own_w2 p1 p4 p6)), .val (.int (own_t2 p1 p5 p6)), .val (.ref x42_0), .val (.ref x44_0), .val (.ref b46), .val (.ref b60), .val (.int (own_exp p1 p2 p3 p4 p5 p6))] [])) _
          refine XS.aload X61w.here hx rfl (hb hby at_341) rfl rfl ?_
          show Steps p.tables e below (T61.setTop (mkF m 343 #[.val (.int p1), .val (.int p2), .val (.int p3), .val (.int p4), .val (.int p5), .val (.int p6), .val (.int (own_c0 p1)), .val (.int (own_c1 p1)), .val (.int (own_la p1)), .val (.int (own_lc p1)), .val (.int (own_lb p1)), .val (.int (own_b0 p1)), .val (.int (own_b1 p1)), .val (.int (own_kd p1)), .val (.int (own_p2 p1 p2 p6)), .val (.int (own_r2 p1 p3 p6)), .val (.int (own_w2 p1 p4 p6)), .val (.int (own_t2 p1 p5 p6)), .val (.ref x42_0), .val (.ref x44_0), .val (.ref b46), .val (.ref b60), .val (.int (own_exp p1 p2 p3 p4 p5 p6))] [(.ref b46)])) _
          refine XS.aload X61w.here hx rfl (hb hby at_343) rfl rfl ?_
          show Steps p.tables e below (T61.setTop (mkF m 345 #[.val (.int p1), .val (.int p2), .val (.int p3), .val (.int p4), .val (.int p5), .val (.int p6), .val (.int (own_c0 p1)), .val (.int (own_c1 p1)), .val (.int (own_la p1)), .val (.int (own_lc p1)), .val (.int (own_lb p1)), .val (.int (own_b0 p1)), .val (.int (own_b1 p1)), .val (.int (own_kd p1)), .val (.int (own_p2 p1 p2 p6)), .val (.int (own_r2 p1 p3 p6)), .val (.int (own_w2 p1 p4 p6)), .val (.int (own_t2 p1 p5 p6)), .val (.ref x42_0), .val (.ref x44_0), .val (.ref b46), .val (.ref b60), .val (.int (own_exp p1 p2 p3 p4 p5 p6))] [(.ref b60), (.ref b46)])) _
          refine st143.trans ?_
          show Steps p.tables e below (T143.setTop (mkF m 348 #[.val (.int p1), .val (.int p2), .val (.int p3), .val (.int p4), .val (.int p5), .val (.int p6), .val (.int (own_c0 p1)), .val (.int (own_c1 p1)), .val (.int (own_la p1)), .val (.int (own_lc p1)), .val (.int (own_lb p1)), .val (.int (own_b0 p1)), .val (.int (own_b1 p1)), .val (.int (own_kd p1)), .val (.int (own_p2 p1 p2 p6)), .val (.int (own_r2 p1 p3 p6)), .val (.int (own_w2 p1 p4 p6)), .val (.int (own_t2 p1 p5 p6)), .val (.ref x42_0), .val (.ref x44_0), .val (.ref b46), .val (.ref b60), .val (.int (own_exp p1 p2 p3 p4 p5 p6))] [(.int (Feq p2 p3 p4 p5 (own_p2 p1 p2 p6) (own_r2 p1 p3 p6) (own_w2 p1 p4 p6) (own_t2 p1 p5 p6) (own_cs (own_la p1) (own_c0 p1) (own_c1 p1)) (own_cs (own_lb p1) (own_b0 p1) (own_b1 p1))))])) _
          refine XS.iload X143.here hx rfl (hb hby at_348) rfl ?_
          show Steps p.tables e below (T143.setTop (mkF m 350 #[.val (.int p1), .val (.int p2), .val (.int p3), .val (.int p4), .val (.int p5), .val (.int p6), .val (.int (own_c0 p1)), .val (.int (own_c1 p1)), .val (.int (own_la p1)), .val (.int (own_lc p1)), .val (.int (own_lb p1)), .val (.int (own_b0 p1)), .val (.int (own_b1 p1)), .val (.int (own_kd p1)), .val (.int (own_p2 p1 p2 p6)), .val (.int (own_r2 p1 p3 p6)), .val (.int (own_w2 p1 p4 p6)), .val (.int (own_t2 p1 p5 p6)), .val (.ref x42_0), .val (.ref x44_0), .val (.ref b46), .val (.ref b60), .val (.int (own_exp p1 p2 p3 p4 p5 p6))] [(.int (own_exp p1 p2 p3 p4 p5 p6)), (.int (Feq p2 p3 p4 p5 (own_p2 p1 p2 p6) (own_r2 p1 p3 p6) (own_w2 p1 p4 p6) (own_t2 p1 p5 p6) (own_cs (own_la p1) (own_c0 p1) (own_c1 p1)) (own_cs (own_lb p1) (own_b0 p1) (own_b1 p1))))])) _
          refine XS.icmpNo X143.here hx rfl (hb hby at_350) rfl (teq hc350_144).2 ?_
          show Steps p.tables e below (T143.setTop (mkF m 353 #[.val (.int p1), .val (.int p2), .val (.int p3), .val (.int p4), .val (.int p5), .val (.int p6), .val (.int (own_c0 p1)), .val (.int (own_c1 p1)), .val (.int (own_la p1)), .val (.int (own_lc p1)), .val (.int (own_lb p1)), .val (.int (own_b0 p1)), .val (.int (own_b1 p1)), .val (.int (own_kd p1)), .val (.int (own_p2 p1 p2 p6)), .val (.int (own_r2 p1 p3 p6)), .val (.int (own_w2 p1 p4 p6)), .val (.int (own_t2 p1 p5 p6)), .val (.ref x42_0), .val (.ref x44_0), .val (.ref b46), .val (.ref b60), .val (.int (own_exp p1 p2 p3 p4 p5 p6))] [])) _
          refine XS.aload X143.here hx rfl (hb hby at_353) rfl rfl ?_
          show Steps p.tables e below (T143.setTop (mkF m 355 #[.val (.int p1), .val (.int p2), .val (.int p3), .val (.int p4), .val (.int p5), .val (.int p6), .val (.int (own_c0 p1)), .val (.int (own_c1 p1)), .val (.int (own_la p1)), .val (.int (own_lc p1)), .val (.int (own_lb p1)), .val (.int (own_b0 p1)), .val (.int (own_b1 p1)), .val (.int (own_kd p1)), .val (.int (own_p2 p1 p2 p6)), .val (.int (own_r2 p1 p3 p6)), .val (.int (own_w2 p1 p4 p6)), .val (.int (own_t2 p1 p5 p6)), .val (.ref x42_0), .val (.ref x44_0), .val (.ref b46), .val (.ref b60), .val (.int (own_exp p1 p2 p3 p4 p5 p6))] [(.ref b60)])) _
          refine XS.aload X143.here hx rfl (hb hby at_355) rfl rfl ?_
          show Steps p.tables e below (T143.setTop (mkF m 357 #[.val (.int p1), .val (.int p2), .val (.int p3), .val (.int p4), .val (.int p5), .val (.int p6), .val (.int (own_c0 p1)), .val (.int (own_c1 p1)), .val (.int (own_la p1)), .val (.int (own_lc p1)), .val (.int (own_lb p1)), .val (.int (own_b0 p1)), .val (.int (own_b1 p1)), .val (.int (own_kd p1)), .val (.int (own_p2 p1 p2 p6)), .val (.int (own_r2 p1 p3 p6)), .val (.int (own_w2 p1 p4 p6)), .val (.int (own_t2 p1 p5 p6)), .val (.ref x42_0), .val (.ref x44_0), .val (.ref b46), .val (.ref b60), .val (.int (own_exp p1 p2 p3 p4 p5 p6))] [(.ref b46), (.ref b60)])) _
          refine st145.trans ?_
          show Steps p.tables e below (T145.setTop (mkF m 360 #[.val (.int p1), .val (.int p2), .val (.int p3), .val (.int p4), .val (.int p5), .val (.int p6), .val (.int (own_c0 p1)), .val (.int (own_c1 p1)), .val (.int (own_la p1)), .val (.int (own_lc p1)), .val (.int (own_lb p1)), .val (.int (own_b0 p1)), .val (.int (own_b1 p1)), .val (.int (own_kd p1)), .val (.int (own_p2 p1 p2 p6)), .val (.int (own_r2 p1 p3 p6)), .val (.int (own_w2 p1 p4 p6)), .val (.int (own_t2 p1 p5 p6)), .val (.ref x42_0), .val (.ref x44_0), .val (.ref b46), .val (.ref b60), .val (.int (own_exp p1 p2 p3 p4 p5 p6))] [(.int (Feq (own_p2 p1 p2 p6) (own_r2 p1 p3 p6) (own_w2 p1 p4 p6) (own_t2 p1 p5 p6) p2 p3 p4 p5 (own_cs (own_lb p1) (own_b0 p1) (own_b1 p1)) (own_cs (own_la p1) (own_c0 p1) (own_c1 p1))))])) _
          refine XS.iload X145.here hx rfl (hb hby at_360) rfl ?_
          show Steps p.tables e below (T145.setTop (mkF m 362 #[.val (.int p1), .val (.int p2), .val (.int p3), .val (.int p4), .val (.int p5), .val (.int p6), .val (.int (own_c0 p1)), .val (.int (own_c1 p1)), .val (.int (own_la p1)), .val (.int (own_lc p1)), .val (.int (own_lb p1)), .val (.int (own_b0 p1)), .val (.int (own_b1 p1)), .val (.int (own_kd p1)), .val (.int (own_p2 p1 p2 p6)), .val (.int (own_r2 p1 p3 p6)), .val (.int (own_w2 p1 p4 p6)), .val (.int (own_t2 p1 p5 p6)), .val (.ref x42_0), .val (.ref x44_0), .val (.ref b46), .val (.ref b60), .val (.int (own_exp p1 p2 p3 p4 p5 p6))] [(.int (own_exp p1 p2 p3 p4 p5 p6)), (.int (Feq (own_p2 p1 p2 p6) (own_r2 p1 p3 p6) (own_w2 p1 p4 p6) (own_t2 p1 p5 p6) p2 p3 p4 p5 (own_cs (own_lb p1) (own_b0 p1) (own_b1 p1)) (own_cs (own_la p1) (own_c0 p1) (own_c1 p1))))])) _
          refine XS.icmpNo X145.here hx rfl (hb hby at_362) rfl (teq hc362_146).2 ?_
          show Steps p.tables e below (T145.setTop (mkF m 365 #[.val (.int p1), .val (.int p2), .val (.int p3), .val (.int p4), .val (.int p5), .val (.int p6), .val (.int (own_c0 p1)), .val (.int (own_c1 p1)), .val (.int (own_la p1)), .val (.int (own_lc p1)), .val (.int (own_lb p1)), .val (.int (own_b0 p1)), .val (.int (own_b1 p1)), .val (.int (own_kd p1)), .val (.int (own_p2 p1 p2 p6)), .val (.int (own_r2 p1 p3 p6)), .val (.int (own_w2 p1 p4 p6)), .val (.int (own_t2 p1 p5 p6)), .val (.ref x42_0), .val (.ref x44_0), .val (.ref b46), .val (.ref b60), .val (.int (own_exp p1 p2 p3 p4 p5 p6))] [])) _
          refine XS.iconst X145.here hx rfl (hb hby at_365) ?_
          show Steps p.tables e below (T145.setTop (mkF m 366 #[.val (.int p1), .val (.int p2), .val (.int p3), .val (.int p4), .val (.int p5), .val (.int p6), .val (.int (own_c0 p1)), .val (.int (own_c1 p1)), .val (.int (own_la p1)), .val (.int (own_lc p1)), .val (.int (own_lb p1)), .val (.int (own_b0 p1)), .val (.int (own_b1 p1)), .val (.int (own_kd p1)), .val (.int (own_p2 p1 p2 p6)), .val (.int (own_r2 p1 p3 p6)), .val (.int (own_w2 p1 p4 p6)), .val (.int (own_t2 p1 p5 p6)), .val (.ref x42_0), .val (.ref x44_0), .val (.ref b46), .val (.ref b60), .val (.int (own_exp p1 p2 p3 p4 p5 p6))] [(.int (1 : Int32))])) _
          refine XS.goto X145.here hx rfl (pc0 := 366) (pc' := 370) rfl (hb hby at_366) (by decide) (by decide) ?_
          show Steps p.tables e below (T145.setTop (mkF m 370 #[.val (.int p1), .val (.int p2), .val (.int p3), .val (.int p4), .val (.int p5), .val (.int p6), .val (.int (own_c0 p1)), .val (.int (own_c1 p1)), .val (.int (own_la p1)), .val (.int (own_lc p1)), .val (.int (own_lb p1)), .val (.int (own_b0 p1)), .val (.int (own_b1 p1)), .val (.int (own_kd p1)), .val (.int (own_p2 p1 p2 p6)), .val (.int (own_r2 p1 p3 p6)), .val (.int (own_w2 p1 p4 p6)), .val (.int (own_t2 p1 p5 p6)), .val (.ref x42_0), .val (.ref x44_0), .val (.ref b46), .val (.ref b60), .val (.int (own_exp p1 p2 p3 p4 p5 p6))] [(.int (1 : Int32))])) _
          exact retN X145 hx (t := .boolean) Bd.returns (by simp) (hb hby at_370) hr
        · show Q0 Z p1 p2 p3 p4 p5 p6 st_COMPACT_STRINGS h0 n0 _ T145.heap _
          rw [e145]
          exact ⟨rfl, N145⟩
set_option maxRecDepth 65536 in
set_option maxHeartbeats 40000000 in
theorem comes_1 {Post : Tables → Env → Array Value → State → Outcome → State → Prop} (hpost : ∀ tb e args s v u, (limb_1_1.after args s (.returned v) u = true ∧ limb_1_2.after args s (.returned v) u = true ∧ True) → ReturnedEndW s (.returned v) u (Jvm.fieldLocs frame_1_writes args s ++ Jvm.arrayLocs frame_1_arrays args s ++ Jvm.staticLocs frame_1_statics s) 32 2176 → Post tb e args s (.returned v) u) :
    ArmFor flags0 classFile x code maxLocals ret World_1 tables_1 room_1 Calls_1 rest_1 Pre_1 Post := by
  intro l hfl _ _ p e ha hc hk s m args below hf hA hF happ hP
  obtain ⟨hcalls, hrest, hpre⟩ := hP
  obtain ⟨-, -, -, hnamed, -, -, -, hat⟩ := (Spec.applies_iff hf).mp happ
  obtain ⟨hg, hn⟩ := and_e (Cond.before_iff.mp (show (Jvm.Cond.and given_1 narrow_1).before args s = true from hpre))
  obtain ⟨hcount, hr0⟩ := and_e hg
  obtain ⟨ga0, hr1⟩ := and_e hr0
  obtain ⟨ga1, hr2⟩ := and_e hr1
  obtain ⟨ga2, hr3⟩ := and_e hr2
  obtain ⟨ga3, hr4⟩ := and_e hr3
  obtain ⟨ga4, hr5⟩ := and_e hr4
  obtain ⟨w0, w1, w2, w3, w4, w5, rfl⟩ : ∃ w0 w1 w2 w3 w4 w5 : Value, args = #[w0, w1, w2, w3, w4, w5] := by
    have hs : args.size = 6 := by simpa [Cond.value, given_1] using hcount
    obtain ⟨L⟩ := args
    match L, hs with
    | [w0, w1, w2, w3, w4, w5], _ => exact ⟨w0, w1, w2, w3, w4, w5, rfl⟩
  have hw := fun d (hd : d ∈ tables_1) => atoms_spec (ws := Jvm.Cond.code x code maxLocals ret :: tables_1) hat d (List.mem_cons_of_mem _ hd)
  obtain ⟨i0, ei0⟩ := is_v ga0
  obtain rfl : w0 = (.int i0) := Option.some.inj ei0
  obtain ⟨i1, ei1⟩ := is_v ga1
  obtain rfl : w1 = (.int i1) := Option.some.inj ei1
  obtain ⟨i2, ei2⟩ := is_v ga2
  obtain rfl : w2 = (.int i2) := Option.some.inj ei2
  obtain ⟨i3, ei3⟩ := is_v ga3
  obtain rfl : w3 = (.int i3) := Option.some.inj ei3
  obtain ⟨i4, ei4⟩ := is_v ga4
  obtain rfl : w4 = (.int i4) := Option.some.inj ei4
  obtain ⟨i5, ei5⟩ := is_v hr5
  obtain rfl : w5 = (.int i5) := Option.some.inj ei5
  obtain ⟨hsets, hown0⟩ := atoms_of _ (rest_1_c_eq ▸ (show rest_1_c.before _ s = true from hrest))
  have n3 := not_v (Cond.before_iff.mp (hsets _ (List.mem_of_getElem? (i := 2) rfl)))
  obtain ⟨iC, eC⟩ := is_v (Cond.before_iff.mp (hsets _ (List.mem_of_getElem? (i := 1) rfl)))
  have S_C : Sta s s.heap "java/lang/String" "COMPACT_STRINGS" "Z" (.int iC) := Sta.start eC (Or.inl (hsets _ (List.mem_of_getElem? (i := 0) rfl)))
  have nzC : ¬ (iC = (0 : Int32)) := gotF (Cond.eq_ints eC (Term.int_eval (0))) n3
  have hCH : Jvm.Lit.constHeld s "java/lang/String" 7 := hcalls.1 ("java/lang/String", 7) (by simp [consts_1])
  have hCW : Jvm.Lit.compactW.before #[.int i0, .int i1, .int i2, .int i3, .int i4, .int i5] s = true := hsets _ (List.mem_of_getElem? (i := 2) rfl)
  obtain ⟨n, o, h1, h2, h3, _, L, rfl, ⟨rfl, N⟩, hq⟩ := rm0 l s _ hw tables_1 i0 i1 i2 i3 i4 i5 iC s.heap s.heap.size (Nat.le_refl _) S_C hCH hCW nzC p e ha hc hk s m _ below hf ((Spec.applies_iff_loose hf).mp happ).1 ⟨rfl, State.Warmed39.refl s, rfl, Or.inl ⟨IB.start, fun _ _ hb => hb⟩⟩ trivial
  refine ⟨n, _, h1, h2, h3, hpost _ _ _ _ _ _ ⟨Cond.after_iff.mpr rfl, Cond.after_iff.mpr (eq_i res_at (Term.int_eval (1)) (rfl)), trivial⟩ ⟨hq.1, hq.2.1, hq.2.2.1, (hq.2.2.2.sift fun y hy => Or.inr (N y hy)).mono (by decide) (by decide)⟩⟩
theorem main_1_1 : Claimed_1_1 := comes_1 fun _ _ _ _ _ _ h hF => ⟨h.1, hF⟩
theorem main_1_2 : Claimed_1_2 := comes_1 fun _ _ _ _ _ _ h hF => ⟨h.2.1, hF⟩
end Jvm.Pilot.@@N@@
namespace Jvm.Pilot.@@N@@
open Jvm Jvm.ClassFile Sem Op Lib Jvm.Free Jvm.Stand Jvm.Pilot.@@N@@.Jvm.D
/-! MADE BY PROGRAM (witnessworld.py) out of the Statement's table words and the real class files: 22 classes; the members and pool entries that the words name. The judged class is class 1, her method 2. -/
namespace start1
open Jvm.ClassFile
def u (s : String) : CpInfo := .utf8 (stringToUtf16 s)
/-- a pool by its gaps: so many unusable entries, then the entry; so many at the end -/
def gap : Nat → List CpInfo → List CpInfo
  | 0, r => r
  | n + 1, r => .unusable :: gap n r
def poolList (es : List (Nat × CpInfo)) (last : Nat) : List CpInfo := es.foldr (fun e r => gap e.1 (e.2 :: r)) (gap last [])
def pool (es : List (Nat × CpInfo)) (last : Nat) : Array CpInfo := ⟨poolList es last⟩
def fileOf (pool : Array CpInfo) (this : Nat) (attrs : Array Attribute := #[]) (ms : Array MethodInfo := #[]) (fl : Nat := 33) (sup : Nat := 0) (ifs : Array Nat := #[]) (fds : Array FieldInfo := #[]) : ClassFile where
  minorVersion := 0
  majorVersion := 65
  constantPool := pool
  accessFlags := fl
  thisClass := this
  superClass := sup
  interfaces := ifs
  fields := fds
  methods := ms
  attributes := attrs
def plain (name : String) (sup : Option ClassId) : Class where
  name := name
  kind := .ordinary
  loader := none
  accessFlags := 33
  super := sup
  interfaces := #[]
  cf := none
  fields := #[]
  methods := #[]
  instanceTypes := #[]
  staticTypes := #[]
  resolved := #[]
  callSites := []
  init := .initialized
  statics := none
  mirror := none

def pool0 : Array CpInfo := pool [(5, u "<init>"), (0, u "()V"), (1, .class_ 10), (1, u "java/lang/Object")] 113

def k0c0 : Code := { maxStack := 0, maxLocals := 1, code := object_method_1_code, exceptionTable := #[], attributes := #[] }
def k0m0 : Method := { name := "<init>", desc := "()V", sig := { parameters := [], returnType := none }, accessFlags := 1, code := some k0c0 }
/-- java/lang/Object -/
def k0 : Class := { plain "java/lang/Object" none with
  accessFlags := 33
  interfaces := #[]
  cf := some (fileOf pool0 8 #[] #[{ accessFlags := 1, nameIndex := 5, descriptorIndex := 6, attributes := #[] }] 33 0 #[] #[])
  fields := #[]
  methods := #[k0m0]
  instanceTypes := #[]
  staticTypes := #[]
  resolved := Array.replicate 124 none
  statics := none }

def pool1 : Array CpInfo := pool [(2, .class_ 4), (1, u "java/lang/Object"), (0, u "<init>"), (0, u "()V"), (0, .class_ 8), (0, u "java/lang/String"), (0, .methodref 7 10), (0, .nameAndType 5 11), (0, u "([C)V"), (0, .methodref 13 14), (0, .class_ 15), (0, .nameAndType 16 17), (0, u "com/example/bowerbird/bowerbird/protocol/QueueDataEqualsPinLaw"), (0, u "name"), (0, u "(ICC)Ljava/lang/String;"), (0, .class_ 19), (0, u "com/example/bowerbird/bowerbird/protocol/QueueData"), (0, .methodref 18 21), (0, .nameAndType 5 22), (0, u "(Ljava/lang/String;IIII)V"), (0, .methodref 18 24), (0, .nameAndType 25 26), (0, u "equals"), (0, u "(Ljava/lang/Object;)Z"), (3, u "law"), (0, u "(IIIIII)Z")] 2

def k1m0 : Method := { name := "<init>", desc := "()V", sig := { parameters := [], returnType := none }, accessFlags := 1, code := none }
def k1c1 : Code := { maxStack := 6, maxLocals := 3, code := method_2_code, exceptionTable := #[], attributes := #[] }
def k1m1 : Method := { name := "name", desc := "(ICC)Ljava/lang/String;", sig := { parameters := [.int, .char, .char], returnType := some (.object "java/lang/String") }, accessFlags := 10, code := some k1c1 }
def k1c2 : Code := { maxStack := 7, maxLocals := 23, code := code, exceptionTable := #[], attributes := #[] }
def k1m2 : Method := { name := "law", desc := "(IIIIII)Z", sig := { parameters := [.int, .int, .int, .int, .int, .int], returnType := some .boolean }, accessFlags := 9, code := some k1c2 }
/-- com/example/bowerbird/bowerbird/protocol/QueueDataEqualsPinLaw -/
def k1 : Class := { plain "com/example/bowerbird/bowerbird/protocol/QueueDataEqualsPinLaw" (some 0) with
  accessFlags := 49
  interfaces := #[]
  cf := some (fileOf pool1 13 #[] #[{ accessFlags := 1, nameIndex := 5, descriptorIndex := 6, attributes := #[] }, { accessFlags := 10, nameIndex := 16, descriptorIndex := 17, attributes := #[] }, { accessFlags := 9, nameIndex := 30, descriptorIndex := 31, attributes := #[] }] 49 2 #[] #[])
  fields := #[]
  methods := #[k1m0, k1m1, k1m2]
  instanceTypes := #[]
  staticTypes := #[]
  resolved := Array.replicate 34 none
  statics := none }

def pool2 : Array CpInfo := pool [(1, .class_ 2), (0, u "java/io/Serializable"), (0, .class_ 4), (0, u "java/lang/Object")] 2

/-- java/io/Serializable -/
def k2 : Class := { plain "java/io/Serializable" (some 0) with
  accessFlags := 1537
  interfaces := #[]
  cf := some (fileOf pool2 1 #[] #[] 1537 3 #[] #[])
  fields := #[]
  methods := #[]
  instanceTypes := #[]
  staticTypes := #[]
  resolved := Array.replicate 7 none
  statics := none }

def pool3 : Array CpInfo := pool [(1, .class_ 2), (0, u "java/lang/Comparable"), (0, .class_ 4), (0, u "java/lang/Object")] 7

/-- java/lang/Comparable -/
def k3 : Class := { plain "java/lang/Comparable" (some 0) with
  accessFlags := 1537
  interfaces := #[]
  cf := some (fileOf pool3 1 #[] #[] 1537 3 #[] #[])
  fields := #[]
  methods := #[]
  instanceTypes := #[]
  staticTypes := #[]
  resolved := Array.replicate 12 none
  statics := none }

def pool4 : Array CpInfo := pool [(2, .class_ 4), (1, u "java/lang/CharSequence"), (42, .class_ 48), (0, u "java/lang/CharSequence$1CodePointIterator"), (10, .class_ 60), (0, u "java/lang/CharSequence$1CharIterator"), (5, .class_ 67), (0, u "java/lang/Object")] 63

/-- java/lang/CharSequence -/
def k4 : Class := { plain "java/lang/CharSequence" (some 0) with
  accessFlags := 1537
  interfaces := #[]
  cf := some (fileOf pool4 2 #[.nestMembers #[47, 59]] #[] 1537 66 #[] #[])
  fields := #[]
  methods := #[]
  instanceTypes := #[]
  staticTypes := #[]
  resolved := Array.replicate 131 none
  statics := none }

def pool5 : Array CpInfo := pool [(1, .class_ 2), (0, u "java/lang/constant/Constable"), (0, .class_ 4), (0, u "java/lang/Object")] 6

/-- java/lang/constant/Constable -/
def k5 : Class := { plain "java/lang/constant/Constable" (some 0) with
  accessFlags := 1537
  interfaces := #[]
  cf := some (fileOf pool5 1 #[] #[] 1537 3 #[] #[])
  fields := #[]
  methods := #[]
  instanceTypes := #[]
  staticTypes := #[]
  resolved := Array.replicate 11 none
  statics := none }

def pool6 : Array CpInfo := pool [(1, .class_ 2), (0, u "java/lang/constant/ConstantDesc"), (0, .class_ 4), (0, u "java/lang/Object")] 32

/-- java/lang/constant/ConstantDesc -/
def k6 : Class := { plain "java/lang/constant/ConstantDesc" (some 0) with
  accessFlags := 1537
  interfaces := #[]
  cf := some (fileOf pool6 1 #[] #[] 1537 3 #[] #[])
  fields := #[]
  methods := #[]
  instanceTypes := #[]
  staticTypes := #[]
  resolved := Array.replicate 37 none
  statics := none }

def pool7 : Array CpInfo := pool [(1, .methodref 2 3), (0, .class_ 4), (0, .nameAndType 5 6), (0, u "java/lang/Object"), (0, u "<init>"), (0, u "()V"), (0, .string 8), (0, u ""), (0, .fieldref 10 11), (0, .class_ 12), (0, .nameAndType 13 14), (0, u "java/lang/String"), (0, u "value"), (0, u "[B"), (0, .fieldref 10 16), (0, .nameAndType 17 18), (0, u "coder"), (0, u "B"), (2, u "hash"), (0, u "I"), (2, u "hashIsZero"), (0, u "Z"), (0, .methodref 10 28), (0, .nameAndType 5 29), (0, u "([CIILjava/lang/Void;)V"), (8, .fieldref 10 39), (0, .nameAndType 40 26), (0, u "COMPACT_STRINGS"), (1, .class_ 44), (1, u "java/lang/StringUTF16"), (0, u "compress"), (1, .methodref 42 48), (0, .nameAndType 49 50), (0, u "coderFromArrayLen"), (0, u "([BI)B"), (56, .class_ 109), (1, u "java/lang/StringLatin1"), (67, .methodref 42 178), (0, .nameAndType 45 179), (0, u "([CII)[B"), (361, .methodref 107 542), (0, .nameAndType 543 544), (0, u "equals"), (0, u "([B[B)Z"), (28, u "(Ljava/lang/Object;)Z"), (1, .class_ 576), (0, u "java/lang/CharSequence"), (22, u "CASE_INSENSITIVE_ORDER"), (0, u "Ljava/util/Comparator;"), (409, u "([C)V"), (90, u "serialPersistentFields"), (0, u "[Ljava/io/ObjectStreamField;"), (0, .class_ 1104), (0, u "java/lang/String$CaseInsensitiveComparator"), (1, .class_ 1107), (0, u "java/io/Serializable"), (0, .class_ 1109), (0, u "java/lang/Comparable"), (0, .class_ 1111), (0, u "java/lang/constant/Constable"), (0, .class_ 1113), (0, u "java/lang/constant/ConstantDesc"), (2, u "serialVersionUID"), (0, u "J"), (3, u "REPL"), (0, u "C"), (2, u "LATIN1"), (1, u "UTF16")] 323

def k7m0 : Method := { name := "<init>", desc := "()V", sig := { parameters := [], returnType := none }, accessFlags := 1, code := none }
def k7c1 : Code := { maxStack := 5, maxLocals := 2, code := jdk_42_method_3_code, exceptionTable := #[], attributes := #[] }
def k7m1 : Method := { name := "<init>", desc := "([C)V", sig := { parameters := [(.array .char)], returnType := none }, accessFlags := 1, code := some k7c1 }
def k7c2 : Code := { maxStack := 2, maxLocals := 3, code := jdk_42_method_66_code, exceptionTable := #[], attributes := #[] }
def k7m2 : Method := { name := "equals", desc := "(Ljava/lang/Object;)Z", sig := { parameters := [(.object "java/lang/Object")], returnType := some .boolean }, accessFlags := 1, code := some k7c2 }
def k7c3 : Code := { maxStack := 4, maxLocals := 6, code := jdk_42_method_149_code, exceptionTable := #[], attributes := #[] }
def k7m3 : Method := { name := "<init>", desc := "([CIILjava/lang/Void;)V", sig := { parameters := [(.array .char), .int, .int, (.object "java/lang/Void")], returnType := none }, accessFlags := 2, code := some k7c3 }
/-- java/lang/String -/
def k7 : Class := { plain "java/lang/String" (some 0) with
  accessFlags := 49
  interfaces := #[2, 3, 4, 5, 6]
  cf := some (fileOf pool7 10 #[.nestMembers #[1103]] #[{ accessFlags := 1, nameIndex := 5, descriptorIndex := 6, attributes := #[] }, { accessFlags := 1, nameIndex := 5, descriptorIndex := 1010, attributes := #[] }, { accessFlags := 1, nameIndex := 543, descriptorIndex := 573, attributes := #[] }, { accessFlags := 2, nameIndex := 5, descriptorIndex := 29, attributes := #[] }] 49 2 #[1106, 1108, 575, 1110, 1112] #[{ accessFlags := 18, nameIndex := 13, descriptorIndex := 14, attributes := #[] }, { accessFlags := 18, nameIndex := 17, descriptorIndex := 18, attributes := #[] }, { accessFlags := 2, nameIndex := 21, descriptorIndex := 22, attributes := #[] }, { accessFlags := 2, nameIndex := 25, descriptorIndex := 26, attributes := #[] }, { accessFlags := 26, nameIndex := 1116, descriptorIndex := 1117, attributes := #[] }, { accessFlags := 24, nameIndex := 40, descriptorIndex := 26, attributes := #[] }, { accessFlags := 26, nameIndex := 1101, descriptorIndex := 1102, attributes := #[] }, { accessFlags := 26, nameIndex := 1121, descriptorIndex := 1122, attributes := #[] }, { accessFlags := 25, nameIndex := 599, descriptorIndex := 600, attributes := #[] }, { accessFlags := 24, nameIndex := 1125, descriptorIndex := 18, attributes := #[] }, { accessFlags := 24, nameIndex := 1127, descriptorIndex := 18, attributes := #[] }])
  fields := #[{ name := "value", type := (.array .byte), accessFlags := 18, slot := 0, constantValue := 0 }, { name := "coder", type := .byte, accessFlags := 18, slot := 1, constantValue := 0 }, { name := "hash", type := .int, accessFlags := 2, slot := 2, constantValue := 0 }, { name := "hashIsZero", type := .boolean, accessFlags := 2, slot := 3, constantValue := 0 }, { name := "serialVersionUID", type := .long, accessFlags := 26, slot := 0, constantValue := 0 }, { name := "COMPACT_STRINGS", type := .boolean, accessFlags := 24, slot := 1, constantValue := 0 }, { name := "serialPersistentFields", type := (.array (.object "java/io/ObjectStreamField")), accessFlags := 26, slot := 2, constantValue := 0 }, { name := "REPL", type := .char, accessFlags := 26, slot := 3, constantValue := 0 }, { name := "CASE_INSENSITIVE_ORDER", type := (.object "java/util/Comparator"), accessFlags := 25, slot := 4, constantValue := 0 }, { name := "LATIN1", type := .byte, accessFlags := 24, slot := 5, constantValue := 0 }, { name := "UTF16", type := .byte, accessFlags := 24, slot := 6, constantValue := 0 }]
  methods := #[k7m0, k7m1, k7m2, k7m3]
  instanceTypes := #[(.array .byte), .byte, .int, .boolean]
  staticTypes := #[.long, .boolean, (.array (.object "java/io/ObjectStreamField")), .char, (.object "java/util/Comparator"), .byte, .byte]
  resolved := Array.replicate 1451 none
  statics := some 0 }

def pool8 : Array CpInfo := pool [(1, .methodref 2 3), (0, .class_ 4), (0, .nameAndType 5 6), (0, u "java/lang/Object"), (0, u "<init>"), (0, u "()V"), (0, .class_ 8), (0, u "java/lang/Record")] 13

def k8c0 : Code := { maxStack := 1, maxLocals := 1, code := jdk_30_method_1_code, exceptionTable := #[], attributes := #[] }
def k8m0 : Method := { name := "<init>", desc := "()V", sig := { parameters := [], returnType := none }, accessFlags := 4, code := some k8c0 }
/-- java/lang/Record -/
def k8 : Class := { plain "java/lang/Record" (some 0) with
  accessFlags := 1057
  interfaces := #[]
  cf := some (fileOf pool8 7 #[] #[{ accessFlags := 4, nameIndex := 5, descriptorIndex := 6, attributes := #[] }] 1057 2 #[] #[])
  fields := #[]
  methods := #[k8m0]
  instanceTypes := #[]
  staticTypes := #[]
  resolved := Array.replicate 22 none
  statics := none }

def pool9 : Array CpInfo := pool [(1, .methodref 2 3), (0, .class_ 4), (0, .nameAndType 5 6), (0, u "java/lang/Record"), (0, u "<init>"), (0, u "()V"), (0, .string 8), (0, u "brokerName"), (0, .methodref 10 11), (0, .class_ 12), (0, .nameAndType 13 14), (0, u "java/util/Objects"), (0, u "requireNonNull"), (0, u "(Ljava/lang/Object;Ljava/lang/String;)Ljava/lang/Object;"), (0, .fieldref 16 17), (0, .class_ 18), (0, .nameAndType 8 19), (0, u "com/example/bowerbird/bowerbird/protocol/QueueData"), (0, u "Ljava/lang/String;"), (0, .fieldref 16 21), (0, .nameAndType 22 23), (0, u "perm"), (0, u "I"), (0, .fieldref 16 25), (0, .nameAndType 26 23), (0, u "readQueueNums"), (0, .fieldref 16 28), (0, .nameAndType 29 23), (0, u "writeQueueNums"), (0, .fieldref 16 31), (0, .nameAndType 32 23), (0, u "topicSynFlag"), (2, u "(Ljava/lang/String;IIII)V"), (0, .methodref 37 38), (0, .class_ 39), (0, .nameAndType 40 41), (0, u "java/lang/String"), (0, u "equals"), (0, u "(Ljava/lang/Object;)Z"), (14, u "READABLE"), (2, u "WRITABLE"), (1, u "UNIT_FLAG"), (1, u "UNIT_SUB_FLAG")] 31

def k9c0 : Code := { maxStack := 2, maxLocals := 6, code := prog_12_method_1_code, exceptionTable := #[], attributes := #[] }
def k9m0 : Method := { name := "<init>", desc := "(Ljava/lang/String;IIII)V", sig := { parameters := [(.object "java/lang/String"), .int, .int, .int, .int], returnType := none }, accessFlags := 1, code := some k9c0 }
def k9c1 : Code := { maxStack := 2, maxLocals := 3, code := prog_12_method_3_code, exceptionTable := #[], attributes := #[] }
def k9m1 : Method := { name := "equals", desc := "(Ljava/lang/Object;)Z", sig := { parameters := [(.object "java/lang/Object")], returnType := some .boolean }, accessFlags := 1, code := some k9c1 }
/-- com/example/bowerbird/bowerbird/protocol/QueueData -/
def k9 : Class := { plain "com/example/bowerbird/bowerbird/protocol/QueueData" (some 8) with
  accessFlags := 49
  interfaces := #[]
  cf := some (fileOf pool9 16 #[] #[{ accessFlags := 1, nameIndex := 5, descriptorIndex := 35, attributes := #[] }, { accessFlags := 1, nameIndex := 40, descriptorIndex := 41, attributes := #[] }] 49 2 #[] #[{ accessFlags := 18, nameIndex := 8, descriptorIndex := 19, attributes := #[] }, { accessFlags := 18, nameIndex := 22, descriptorIndex := 23, attributes := #[] }, { accessFlags := 18, nameIndex := 26, descriptorIndex := 23, attributes := #[] }, { accessFlags := 18, nameIndex := 29, descriptorIndex := 23, attributes := #[] }, { accessFlags := 18, nameIndex := 32, descriptorIndex := 23, attributes := #[] }, { accessFlags := 25, nameIndex := 56, descriptorIndex := 23, attributes := #[] }, { accessFlags := 25, nameIndex := 59, descriptorIndex := 23, attributes := #[] }, { accessFlags := 25, nameIndex := 61, descriptorIndex := 23, attributes := #[] }, { accessFlags := 25, nameIndex := 63, descriptorIndex := 23, attributes := #[] }])
  fields := #[{ name := "brokerName", type := (.object "java/lang/String"), accessFlags := 18, slot := 0, constantValue := 0 }, { name := "perm", type := .int, accessFlags := 18, slot := 1, constantValue := 0 }, { name := "readQueueNums", type := .int, accessFlags := 18, slot := 2, constantValue := 0 }, { name := "writeQueueNums", type := .int, accessFlags := 18, slot := 3, constantValue := 0 }, { name := "topicSynFlag", type := .int, accessFlags := 18, slot := 4, constantValue := 0 }, { name := "READABLE", type := .int, accessFlags := 25, slot := 0, constantValue := 0 }, { name := "WRITABLE", type := .int, accessFlags := 25, slot := 1, constantValue := 0 }, { name := "UNIT_FLAG", type := .int, accessFlags := 25, slot := 2, constantValue := 0 }, { name := "UNIT_SUB_FLAG", type := .int, accessFlags := 25, slot := 3, constantValue := 0 }]
  methods := #[k9m0, k9m1]
  instanceTypes := #[(.object "java/lang/String"), .int, .int, .int, .int]
  staticTypes := #[.int, .int, .int, .int]
  resolved := Array.replicate 95 none
  statics := none }

def pool10 : Array CpInfo := pool [(2, .class_ 4), (1, u "java/lang/Object"), (0, u "<init>"), (0, u "()V"), (35, .class_ 44), (1, u "java/util/Objects"), (0, u "requireNonNull"), (48, u "(Ljava/lang/Object;Ljava/lang/String;)Ljava/lang/Object;")] 89

def k10m0 : Method := { name := "<init>", desc := "()V", sig := { parameters := [], returnType := none }, accessFlags := 2, code := none }
def k10c1 : Code := { maxStack := 3, maxLocals := 2, code := jdk_31_method_11_code, exceptionTable := #[], attributes := #[] }
def k10m1 : Method := { name := "requireNonNull", desc := "(Ljava/lang/Object;Ljava/lang/String;)Ljava/lang/Object;", sig := { parameters := [(.object "java/lang/Object"), (.object "java/lang/String")], returnType := some (.object "java/lang/Object") }, accessFlags := 9, code := some k10c1 }
/-- java/util/Objects -/
def k10 : Class := { plain "java/util/Objects" (some 0) with
  accessFlags := 49
  interfaces := #[]
  cf := some (fileOf pool10 42 #[] #[{ accessFlags := 2, nameIndex := 5, descriptorIndex := 6, attributes := #[] }, { accessFlags := 9, nameIndex := 45, descriptorIndex := 94, attributes := #[] }] 49 2 #[] #[])
  fields := #[]
  methods := #[k10m0, k10m1]
  instanceTypes := #[]
  staticTypes := #[]
  resolved := Array.replicate 184 none
  statics := none }

def pool11 : Array CpInfo := pool [(4, .class_ 6), (1, u "java/lang/Object"), (0, u "<init>"), (0, u "()V"), (5, .class_ 16), (1, u "java/lang/StringLatin1"), (104, u "$assertionsDisabled"), (0, u "Z"), (98, .class_ 223), (1, u "java/lang/StringLatin1$LinesSpliterator"), (57, u "equals"), (0, u "([B[B)Z"), (107, .class_ 391), (0, u "java/lang/StringLatin1$CharsSpliterator")] 3

def k11m0 : Method := { name := "<init>", desc := "()V", sig := { parameters := [], returnType := none }, accessFlags := 0, code := none }
def k11c1 : Code := { maxStack := 3, maxLocals := 3, code := jdk_43_method_13_code, exceptionTable := #[], attributes := #[] }
def k11m1 : Method := { name := "equals", desc := "([B[B)Z", sig := { parameters := [(.array .byte), (.array .byte)], returnType := some .boolean }, accessFlags := 9, code := some k11c1 }
/-- java/lang/StringLatin1 -/
def k11 : Class := { plain "java/lang/StringLatin1" (some 0) with
  accessFlags := 48
  interfaces := #[]
  cf := some (fileOf pool11 14 #[.nestMembers #[390, 221]] #[{ accessFlags := 0, nameIndex := 7, descriptorIndex := 8, attributes := #[] }, { accessFlags := 9, nameIndex := 281, descriptorIndex := 282, attributes := #[] }] 48 4 #[] #[{ accessFlags := 4120, nameIndex := 121, descriptorIndex := 122, attributes := #[] }])
  fields := #[{ name := "$assertionsDisabled", type := .boolean, accessFlags := 4120, slot := 0, constantValue := 0 }]
  methods := #[k11m0, k11m1]
  instanceTypes := #[]
  staticTypes := #[.boolean]
  resolved := Array.replicate 395 none
  statics := none }

def pool12 : Array CpInfo := pool [(6, .class_ 8), (1, u "java/lang/Object"), (0, u "<init>"), (0, u "()V"), (1, .class_ 14), (1, u "java/lang/StringUTF16"), (31, u "$assertionsDisabled"), (0, u "Z"), (13, u "HI_BYTE_SHIFT"), (0, u "I"), (2, u "LO_BYTE_SHIFT"), (49, .methodref 12 116), (0, .nameAndType 117 118), (0, u "compress"), (0, u "([CI[BII)I"), (3, u "([CII)[B"), (138, u "coderFromArrayLen"), (0, u "([BI)B"), (106, .class_ 371), (1, u "java/lang/StringUTF16$LinesSpliterator"), (58, u "MAX_LENGTH"), (196, .class_ 628), (0, u "java/lang/StringUTF16$CodePointsSpliterator"), (0, .class_ 630), (0, u "java/lang/StringUTF16$CharsSpliterator")] 4

def k12m0 : Method := { name := "<init>", desc := "()V", sig := { parameters := [], returnType := none }, accessFlags := 0, code := none }
def k12c1 : Code := { maxStack := 2, maxLocals := 2, code := jdk_52_method_15_code, exceptionTable := #[], attributes := #[] }
def k12m1 : Method := { name := "coderFromArrayLen", desc := "([BI)B", sig := { parameters := [(.array .byte), .int], returnType := some .byte }, accessFlags := 8, code := some k12c1 }
def k12c2 : Code := { maxStack := 5, maxLocals := 6, code := jdk_52_method_16_code, exceptionTable := #[], attributes := #[] }
def k12m2 : Method := { name := "compress", desc := "([CII)[B", sig := { parameters := [(.array .char), .int, .int], returnType := some (.array .byte) }, accessFlags := 9, code := some k12c2 }
def k12c3 : Code := { maxStack := 3, maxLocals := 7, code := jdk_52_method_21_code, exceptionTable := #[], attributes := #[] }
def k12m3 : Method := { name := "compress", desc := "([CI[BII)I", sig := { parameters := [(.array .char), .int, (.array .byte), .int, .int], returnType := some .int }, accessFlags := 9, code := some k12c3 }
/-- java/lang/StringUTF16 -/
def k12 : Class := { plain "java/lang/StringUTF16" (some 0) with
  accessFlags := 48
  interfaces := #[]
  cf := some (fileOf pool12 12 #[.nestMembers #[627, 629, 369]] #[{ accessFlags := 0, nameIndex := 9, descriptorIndex := 10, attributes := #[] }, { accessFlags := 8, nameIndex := 261, descriptorIndex := 262, attributes := #[] }, { accessFlags := 9, nameIndex := 117, descriptorIndex := 122, attributes := #[] }, { accessFlags := 9, nameIndex := 117, descriptorIndex := 118, attributes := #[] }] 48 6 #[] #[{ accessFlags := 26, nameIndex := 61, descriptorIndex := 62, attributes := #[] }, { accessFlags := 26, nameIndex := 65, descriptorIndex := 62, attributes := #[] }, { accessFlags := 24, nameIndex := 430, descriptorIndex := 62, attributes := #[] }, { accessFlags := 4120, nameIndex := 46, descriptorIndex := 47, attributes := #[] }])
  fields := #[{ name := "HI_BYTE_SHIFT", type := .int, accessFlags := 26, slot := 0, constantValue := 0 }, { name := "LO_BYTE_SHIFT", type := .int, accessFlags := 26, slot := 1, constantValue := 0 }, { name := "MAX_LENGTH", type := .int, accessFlags := 24, slot := 2, constantValue := 0 }, { name := "$assertionsDisabled", type := .boolean, accessFlags := 4120, slot := 3, constantValue := 0 }]
  methods := #[k12m0, k12m1, k12m2, k12m3]
  instanceTypes := #[]
  staticTypes := #[.int, .int, .int, .boolean]
  resolved := Array.replicate 635 none
  statics := none }

def pool13 : Array CpInfo := pool [(2, .class_ 4), (1, u "java/lang/Object"), (0, u "<init>"), (0, u "()V"), (17, .class_ 26), (1, u "jdk/internal/util/Preconditions"), (28, .class_ 56), (0, u "jdk/internal/util/Preconditions$4"), (57, .class_ 115), (0, u "jdk/internal/util/Preconditions$1"), (7, u "SIOOBE_FORMATTER"), (0, u "Ljava/util/function/BiFunction;"), (0, .class_ 126), (0, u "jdk/internal/util/Preconditions$2"), (3, u "AIOOBE_FORMATTER"), (0, .class_ 132), (0, u "jdk/internal/util/Preconditions$3"), (3, u "IOOBE_FORMATTER")] 57

def k13m0 : Method := { name := "<init>", desc := "()V", sig := { parameters := [], returnType := none }, accessFlags := 1, code := none }
/-- jdk/internal/util/Preconditions -/
def k13 : Class := { plain "jdk/internal/util/Preconditions" (some 0) with
  accessFlags := 33
  interfaces := #[]
  cf := some (fileOf pool13 24 #[.nestMembers #[55, 131, 125, 114]] #[{ accessFlags := 1, nameIndex := 5, descriptorIndex := 6, attributes := #[] }] 33 2 #[] #[{ accessFlags := 25, nameIndex := 123, descriptorIndex := 124, attributes := #[] }, { accessFlags := 25, nameIndex := 130, descriptorIndex := 124, attributes := #[] }, { accessFlags := 25, nameIndex := 136, descriptorIndex := 124, attributes := #[] }])
  fields := #[{ name := "SIOOBE_FORMATTER", type := (.object "java/util/function/BiFunction"), accessFlags := 25, slot := 0, constantValue := 0 }, { name := "AIOOBE_FORMATTER", type := (.object "java/util/function/BiFunction"), accessFlags := 25, slot := 1, constantValue := 0 }, { name := "IOOBE_FORMATTER", type := (.object "java/util/function/BiFunction"), accessFlags := 25, slot := 2, constantValue := 0 }]
  methods := #[k13m0]
  instanceTypes := #[]
  staticTypes := #[(.object "java/util/function/BiFunction"), (.object "java/util/function/BiFunction"), (.object "java/util/function/BiFunction")]
  resolved := Array.replicate 194 none
  statics := some 1 }

def pool14 : Array CpInfo := pool [(9, u "<init>"), (6, .class_ 18), (1, u "java/lang/Object"), (0, u "()V"), (1, .class_ 23), (1, u "jdk/internal/util/ArraysSupport"), (0, u "LOG2_ARRAY_LONG_INDEX_SCALE"), (0, u "I"), (2, u "U"), (0, u "Ljdk/internal/misc/Unsafe;"), (8, u "BIG_ENDIAN"), (0, u "Z"), (8, u "LOG2_BYTE_BIT_SIZE"), (4, u "LOG2_ARRAY_INT_INDEX_SCALE"), (54, u "JLA"), (0, u "Ljdk/internal/access/JavaLangAccess;"), (11, u "LOG2_ARRAY_BOOLEAN_INDEX_SCALE"), (9, u "LOG2_ARRAY_BYTE_INDEX_SCALE"), (5, u "LOG2_ARRAY_CHAR_INDEX_SCALE"), (5, u "LOG2_ARRAY_SHORT_INDEX_SCALE"), (18, u "LOG2_ARRAY_FLOAT_INDEX_SCALE"), (24, u "LOG2_ARRAY_DOUBLE_INDEX_SCALE"), (89, u "T_BOOLEAN"), (2, u "T_CHAR"), (1, u "T_FLOAT"), (1, u "T_DOUBLE"), (1, u "T_BYTE"), (1, u "T_SHORT"), (1, u "T_INT"), (1, u "T_LONG"), (1, u "SOFT_MAX_ARRAY_LENGTH")] 83

def k14m0 : Method := { name := "<init>", desc := "()V", sig := { parameters := [], returnType := none }, accessFlags := 2, code := none }
/-- jdk/internal/util/ArraysSupport -/
def k14 : Class := { plain "jdk/internal/util/ArraysSupport" (some 0) with
  accessFlags := 33
  interfaces := #[]
  cf := some (fileOf pool14 21 #[] #[{ accessFlags := 2, nameIndex := 9, descriptorIndex := 19, attributes := #[] }] 33 16 #[] #[{ accessFlags := 24, nameIndex := 28, descriptorIndex := 29, attributes := #[] }, { accessFlags := 26, nameIndex := 38, descriptorIndex := 39, attributes := #[] }, { accessFlags := 25, nameIndex := 121, descriptorIndex := 25, attributes := #[] }, { accessFlags := 25, nameIndex := 131, descriptorIndex := 25, attributes := #[] }, { accessFlags := 25, nameIndex := 137, descriptorIndex := 25, attributes := #[] }, { accessFlags := 25, nameIndex := 143, descriptorIndex := 25, attributes := #[] }, { accessFlags := 25, nameIndex := 53, descriptorIndex := 25, attributes := #[] }, { accessFlags := 25, nameIndex := 24, descriptorIndex := 25, attributes := #[] }, { accessFlags := 25, nameIndex := 162, descriptorIndex := 25, attributes := #[] }, { accessFlags := 25, nameIndex := 187, descriptorIndex := 25, attributes := #[] }, { accessFlags := 26, nameIndex := 48, descriptorIndex := 25, attributes := #[] }, { accessFlags := 25, nameIndex := 277, descriptorIndex := 25, attributes := #[] }, { accessFlags := 25, nameIndex := 280, descriptorIndex := 25, attributes := #[] }, { accessFlags := 25, nameIndex := 282, descriptorIndex := 25, attributes := #[] }, { accessFlags := 25, nameIndex := 284, descriptorIndex := 25, attributes := #[] }, { accessFlags := 25, nameIndex := 286, descriptorIndex := 25, attributes := #[] }, { accessFlags := 25, nameIndex := 288, descriptorIndex := 25, attributes := #[] }, { accessFlags := 25, nameIndex := 290, descriptorIndex := 25, attributes := #[] }, { accessFlags := 25, nameIndex := 292, descriptorIndex := 25, attributes := #[] }, { accessFlags := 26, nameIndex := 108, descriptorIndex := 109, attributes := #[] }, { accessFlags := 25, nameIndex := 294, descriptorIndex := 25, attributes := #[] }])
  fields := #[{ name := "U", type := (.object "jdk/internal/misc/Unsafe"), accessFlags := 24, slot := 0, constantValue := 0 }, { name := "BIG_ENDIAN", type := .boolean, accessFlags := 26, slot := 1, constantValue := 0 }, { name := "LOG2_ARRAY_BOOLEAN_INDEX_SCALE", type := .int, accessFlags := 25, slot := 2, constantValue := 0 }, { name := "LOG2_ARRAY_BYTE_INDEX_SCALE", type := .int, accessFlags := 25, slot := 3, constantValue := 0 }, { name := "LOG2_ARRAY_CHAR_INDEX_SCALE", type := .int, accessFlags := 25, slot := 4, constantValue := 0 }, { name := "LOG2_ARRAY_SHORT_INDEX_SCALE", type := .int, accessFlags := 25, slot := 5, constantValue := 0 }, { name := "LOG2_ARRAY_INT_INDEX_SCALE", type := .int, accessFlags := 25, slot := 6, constantValue := 0 }, { name := "LOG2_ARRAY_LONG_INDEX_SCALE", type := .int, accessFlags := 25, slot := 7, constantValue := 0 }, { name := "LOG2_ARRAY_FLOAT_INDEX_SCALE", type := .int, accessFlags := 25, slot := 8, constantValue := 0 }, { name := "LOG2_ARRAY_DOUBLE_INDEX_SCALE", type := .int, accessFlags := 25, slot := 9, constantValue := 0 }, { name := "LOG2_BYTE_BIT_SIZE", type := .int, accessFlags := 26, slot := 10, constantValue := 0 }, { name := "T_BOOLEAN", type := .int, accessFlags := 25, slot := 11, constantValue := 0 }, { name := "T_CHAR", type := .int, accessFlags := 25, slot := 12, constantValue := 0 }, { name := "T_FLOAT", type := .int, accessFlags := 25, slot := 13, constantValue := 0 }, { name := "T_DOUBLE", type := .int, accessFlags := 25, slot := 14, constantValue := 0 }, { name := "T_BYTE", type := .int, accessFlags := 25, slot := 15, constantValue := 0 }, { name := "T_SHORT", type := .int, accessFlags := 25, slot := 16, constantValue := 0 }, { name := "T_INT", type := .int, accessFlags := 25, slot := 17, constantValue := 0 }, { name := "T_LONG", type := .int, accessFlags := 25, slot := 18, constantValue := 0 }, { name := "JLA", type := (.object "jdk/internal/access/JavaLangAccess"), accessFlags := 26, slot := 19, constantValue := 0 }, { name := "SOFT_MAX_ARRAY_LENGTH", type := .int, accessFlags := 25, slot := 20, constantValue := 0 }]
  methods := #[k14m0]
  instanceTypes := #[]
  staticTypes := #[(.object "jdk/internal/misc/Unsafe"), .boolean, .int, .int, .int, .int, .int, .int, .int, .int, .int, .int, .int, .int, .int, .int, .int, .int, .int, (.object "jdk/internal/access/JavaLangAccess"), .int]
  resolved := Array.replicate 378 none
  statics := none }

def pool15 : Array CpInfo := pool [(1, u "java/lang/Cloneable"), (0, .class_ 1), (0, u "java/lang/Object"), (0, .class_ 3)] 3

/-- java/lang/Cloneable -/
def k15 : Class := { plain "java/lang/Cloneable" (some 0) with
  accessFlags := 1537
  interfaces := #[]
  cf := some (fileOf pool15 2 #[] #[] 1537 4 #[] #[])
  fields := #[]
  methods := #[]
  instanceTypes := #[]
  staticTypes := #[]
  resolved := Array.replicate 8 none
  statics := none }

/-- the primitive byte -/
def k16 : Class := { plain "byte" none with kind := .primitive 'B', accessFlags := 0x411 }
/-- [B -/
def k17 : Class := { plain "[B" (some 0) with kind := .array 16 .byte, interfaces := #[15, 2], accessFlags := 1041 }

/-- the primitive char -/
def k18 : Class := { plain "char" none with kind := .primitive 'C', accessFlags := 0x411 }
/-- [C -/
def k19 : Class := { plain "[C" (some 0) with kind := .array 18 .char, interfaces := #[15, 2], accessFlags := 1041 }

/-- the primitive int -/
def k20 : Class := { plain "int" none with kind := .primitive 'I', accessFlags := 0x411 }
/-- [I -/
def k21 : Class := { plain "[I" (some 0) with kind := .array 20 .int, interfaces := #[15, 2], accessFlags := 1041 }

def heap : Heap := #[{ cls := 7, slots := #[.long 0, .int 1, .null, .int 0, .null, .int 0, .int 0], vm := .statics 7 },
  { cls := 13, slots := #[.null, .null, .null], vm := .statics 13 }]
def classes : Array Class := #[k0, k1, k2, k3, k4, k5, k6, k7, k8, k9, k10, k11, k12, k13, k14, k15, k16, k17, k18, k19, k20, k21]
def interned : List (Array UInt16 × Addr) := []
def slotsUsed : Nat := 10
def theMethod : MethodId := ⟨1, 2⟩
def args0 : Array Value := #[.int 1, .int 2, .int 3, .int 4, .int 5, .int 6]
def aboutOver (below : List Frame) : State where
  vm := { classes := classes, interned := interned.toArray }
  heap := heap
  slotsUsed := slotsUsed
  threads := #[{ frames := .invoking theMethod args0 :: below }]
def below0 : List Frame := [.native { method := ⟨0, 0⟩, args := #[] }]
def about1 : State := aboutOver below0
def p0 : Program := .bare "" "" ""
def e0 : Env := launch0.env 0 0 0
theorem w_frames : about1.frames = Frame.invoking theMethod args0 :: below0 := rfl
set_option maxRecDepth 65536 in
theorem w_args : argsFit about1.vm theMethod args0 = true := by decide +kernel
set_option maxRecDepth 65536 in
theorem w_heap : heapFits about1 = true := by decide +kernel
set_option maxRecDepth 65536 in
theorem w_runnable : about1.curStatus? = some .runnable := by decide +kernel
set_option maxRecDepth 65536 in
theorem w_alone : about1.alone = true := by decide +kernel
set_option maxRecDepth 65536 in
theorem w_named : about1.methodNamed? x = some theMethod := by decide +kernel
set_option maxRecDepth 65536 in
theorem w_hears : about1.hears theMethod below0 = true := by decide +kernel
set_option maxRecDepth 65536 in
theorem w_ripe : about1.ripe theMethod args0 below0 = true := by decide +kernel
theorem w_running : about1.status = .running := rfl
set_option maxRecDepth 65536 in
theorem w_room : about1.hasRoom e0.platform room_1 = true :=
  launch0.hasRoom_least _ room_1 (by decide +kernel) (by decide +kernel) (by decide +kernel) (by decide +kernel) (by decide +kernel) (by decide +kernel)
theorem allAtoms_all (ts : List Jvm.Cond) (a : Array Jvm.Value) (st : Jvm.State) : (allAtoms ts).before a st = ts.all (fun c => c.before a st) := by
  induction ts with
  | nil => rfl
  | cons c t ih =>
    show (Jvm.Cond.and c (allAtoms t)).before a st = _
    rw [Jvm.Cond.before_and, ih, List.all_cons]
def words1 : List Jvm.Cond := Jvm.Cond.code x code maxLocals ret :: tables_1
/-- a 'code' word, met by the world's own term for the bytes: nothing is compared byte by byte -/
theorem code_word {y : MethodName} {bytes : ByteArray} {mx : Nat} {rt : Option FieldType} {a : Array Value} {s : State} {m : MethodId} {meth : Method} {c : Code} (h1 : s.methodNamed? y = some m) (h2 : s.vm.method? m = some meth) (h3 : meth.code = some c) (h4 : c.code = bytes)
    (h5 : (c.maxLocals == mx && c.exceptionTable.isEmpty && decide (c.maxStack ≤ mostOperands) && decide (meth.sig.returnType = rt) && !meth.locks && decide (parseMethodDescriptor y.desc = some meth.sig)) = true) : (Jvm.Cond.code y bytes mx rt).before a s = true := by
  simp only [Bool.and_eq_true, beq_iff_eq, Bool.not_eq_true', decide_eq_true_eq] at h5
  obtain ⟨⟨⟨⟨⟨g1, g2⟩, g3⟩, g4⟩, g5⟩, g6⟩ := h5
  simp [Cond.before, Cond.holds, Cond.value, h1, h2, h3, h4, g1, g2, g3, g4, g5, g6]
def isCode : Jvm.Cond → Bool
  | .code _ _ _ _ => true
  | _ => false
theorem all_split {L : List Jvm.Cond} {P : Jvm.Cond → Bool} (h1 : L.all (fun c => isCode c || P c) = true) (h2 : ∀ c ∈ L.filter isCode, P c = true) : L.all P = true := by
  refine List.all_eq_true.mpr fun c hc => ?_
  have h := List.all_eq_true.mp h1 c hc
  rcases Bool.eq_false_or_eq_true (isCode c) with hi | hi
  · exact h2 c (List.mem_filter.mpr ⟨hc, hi⟩)
  · simpa [hi] using h
set_option maxRecDepth 65536 in
theorem w_c0 : (Jvm.Cond.code x code maxLocals ret).before args0 about1 = true := code_word (m := ⟨1, 2⟩) (meth := k1m2) (c := k1c2) (by decide +kernel) rfl rfl rfl (by decide +kernel)
set_option maxRecDepth 65536 in
theorem w_c1 : (Jvm.Cond.code ({ cls := "com/example/bowerbird/bowerbird/protocol/QueueDataEqualsPinLaw", name := "name", desc := "(ICC)Ljava/lang/String;" } : Jvm.MethodName) method_2_code (3 : Nat) (Option.some (Jvm.ClassFile.FieldType.object "java/lang/String"))).before args0 about1 = true := code_word (m := ⟨1, 1⟩) (meth := k1m1) (c := k1c1) (by decide +kernel) rfl rfl rfl (by decide +kernel)
set_option maxRecDepth 65536 in
theorem w_c2 : (Jvm.Cond.code ({ cls := "java/lang/String", name := "<init>", desc := "([C)V" } : Jvm.MethodName) jdk_42_method_3_code (2 : Nat) (Option.none : Option Jvm.ClassFile.FieldType)).before args0 about1 = true := code_word (m := ⟨7, 1⟩) (meth := k7m1) (c := k7c1) (by decide +kernel) rfl rfl rfl (by decide +kernel)
set_option maxRecDepth 65536 in
theorem w_c3 : (Jvm.Cond.code ({ cls := "java/lang/String", name := "<init>", desc := "([CIILjava/lang/Void;)V" } : Jvm.MethodName) jdk_42_method_149_code (6 : Nat) (Option.none : Option Jvm.ClassFile.FieldType)).before args0 about1 = true := code_word (m := ⟨7, 3⟩) (meth := k7m3) (c := k7c3) (by decide +kernel) rfl rfl rfl (by decide +kernel)
set_option maxRecDepth 65536 in
theorem w_c4 : (Jvm.Cond.code ({ cls := "java/lang/Object", name := "<init>", desc := "()V" } : Jvm.MethodName) object_method_1_code (1 : Nat) (Option.none : Option Jvm.ClassFile.FieldType)).before args0 about1 = true := code_word (m := ⟨0, 0⟩) (meth := k0m0) (c := k0c0) (by decide +kernel) rfl rfl rfl (by decide +kernel)
set_option maxRecDepth 65536 in
theorem w_c5 : (Jvm.Cond.code ({ cls := "com/example/bowerbird/bowerbird/protocol/QueueData", name := "<init>", desc := "(Ljava/lang/String;IIII)V" } : Jvm.MethodName) prog_12_method_1_code (6 : Nat) (Option.none : Option Jvm.ClassFile.FieldType)).before args0 about1 = true := code_word (m := ⟨9, 0⟩) (meth := k9m0) (c := k9c0) (by decide +kernel) rfl rfl rfl (by decide +kernel)
set_option maxRecDepth 65536 in
theorem w_c6 : (Jvm.Cond.code ({ cls := "java/lang/Record", name := "<init>", desc := "()V" } : Jvm.MethodName) jdk_30_method_1_code (1 : Nat) (Option.none : Option Jvm.ClassFile.FieldType)).before args0 about1 = true := code_word (m := ⟨8, 0⟩) (meth := k8m0) (c := k8c0) (by decide +kernel) rfl rfl rfl (by decide +kernel)
set_option maxRecDepth 65536 in
theorem w_c7 : (Jvm.Cond.code ({ cls := "java/util/Objects", name := "requireNonNull", desc := "(Ljava/lang/Object;Ljava/lang/String;)Ljava/lang/Object;" } : Jvm.MethodName) jdk_31_method_11_code (2 : Nat) (Option.some (Jvm.ClassFile.FieldType.object "java/lang/Object"))).before args0 about1 = true := code_word (m := ⟨10, 1⟩) (meth := k10m1) (c := k10c1) (by decide +kernel) rfl rfl rfl (by decide +kernel)
set_option maxRecDepth 65536 in
theorem w_c8 : (Jvm.Cond.code ({ cls := "com/example/bowerbird/bowerbird/protocol/QueueData", name := "equals", desc := "(Ljava/lang/Object;)Z" } : Jvm.MethodName) prog_12_method_3_code (3 : Nat) (Option.some Jvm.ClassFile.FieldType.boolean)).before args0 about1 = true := code_word (m := ⟨9, 1⟩) (meth := k9m1) (c := k9c1) (by decide +kernel) rfl rfl rfl (by decide +kernel)
set_option maxRecDepth 65536 in
theorem w_c9 : (Jvm.Cond.code ({ cls := "java/lang/String", name := "equals", desc := "(Ljava/lang/Object;)Z" } : Jvm.MethodName) jdk_42_method_66_code (3 : Nat) (Option.some Jvm.ClassFile.FieldType.boolean)).before args0 about1 = true := code_word (m := ⟨7, 2⟩) (meth := k7m2) (c := k7c2) (by decide +kernel) rfl rfl rfl (by decide +kernel)
set_option maxRecDepth 65536 in
theorem w_c10 : (Jvm.Cond.code ({ cls := "java/lang/StringLatin1", name := "equals", desc := "([B[B)Z" } : Jvm.MethodName) jdk_43_method_13_code (3 : Nat) (Option.some Jvm.ClassFile.FieldType.boolean)).before args0 about1 = true := code_word (m := ⟨11, 1⟩) (meth := k11m1) (c := k11c1) (by decide +kernel) rfl rfl rfl (by decide +kernel)
set_option maxRecDepth 65536 in
theorem w_c11 : (Jvm.Cond.code ({ cls := "java/lang/StringUTF16", name := "compress", desc := "([CII)[B" } : Jvm.MethodName) jdk_52_method_16_code (6 : Nat) (Option.some (Jvm.ClassFile.FieldType.array Jvm.ClassFile.FieldType.byte))).before args0 about1 = true := code_word (m := ⟨12, 2⟩) (meth := k12m2) (c := k12c2) (by decide +kernel) rfl rfl rfl (by decide +kernel)
set_option maxRecDepth 65536 in
theorem w_c12 : (Jvm.Cond.code ({ cls := "java/lang/StringUTF16", name := "compress", desc := "([CI[BII)I" } : Jvm.MethodName) jdk_52_method_21_code (7 : Nat) (Option.some Jvm.ClassFile.FieldType.int)).before args0 about1 = true := code_word (m := ⟨12, 3⟩) (meth := k12m3) (c := k12c3) (by decide +kernel) rfl rfl rfl (by decide +kernel)
set_option maxRecDepth 65536 in
theorem w_c13 : (Jvm.Cond.code ({ cls := "java/lang/StringUTF16", name := "coderFromArrayLen", desc := "([BI)B" } : Jvm.MethodName) jdk_52_method_15_code (2 : Nat) (Option.some Jvm.ClassFile.FieldType.byte)).before args0 about1 = true := code_word (m := ⟨12, 1⟩) (meth := k12m1) (c := k12c1) (by decide +kernel) rfl rfl rfl (by decide +kernel)
def codes1 : List Jvm.Cond := [Jvm.Cond.code x code maxLocals ret, Jvm.Cond.code ({ cls := "com/example/bowerbird/bowerbird/protocol/QueueDataEqualsPinLaw", name := "name", desc := "(ICC)Ljava/lang/String;" } : Jvm.MethodName) method_2_code (3 : Nat) (Option.some (Jvm.ClassFile.FieldType.object "java/lang/String")), Jvm.Cond.code ({ cls := "java/lang/String", name := "<init>", desc := "([C)V" } : Jvm.MethodName) jdk_42_method_3_code (2 : Nat) (Option.none : Option Jvm.ClassFile.FieldType), Jvm.Cond.code ({ cls := "java/lang/String", name := "<init>", desc := "([CIILjava/lang/Void;)V" } : Jvm.MethodName) jdk_42_method_149_code (6 : Nat) (Option.none : Option Jvm.ClassFile.FieldType), Jvm.Cond.code ({ cls := "java/lang/Object", name := "<init>", desc := "()V" } : Jvm.MethodName) object_method_1_code (1 : Nat) (Option.none : Option Jvm.ClassFile.FieldType), Jvm.Cond.code ({ cls := "com/example/bowerbird/bowerbird/protocol/QueueData", name := "<init>", desc := "(Ljava/lang/String;IIII)V" } : Jvm.MethodName) prog_12_method_1_code (6 : Nat) (Option.none : Option Jvm.ClassFile.FieldType), Jvm.Cond.code ({ cls := "java/lang/Record", name := "<init>", desc := "()V" } : Jvm.MethodName) jdk_30_method_1_code (1 : Nat) (Option.none : Option Jvm.ClassFile.FieldType), Jvm.Cond.code ({ cls := "java/util/Objects", name := "requireNonNull", desc := "(Ljava/lang/Object;Ljava/lang/String;)Ljava/lang/Object;" } : Jvm.MethodName) jdk_31_method_11_code (2 : Nat) (Option.some (Jvm.ClassFile.FieldType.object "java/lang/Object")), Jvm.Cond.code ({ cls := "com/example/bowerbird/bowerbird/protocol/QueueData", name := "equals", desc := "(Ljava/lang/Object;)Z" } : Jvm.MethodName) prog_12_method_3_code (3 : Nat) (Option.some Jvm.ClassFile.FieldType.boolean), Jvm.Cond.code ({ cls := "java/lang/String", name := "equals", desc := "(Ljava/lang/Object;)Z" } : Jvm.MethodName) jdk_42_method_66_code (3 : Nat) (Option.some Jvm.ClassFile.FieldType.boolean), Jvm.Cond.code ({ cls := "java/lang/StringLatin1", name := "equals", desc := "([B[B)Z" } : Jvm.MethodName) jdk_43_method_13_code (3 : Nat) (Option.some Jvm.ClassFile.FieldType.boolean), Jvm.Cond.code ({ cls := "java/lang/StringUTF16", name := "compress", desc := "([CII)[B" } : Jvm.MethodName) jdk_52_method_16_code (6 : Nat) (Option.some (Jvm.ClassFile.FieldType.array Jvm.ClassFile.FieldType.byte)), Jvm.Cond.code ({ cls := "java/lang/StringUTF16", name := "compress", desc := "([CI[BII)I" } : Jvm.MethodName) jdk_52_method_21_code (7 : Nat) (Option.some Jvm.ClassFile.FieldType.int), Jvm.Cond.code ({ cls := "java/lang/StringUTF16", name := "coderFromArrayLen", desc := "([BI)B" } : Jvm.MethodName) jdk_52_method_15_code (2 : Nat) (Option.some Jvm.ClassFile.FieldType.byte)]
set_option maxRecDepth 65536 in
theorem codes_eq : words1.filter isCode = codes1 := rfl
theorem w_codes : ∀ c ∈ words1.filter isCode, c.before args0 about1 = true := by
  rw [codes_eq]
  intro c hc
  simp only [codes1, List.mem_cons, List.not_mem_nil, or_false] at hc
  rcases hc with rfl | rfl | rfl | rfl | rfl | rfl | rfl | rfl | rfl | rfl | rfl | rfl | rfl | rfl
  · exact w_c0
  · exact w_c1
  · exact w_c2
  · exact w_c3
  · exact w_c4
  · exact w_c5
  · exact w_c6
  · exact w_c7
  · exact w_c8
  · exact w_c9
  · exact w_c10
  · exact w_c11
  · exact w_c12
  · exact w_c13
set_option maxRecDepth 65536 in
theorem w_t1 : (words1.take 24).all (fun c => isCode c || c.before args0 about1) = true := by decide +kernel
set_option maxRecDepth 65536 in
theorem w_t2 : ((words1.drop 24).take 24).all (fun c => isCode c || c.before args0 about1) = true := by decide +kernel
set_option maxRecDepth 65536 in
theorem w_t3 : (((words1.drop 24).drop 24).take 24).all (fun c => isCode c || c.before args0 about1) = true := by decide +kernel
set_option maxRecDepth 65536 in
theorem w_t4 : (((words1.drop 24).drop 24).drop 24).all (fun c => isCode c || c.before args0 about1) = true := by decide +kernel
theorem w_tables : (allAtoms (Jvm.Cond.code x code maxLocals ret :: tables_1)).before args0 about1 = true := by
  rw [allAtoms_all]
  show words1.all (fun c => c.before args0 about1) = true
  refine all_split ?_ w_codes
  rw [← List.take_append_drop 24 words1, List.all_append, w_t1, ← List.take_append_drop 24 (words1.drop 24), List.all_append, w_t2, ← List.take_append_drop 24 ((words1.drop 24).drop 24), List.all_append, w_t3, w_t4]
  rfl
set_option maxRecDepth 65536 in
theorem w_rest : rest_1_c.before args0 about1 = true := by decide +kernel
set_option maxRecDepth 65536 in
theorem w_case : (Jvm.Cond.and given_1 narrow_1).before args0 about1 = true := by decide +kernel
set_option maxRecDepth 65536 in
theorem w_consts : constsHeld consts_1 about1 := Jvm.Lit.constsHeldB_iff.mp (by decide +kernel)
theorem w_applies : (headSpec (Jvm.Cond.code x code maxLocals ret :: tables_1) room_1).applies x e0.platform about1 = true :=
  (Spec.applies_iff w_frames).mpr ⟨w_running, w_runnable, w_alone, w_named, w_hears, w_ripe, w_room, w_tables⟩
theorem atStart : AtStart classFile x code maxLocals ret World_1 tables_1 room_1 Calls_1 rest_1 Pre_1 launch0 p0 e0 about1 theMethod args0 below0 :=
  ⟨lists_1, trivial, launch0.admits_env _ _ _, launch0.least_env, fairChoices_fair.cas, fairChoices_fair.clock, w_frames, w_args, w_heap, w_applies, ⟨w_consts, trivial⟩, w_rest, w_case⟩
end start1
theorem witness_1 : WitnessClaimed_1 := ⟨start1.p0, start1.e0, start1.about1, start1.theMethod, start1.args0, start1.below0, start1.atStart⟩
end Jvm.Pilot.@@N@@
