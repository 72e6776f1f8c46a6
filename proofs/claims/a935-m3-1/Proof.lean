import JvmDerived
import JvmDerived.Pilot.@@N@@Statement
import JvmDerived.Pilot.@@N@@Code
set_option linter.unusedVariables false
set_option linter.unusedSimpArgs false
/- laws to paste: Road.backV (cut by pick.py; bodies as the Statement names them) -/
namespace Jvm.Pilot.@@N@@
namespace StrChars
open Jvm Sem ClassFile Op Lib Jvm.Stand Jvm.Free.XT Jvm.Free.ALB Jvm.Free.JM Jvm.Free
open Jvm.Lib.Cold (StaticIs)
/-- a char array whose places are chars -/
def Ch (a : Addr) (A : Cell) (U : State) : Prop := Arr .char a A U ∧ Typed .char A
theorem Ch.mv {a : Addr} {A : Cell} {U U' : State} (h : Ch a A U) (hal : U.vm.Alike U'.vm) (hh : U'.heap = U.heap) : Ch a A U' := ⟨h.1.mv hal hh, h.2⟩
theorem Ch.keep {a : Addr} {A : Cell} {U U' : State} (h : Ch a A U) (hal : U.vm.Alike U'.vm) (hk : U'.heap[a]? = some A) : Ch a A U' := ⟨h.1.keep hal hk, h.2⟩
/-- what place i of a char[]'s cell holds -/
def cv (A : Cell) (i : Nat) : Int32 := match A.slots[i]? with | some (.int x) => x | _ => 0
theorem Ch.get {a : Addr} {A : Cell} {U : State} (h : Ch a A U) {i : Nat} (hi : i < A.slots.size) : A.slots[i]? = some (.int (cv A i)) := by
  have e := Array.getElem?_eq_getElem hi
  have f := h.2 i _ e
  unfold cv; rw [e]
  generalize A.slots[i] = v at f
  cases v <;> simp [fits] at f ⊢
/-- the byte that i2b leaves of a char -/
def lo8 (x : Int32) : Int32 := x.toInt8.toInt32
theorem fits_lo8 (y : Int32) : fits .byte (.int (lo8 y)) = true := by
  have h1 := y.toInt8.le_toInt
  have h2 := y.toInt8.toInt_lt
  simp only [lo8, fits, Bool.and_eq_true, decide_eq_true_eq, Int32.le_iff_toInt_le, Int8.toInt_toInt32, show (-128 : Int32).toInt = -128 from by decide, show (127 : Int32).toInt = 127 from by decide]
  omega
/-- A' is A but that each place j of lo .. hi - 1 holds f j -/
def Laid (A A' : Cell) (lo hi : Nat) (f : Nat → Value) : Prop := A'.cls = A.cls ∧ A'.vm = A.vm ∧ A'.slots.size = A.slots.size ∧ ∀ i, A'.slots[i]? = if lo ≤ i ∧ i < hi then some (f i) else A.slots[i]?
theorem Laid.zero (A : Cell) (lo : Nat) (f : Nat → Value) : Laid A A lo (lo + 0) f := ⟨rfl, rfl, rfl, fun i => by rw [if_neg (by omega)]⟩
theorem Laid.step {A Ak : Cell} {lo k : Nat} {f : Nat → Value} {v : Value} (h : Laid A Ak lo k f) (hlo : lo ≤ k) (hk : k < Ak.slots.size) (hv : v = f k) : Laid A (Ak.setSlot k v) lo (k + 1) f := by
  refine ⟨h.1, h.2.1, by simpa [Cell.setSlot] using h.2.2.1, fun i => ?_⟩
  by_cases e : k = i
  · subst e; rw [Cell.slots_setSlot_self v hk, if_pos (by omega), hv]
  · rw [Cell.slots_setSlot_ne v e, h.2.2.2 i]
    by_cases q : lo ≤ i ∧ i < k
    · rw [if_pos q, if_pos (by omega)]
    · rw [if_neg q, if_neg (by omega)]
def U16 : String := "java/lang/StringUTF16"
namespace Cmp5
def yN : MethodName := ⟨"java/lang/StringUTF16", "compress", "([CI[BII)I"⟩
abbrev yB : ByteArray := jdk_52_method_21_code
theorem d0 : decode yB 0 = .ok (.iconst 0, 1) := by decide +kernel
theorem d1 : decode yB 1 = .ok (.istore 5, 2) := by decide +kernel
theorem d3 : decode yB 3 = .ok (.iload 5, 2) := by decide +kernel
theorem d5 : decode yB 5 = .ok (.iload 4, 2) := by decide +kernel
theorem d7 : decode yB 7 = .ok (.if_icmp (.ge) 37, 3) := by decide +kernel
theorem d10 : decode yB 10 = .ok (.aload_n 0, 1) := by decide +kernel
theorem d11 : decode yB 11 = .ok (.iload_n 1, 1) := by decide +kernel
theorem d12 : decode yB 12 = .ok (.caload, 1) := by decide +kernel
theorem d13 : decode yB 13 = .ok (.istore 6, 2) := by decide +kernel
theorem d15 : decode yB 15 = .ok (.iload 6, 2) := by decide +kernel
theorem d17 : decode yB 17 = .ok (.sipush 255, 3) := by decide +kernel
theorem d20 : decode yB 20 = .ok (.if_icmp (.le) 6, 3) := by decide +kernel
theorem d26 : decode yB 26 = .ok (.aload_n 2, 1) := by decide +kernel
theorem d27 : decode yB 27 = .ok (.iload_n 3, 1) := by decide +kernel
theorem d28 : decode yB 28 = .ok (.iload 6, 2) := by decide +kernel
theorem d30 : decode yB 30 = .ok (.i2b, 1) := by decide +kernel
theorem d31 : decode yB 31 = .ok (.bastore, 1) := by decide +kernel
theorem d32 : decode yB 32 = .ok (.iinc 1 1, 3) := by decide +kernel
theorem d35 : decode yB 35 = .ok (.iinc 3 1, 3) := by decide +kernel
theorem d38 : decode yB 38 = .ok (.iinc 5 1, 3) := by decide +kernel
theorem d41 : decode yB 41 = .ok (.goto (-38), 3) := by decide +kernel
theorem d44 : decode yB 44 = .ok (.iload 4, 2) := by decide +kernel
theorem d46 : decode yB 46 = .ok (.ireturn, 1) := by decide +kernel
def site : List Cond := []
def tab : Cond := tabOf yN yB 7 (some .int) site
def P (b : Addr) (A : Cell) (d : Addr) (B : Cell) (o q len : Nat) (args : Array Value) (s : State) : Prop := args = #[.ref b, .int (Int32.ofNat o), .ref d, .int (Int32.ofNat q), .int (Int32.ofNat len)] ∧ Ch b A s ∧ Arr .byte d B s ∧ b ≠ d ∧ o + len ≤ A.slots.size ∧ q + len ≤ B.slots.size ∧ ∀ i, i < len → ¬ 255 < cv A (o + i)
def E (b : Addr) (A : Cell) (d : Addr) (B : Cell) (o q len : Nat) (r : Option Value) (s u : State) : Prop := r = some (.int (Int32.ofNat len)) ∧ ∃ B', Put d B' s u ∧ Laid B B' q (q + len) (fun j => Value.int (lo8 (cv A (o + (j - q)))))
/-- no char of the range above 255: len; the places written hold each char's low byte -/
theorem law (l : Launch) (b : Addr) (A : Cell) (d : Addr) (B : Cell) (o q len : Nat) : Law l yN 5 5 0 0 yB 7 (some .int) site (P b A d B o q len) (E b A d B o q len) (copyLocs d q len) 0 0 := by
  refine Law.of_walk (plainFor_of_name (by decide +kernel)) (by decide +kernel) (by decide +kernel) (by decide) (fun _ _ h => by rw [h.1]; rfl) (fun _ U U' hal hh h => ⟨h.1, h.2.1.mv hal hh, h.2.2.1.mv hal hh, h.2.2.2⟩) (fun r U U' V V' h1 hal h2 h => ⟨h.1, h.2.elim fun B' q => ⟨B', q.1.mv h1 h2, q.2⟩⟩) ?_
  intro p e s m args below meth c s₁ X0 hexec hbytes hml hret hlk hnm hown hh0 W hP
  obtain ⟨rfl, hA, hB, hne, l1, l2, hp⟩ := hP
  have c1 : Steps p.tables e below (s₁.setTop (entryFrame m #[.ref b, .int (Int32.ofNat o), .ref d, .int (Int32.ofNat q), .int (Int32.ofNat len)] 7)) (s₁.setTop (mkF m 0 #[.val (.ref b), .val (.int (Int32.ofNat o)), .val (.ref d), .val (.int (Int32.ofNat q)), .val (.int (Int32.ofNat len)), .unset, .unset] [])) := entry rfl
  have hA0 := hA.1.mv X0.warmed.alike hh0
  have hB0 := hB.mv X0.warmed.alike hh0
  have a31 := hA.1.2.2.2
  have c2 : Steps p.tables e below (s₁.setTop (entryFrame m #[.ref b, .int (Int32.ofNat o), .ref d, .int (Int32.ofNat q), .int (Int32.ofNat len)] 7)) (s₁.setTop (mkF m 3 #[.val (.ref b), .val (.int (Int32.ofNat o)), .val (.ref d), .val (.int (Int32.ofNat q)), .val (.int (Int32.ofNat len)), .val (.int 0), .unset] [])) := c1.trans (by
    refine iconstV X0.here hexec rfl 0 (hb hbytes d0) (by decide) ?_
    refine XS.istore X0.here hexec rfl (hb hbytes d1) rfl rfl ?_
    exact Steps.refl _)
  have loop : ∀ (r i : Nat), i + r = len → ∀ (z : Slot), (z = .unset ∨ ∃ w, z = .val w ∧ w.category = 1) → ∀ (Tl : State) (Bk : Cell), Stand p l e { frames := 0, locals := 0, cells := 0, slots := 0 } s m #[.ref b, .int (Int32.ofNat o), .ref d, .int (Int32.ofNat q), .int (Int32.ofNat len)] below meth c Tl ([] ++ copyLocs d q i) 0 0 → Put d Bk s₁ Tl → Laid B Bk q (q + i) (fun j => Value.int (lo8 (cv A (o + (j - q))))) →
      Steps p.tables e below (s₁.setTop (entryFrame m #[.ref b, .int (Int32.ofNat o), .ref d, .int (Int32.ofNat q), .int (Int32.ofNat len)] 7)) (Tl.setTop (mkF m 3 #[.val (.ref b), .val (.int (Int32.ofNat (o + i))), .val (.ref d), .val (.int (Int32.ofNat (q + i))), .val (.int (Int32.ofNat len)), .val (.int (Int32.ofNat i)), z] [])) → ∃ (T' : State) (B' : Cell) (z' : Slot), Stand p l e { frames := 0, locals := 0, cells := 0, slots := 0 } s m #[.ref b, .int (Int32.ofNat o), .ref d, .int (Int32.ofNat q), .int (Int32.ofNat len)] below meth c T' ([] ++ copyLocs d q len) 0 0 ∧ Put d B' s₁ T' ∧ Laid B B' q (q + len) (fun j => Value.int (lo8 (cv A (o + (j - q))))) ∧
      Steps p.tables e below (s₁.setTop (entryFrame m #[.ref b, .int (Int32.ofNat o), .ref d, .int (Int32.ofNat q), .int (Int32.ofNat len)] 7)) (T'.setTop (mkF m 3 #[.val (.ref b), .val (.int (Int32.ofNat (o + len))), .val (.ref d), .val (.int (Int32.ofNat (q + len))), .val (.int (Int32.ofNat len)), .val (.int (Int32.ofNat len)), z'] [])) := by
    intro r
    induction r with
    | zero =>
      intro i hi z hz Tl Bk Xl pl fl cl
      have hil : i = len := by omega
      rw [hil] at Xl fl cl
      exact ⟨Tl, Bk, z, Xl, pl, fl, cl⟩
    | succ r ih =>
      intro i hi z hz Tl Bk Xl pl fl cl
      have all := X0.warmed.alike.symm.trans Xl.warmed.alike
      have hAl := hA0.keep all (pl.other hne hA0.1)
      have hBk := hB0.like all pl.1 fl.1 fl.2.1 fl.2.2.1
      have hlt : q + i < Bk.slots.size := by rw [fl.2.2.1]; omega
      have c3 : Steps p.tables e below (s₁.setTop (entryFrame m #[.ref b, .int (Int32.ofNat o), .ref d, .int (Int32.ofNat q), .int (Int32.ofNat len)] 7)) (Tl.setTop (mkF m 12 #[.val (.ref b), .val (.int (Int32.ofNat (o + i))), .val (.ref d), .val (.int (Int32.ofNat (q + i))), .val (.int (Int32.ofNat len)), .val (.int (Int32.ofNat i)), z] [.int (Int32.ofNat (o + i)), .ref b])) := cl.trans (by
        refine XS.iload Xl.here hexec rfl (hb hbytes d3) rfl ?_
        refine XS.iload Xl.here hexec rfl (hb hbytes d5) rfl ?_
        refine XS.icmpNo Xl.here hexec rfl (hb hbytes d7) rfl (ii_ge_f (lt32 (by omega) (by omega))) ?_
        refine XS.aloadN Xl.here hexec rfl (hb hbytes d10) rfl rfl ?_
        refine XS.iloadN Xl.here hexec rfl (hb hbytes d11) rfl ?_
        exact Steps.refl _)
      have c4 : Steps p.tables e below (s₁.setTop (entryFrame m #[.ref b, .int (Int32.ofNat o), .ref d, .int (Int32.ofNat q), .int (Int32.ofNat len)] 7)) (Tl.setTop (mkF m 13 #[.val (.ref b), .val (.int (Int32.ofNat (o + i))), .val (.ref d), .val (.int (Int32.ofNat (q + i))), .val (.int (Int32.ofNat len)), .val (.int (Int32.ofNat i)), z] [.int (cv A (o + i))])) := c3.trans (by
        refine Xl.aget hexec hAl rfl (hA.get (i := o + i) (by omega)) rfl rfl (hb hbytes d12) ?_
        exact Steps.refl _)
      have c5 : Steps p.tables e below (s₁.setTop (entryFrame m #[.ref b, .int (Int32.ofNat o), .ref d, .int (Int32.ofNat q), .int (Int32.ofNat len)] 7)) (Tl.setTop (mkF m 15 #[.val (.ref b), .val (.int (Int32.ofNat (o + i))), .val (.ref d), .val (.int (Int32.ofNat (q + i))), .val (.int (Int32.ofNat len)), .val (.int (Int32.ofNat i)), .val (.int (cv A (o + i)))] [])) := c4.trans (by
        refine XS.istoreS Xl.here hexec rfl (hb hbytes d13) rfl rfl hz ?_
        exact Steps.refl _)
      have c6 : Steps p.tables e below (s₁.setTop (entryFrame m #[.ref b, .int (Int32.ofNat o), .ref d, .int (Int32.ofNat q), .int (Int32.ofNat len)] 7)) (Tl.setTop (mkF m 31 #[.val (.ref b), .val (.int (Int32.ofNat (o + i))), .val (.ref d), .val (.int (Int32.ofNat (q + i))), .val (.int (Int32.ofNat len)), .val (.int (Int32.ofNat i)), .val (.int (cv A (o + i)))] [.int (lo8 (cv A (o + i))), .int (Int32.ofNat (q + i)), .ref d])) := c5.trans (by
        refine XS.iload Xl.here hexec rfl (hb hbytes d15) rfl ?_
        refine sipushV Xl.here hexec rfl 255 (hb hbytes d17) (by decide) ?_
        refine XS.icmpYes Xl.here hexec rfl (pc0 := 20) rfl (hb hbytes d20) rfl (ii_le_t (hp i (by omega))) (by decide) rfl ?_
        refine XS.aloadN Xl.here hexec rfl (hb hbytes d26) rfl rfl ?_
        refine XS.iloadN Xl.here hexec rfl (hb hbytes d27) rfl ?_
        refine XS.iload Xl.here hexec rfl (hb hbytes d28) rfl ?_
        refine i2b Xl.here hexec rfl (hb hbytes d30) rfl ?_
        exact Steps.refl _)
      obtain ⟨T7, X7, p7, st7⟩ := Xl.aput hexec hBk rfl hlt rfl (fits_lo8 (cv A (o + i))) (g := (mkF m 31 #[.val (.ref b), .val (.int (Int32.ofNat (o + i))), .val (.ref d), .val (.int (Int32.ofNat (q + i))), .val (.int (Int32.ofNat len)), .val (.int (Int32.ofNat i)), .val (.int (cv A (o + i)))] [.int (lo8 (cv A (o + i))), .int (Int32.ofNat (q + i)), .ref d])) rfl (rest := []) rfl (hb hbytes d31)
      have c8 : Steps p.tables e below (s₁.setTop (entryFrame m #[.ref b, .int (Int32.ofNat o), .ref d, .int (Int32.ofNat q), .int (Int32.ofNat len)] 7)) (T7.setTop (mkF m 32 #[.val (.ref b), .val (.int (Int32.ofNat (o + i))), .val (.ref d), .val (.int (Int32.ofNat (q + i))), .val (.int (Int32.ofNat len)), .val (.int (Int32.ofNat i)), .val (.int (cv A (o + i)))] [])) := c6.trans (st7 _ (Steps.refl _))
      have c9 : Steps p.tables e below (s₁.setTop (entryFrame m #[.ref b, .int (Int32.ofNat o), .ref d, .int (Int32.ofNat q), .int (Int32.ofNat len)] 7)) (T7.setTop (mkF m 3 #[.val (.ref b), .val (.int (Int32.ofNat (o + i) + 1)), .val (.ref d), .val (.int (Int32.ofNat (q + i) + 1)), .val (.int (Int32.ofNat len)), .val (.int (Int32.ofNat i + 1)), .val (.int (cv A (o + i)))] [])) := c8.trans (by
        refine iincV X7.here hexec rfl 1 (hb hbytes d32) (by decide) rfl rfl ?_
        refine iincV X7.here hexec rfl 1 (hb hbytes d35) (by decide) rfl rfl ?_
        refine iincV X7.here hexec rfl 1 (hb hbytes d38) (by decide) rfl rfl ?_
        refine XS.goto X7.here hexec rfl (pc0 := 41) rfl (hb hbytes d41) (by decide) rfl ?_
        exact Steps.refl _)
      have c10 : Steps p.tables e below (s₁.setTop (entryFrame m #[.ref b, .int (Int32.ofNat o), .ref d, .int (Int32.ofNat q), .int (Int32.ofNat len)] 7)) (T7.setTop (mkF m 3 #[.val (.ref b), .val (.int (Int32.ofNat (o + (i + 1)))), .val (.ref d), .val (.int (Int32.ofNat (q + (i + 1)))), .val (.int (Int32.ofNat len)), .val (.int (Int32.ofNat (i + 1))), .val (.int (cv A (o + i)))] [])) := by
        have := c9
        rw [succ32, succ32, succ32] at this
        exact this
      exact ih (i + 1) (by omega) _ (Or.inr ⟨_, rfl, rfl⟩) T7 _ (by rw [copyLocs_step, ← List.append_assoc]; exact X7) (pl.trans p7) (fl.step (by omega) hlt (by simp)) c10
  obtain ⟨T9, B9, z9, X9, p9, f9, g9⟩ := loop len 0 (by omega) .unset (Or.inl rfl) s₁ B (by simpa [copyLocs] using X0) ⟨hB0.1, fun _ _ => rfl, rfl⟩ (Laid.zero _ _ _) c2
  have c11 : Steps p.tables e below (s₁.setTop (entryFrame m #[.ref b, .int (Int32.ofNat o), .ref d, .int (Int32.ofNat q), .int (Int32.ofNat len)] 7)) (T9.setTop (mkF m 46 #[.val (.ref b), .val (.int (Int32.ofNat (o + len))), .val (.ref d), .val (.int (Int32.ofNat (q + len))), .val (.int (Int32.ofNat len)), .val (.int (Int32.ofNat len)), z9] [.int (Int32.ofNat len)])) := g9.trans (by
    refine XS.iload X9.here hexec rfl (hb hbytes d3) rfl ?_
    refine XS.iload X9.here hexec rfl (hb hbytes d5) rfl ?_
    refine XS.icmpYes X9.here hexec rfl (pc0 := 7) rfl (hb hbytes d7) rfl (ii_ge_t (nlt32 (by omega) (Nat.le_refl _))) (by decide) rfl ?_
    refine XS.iload X9.here hexec rfl (hb hbytes d44) rfl ?_
    exact Steps.refl _)
  exact ⟨T9, some (.int (Int32.ofNat len)), _, _, _, X9, by simp, rfl, rfl, (fun h => by cases h), ⟨rfl, B9, p9.from hh0, f9⟩, fun fs hl => c11.trans (X9.ireturnOut hexec hret rfl (Or.inl rfl) (hb hbytes d46) hl)⟩
end Cmp5
namespace Cmp3
def yN : MethodName := ⟨"java/lang/StringUTF16", "compress", "([CII)[B"⟩
abbrev yB : ByteArray := jdk_52_method_16_code
theorem d0 : decode yB 0 = .ok (.iload_n 2, 1) := by decide +kernel
theorem d1 : decode yB 1 = .ok (.newarray .byte, 2) := by decide +kernel
theorem d3 : decode yB 3 = .ok (.astore_n 3, 1) := by decide +kernel
theorem d4 : decode yB 4 = .ok (.aload_n 0, 1) := by decide +kernel
theorem d5 : decode yB 5 = .ok (.iload_n 1, 1) := by decide +kernel
theorem d6 : decode yB 6 = .ok (.aload_n 3, 1) := by decide +kernel
theorem d7 : decode yB 7 = .ok (.iconst 0, 1) := by decide +kernel
theorem d8 : decode yB 8 = .ok (.iload_n 2, 1) := by decide +kernel
theorem d9 : decode yB 9 = .ok (.invokestatic 115, 3) := by decide +kernel
theorem d12 : decode yB 12 = .ok (.istore 4, 2) := by decide +kernel
theorem d14 : decode yB 14 = .ok (.iload 4, 2) := by decide +kernel
theorem d16 : decode yB 16 = .ok (.iload_n 2, 1) := by decide +kernel
theorem d17 : decode yB 17 = .ok (.if_icmp (.eq) 40, 3) := by decide +kernel
theorem d57 : decode yB 57 = .ok (.aload_n 3, 1) := by decide +kernel
theorem d58 : decode yB 58 = .ok (.areturn, 1) := by decide +kernel
def site : List Cond := [.arrayClass .byte, Cmp5.tab] ++ staticW U16 115 Cmp5.yN
def tab : Cond := tabOf yN yB 6 (some (.array .byte)) site
def P (b : Addr) (A : Cell) (o len : Nat) (args : Array Value) (s : State) : Prop := args = #[.ref b, .int (Int32.ofNat o), .int (Int32.ofNat len)] ∧ Ch b A s ∧ o + len ≤ A.slots.size ∧ len ≤ 536870912 ∧ ∀ i, i < len → ¬ 255 < cv A (o + i)
def E (b : Addr) (A : Cell) (o len : Nat) (r : Option Value) (s u : State) : Prop := NewArr .byte "[B" len (fun j => .int (lo8 (cv A (o + j)))) r s u ∧ u.heap.size = s.heap.size + 1
/-- no char of the range above 255: a new byte[] of their low bytes -/
theorem law (l : Launch) (b : Addr) (A : Cell) (o len : Nat) : Law l yN 3 3 1 18 yB 6 (some (.array .byte)) site (P b A o len) (E b A o len) [] 1 len := by
  refine Law.of_walk (plainFor_of_name (by decide +kernel)) (by decide +kernel) (by decide +kernel) (by decide) (fun _ _ h => by rw [h.1]; rfl) (fun _ U U' hal hh h => ⟨h.1, h.2.1.mv hal hh, h.2.2⟩) (fun r U U' V V' h1 hal h2 h => ⟨NewArr.mv r U U' V V' h1 hal h2 h.1, by rw [h1, h2]; exact h.2⟩) ?_
  intro p e s m args below meth c s₁ X0 hexec hbytes hml hret hlk hnm hown hh0 W hP
  obtain ⟨rfl, hA, l1, l2, hp⟩ := hP
  have a31 := hA.1.2.2.2
  have c1 : Steps p.tables e below (s₁.setTop (entryFrame m #[.ref b, .int (Int32.ofNat o), .int (Int32.ofNat len)] 6)) (s₁.setTop (mkF m 0 #[.val (.ref b), .val (.int (Int32.ofNat o)), .val (.int (Int32.ofNat len)), .unset, .unset, .unset] [])) := entry rfl
  have c2 : Steps p.tables e below (s₁.setTop (entryFrame m #[.ref b, .int (Int32.ofNat o), .int (Int32.ofNat len)] 6)) (s₁.setTop (mkF m 1 #[.val (.ref b), .val (.int (Int32.ofNat o)), .val (.int (Int32.ofNat len)), .unset, .unset, .unset] [.int (Int32.ofNat len)])) := c1.trans (by
    refine XS.iloadN X0.here hexec rfl (hb hbytes d0) rfl ?_
    exact Steps.refl _)
  obtain ⟨T3, B3, X3, ba3, bs3, bv3, bh3, bf3, st3⟩ := X0.anew hexec (atype := .byte) (wk W (.arrayClass .byte)) rfl (by show len * 1 ≤ _; omega) (by omega) (g := (mkF m 1 #[.val (.ref b), .val (.int (Int32.ofNat o)), .val (.int (Int32.ofNat len)), .unset, .unset, .unset] [.int (Int32.ofNat len)])) rfl (hb hbytes d1) (rest := []) rfl (Nat.le_refl _) (by show 0 + len ≤ len; omega)
  rw [hh0] at ba3 st3
  have kp3 : XT.Kept s T3 := (XT.Kept.of_eq hh0).push bh3
  have hA3 := hA.keep X3.warmed.alike (kp3 _ _ hA.1.1)
  have hne : b ≠ s.heap.size := hA.1.ne
  have c4 : Steps p.tables e below (s₁.setTop (entryFrame m #[.ref b, .int (Int32.ofNat o), .int (Int32.ofNat len)] 6)) (T3.setTop (mkF m 3 #[.val (.ref b), .val (.int (Int32.ofNat o)), .val (.int (Int32.ofNat len)), .unset, .unset, .unset] [.ref s.heap.size])) := c2.trans (st3 _ (Steps.refl _))
  have c5 : Steps p.tables e below (s₁.setTop (entryFrame m #[.ref b, .int (Int32.ofNat o), .int (Int32.ofNat len)] 6)) (T3.setTop (mkF m 9 #[.val (.ref b), .val (.int (Int32.ofNat o)), .val (.int (Int32.ofNat len)), .val (.ref s.heap.size), .unset, .unset] [.int (Int32.ofNat len), .int 0, .ref s.heap.size, .int (Int32.ofNat o), .ref b])) := c4.trans (by
    refine XS.astoreN X3.here hexec rfl (hb hbytes d3) rfl rfl rfl ?_
    refine XS.aloadN X3.here hexec rfl (hb hbytes d4) rfl rfl ?_
    refine XS.iloadN X3.here hexec rfl (hb hbytes d5) rfl ?_
    refine XS.aloadN X3.here hexec rfl (hb hbytes d6) rfl rfl ?_
    refine iconstV X3.here hexec rfl 0 (hb hbytes d7) (by decide) ?_
    refine XS.iloadN X3.here hexec rfl (hb hbytes d8) rfl ?_
    exact Steps.refl _)
  obtain ⟨v6, T6, X6, E6, g6⟩ := X3.callS hexec (Cmp5.law l b A s.heap.size B3 o 0 len) hown (wks W (staticW U16 115 Cmp5.yN)) (wk W Cmp5.tab) (W := 0) (Nat.le_of_ble_eq_true rfl) (Nat.le_of_ble_eq_true rfl) (Nat.le_refl _) (by show 0 + len + 0 ≤ len; omega) (g := (mkF m 9 #[.val (.ref b), .val (.int (Int32.ofNat o)), .val (.int (Int32.ofNat len)), .val (.ref s.heap.size), .unset, .unset] [.int (Int32.ofNat len), .int (Int32.ofNat 0), .ref s.heap.size, .int (Int32.ofNat o), .ref b])) rfl (by rw [hml]; rfl) c5 (argsL := [.ref b, .int (Int32.ofNat o), .ref s.heap.size, .int (Int32.ofNat 0), .int (Int32.ofNat len)]) (rest := []) rfl rfl (by show 2 * 0 + 0 ≤ _; decide) (hb hbytes d9) (⟨rfl, hA3, ba3, hne, l1, by rw [bs3]; simp, hp⟩)
  obtain ⟨rfl, B6, p6, f6⟩ := E6
  have c7 : Steps p.tables e below (s₁.setTop (entryFrame m #[.ref b, .int (Int32.ofNat o), .int (Int32.ofNat len)] 6)) (T6.setTop (mkF m 12 #[.val (.ref b), .val (.int (Int32.ofNat o)), .val (.int (Int32.ofNat len)), .val (.ref s.heap.size), .unset, .unset] [.int (Int32.ofNat len)])) := g6
  have c8 : Steps p.tables e below (s₁.setTop (entryFrame m #[.ref b, .int (Int32.ofNat o), .int (Int32.ofNat len)] 6)) (T6.setTop (mkF m 58 #[.val (.ref b), .val (.int (Int32.ofNat o)), .val (.int (Int32.ofNat len)), .val (.ref s.heap.size), .val (.int (Int32.ofNat len)), .unset] [.ref s.heap.size])) := c7.trans (by
    refine XS.istore X6.here hexec rfl (hb hbytes d12) rfl rfl ?_
    refine XS.iload X6.here hexec rfl (hb hbytes d14) rfl ?_
    refine XS.iloadN X6.here hexec rfl (hb hbytes d16) rfl ?_
    refine XS.icmpYes X6.here hexec rfl (pc0 := 17) rfl (hb hbytes d17) rfl (ii_eq_t rfl) (by decide) rfl ?_
    refine XS.aloadN X6.here hexec rfl (hb hbytes d57) rfl rfl ?_
    exact Steps.refl _)
  have X8 := X6.wide (L' := []) (cells' := 1) (slots' := len) (fun x hx hlt => by
    simp only [List.nil_append, copyLocs, List.mem_map, List.mem_range] at hx
    obtain ⟨i, -, rfl⟩ := hx
    exact absurd hlt (Nat.lt_irrefl _)) (Nat.le_refl _) (by omega)
  exact ⟨T6, some (.ref s.heap.size), _, _, _, X8, rfl, rfl, rfl, (fun h => by cases h), ⟨⟨rfl, B6, ba3.like (X3.warmed.alike.symm.trans X6.warmed.alike) p6.1 f6.1 f6.2.1 f6.2.2.1, f6.2.1.trans bv3, by rw [X6.warmed.alike.findClass, f6.1]; exact bf3, by rw [f6.2.2.1, bs3]; simp, fun j hj => by rw [f6.2.2.2 j, if_pos (by omega)]; rfl, kp3.put p6 (Nat.le_refl _)⟩, by rw [p6.2.2, bh3, hh0]; simp⟩, fun fs hl => c8.trans (X8.areturnOut hexec rfl hret rfl (hb hbytes d58) hl)⟩
end Cmp3
namespace CodL
def yN : MethodName := ⟨"java/lang/StringUTF16", "coderFromArrayLen", "([BI)B"⟩
abbrev yB : ByteArray := jdk_52_method_15_code
theorem d0 : decode yB 0 = .ok (.iload_n 1, 1) := by decide +kernel
theorem d1 : decode yB 1 = .ok (.aload_n 0, 1) := by decide +kernel
theorem d2 : decode yB 2 = .ok (.arraylength, 1) := by decide +kernel
theorem d3 : decode yB 3 = .ok (.isub, 1) := by decide +kernel
theorem d4 : decode yB 4 = .ok (.bipush 31, 2) := by decide +kernel
theorem d6 : decode yB 6 = .ok (.iushr, 1) := by decide +kernel
theorem d7 : decode yB 7 = .ok (.i2b, 1) := by decide +kernel
theorem d8 : decode yB 8 = .ok (.ireturn, 1) := by decide +kernel
def site : List Cond := []
def tab : Cond := tabOf yN yB 2 (some .byte) site
def P (d : Addr) (B : Cell) (args : Array Value) (s : State) : Prop := args = #[.ref d, .int (Int32.ofNat B.slots.size)] ∧ Arr .byte d B s
def E (r : Option Value) (s u : State) : Prop := XT.PureE (some (.int 0)) r s u
/-- an array as long as the number of chars: LATIN1 -/
theorem law (l : Launch) (d : Addr) (B : Cell) : Law l yN 2 2 0 0 yB 2 (some .byte) site (P d B) E [] 0 0 := by
  refine Law.of_walk (plainFor_of_name (by decide +kernel)) (by decide +kernel) (by decide +kernel) (by decide) (fun _ _ h => by rw [h.1]; rfl) (fun _ U U' hal hh h => ⟨h.1, h.2.mv hal hh⟩) (fun r U U' V V' h1 hal h2 h => XT.PureE.mv r U U' V V' h1 hal h2 h) ?_
  intro p e s m args below meth c s₁ X0 hexec hbytes hml hret hlk hnm hown hh0 W hP
  obtain ⟨rfl, hB⟩ := hP
  have hB0 := hB.mv X0.warmed.alike hh0
  have c1 : Steps p.tables e below (s₁.setTop (entryFrame m #[.ref d, .int (Int32.ofNat B.slots.size)] 2)) (s₁.setTop (mkF m 0 #[.val (.ref d), .val (.int (Int32.ofNat B.slots.size))] [])) := entry rfl
  have c2 : Steps p.tables e below (s₁.setTop (entryFrame m #[.ref d, .int (Int32.ofNat B.slots.size)] 2)) (s₁.setTop (mkF m 2 #[.val (.ref d), .val (.int (Int32.ofNat B.slots.size))] [.ref d, .int (Int32.ofNat B.slots.size)])) := c1.trans (by
    refine XS.iloadN X0.here hexec rfl (hb hbytes d0) rfl ?_
    refine XS.aloadN X0.here hexec rfl (hb hbytes d1) rfl rfl ?_
    exact Steps.refl _)
  have c3 : Steps p.tables e below (s₁.setTop (entryFrame m #[.ref d, .int (Int32.ofNat B.slots.size)] 2)) (s₁.setTop (mkF m 8 #[.val (.ref d), .val (.int (Int32.ofNat B.slots.size))] [.int (lo8 (ushr (Int32.ofNat B.slots.size - Int32.ofNat B.slots.size) 31))])) := c2.trans (by
    refine X0.alen hexec hB0 rfl rfl (hb hbytes d2) ?_
    refine XS.isub X0.here hexec rfl (hb hbytes d3) rfl ?_
    refine bipushV X0.here hexec rfl 31 (hb hbytes d4) (by decide) ?_
    refine iushr X0.here hexec rfl (hb hbytes d6) rfl ?_
    refine i2b X0.here hexec rfl (hb hbytes d7) rfl ?_
    exact Steps.refl _)
  have e0 : lo8 (ushr (Int32.ofNat B.slots.size - Int32.ofNat B.slots.size) 31) = 0 := by rw [Int32.sub_self]; decide
  rw [e0] at c3
  exact ⟨s₁, some (.int 0), _, _, _, X0, rfl, rfl, rfl, (fun h => by cases h), ⟨rfl, hh0⟩, fun fs hl => c3.trans (X0.ireturnOut hexec hret rfl (Or.inr (Or.inr (Or.inl rfl))) (hb hbytes d8) hl)⟩
end CodL
/-- the String at a is Latin-1 over a new byte[] (the heap's one new cell): the low bytes of the len chars of A from o on; every cell but a is kept -/
def Got (a : Addr) (D : Cell) (fV fC : Field) (A : Cell) (o len : Nat) (r : Option Value) (s u : State) : Prop := r = none ∧ ∃ D' V : Cell, Blank "java/lang/String" a D' u ∧ Same D D' [fV.slot, fC.slot] ∧ D'.slots[fV.slot]? = some (.ref s.heap.size) ∧ D'.slots[fC.slot]? = some (.int 0) ∧ Arr .byte s.heap.size V u ∧ V.vm = .none ∧ u.vm.findClass "[B" = some V.cls ∧ V.slots.size = len ∧ (∀ j, j < len → V.slots[j]? = some (.int (lo8 (cv A (o + j))))) ∧ (∀ (y : Addr) (c : Cell), y ≠ a → s.heap[y]? = some c → u.heap[y]? = some c) ∧ u.heap.size = s.heap.size + 1
theorem Got.mv {a : Addr} {D A : Cell} {fV fC : Field} {o len : Nat} : ∀ r (U U' V V' : State), U'.heap = U.heap → V.vm.Alike V'.vm → V'.heap = V.heap → Got a D fV fC A o len r U V → Got a D fV fC A o len r U' V' :=
  fun r U U' V V' h1 hal h2 ⟨e0, D', X, a1, a2, a3, a4, a5, a6, a7, a8, a9, a10, a11⟩ => ⟨e0, D', X, a1.mv hal h2, a2, by rw [h1]; exact a3, a4, by rw [h1]; exact a5.mv hal h2, a6, by rw [hal.findClass]; exact a7, a8, a9, by rw [h1, h2]; exact a10, by rw [h1, h2]; exact a11⟩
namespace New4
def yN : MethodName := ⟨"java/lang/String", "<init>", "([CIILjava/lang/Void;)V"⟩
abbrev yB : ByteArray := jdk_42_method_149_code
theorem d0 : decode yB 0 = .ok (.aload_n 0, 1) := by decide +kernel
theorem d1 : decode yB 1 = .ok (.invokespecial 1, 3) := by decide +kernel
theorem d4 : decode yB 4 = .ok (.iload_n 3, 1) := by decide +kernel
theorem d5 : decode yB 5 = .ok (.ifCond (.ne) 22, 3) := by decide +kernel
theorem d27 : decode yB 27 = .ok (.getstatic 38, 3) := by decide +kernel
theorem d30 : decode yB 30 = .ok (.ifCond (.eq) 28, 3) := by decide +kernel
theorem d33 : decode yB 33 = .ok (.aload_n 1, 1) := by decide +kernel
theorem d34 : decode yB 34 = .ok (.iload_n 2, 1) := by decide +kernel
theorem d35 : decode yB 35 = .ok (.iload_n 3, 1) := by decide +kernel
theorem d36 : decode yB 36 = .ok (.invokestatic 177, 3) := by decide +kernel
theorem d39 : decode yB 39 = .ok (.astore 5, 2) := by decide +kernel
theorem d41 : decode yB 41 = .ok (.aload_n 0, 1) := by decide +kernel
theorem d42 : decode yB 42 = .ok (.aload 5, 2) := by decide +kernel
theorem d44 : decode yB 44 = .ok (.iload_n 3, 1) := by decide +kernel
theorem d45 : decode yB 45 = .ok (.invokestatic 47, 3) := by decide +kernel
theorem d48 : decode yB 48 = .ok (.putfield 15, 3) := by decide +kernel
theorem d51 : decode yB 51 = .ok (.aload_n 0, 1) := by decide +kernel
theorem d52 : decode yB 52 = .ok (.aload 5, 2) := by decide +kernel
theorem d54 : decode yB 54 = .ok (.putfield 9, 3) := by decide +kernel
theorem d57 : decode yB 57 = .ok (.return_, 1) := by decide +kernel
def site : List Cond := [.fieldLink "java/lang/String" 38 "java/lang/String" "COMPACT_STRINGS" "Z", Cmp3.tab, CodL.tab, .laysFinal "java/lang/String" "java/lang/String" "value" "[B", .fieldLink "java/lang/String" 9 "java/lang/String" "value" "[B", .laysFinal "java/lang/String" "java/lang/String" "coder" "B", .fieldLink "java/lang/String" 15 "java/lang/String" "coder" "B"] ++ objW "java/lang/String" 1 ++ staticW "java/lang/String" 177 Cmp3.yN ++ staticW "java/lang/String" 47 CodL.yN
def tab : Cond := tabOf yN yB 6 none site
def P (a : Addr) (D : Cell) (fV fC : Field) (b : Addr) (A : Cell) (z : Int32) (o len : Nat) (args : Array Value) (s : State) : Prop := args = #[.ref a, .ref b, .int (Int32.ofNat o), .int (Int32.ofNat len), .null] ∧ Blank "java/lang/String" a D s ∧ Found "java/lang/String" "value" "[B" fV s ∧ Found "java/lang/String" "coder" "B" fC s ∧ Ch b A s ∧ StaticIs s "java/lang/String" "COMPACT_STRINGS" "Z" (.int z) ∧ ¬ z = 0 ∧ 0 < len ∧ o + len ≤ A.slots.size ∧ len ≤ 536870912 ∧ ∀ i, i < len → ¬ 255 < cv A (o + i)
def E (a : Addr) (D : Cell) (fV fC : Field) (A : Cell) (o len : Nat) (r : Option Value) (s u : State) : Prop := Got a D fV fC A o len r s u
/-- len > 0, no char of the range above 255: a Latin-1 String of their low bytes -/
theorem law (l : Launch) (a : Addr) (D : Cell) (fV fC : Field) (b : Addr) (A : Cell) (z : Int32) (o len : Nat) : Law l yN 5 4 2 35 yB 6 none site (P a D fV fC b A z o len) (E a D fV fC A o len) [⟨a, fC.slot⟩, ⟨a, fV.slot⟩] 1 len := by
  refine Law.of_walk (plainFor_of_name (by decide +kernel)) (by decide +kernel) (by decide +kernel) (by decide) (fun _ _ h => by rw [h.1]; rfl) (fun _ U U' hal hh h => ⟨h.1, h.2.1.mv hal hh, h.2.2.1.al hal, h.2.2.2.1.al hal, h.2.2.2.2.1.mv hal hh, h.2.2.2.2.2.1.there hal hh, h.2.2.2.2.2.2⟩) (fun r U U' V V' h1 hal h2 h => Got.mv r U U' V V' h1 hal h2 h) ?_
  intro p e s m args below meth c s₁ X0 hexec hbytes hml hret hlk hnm hown hh0 W hP
  obtain ⟨rfl, hB, f1, f2, hA, s1, hz, l0, l1, l2, hp⟩ := hP
  have a31 := hA.1.2.2.2
  have c1 : Steps p.tables e below (s₁.setTop (entryFrame m #[.ref a, .ref b, .int (Int32.ofNat o), .int (Int32.ofNat len), .null] 6)) (s₁.setTop (mkF m 0 #[.val (.ref a), .val (.ref b), .val (.int (Int32.ofNat o)), .val (.int (Int32.ofNat len)), .val .null, .unset] [])) := entry rfl
  have c2 : Steps p.tables e below (s₁.setTop (entryFrame m #[.ref a, .ref b, .int (Int32.ofNat o), .int (Int32.ofNat len), .null] 6)) (s₁.setTop (mkF m 1 #[.val (.ref a), .val (.ref b), .val (.int (Int32.ofNat o)), .val (.int (Int32.ofNat len)), .val .null, .unset] [.ref a])) := c1.trans (by
    refine XS.aloadN X0.here hexec rfl (hb hbytes d0) rfl rfl ?_
    exact Steps.refl _)
  obtain ⟨T3, X3, q3, st3⟩ := X0.oinit hexec hown (wks W (objW "java/lang/String" 1)) (g := (mkF m 1 #[.val (.ref a), .val (.ref b), .val (.int (Int32.ofNat o)), .val (.int (Int32.ofNat len)), .val .null, .unset] [.ref a])) rfl (by rw [hml]; rfl) (rest := []) rfl (hb hbytes d1) (W := 0) (by show 2 * 0 + 0 ≤ _; decide) (Nat.le_of_ble_eq_true rfl) (Nat.le_of_ble_eq_true rfl)
  have hh3 := q3.trans hh0
  have c4 : Steps p.tables e below (s₁.setTop (entryFrame m #[.ref a, .ref b, .int (Int32.ofNat o), .int (Int32.ofNat len), .null] 6)) (T3.setTop (mkF m 27 #[.val (.ref a), .val (.ref b), .val (.int (Int32.ofNat o)), .val (.int (Int32.ofNat len)), .val .null, .unset] [])) := (c2.trans (st3 _ (Steps.refl _))).trans (by
    refine XS.iloadN X3.here hexec rfl (hb hbytes d4) rfl ?_
    refine XS.ifYes X3.here hexec rfl (pc0 := 5) rfl (hb hbytes d5) rfl (i0_ne_t (nz32 (by omega) l0)) (by decide) rfl ?_
    exact Steps.refl _)
  obtain ⟨T5, X5, q5, st5⟩ := X3.sget hexec hown (wk W (.fieldLink "java/lang/String" 38 "java/lang/String" "COMPACT_STRINGS" "Z")) s1 (fun _ _ h => by rw [hh3]; exact h) (g := (mkF m 27 #[.val (.ref a), .val (.ref b), .val (.int (Int32.ofNat o)), .val (.int (Int32.ofNat len)), .val .null, .unset] [])) rfl (hb hbytes d27)
  have hh5 := q5.trans hh3
  have c6 : Steps p.tables e below (s₁.setTop (entryFrame m #[.ref a, .ref b, .int (Int32.ofNat o), .int (Int32.ofNat len), .null] 6)) (T5.setTop (mkF m 30 #[.val (.ref a), .val (.ref b), .val (.int (Int32.ofNat o)), .val (.int (Int32.ofNat len)), .val .null, .unset] [.int z])) := c4.trans (st5 _ (Steps.refl _))
  have c7 : Steps p.tables e below (s₁.setTop (entryFrame m #[.ref a, .ref b, .int (Int32.ofNat o), .int (Int32.ofNat len), .null] 6)) (T5.setTop (mkF m 36 #[.val (.ref a), .val (.ref b), .val (.int (Int32.ofNat o)), .val (.int (Int32.ofNat len)), .val .null, .unset] [.int (Int32.ofNat len), .int (Int32.ofNat o), .ref b])) := c6.trans (by
    refine XS.ifNo X5.here hexec rfl (hb hbytes d30) rfl (i0_eq_f hz) ?_
    refine XS.aloadN X5.here hexec rfl (hb hbytes d33) rfl rfl ?_
    refine XS.iloadN X5.here hexec rfl (hb hbytes d34) rfl ?_
    refine XS.iloadN X5.here hexec rfl (hb hbytes d35) rfl ?_
    exact Steps.refl _)
  obtain ⟨v8, T8, X8, E8, g8⟩ := X5.callS hexec (Cmp3.law l b A o len) hown (wks W (staticW "java/lang/String" 177 Cmp3.yN)) (wk W Cmp3.tab) (W := 0) (Nat.le_of_ble_eq_true rfl) (Nat.le_of_ble_eq_true rfl) (Nat.le_refl _) (by show 0 + len ≤ len; omega) (g := (mkF m 36 #[.val (.ref a), .val (.ref b), .val (.int (Int32.ofNat o)), .val (.int (Int32.ofNat len)), .val .null, .unset] [.int (Int32.ofNat len), .int (Int32.ofNat o), .ref b])) rfl (by rw [hml]; rfl) c7 (argsL := [.ref b, .int (Int32.ofNat o), .int (Int32.ofNat len)]) (rest := []) rfl rfl (by show 2 * 0 + 0 ≤ _; decide) (hb hbytes d36) (⟨rfl, hA.mv X5.warmed.alike hh5, l1, l2, hp⟩)
  obtain ⟨e8, z8⟩ := E8
  obtain ⟨rfl, N, n1, n2, n3, n4, n5, n6⟩ := NewArr.mv _ T5 s _ _ hh5.symm (Vm.Alike.refl _) rfl e8
  rw [hh5] at z8
  have hB1 := hB.keep X8.warmed.alike (n6 _ _ hB.1)
  have hne : s.heap.size ≠ a := (Nat.ne_of_lt (Array.getElem?_eq_some_iff.mp hB.1).1).symm
  have c9 : Steps p.tables e below (s₁.setTop (entryFrame m #[.ref a, .ref b, .int (Int32.ofNat o), .int (Int32.ofNat len), .null] 6)) (T8.setTop (mkF m 39 #[.val (.ref a), .val (.ref b), .val (.int (Int32.ofNat o)), .val (.int (Int32.ofNat len)), .val .null, .unset] [.ref s.heap.size])) := g8
  have c10 : Steps p.tables e below (s₁.setTop (entryFrame m #[.ref a, .ref b, .int (Int32.ofNat o), .int (Int32.ofNat len), .null] 6)) (T8.setTop (mkF m 45 #[.val (.ref a), .val (.ref b), .val (.int (Int32.ofNat o)), .val (.int (Int32.ofNat len)), .val .null, .val (.ref s.heap.size)] [.int (Int32.ofNat N.slots.size), .ref s.heap.size, .ref a])) := by
    have hc : Steps p.tables e below (s₁.setTop (entryFrame m #[.ref a, .ref b, .int (Int32.ofNat o), .int (Int32.ofNat len), .null] 6)) (T8.setTop (mkF m 45 #[.val (.ref a), .val (.ref b), .val (.int (Int32.ofNat o)), .val (.int (Int32.ofNat len)), .val .null, .val (.ref s.heap.size)] [.int (Int32.ofNat len), .ref s.heap.size, .ref a])) := c9.trans (by
      refine XS.astore X8.here hexec rfl (hb hbytes d39) rfl rfl rfl ?_
      refine XS.aloadN X8.here hexec rfl (hb hbytes d41) rfl rfl ?_
      refine XS.aload X8.here hexec rfl (hb hbytes d42) rfl rfl ?_
      refine XS.iloadN X8.here hexec rfl (hb hbytes d44) rfl ?_
      exact Steps.refl _)
    rw [n4]; exact hc
  obtain ⟨v11, T11, X11, E11, g11⟩ := X8.callS hexec (CodL.law l s.heap.size N) hown (wks W (staticW "java/lang/String" 47 CodL.yN)) (wk W CodL.tab) (W := 1) (Nat.le_of_ble_eq_true rfl) (Nat.le_of_ble_eq_true rfl) (Nat.le_refl _) (by show 0 + len + 0 ≤ len; omega) (g := (mkF m 45 #[.val (.ref a), .val (.ref b), .val (.int (Int32.ofNat o)), .val (.int (Int32.ofNat len)), .val .null, .val (.ref s.heap.size)] [.int (Int32.ofNat N.slots.size), .ref s.heap.size, .ref a])) rfl (by rw [hml]; rfl) c10 (argsL := [.ref s.heap.size, .int (Int32.ofNat N.slots.size)]) (rest := [.ref a]) rfl rfl (by show 2 * 0 + (1 + 0) ≤ _; decide) (hb hbytes d45) (⟨rfl, n1⟩)
  obtain ⟨rfl, q11⟩ := E11
  have hB11 := hB1.mv (X8.warmed.alike.symm.trans X11.warmed.alike) q11
  have c12 : Steps p.tables e below (s₁.setTop (entryFrame m #[.ref a, .ref b, .int (Int32.ofNat o), .int (Int32.ofNat len), .null] 6)) (T11.setTop (mkF m 48 #[.val (.ref a), .val (.ref b), .val (.int (Int32.ofNat o)), .val (.int (Int32.ofNat len)), .val .null, .val (.ref s.heap.size)] [.int 0, .ref a])) := g11
  obtain ⟨T13, X13, p13, bl13, sl13, st13⟩ := X11.finit hexec hown (wk W (.fieldLink "java/lang/String" 15 "java/lang/String" "coder" "B")) (Or.inr ⟨_, (wk W (.laysFinal "java/lang/String" "java/lang/String" "coder" "B"))⟩) (Or.inl ⟨rfl, hnm⟩) f2 (Or.inl rfl) hB11 (t := .byte) (by decide +kernel) rfl (g := (mkF m 48 #[.val (.ref a), .val (.ref b), .val (.int (Int32.ofNat o)), .val (.int (Int32.ofNat len)), .val .null, .val (.ref s.heap.size)] [.int 0, .ref a])) rfl (rest := []) rfl (hb hbytes d48)
  have c14 : Steps p.tables e below (s₁.setTop (entryFrame m #[.ref a, .ref b, .int (Int32.ofNat o), .int (Int32.ofNat len), .null] 6)) (T13.setTop (mkF m 54 #[.val (.ref a), .val (.ref b), .val (.int (Int32.ofNat o)), .val (.int (Int32.ofNat len)), .val .null, .val (.ref s.heap.size)] [.ref s.heap.size, .ref a])) := (c12.trans (st13 _ (Steps.refl _))).trans (by
    refine XS.aloadN X13.here hexec rfl (hb hbytes d51) rfl rfl ?_
    refine XS.aload X13.here hexec rfl (hb hbytes d52) rfl rfl ?_
    exact Steps.refl _)
  obtain ⟨T15, X15, p15, bl15, sl15, st15⟩ := X13.finit hexec hown (wk W (.fieldLink "java/lang/String" 9 "java/lang/String" "value" "[B")) (Or.inr ⟨_, (wk W (.laysFinal "java/lang/String" "java/lang/String" "value" "[B"))⟩) (Or.inl ⟨rfl, hnm⟩) f1 (Or.inl rfl) bl13 (t := (.array .byte)) (by decide +kernel) rfl (g := (mkF m 54 #[.val (.ref a), .val (.ref b), .val (.int (Int32.ofNat o)), .val (.int (Int32.ofNat len)), .val .null, .val (.ref s.heap.size)] [.ref s.heap.size, .ref a])) rfl (rest := []) rfl (hb hbytes d54)
  have c16 : Steps p.tables e below (s₁.setTop (entryFrame m #[.ref a, .ref b, .int (Int32.ofNat o), .int (Int32.ofNat len), .null] 6)) (T15.setTop (mkF m 57 #[.val (.ref a), .val (.ref b), .val (.int (Int32.ofNat o)), .val (.int (Int32.ofNat len)), .val .null, .val (.ref s.heap.size)] [])) := c14.trans (st15 _ (Steps.refl _))
  have ap := apart (Or.inr ⟨_, (wk W (.laysFinal "java/lang/String" "java/lang/String" "value" "[B"))⟩) (Or.inr ⟨_, (wk W (.laysFinal "java/lang/String" "java/lang/String" "coder" "B"))⟩) f1 f2 (t₁ := .array .byte) (t₂ := .byte) (by decide +kernel) (by decide +kernel) (by decide)
  have al := X8.warmed.alike.symm.trans X15.warmed.alike
  have n7 : T11.heap[s.heap.size]? = some N := by rw [q11]; exact n1.1
  exact ⟨T15, none, _, _, _, X15, by simp, rfl, by omega, (fun _ => rfl), ⟨rfl, _, N, bl15, ((Same.refl D _).set _ (by simp)).set _ (by simp), sl15, (Cell.slots_setSlot_ne _ ap).trans sl13, n1.keep al (p15.other hne (p13.other hne n7)), n2, by rw [al.findClass]; exact n3, n4, n5, fun y c h1 h2 => p15.other h1 (p13.other h1 (by rw [q11]; exact n6 y c h2)), by rw [p15.2.2, p13.2.2, q11]; exact z8⟩, fun fs hl => c16.trans (X15.returnOut hexec hret (hb hbytes d57) hl)⟩
end New4
namespace New1
def yN : MethodName := ⟨"java/lang/String", "<init>", "([C)V"⟩
abbrev yB : ByteArray := jdk_42_method_3_code
theorem d0 : decode yB 0 = .ok (.aload_n 0, 1) := by decide +kernel
theorem d1 : decode yB 1 = .ok (.aload_n 1, 1) := by decide +kernel
theorem d2 : decode yB 2 = .ok (.iconst 0, 1) := by decide +kernel
theorem d3 : decode yB 3 = .ok (.aload_n 1, 1) := by decide +kernel
theorem d4 : decode yB 4 = .ok (.arraylength, 1) := by decide +kernel
theorem d5 : decode yB 5 = .ok (.aconst_null, 1) := by decide +kernel
theorem d6 : decode yB 6 = .ok (.invokespecial 27, 3) := by decide +kernel
theorem d9 : decode yB 9 = .ok (.return_, 1) := by decide +kernel
def site : List Cond := [New4.tab] ++ initW "java/lang/String" 27 New4.yN
def tab : Cond := tabOf yN yB 2 none site
def P (a : Addr) (D : Cell) (fV fC : Field) (b : Addr) (A : Cell) (z : Int32) (args : Array Value) (s : State) : Prop := args = #[.ref a, .ref b] ∧ Blank "java/lang/String" a D s ∧ Found "java/lang/String" "value" "[B" fV s ∧ Found "java/lang/String" "coder" "B" fC s ∧ Ch b A s ∧ StaticIs s "java/lang/String" "COMPACT_STRINGS" "Z" (.int z) ∧ ¬ z = 0 ∧ 0 < A.slots.size ∧ A.slots.size ≤ 536870912 ∧ ∀ i, i < A.slots.size → ¬ 255 < cv A i
def E (a : Addr) (D : Cell) (fV fC : Field) (A : Cell) (r : Option Value) (s u : State) : Prop := Got a D fV fC A 0 A.slots.size r s u
/-- new String(chars), not empty, no char above 255: a Latin-1 String of their low bytes -/
theorem law (l : Launch) (a : Addr) (D : Cell) (fV fC : Field) (b : Addr) (A : Cell) (z : Int32) : Law l yN 2 1 3 52 yB 2 none site (P a D fV fC b A z) (E a D fV fC A) [⟨a, fC.slot⟩, ⟨a, fV.slot⟩] 1 A.slots.size := by
  refine Law.of_walk (plainFor_of_name (by decide +kernel)) (by decide +kernel) (by decide +kernel) (by decide) (fun _ _ h => by rw [h.1]; rfl) (fun _ U U' hal hh h => ⟨h.1, h.2.1.mv hal hh, h.2.2.1.al hal, h.2.2.2.1.al hal, h.2.2.2.2.1.mv hal hh, h.2.2.2.2.2.1.there hal hh, h.2.2.2.2.2.2⟩) (fun r U U' V V' h1 hal h2 h => Got.mv r U U' V V' h1 hal h2 h) ?_
  intro p e s m args below meth c s₁ X0 hexec hbytes hml hret hlk hnm hown hh0 W hP
  obtain ⟨rfl, hB, f1, f2, hA, s1, hz, l0, l2, hp⟩ := hP
  have c1 : Steps p.tables e below (s₁.setTop (entryFrame m #[.ref a, .ref b] 2)) (s₁.setTop (mkF m 0 #[.val (.ref a), .val (.ref b)] [])) := entry rfl
  have c2 : Steps p.tables e below (s₁.setTop (entryFrame m #[.ref a, .ref b] 2)) (s₁.setTop (mkF m 6 #[.val (.ref a), .val (.ref b)] [.null, .int (Int32.ofNat A.slots.size), .int 0, .ref b, .ref a])) := c1.trans (by
    refine XS.aloadN X0.here hexec rfl (hb hbytes d0) rfl rfl ?_
    refine XS.aloadN X0.here hexec rfl (hb hbytes d1) rfl rfl ?_
    refine iconstV X0.here hexec rfl 0 (hb hbytes d2) (by decide) ?_
    refine XS.aloadN X0.here hexec rfl (hb hbytes d3) rfl rfl ?_
    refine X0.alen hexec (hA.1.mv X0.warmed.alike hh0) rfl rfl (hb hbytes d4) ?_
    refine XS.aconstNull X0.here hexec rfl (hb hbytes d5) ?_
    exact Steps.refl _)
  obtain ⟨v3, T3, X3, E3, g3⟩ := X0.callN hexec (New4.law l a D fV fC b A z 0 A.slots.size) rfl hown (wks W (initW "java/lang/String" 27 New4.yN)) (W New4.tab (by simp only [site, List.mem_cons, List.mem_append, true_or, or_true])) (W := 0) (Nat.le_of_ble_eq_true rfl) (Nat.le_of_ble_eq_true rfl) (Nat.le_refl _) (by show 0 + A.slots.size ≤ A.slots.size; omega) (g := (mkF m 6 #[.val (.ref a), .val (.ref b)] [.null, .int (Int32.ofNat A.slots.size), .int (Int32.ofNat 0), .ref b, .ref a])) rfl (by rw [hml]; rfl) c2 (argsL := [.ref b, .int (Int32.ofNat 0), .int (Int32.ofNat A.slots.size), .null]) (rest := []) rfl rfl (by show 2 * 0 + 0 ≤ _; decide) (hb hbytes d6) (⟨rfl, hB.mv X0.warmed.alike hh0, f1.al X0.warmed.alike, f2.al X0.warmed.alike, hA.mv X0.warmed.alike hh0, s1.there X0.warmed.alike hh0, hz, l0, by omega, l2, fun i hi => by rw [Nat.zero_add]; exact hp i hi⟩)
  have e0 := Got.mv _ s₁ s _ _ hh0.symm (Vm.Alike.refl _) rfl E3
  obtain rfl := e0.1
  have c4 : Steps p.tables e below (s₁.setTop (entryFrame m #[.ref a, .ref b] 2)) (T3.setTop (mkF m 9 #[.val (.ref a), .val (.ref b)] [])) := g3
  exact ⟨T3, none, _, _, _, X3, by simp, rfl, by omega, (fun _ => rfl), e0, fun fs hl => c4.trans (X3.returnOut hexec hret (hb hbytes d9) hl)⟩
theorem pays {l : Launch} {R : Room} {p : Program} {e : Env} {below : List Frame} {s : State} {sargs : Array Value} {len W : Nat} (a : Addr) (D : Cell) (fV fC : Field) (b : Addr) (A : Cell) (z : Int32) (htab : tab.before sargs s = true) (hfr : 4 ≤ R.frames) (hlo : W + 65 ≤ R.locals) :
    Back l R p e below s sargs yN len W (fun A₁ a₁ => A₁.cells + 1 ≤ R.cells ∧ A₁.slots + A.slots.size ≤ R.slots ∧ P a D fV fC b A z a₁ A₁.U) (fun A₁ _ v₁ B₁ => E a D fV fC A v₁ A₁.U B₁.U ∧ B₁.locs = A₁.locs ++ [⟨a, fC.slot⟩, ⟨a, fV.slot⟩] ∧ B₁.cells = A₁.cells + 1 ∧ B₁.slots = A₁.slots + A.slots.size) :=
  (law l a D fV fC b A z).pays htab hfr (by omega)
end New1
end StrChars
namespace StrChars.Road
open Jvm Sem ClassFile Op Lib Jvm.Stand Jvm.Free Jvm.Free.XT
open Jvm.Lib.Cold (StaticIs)
abbrev ST : String := "java/lang/String"
/-- every table word that New1's law asks, flat -/
abbrev words : List Jvm.Cond := [.code New1.yN New1.yB 2 none, .initialized ST, .methodLink ST 27 New4.yN, .instanceMethod New4.yN,
  .code New4.yN New4.yB 6 none, .fieldLink ST 38 ST "COMPACT_STRINGS" "Z", .laysFinal ST ST "value" "[B", .fieldLink ST 9 ST "value" "[B", .laysFinal ST ST "coder" "B", .fieldLink ST 15 ST "coder" "B",
  .methodLink ST 1 Lib.objectInit, .instanceMethod Lib.objectInit, .code Lib.objectInit ⟨#[0xb1]⟩ 1 none, .methodLink ST 177 Cmp3.yN, .static Cmp3.yN, .methodLink ST 47 CodL.yN, .static CodL.yN,
  .code Cmp3.yN Cmp3.yB 6 (some (.array .byte)), .initialized U16, .arrayClass .byte, .methodLink U16 115 Cmp5.yN, .static Cmp5.yN, .code Cmp5.yN Cmp5.yB 7 (some .int), .code CodL.yN CodL.yB 2 (some .byte)]
theorem tab_of {a : Array Value} {s : State} (h : ∀ w ∈ words, w.before a s = true) : New1.tab.before a s = true := by
  have h5 : Cmp5.tab.before a s = true := unparts (wk h (.code Cmp5.yN Cmp5.yB 7 (some .int))) (wks h (.initialized Cmp5.yN.cls :: Cmp5.site))
  have hc : CodL.tab.before a s = true := unparts (wk h (.code CodL.yN CodL.yB 2 (some .byte))) (wks h (.initialized CodL.yN.cls :: CodL.site))
  have q5 : ∀ w ∈ Cmp5.tab :: words, w.before a s = true := fun w hw => (List.mem_cons.mp hw).elim (fun e => e ▸ h5) (h w)
  have h3 : Cmp3.tab.before a s = true := unparts (wk q5 (.code Cmp3.yN Cmp3.yB 6 (some (.array .byte)))) (wks q5 (.initialized Cmp3.yN.cls :: Cmp3.site))
  have q3 : ∀ w ∈ Cmp3.tab :: CodL.tab :: words, w.before a s = true := fun w hw => (List.mem_cons.mp hw).elim (fun e => e ▸ h3) fun hw => (List.mem_cons.mp hw).elim (fun e => e ▸ hc) (h w)
  have h4 : New4.tab.before a s = true := unparts (wk q3 (.code New4.yN New4.yB 6 none)) (wks q3 (.initialized New4.yN.cls :: New4.site))
  have q4 : ∀ w ∈ New4.tab :: words, w.before a s = true := fun w hw => (List.mem_cons.mp hw).elim (fun e => e ▸ h4) (h w)
  exact unparts (wk q4 (.code New1.yN New1.yB 2 none)) (wks q4 (.initialized New1.yN.cls :: New1.site))
/-- the words ride from the start Z to the walk's own state -/
theorem moved {Z s : State} {a0 args : Array Value} (hZ : Z.Warmed39 s.vm) (hw : ∀ d ∈ words, d.before a0 Z = true) : ∀ d ∈ words, d.before args s = true := fun d hd => by
  have q := hw d hd
  have t : ∀ d ∈ words, d = .arrayClass .byte ∨ (d.onTables && d.keepsFace) = true := by decide +kernel
  rcases t d hd with rfl | t
  · exact RoadKit.mvA hZ q
  · exact RoadKit.mv hZ q t
/-- WHAT COMES BACK, over the tables of the start Z: h the heap at the call, h' behind it -/
def Q (Z : State) (x : Addr) (A : Cell) (h : Heap) (v : Option Value) (h' : Heap) (L : List Loc) : Prop := v = none ∧ (∀ y ∈ L, y.base = x) ∧ RoadKit.Keep h h' [x] ∧ h'.size = h.size + 1 ∧ RoadKit.Exa Z h' x ST ∧ RoadKit.Fld Z h' x ST "value" "[B" (.ref h.size) ∧ RoadKit.Fld Z h' x ST "coder" "B" (.int 0) ∧
  (∃ V : Cell, RoadKit.Arr Z h' h.size V .byte ∧ V.vm = .none ∧ Z.vm.findClass "[B" = some V.cls ∧ V.slots.size = A.slots.size ∧ ∀ j, j < A.slots.size → V.slots[j]? = some (.int (lo8 (cv A j)))) ∧
  ∀ (O n d : String) (w : Value), RoadKit.Fld Z h x O n d w → RoadKit.slotOf Z O n d ≠ RoadKit.slotOf Z ST "value" "[B" → RoadKit.slotOf Z O n d ≠ RoadKit.slotOf Z ST "coder" "B" → RoadKit.Fld Z h' x O n d w
/-- **new String(chars) AT A CALL, IN THE ROAD'S FORM**: for specialBack behind newO: x the fresh String, b the char[] with the cell A -/
theorem back {p : Program} {l : Launch} {e : Env} {R : Room} {s : State} {args : Array Value} {below : List Frame} {len W : Nat} {Z : State} {a0 : Array Value} {h : Heap} (hZ : Z.Warmed39 s.vm) (hw : ∀ d ∈ words, d.before a0 Z = true) {kI : Nat} (wi : (Jvm.Cond.instantiable ST kI).before a0 Z = true)
    {x b : Addr} {A : Cell} {z : Int32} {v0 c0 : Value} (E : RoadKit.Exa Z h x ST) (V : RoadKit.Fld Z h x ST "value" "[B" v0) (C : RoadKit.Fld Z h x ST "coder" "B" c0) (K : RoadKit.Arr Z h b A .char) (hty : Typed .char A) (S : RoadKit.Sta Z h ST "COMPACT_STRINGS" "Z" (.int z)) (hz : ¬ z = 0)
    (l0 : 0 < A.slots.size) (l2 : A.slots.size ≤ 536870912) (hp : ∀ i, i < A.slots.size → ¬ 255 < cv A i) (hfr : 4 ≤ R.frames) (hlo : W + 65 ≤ R.locals) :
    Back l R p e below s args New1.yN len W (fun P a => a = #[.ref x, .ref b] ∧ P.U.heap = h ∧ P.cells + 1 ≤ R.cells ∧ P.slots + A.slots.size ≤ R.slots)
      (fun P _ v B => ∃ L, Q Z x A h v B.U.heap L ∧ B.locs = P.locs ++ L ∧ B.cells = P.cells + 1 ∧ B.slots = P.slots + A.slots.size) := by
  intro m meth c P g ig mk a X hg hsize hdg hW hn hp'
  obtain ⟨rfl, rfl, r1, r2⟩ := hp'
  have al : Z.vm.Alike P.U.vm := hZ.alike.trans X.warmed.alike
  obtain ⟨D, cfV, kV, iV, fV, hD, gV, stV, knV, obV, asV, slV⟩ := id V
  obtain ⟨D', cfC, kC, iC, fC, hD', gC, stC, -, -, asC, slC⟩ := id C
  cases hD.symm.trans hD'
  obtain ⟨D2, kD, e1, e2, e3, e4, e5⟩ := id E
  cases hD.symm.trans e1
  obtain ⟨c2, k2, i1, i2, i3, -⟩ := Cond.instantiable_spec wi
  cases e2.symm.trans i1
  cases e3.symm.trans i2
  obtain ⟨kU, u1, u2⟩ := al.2.2 _ _ e3
  have hB : Blank ST x D P.U := ⟨hD, ⟨knV, fun q hq => by rw [hq] at obV; cases obV⟩, by rw [al.findClass]; exact e2, kU, u1, by rw [u2]; exact i3, by rw [u2]; exact e5 i3⟩
  have F1 : Found ST "value" "[B" fV P.U := ⟨SBG.found_only al ⟨cfV, kV, iV, gV⟩, stV⟩
  have F2 : Found ST "coder" "B" fC P.U := ⟨SBG.found_only al ⟨cfC, kC, iC, gC⟩, stC⟩
  have hA : Ch b A P.U := ⟨⟨K.1, State.isArrayOf_alike al K.2.1, K.2.2, by omega⟩, hty⟩
  have hS : StaticIs P.U ST "COMPACT_STRINGS" "Z" (.int z) := by
    obtain ⟨cfS, iS, kS, fS, st, cS, t1, t2, t3, t4, t5, t6, t7⟩ := S
    exact StaticIs.there (s := { Z with heap := P.U.heap }) ⟨cfS, iS, kS, fS, st, cS, t1, t2, t3, t4, t5, (fun q => by rw [q] at t6; cases t6), t7⟩ al rfl
  obtain ⟨v, B, X', ⟨⟨hv, E', V', q1, q2, q3, q4, q5, q6, q7, q8, q9, q10, q11⟩, hl, hc, hs⟩, st⟩ := New1.pays x D fV fC b A z (tab_of (moved hZ hw)) hfr hlo m meth c P g ig mk _ X hg hsize hdg hW hn ⟨r1, r2, rfl, hB, F1, F2, hA, hS, hz, l0, l2, hp⟩
  have al' : Z.vm.Alike B.U.vm := hZ.alike.trans X'.warmed.alike
  have hsz : E'.slots.size = D.slots.size := by
    obtain ⟨-, -, -, kB, w1, w2, w3⟩ := q1
    obtain ⟨kB', y1, y2⟩ := al'.2.2 _ _ e3
    rw [q2.2.1] at w1
    cases w1.symm.trans y1
    rw [w3, e5 i3, y2]
  refine ⟨v, B, X', ⟨_, ⟨hv, ?_, ⟨by omega, fun y cy hy hn' => q10 y cy (by simpa using hn') hy, fun y cy hy => ?_⟩, q11, ⟨E', _, q1.1, by rw [q2.2.1]; exact e2, by rw [q2.2.1]; exact e3, by rw [q2.1]; exact obV, fun _ => by rw [hsz]; exact e5 i3⟩,
    ⟨E', cfV, kV, iV, fV, q1.1, gV, stV, by rw [q2.1]; exact knV, by rw [q2.1]; exact obV, by rw [q2.2.1]; exact asV, q3⟩, ⟨E', cfC, kC, iC, fC, q1.1, gC, stC, by rw [q2.1]; exact knV, by rw [q2.1]; exact obV, by rw [q2.2.1]; exact asC, q4⟩,
    ⟨V', ⟨q5.1, State.isArrayOf_alike al'.symm q5.2.1, q5.2.2.1⟩, q6, by rw [← al'.findClass]; exact q7, q8, fun j hj => by have := q9 j hj; rwa [Nat.zero_add] at this⟩, fun O n d w F n1 n2 => ?_⟩, hl, hc, hs⟩, st⟩
  · intro y hy
    simp only [List.mem_cons, List.not_mem_nil, or_false] at hy
    rcases hy with rfl | rfl <;> rfl
  · by_cases q : y = x
    · subst q
      cases hD.symm.trans hy
      exact ⟨E', q1.1, q2.2.1, q2.1, hsz⟩
    · exact ⟨cy, q10 y cy q hy, rfl, rfl, rfl⟩
  · obtain ⟨D3, cf, k, i, f, g1, g2, g3, g4, g5, g6, g7⟩ := F
    cases hD.symm.trans g1
    simp only [RoadKit.slotOf, g2, gV, gC, Option.map_some, Option.getD_some] at n1 n2
    exact ⟨E', cf, k, i, f, q1.1, g2, g3, by rw [q2.1]; exact g4, by rw [q2.1]; exact g5, by rw [q2.2.1]; exact g6, by rw [q2.2.2 f.slot (by simp [n1, n2])]; exact g7⟩
end StrChars.Road
namespace StrChars.Road
open Jvm Sem ClassFile Op Lib Jvm.Stand Jvm.Free Jvm.Free.XT
/-- WHAT COMES BACK, the byte[] as a list of values -/
def QA (Z : State) (x : Addr) (zn : Int32) (cs : List Int32) (h : Heap) (v : Option Value) (h' : Heap) (L : List Loc) : Prop := v = none ∧ (∀ y ∈ L, y.base = x) ∧ RoadKit.Keep h h' [x] ∧ h'.size = h.size + 1 ∧ RoadKit.Exa Z h' x ST ∧ RoadKit.Fld Z h' x ST "value" "[B" (.ref h.size) ∧ RoadKit.Fld Z h' x ST "coder" "B" (.int 0) ∧
  (∃ kb, Z.vm.findClass "[B" = some kb ∧ RoadKit.Arv Z h' h.size kb .byte zn (cs.map fun c => .int (lo8 c)) (.int 0)) ∧
  ∀ (O n d : String) (w : Value), RoadKit.Fld Z h x O n d w → RoadKit.slotOf Z O n d ≠ RoadKit.slotOf Z ST "value" "[B" → RoadKit.slotOf Z O n d ≠ RoadKit.slotOf Z ST "coder" "B" → RoadKit.Fld Z h' x O n d w
/-- **new String(chars) AT A CALL, THE ARRAYS AS LISTS**: the char[] at b holds cs, not empty, no char above 255 -/
theorem backArv {p : Program} {l : Launch} {e : Env} {R : Room} {s : State} {args : Array Value} {below : List Frame} {len W : Nat} {Z : State} {a0 : Array Value} {h : Heap} (hZ : Z.Warmed39 s.vm) (hw : ∀ d ∈ words, d.before a0 Z = true) {kI : Nat} (wi : (Jvm.Cond.instantiable ST kI).before a0 Z = true)
    {x b : Addr} {k : ClassId} {zn z : Int32} {cs : List Int32} {dv v0 c0 : Value} (E : RoadKit.Exa Z h x ST) (V : RoadKit.Fld Z h x ST "value" "[B" v0) (C : RoadKit.Fld Z h x ST "coder" "B" c0) (K : RoadKit.Arv Z h b k .char zn (cs.map Value.int) dv) (S : RoadKit.Sta Z h ST "COMPACT_STRINGS" "Z" (.int z)) (hz : ¬ z = 0)
    (hlen : zn.toNatClampNeg = cs.length) (h0 : 0 < cs.length) (hbig : cs.length ≤ 536870912) (hall : ∀ c ∈ cs, ¬ 255 < c) (hfr : 4 ≤ R.frames) (hlo : W + 65 ≤ R.locals) :
    Back l R p e below s args New1.yN len W (fun P a => a = #[.ref x, .ref b] ∧ P.U.heap = h ∧ P.cells + 1 ≤ R.cells ∧ P.slots + cs.length ≤ R.slots)
      (fun P _ v B => ∃ L, QA Z x zn cs h v B.U.heap L ∧ B.locs = P.locs ++ L ∧ B.cells = P.cells + 1 ∧ B.slots = P.slots + cs.length) := by
  obtain ⟨A, K1, K2, K3, K4, K5, K6⟩ := K
  have e : A.slots.size = cs.length := K3.trans hlen
  have hat : ∀ (i : Nat) (hi : i < cs.length), A.slots[i]? = some (.int cs[i]) := fun i hi => by rw [K5 i (by omega)]; simp [List.getD_eq_getElem?_getD, hi]
  have hcv : ∀ (i : Nat) (hi : i < cs.length), cv A i = cs[i] := fun i hi => by unfold cv; rw [hat i hi]
  have hty : Typed .char A := fun i v hv => by
    have hi : i < A.slots.size := (Array.getElem?_eq_some_iff.mp hv).1
    have q := K5 i hi
    rw [hv] at q
    rw [Option.some.inj q]
    exact K6 i hi
  refine Back.mono (back hZ hw wi E V C K1 hty S hz (by omega) (by omega) (fun i hi => by rw [hcv i (by omega)]; exact hall _ (List.getElem_mem _)) hfr hlo) (fun P a hp => ⟨hp.1, hp.2.1, hp.2.2.1, by rw [e]; exact hp.2.2.2⟩) (fun P a v B hp hq => ?_)
  obtain ⟨L, ⟨q1, q2, q3, q4, q5, q6, q7, ⟨V', v1, v2, v3, v4, v5⟩, q9⟩, hl, hc, hs⟩ := hq
  refine ⟨L, ⟨q1, q2, q3, q4, q5, q6, q7, ⟨V'.cls, v3, V', v1, rfl, by rw [v4, e, hlen], K4, fun i hi => ?_, fun i hi => ?_⟩, q9⟩, hl, hc, by rw [hs, e]⟩
  · have hi' : i < cs.length := by omega
    rw [v5 i (by omega), hcv i hi']; simp [List.getD_eq_getElem?_getD, hi']
  · have hi' : i < cs.length := by omega
    simp only [List.getD_eq_getElem?_getD, List.getElem?_map, List.getElem?_eq_getElem hi', Option.map_some, Option.getD_some]
    exact fits_lo8 _
end StrChars.Road
namespace StrChars.Road
open Jvm Sem ClassFile Op Lib Jvm.Stand Jvm.Free Jvm.Free.XT
/-- WHAT COMES BACK, in the writer's own shape -/
def QV (Z : State) (x : Addr) (N : Int32) (bs : List Int32) (h : Heap) (n0 : Nat) (v : Option Value) (h' : Heap) (L : List Loc) : Prop := v = none ∧ RoadKit.Fr n0 L ∧ RoadKit.Keep h h' [x] ∧ RoadKit.Exa Z h' x ST ∧ RoadKit.Fld Z h' x ST "coder" "B" (.int 0) ∧
  ∃ (t : Addr) (kb : ClassId), n0 ≤ t ∧ h.size ≤ t ∧ ¬ t = x ∧ RoadKit.Fld Z h' x ST "value" "[B" (.ref t) ∧ RoadKit.Arv Z h' t kb .byte N (bs.map Value.int) (.int 0)
/-- **new String(chars) AT A CALL, FOR THE WRITER**: a char[] of n known ints, each 0 to 255 -/
theorem backV {p : Program} {l : Launch} {e : Env} {R : Room} {s : State} {args : Array Value} {below : List Frame} {len W : Nat} {Z : State} {a0 : Array Value} {h : Heap} (hZ : Z.Warmed39 s.vm) (hw : ∀ d ∈ words, d.before a0 Z = true) {kI : Nat} (wi : (Jvm.Cond.instantiable ST kI).before a0 Z = true)
    {x b : Addr} {kC : ClassId} {cs bs : List Int32} {d v0 c0 : Value} {z N : Int32} {n n0 : Nat} (hx0 : n0 ≤ x) (hh0 : n0 ≤ h.size) (E : RoadKit.Exa Z h x ST) (V : RoadKit.Fld Z h x ST "value" "[B" v0) (C : RoadKit.Fld Z h x ST "coder" "B" c0) (K : RoadKit.Arv Z h b kC .char N (cs.map Value.int) d) (S : RoadKit.Sta Z h ST "COMPACT_STRINGS" "Z" (.int z)) (hz : ¬ z = 0)
    (hn : cs.length = n) (hN : N = Int32.ofNat n) (l0 : 0 < n) (l2 : n ≤ 4000) (hp : ∀ c ∈ cs, ¬ c < 0 ∧ ¬ (255 : Int32) < c) (hb : bs = cs.map (fun c => c.toInt8.toInt32)) (hfr : 4 ≤ R.frames) (hlo : W + 65 ≤ R.locals) :
    Back l R p e below s args (⟨"java/lang/String", "<init>", "([C)V"⟩ : MethodName) len W (fun P a => a = #[.ref x, .ref b] ∧ P.U.heap = h ∧ P.cells + 1 ≤ R.cells ∧ P.slots + n ≤ R.slots)
      (fun P _ v B => ∃ L, QV Z x N bs h n0 v B.U.heap L ∧ B.locs = P.locs ++ L ∧ B.cells = P.cells + 1 ∧ B.slots = P.slots + n) := by
  subst hn hN hb
  refine Back.mono (backArv hZ hw wi E V C K S hz (n32 (by omega)) l0 (by omega) (fun c hc => (hp c hc).2) hfr hlo) (fun P a hp => hp) (fun P a v B hp hq => ?_)
  obtain ⟨L, ⟨q1, q2, q3, q4, q5, q6, q7, ⟨kb, v1, v2⟩, q9⟩, hl, hc, hs⟩ := hq
  exact ⟨L, ⟨q1, fun y hy => by rw [q2 y hy]; exact hx0, q3, q5, q7, h.size, kb, hh0, Nat.le_refl _, Nat.ne_of_gt E.lt, q6, by rw [List.map_map]; exact v2⟩, hl, hc, hs⟩
end StrChars.Road
end Jvm.Pilot.@@N@@
namespace Jvm.Pilot.@@N@@
open Jvm Jvm.ClassFile Sem Op Lib Jvm.Free Jvm.Stand Jvm.LawKit Jvm.RoadKit Bundle Jvm.Pilot.@@N@@.Jvm.D
def EL0 : List (String × Nat) := []
section Own
variable {p : Program} {l : Launch} {e : Env} {R rm : Room} {s : State} {m : MethodId} {args : Array Value} {below : List Frame} {meth : Method} {c : Code} {own nm : String} {bytes : ByteArray} {ml : Nat} {rt : Option FieldType} {Z : State} {a0 : Array Value} {EL : List (String × Nat)} {h0 : Heap} {ws : List Addr} {T : State} {h h' : Heap} {cells slots : Nat} {Q : Outcome → State → Prop} {Qv : Option Value → Heap → Prop} {pc : Nat} {Ls : Array Slot} {rest : List Value}
/-- the run from U comes to an end that says Q -/
def Go (p : Program) (e : Env) (below : List Frame) (Q : Outcome → State → Prop) (U : State) : Prop := ∃ s₂ o, Steps p.tables e below U s₂ ∧ s₂.status = .running ∧ Ended s₂ below o ∧ Q o s₂
theorem Go.of {U V : State} (g : Go p e below Q V) (k : ∀ t, Steps p.tables e below V t → Steps p.tables e below U t) : Go p e below Q U := by
  obtain ⟨s2, o, a, b⟩ := g; exact ⟨s2, o, k _ a, b⟩
/-- where the walk stands: all that does not depend on the road behind; vm0: the tables over which its Stand is -/
abbrev PosV (p : Program) (l : Launch) (e : Env) (R : Room) (s : State) (m : MethodId) (args : Array Value) (below : List Frame) (meth : Method) (c : Code) (own nm : String) (bytes : ByteArray) (ml : Nat) (rt : Option FieldType) (Z : State) (a0 : Array Value) (EL : List (String × Nat)) (h0 : Heap) (ws : List Addr) (T : State) (h : Heap) (cells slots : Nat) (vm0 : Vm) : Prop :=
  ∃ (k0 : Nat) (locs : List Loc), Stand p l e R (s.setVm vm0) m args below meth c T locs cells slots ∧
    (p.tables.exec = Jvm.exec ∧ c.code = bytes ∧ c.maxLocals = ml ∧ meth.sig.returnType = rt ∧ meth.locks = false ∧ meth.name = nm ∧ s.heap = h0 ∧ EW Z a0 EL ∧ Z.Warmed39 s.vm) ∧
    Z.Warmed39 vm0 ∧ vm0.findClass own = some m.cls ∧ s.Since vm0 k0 ∧ k0 ≤ h.size ∧ T.heap = h ∧ CHr Z EL s.vm h0 vm0 h ∧ Fr Z.heap.size locs ∧ Keep h0 h ws ∧ Ext Z.heap h
def Pos (p : Program) (l : Launch) (e : Env) (R : Room) (s : State) (m : MethodId) (args : Array Value) (below : List Frame) (meth : Method) (c : Code) (own nm : String) (bytes : ByteArray) (ml : Nat) (rt : Option FieldType) (Z : State) (a0 : Array Value) (EL : List (String × Nat)) (h0 : Heap) (ws : List Addr) (T : State) (h : Heap) (cells slots : Nat) : Prop :=
  ∃ vm0 : Vm, PosV p l e R s m args below meth c own nm bytes ml rt Z a0 EL h0 ws T h cells slots vm0
/-- how a contract ends -/
def Fini (Z : State) (EL : List (String × Nat)) (h0 : Heap) (ws : List Addr) (rm : Room) (Qv : Option Value → Heap → Prop) (s : State) (o : Outcome) (t : State) : Prop :=
  ∃ v L, o = .returned v ∧ (Fr Z.heap.size L ∧ Keep h0 t.heap ws ∧ Ext Z.heap t.heap ∧ Qv v t.heap) ∧ CHr Z EL s.vm s.heap t.vm t.heap ∧ ReturnedEndW s o t L rm.cells rm.slots
/-- a method's contract: what it leaves where it is called with these arguments over the heap h0 -/
def Con (l : Launch) (Z : State) (EL : List (String × Nat)) (wl : List Jvm.Cond) (y : MethodName) (bytes : ByteArray) (ml : Nat) (rt : Option FieldType) (rm : Room) (as : Array Value) (h0 : Heap) (ws : List Addr) (Qv : Option Value → Heap → Prop) : Prop :=
  MetFree l y (head1 (Jvm.Cond.code y bytes ml rt :: wl) rm) (fun a U => a = as ∧ Z.Warmed39 U.vm ∧ U.heap = h0 ∧ CHv Z EL U.vm h0) (fun _ _ _ _ _ => True) (fun _ U o U' => ∃ v L, o = .returned v ∧ (Fr Z.heap.size L ∧ Keep h0 U'.heap ws ∧ Ext Z.heap U'.heap ∧ Qv v U'.heap) ∧ CHr Z EL U.vm U.heap U'.vm U'.heap ∧ ReturnedEndW U o U' L rm.cells rm.slots)
theorem Con.of {wl : List Jvm.Cond} {y : MethodName} {as : Array Value} {f0 : MethodId → JFrame} (hpn : plainFor y = true) (hEL : EW Z a0 EL) (hO : Ext Z.heap h0) (hf0 : ∀ m, entryFrame m as ml = f0 m)
    (body : ∀ p e s m below meth c s₁, Pos p l e rm s m as below meth c y.cls y.name bytes ml rt Z a0 EL h0 ws s₁ h0 0 0 → Go p e below (Fini Z EL h0 ws rm Qv s) (s₁.setTop (f0 m))) : Con l Z EL wl y bytes ml rt rm as h0 ws Qv := by
  refine MetFree.of_bodySF (code := bytes) (maxLocals := ml) (ret := rt) hpn hisR ?_
  intro p e s m args below meth c s₁ Bd hml0 hP hK
  obtain ⟨rfl, hZ, hh, hC⟩ := hP
  have hown : s.vm.findClass y.cls = some m.cls := findClass_of_methodNamed Bd.named
  have hnm := (name_of_methodNamed Bd.named Bd.method).1
  have X0 : Stand p l e rm s m args below meth c s₁ [] 0 0 := Stand.of_body Bd
  have e0 : s₁.heap = h0 := by rw [← hh, Bd.state]; rfl
  have hP : Pos p l e rm s m args below meth c y.cls y.name bytes ml rt Z a0 EL h0 ws s₁ h0 0 0 :=
    ⟨s.vm, h0.size, [], X0, ⟨Bd.exec, Bd.bytes, hml0, Bd.returns, Bd.notSynchronized, hnm, hh, hEL, hZ⟩, hZ, hown, State.WarmedH.since (State.WarmedH.refl s) _, Nat.le_refl _, e0, CHr.refl hC, Fr.nil _, Keep.refl _ _, hO⟩
  obtain ⟨s2, o, a, b, c', d⟩ := body p e s m below meth c s₁ hP
  rw [hf0]
  exact ⟨s2, o, a, b, c', d⟩
theorem Pos.xs {U V : State} (P : Pos p l e R s m args below meth c own nm bytes ml rt Z a0 EL h0 ws T h cells slots)
    (f : At T m c below → p.tables.exec = Jvm.exec → c.code = bytes → ∀ t, Steps p.tables e below V t → Steps p.tables e below U t) (g : Go p e below Q V) : Go p e below Q U := by
  obtain ⟨vm0, k0, locs, X, ⟨hx, hby, -⟩, -⟩ := P
  exact g.of (f X.here hx hby)
theorem Pos.st {U V : State} (P : Pos p l e R s m args below meth c own nm bytes ml rt Z a0 EL h0 ws T h cells slots)
    (f : ∀ (vm0 : Vm) (locs : List Loc), Stand p l e R (s.setVm vm0) m args below meth c T locs cells slots → p.tables.exec = Jvm.exec → c.code = bytes → ∀ t, Steps p.tables e below V t → Steps p.tables e below U t) (g : Go p e below Q V) : Go p e below Q U := by
  obtain ⟨vm0, k0, locs, X, ⟨hx, hby, -⟩, -⟩ := P
  exact g.of (f vm0 locs X hx hby)
theorem Pos.old (P : Pos p l e R s m args below meth c own nm bytes ml rt Z a0 EL h0 ws T h cells slots) : Ext Z.heap h := by
  obtain ⟨vm0, k0, locs, X, -, -, -, -, -, -, -, -, -, O⟩ := P; exact O
theorem Pos.kept (P : Pos p l e R s m args below meth c own nm bytes ml rt Z a0 EL h0 ws T h cells slots) : Keep h0 h ws := by
  obtain ⟨vm0, k0, locs, X, -, -, -, -, -, -, -, -, K, -⟩ := P; exact K
theorem Pos.wider (P : Pos p l e R s m args below meth c own nm bytes ml rt Z a0 EL h0 ws T h cells slots) {cells' slots' : Nat} (hc : cells ≤ cells') (hs : slots ≤ slots') : Pos p l e R s m args below meth c own nm bytes ml rt Z a0 EL h0 ws T h cells' slots' := by
  obtain ⟨vm0, k0, locs, X, r⟩ := P
  exact ⟨vm0, k0, locs, { X with same := X.same.mono hc hs }, r⟩
/-- nothing old was written at the end: every way to leave -/
theorem Pos.ret {w : Option Value} {i : Instr} (P : Pos p l e R s m args below meth c own nm bytes ml rt Z a0 EL h0 ws T h cells slots) {stk : List Value}
    (hv : rt = none → w = none)
    (hst : ∀ (vm0 : Vm) (locs : List Loc) (fs : List Frame), Stand p l e R (s.setVm vm0) m args below meth c T locs cells slots → p.tables.exec = Jvm.exec → c.code = bytes → meth.sig.returnType = rt → (∀ (f : JFrame) (acts : List Action), f.method = m → f.locked = none → f.entered = [] → (doReturn e (T.setTop f) acts w).1 = T.setFrames fs) → Steps p.tables e below (T.setTop (mkF m pc Ls stk)) (T.setFrames fs))
    (hc : cells ≤ rm.cells) (hs : slots ≤ rm.slots) (q : Qv w h) : Go p e below (Fini Z EL h0 ws rm Qv s) (T.setTop (mkF m pc Ls stk)) := by
  obtain ⟨vm0, k0, locs, X, ⟨hx, hby, hml, hret, hlk, hnm, hh, hEL, hZs⟩, hZ, hown, hS, hk, eT, hC, N, K, O⟩ := P
  obtain ⟨fs, hr, hrun, hended, r1, r2, r3, r4⟩ := X.leaveW hS (by rw [eT]; exact hk) (v := w) (fun q => hv (hret.symm.trans q)) hlk
  refine ⟨_, _, hst vm0 locs fs X hx hby hret hr, hrun, hended, w, locs, rfl, ⟨N, ?_, ?_, ?_⟩, ?_, r1, r2, r3, r4.mono hc hs⟩
  · show Keep h0 T.heap ws; rw [eT]; exact K
  · show Ext Z.heap T.heap; rw [eT]; exact O
  · show Qv w T.heap; rw [eT]; exact q
  · show CHr Z EL s.vm s.heap T.vm T.heap
    rw [eT, hh]; exact hC.trans (CHv.at X hZ hEL hC.1)
theorem Pos.retR {w : Value} {t : FieldType} (P : Pos p l e R s m args below meth c own nm bytes ml rt Z a0 EL h0 ws T h cells slots) (hret : rt = some t) (ht : t.isReference = true) (hw : w.isRef = true) (hd : decode bytes pc = .ok (.areturn, 1)) (hc : cells ≤ rm.cells) (hs : slots ≤ rm.slots) (q : Qv (some w) h) :
    Go p e below (Fini Z EL h0 ws rm Qv s) (T.setTop (mkF m pc Ls (w :: rest))) :=
  P.ret (i := .areturn) (fun q => by rw [hret] at q; cases q) (fun vm0 locs fs X hx hby hr hl => retOut X hx (i := .areturn) (hr.trans hret) (by cases w <;> first | (cases t <;> rfl) | (simp [Value.isRef] at hw)) (Or.inr (Or.inr (Or.inr (Or.inr ⟨rfl, ht, hw⟩)))) (hb hby hd) hl) hc hs q
theorem Pos.retN {z : Int32} {t : FieldType} (P : Pos p l e R s m args below meth c own nm bytes ml rt Z a0 EL h0 ws T h cells slots) (hret : rt = some t) (ht : t = .boolean ∨ t = .byte ∨ t = .char ∨ t = .short) (hd : decode bytes pc = .ok (.ireturn, 1)) (hc : cells ≤ rm.cells) (hs : slots ≤ rm.slots) (q : Qv (some (.int (nar t z))) h) :
    Go p e below (Fini Z EL h0 ws rm Qv s) (T.setTop (mkF m pc Ls (.int z :: rest))) :=
  P.ret (i := .ireturn) (fun q => by rw [hret] at q; cases q) (fun vm0 locs fs X hx hby hr hl => Jvm.RoadKit.retN X hx (hr.trans hret) ht (hb hby hd) hl) hc hs q
theorem Pos.retI {z : Int32} (P : Pos p l e R s m args below meth c own nm bytes ml rt Z a0 EL h0 ws T h cells slots) (hret : rt = some .int) (hd : decode bytes pc = .ok (.ireturn, 1)) (hc : cells ≤ rm.cells) (hs : slots ≤ rm.slots) (q : Qv (some (.int z)) h) :
    Go p e below (Fini Z EL h0 ws rm Qv s) (T.setTop (mkF m pc Ls (.int z :: rest))) :=
  P.ret (i := .ireturn) (fun q => by rw [hret] at q; cases q) (fun vm0 locs fs X hx hby hr hl => retOut X hx (i := .ireturn) (hr.trans hret) rfl (Or.inl ⟨rfl, Or.inl rfl, z, rfl⟩) (hb hby hd) hl) hc hs q
theorem Pos.retV (P : Pos p l e R s m args below meth c own nm bytes ml rt Z a0 EL h0 ws T h cells slots) (hret : rt = none) (hd : decode bytes pc = .ok (.return_, 1)) (hc : cells ≤ rm.cells) (hs : slots ≤ rm.slots) (q : Qv none h) :
    Go p e below (Fini Z EL h0 ws rm Qv s) (T.setTop (mkF m pc Ls [])) :=
  P.ret (i := .return_) (fun _ => rfl) (fun vm0 locs fs X hx hby hr hl => X.returnOut hx (hr.trans hret) (hb hby hd) hl) hc hs q
/-- a step that leaves the heap, given in the library's shape -/
theorem Pos.same {U : State} (P : Pos p l e R s m args below meth c own nm bytes ml rt Z a0 EL h0 ws T h cells slots) {V : State → State}
    (f : ∀ (vm0 : Vm) (locs : List Loc), Stand p l e R (s.setVm vm0) m args below meth c T locs cells slots → p.tables.exec = Jvm.exec → c.code = bytes → c.maxLocals = ml → Z.Warmed39 vm0 → vm0.findClass own = some m.cls → T.heap = h →
      ∃ T', Stand p l e R (s.setVm vm0) m args below meth c T' locs cells slots ∧ T'.heap = h ∧ ∀ t, Steps p.tables e below (V T') t → Steps p.tables e below U t)
    (k : ∀ T', Pos p l e R s m args below meth c own nm bytes ml rt Z a0 EL h0 ws T' h cells slots → Go p e below Q (V T')) : Go p e below Q U := by
  obtain ⟨vm0, k0, locs, X, ⟨hx, hby, hml, hret, hlk, hnm, hh, hEL, hZs⟩, hZ, hown, hS, hk, eT, r⟩ := P
  obtain ⟨T', X', e', st⟩ := f vm0 locs X hx hby hml hZ hown eT
  exact (k T' ⟨vm0, k0, locs, X', ⟨hx, hby, hml, hret, hlk, hnm, hh, hEL, hZs⟩, hZ, hown, hS, hk, e', r⟩).of st
theorem Pos.getF (P : Pos p l e R s m args below meth c own nm bytes ml rt Z a0 EL h0 ws T h cells slots) {R0 O n d host : String} {index : Nat} (w : (Jvm.Cond.fieldLink own index R0 n d).before a0 Z = true ∨ (Jvm.Cond.fieldLinkNest own index R0 n d host).before a0 Z = true) (via : Via Z R0 O n d) {a : Addr} {v : Value} (F : Fld Z h a O n d v) (hd : decode bytes pc = .ok (.getfield index, 3))
    (k : ∀ T', Pos p l e R s m args below meth c own nm bytes ml rt Z a0 EL h0 ws T' h cells slots → Go p e below Q (T'.setTop (mkF m (pc + 3) Ls (v :: rest)))) : Go p e below Q (T.setTop (mkF m pc Ls (.ref a :: rest))) :=
  P.same (V := fun T' => T'.setTop (mkF m (pc + 3) Ls (v :: rest))) (fun vm0 locs X hx hby hml hZ hown eT => Jvm.RoadKit.getF X hx hZ hown w via eT F (g := mkF m pc Ls (.ref a :: rest)) rfl rfl (hb hby hd)) k
theorem Pos.getS (P : Pos p l e R s m args below meth c own nm bytes ml rt Z a0 EL h0 ws T h cells slots) {R0 O n d host : String} {index : Nat} (w : (Jvm.Cond.fieldLink own index R0 n d).before a0 Z = true ∨ (Jvm.Cond.fieldLinkNest own index R0 n d host).before a0 Z = true) (via : Via Z R0 O n d) {v : Value} (F : Sta Z Z.heap O n d v) (hd : decode bytes pc = .ok (.getstatic index, 3))
    (k : ∀ T', Pos p l e R s m args below meth c own nm bytes ml rt Z a0 EL h0 ws T' h cells slots → Go p e below Q (T'.setTop (mkF m (pc + 3) Ls (v :: rest)))) : Go p e below Q (T.setTop (mkF m pc Ls rest)) :=
  have O := P.old
  P.same (V := fun T' => T'.setTop (mkF m (pc + 3) Ls (v :: rest))) (fun vm0 locs X hx hby hml hZ hown eT => getS2 X hx hZ hown w via eT (F.ext O) (g := mkF m pc Ls rest) rfl (hb hby hd)) k
theorem Pos.cast (P : Pos p l e R s m args below meth c own nm bytes ml rt Z a0 EL h0 ws T h cells slots) {K : String} {index : Nat} (w : (Jvm.Cond.classLink own index K).before a0 Z = true) {a : Addr} (F : Ins Z h a K true) (hd : decode bytes pc = .ok (.checkcast index, 3))
    (k : ∀ T', Pos p l e R s m args below meth c own nm bytes ml rt Z a0 EL h0 ws T' h cells slots → Go p e below Q (T'.setTop (mkF m (pc + 3) Ls (.ref a :: rest)))) : Go p e below Q (T.setTop (mkF m pc Ls (.ref a :: rest))) :=
  P.same (V := fun T' => T'.setTop (mkF m (pc + 3) Ls (.ref a :: rest))) (fun vm0 locs X hx hby hml hZ hown eT => castY X hx hZ hown w eT F (g := mkF m pc Ls (.ref a :: rest)) rfl rfl (hb hby hd)) k
theorem Pos.inst (P : Pos p l e R s m args below meth c own nm bytes ml rt Z a0 EL h0 ws T h cells slots) {K : String} {index : Nat} (w : (Jvm.Cond.classLink own index K).before a0 Z = true) {a : Addr} (F : Ins Z h a K true) (hd : decode bytes pc = .ok (.instanceof index, 3))
    (k : ∀ T', Pos p l e R s m args below meth c own nm bytes ml rt Z a0 EL h0 ws T' h cells slots → Go p e below Q (T'.setTop (mkF m (pc + 3) Ls (.int 1 :: rest)))) : Go p e below Q (T.setTop (mkF m pc Ls (.ref a :: rest))) :=
  P.same (V := fun T' => T'.setTop (mkF m (pc + 3) Ls (.int 1 :: rest))) (fun vm0 locs X hx hby hml hZ hown eT => instY X hx hZ hown w eT F (g := mkF m pc Ls (.ref a :: rest)) rfl rfl (hb hby hd)) k
theorem Pos.init0 (P : Pos p l e R s m args below meth c own nm bytes ml rt Z a0 EL h0 ws T h cells slots) {index W : Nat} (w1 : (Jvm.Cond.methodLink own index Lib.objectInit).before a0 Z = true) (w2 : (Jvm.Cond.instanceMethod Lib.objectInit).before a0 Z = true) (w3 : (Jvm.Cond.code Lib.objectInit ⟨#[0xb1]⟩ 1 none).before a0 Z = true) {a : Addr} (hd : decode bytes pc = .ok (.invokespecial index, 3)) (hsz : Ls.size = ml) (hf : 1 ≤ R.frames) (hW : (rest.map fun v => v.category).sum ≤ W) (hl : W + 12 ≤ R.locals)
    (k : ∀ T', Pos p l e R s m args below meth c own nm bytes ml rt Z a0 EL h0 ws T' h cells slots → Go p e below Q (T'.setTop (mkF m (pc + 3) Ls rest))) : Go p e below Q (T.setTop (mkF m pc Ls (.ref a :: rest))) :=
  P.same (V := fun T' => T'.setTop (mkF m (pc + 3) Ls rest)) (fun vm0 locs X hx hby hml hZ hown eT => initO X hx hZ hown w1 w2 w3 eT (g := mkF m pc Ls (.ref a :: rest)) rfl (by rw [hml]; exact hsz) rfl (hb hby hd) hf (W := W) (by show 2 * 0 + _ ≤ _; rw [Nat.mul_zero, Nat.zero_add]; exact hW) hl) k
/-- a step that makes new cells alone -/
theorem Pos.grow {U : State} {dc dn : Nat} {A : State → Heap → Prop} {V : State → State} (P : Pos p l e R s m args below meth c own nm bytes ml rt Z a0 EL h0 ws T h cells slots)
    (f : ∀ (vm0 : Vm) (locs : List Loc), Stand p l e R (s.setVm vm0) m args below meth c T locs cells slots → p.tables.exec = Jvm.exec → c.code = bytes → Z.Warmed39 vm0 → vm0.findClass own = some m.cls → T.heap = h →
      ∃ T' h', Stand p l e R (s.setVm vm0) m args below meth c T' locs (cells + dc) (slots + dn) ∧ T'.heap = h' ∧ Ext h h' ∧ A T' h' ∧ ∀ t, Steps p.tables e below (V T') t → Steps p.tables e below U t)
    (k : ∀ T' h', Pos p l e R s m args below meth c own nm bytes ml rt Z a0 EL h0 ws T' h' (cells + dc) (slots + dn) → Ext h h' → A T' h' → Go p e below Q (V T')) : Go p e below Q U := by
  obtain ⟨vm0, k0, locs, X, ⟨hx, hby, hml, hret, hlk, hnm, hh, hEL, hZs⟩, hZ, hown, hS, hk, eT, hC, N, K, O⟩ := P
  obtain ⟨T', h', X', e', E, hA, st⟩ := f vm0 locs X hx hby hZ hown eT
  exact (k T' h' ⟨vm0, k0, locs, X', ⟨hx, hby, hml, hret, hlk, hnm, hh, hEL, hZs⟩, hZ, hown, hS, Nat.le_trans hk E.1, e', hC.trans (CHr.ext E hC.1), N, K.ext E, ⟨Nat.le_trans O.1 E.1, fun a c q => E.2 _ _ (O.2 _ _ q)⟩⟩ E hA).of st
theorem Pos.newO (P : Pos p l e R s m args below meth c own nm bytes ml rt Z a0 EL h0 ws T h cells slots) {C : String} {index n : Nat} (w : (Jvm.Cond.classLink own index C).before a0 Z = true) (wi : (Jvm.Cond.instantiable C n).before a0 Z = true) (wz : (Jvm.Cond.initialized C).before a0 Z = true) (hd : decode bytes pc = .ok (.new index, 3)) (hc : cells + 1 ≤ R.cells) (hl : slots + n ≤ R.slots)
    (k : ∀ T' h' x, x = h.size → Pos p l e R s m args below meth c own nm bytes ml rt Z a0 EL h0 ws T' h' (cells + 1) (slots + n) → Ext h h' → Exa Z h' x C → (∀ {O nm d : String} {ty : FieldType}, Laid Z a0 C O nm d → parseFieldDescriptor d = some ty → Fld Z h' x O nm d (defaultValue ty)) → Go p e below Q (T'.setTop (mkF m (pc + 3) Ls (.ref x :: rest)))) : Go p e below Q (T.setTop (mkF m pc Ls rest)) :=
  P.grow (V := fun T' => T'.setTop (mkF m (pc + 3) Ls (.ref h.size :: rest))) (A := fun T' h' => Exa Z h' h.size C ∧ ∀ {O nm d : String} {ty : FieldType}, Laid Z a0 C O nm d → parseFieldDescriptor d = some ty → Fld Z h' h.size O nm d (defaultValue ty))
    (fun vm0 locs X hx hby hZ hown eT => by
      obtain ⟨T', h', X', e', E, A, D, -, st⟩ := Jvm.RoadKit.newO X hx hZ hown w wi wz eT (g := mkF m pc Ls rest) rfl (hb hby hd) hc hl
      exact ⟨T', h', X', e', E, ⟨A, D⟩, st⟩)
    (fun T' h' P' E A => k T' h' _ rfl P' E A.1 A.2)
theorem Pos.newP (P : Pos p l e R s m args below meth c own nm bytes ml rt Z a0 EL h0 ws T h cells slots) {aty : ArrayType} {n : Int32} {cap : Nat} (w : (Jvm.Cond.arrayClass (newarray.typeOf aty)).before a0 Z = true) (hd : decode bytes pc = .ok (.newarray aty, 2)) (hn : ¬ n < 0) (hcap : n.toNatClampNeg ≤ cap) (hb8 : cap * 8 ≤ 536870912) (hc : cells + 1 ≤ R.cells) (hl : slots + cap ≤ R.slots)
    (k : ∀ T' h' x cA, x = h.size → Pos p l e R s m args below meth c own nm bytes ml rt Z a0 EL h0 ws T' h' (cells + 1) (slots + cap) → Ext h h' → Arv Z h' x cA (newarray.typeOf aty) n [] (defaultValue (newarray.typeOf aty)) → Go p e below Q (T'.setTop (mkF m (pc + 2) Ls (.ref x :: rest)))) : Go p e below Q (T.setTop (mkF m pc Ls (.int n :: rest))) :=
  P.grow (V := fun T' => T'.setTop (mkF m (pc + 2) Ls (.ref h.size :: rest))) (A := fun T' h' => ∃ cA, Arv Z h' h.size cA (newarray.typeOf aty) n [] (defaultValue (newarray.typeOf aty)))
    (fun vm0 locs X hx hby hZ hown eT => by
      obtain ⟨T', h', cA, X', e', E, A, st⟩ := Jvm.RoadKit.newP X hx hZ w eT (g := mkF m pc Ls (.int n :: rest)) rfl (hb hby hd) rfl hn hcap hb8 hc hl
      exact ⟨T', h', X', e', E, ⟨cA, Arv.new A hn⟩, st⟩)
    (fun T' h' P' E A => by obtain ⟨cA, A⟩ := A; exact k T' h' _ cA rfl P' E A)
theorem Pos.newR (P : Pos p l e R s m args below meth c own nm bytes ml rt Z a0 EL h0 ws T h cells slots) {C : String} {index : Nat} {n : Int32} {cap : Nat} (w1 : (Jvm.Cond.classLink own index C).before a0 Z = true) (w2 : (Jvm.Cond.arrayOver (.object C)).before a0 Z = true) (hd : decode bytes pc = .ok (.anewarray index, 3)) (hn : ¬ n < 0) (hcap : n.toNatClampNeg ≤ cap) (hb8 : cap * 8 ≤ 536870912) (hc : cells + 1 ≤ R.cells) (hl : slots + cap ≤ R.slots)
    (k : ∀ T' h' x cA, x = h.size → Pos p l e R s m args below meth c own nm bytes ml rt Z a0 EL h0 ws T' h' (cells + 1) (slots + cap) → Ext h h' → Arv Z h' x cA (.object C) n [] .null → Ovr Z cA C → Go p e below Q (T'.setTop (mkF m (pc + 3) Ls (.ref x :: rest)))) : Go p e below Q (T.setTop (mkF m pc Ls (.int n :: rest))) :=
  P.grow (V := fun T' => T'.setTop (mkF m (pc + 3) Ls (.ref h.size :: rest))) (A := fun T' h' => ∃ cA, Arv Z h' h.size cA (.object C) n [] .null ∧ Ovr Z cA C)
    (fun vm0 locs X hx hby hZ hown eT => by
      obtain ⟨T', h', cA, X', e', E, A, O, st⟩ := Jvm.RoadKit.newR X hx hZ hown w1 w2 eT (g := mkF m pc Ls (.int n :: rest)) rfl (hb hby hd) rfl hn hcap hb8 hc hl
      exact ⟨T', h', X', e', E, ⟨cA, Arv.new A hn, O⟩, st⟩)
    (fun T' h' P' E A => by obtain ⟨cA, A, O⟩ := A; exact k T' h' _ cA rfl P' E A O)
/-- a step that writes one place of a -/
theorem Pos.wr {U : State} {a : Addr} {sl : Nat} {v : Value} {V : State → State} (P : Pos p l e R s m args below meth c own nm bytes ml rt Z a0 EL h0 ws T h cells slots)
    (hsafe : ∀ vm, Z.vm.Alike s.vm → Z.vm.Alike vm → CHr Z EL s.vm h0 vm h → Safe Z EL vm h a) (hz : Z.heap.size ≤ a) (hws : a ∈ ws ∨ h0.size ≤ a)
    (f : ∀ (vm0 : Vm) (locs : List Loc), Stand p l e R (s.setVm vm0) m args below meth c T locs cells slots → p.tables.exec = Jvm.exec → c.code = bytes → Z.Warmed39 vm0 → vm0.findClass own = some m.cls → T.heap = h → meth.name = nm →
      ∃ T' h', Stand p l e R (s.setVm vm0) m args below meth c T' (locs ++ [⟨a, sl⟩]) cells slots ∧ T'.heap = h' ∧ Wr h h' a sl v ∧ ∀ t, Steps p.tables e below (V T') t → Steps p.tables e below U t)
    (k : ∀ T' h', Pos p l e R s m args below meth c own nm bytes ml rt Z a0 EL h0 ws T' h' cells slots → Wr h h' a sl v → Go p e below Q (V T')) : Go p e below Q U := by
  obtain ⟨vm0, k0, locs, X, ⟨hx, hby, hml, hret, hlk, hnm, hh, hEL, hZs⟩, hZ, hown, hS, hk, eT, hC, N, K, O⟩ := P
  obtain ⟨T', h', X', e', W, st⟩ := f vm0 locs X hx hby hZ hown eT hnm
  exact (k T' h' ⟨vm0, k0, _, X', ⟨hx, hby, hml, hret, hlk, hnm, hh, hEL, hZs⟩, hZ, hown, hS, Nat.le_trans hk (Nat.le_of_eq W.size.symm), e', hC.trans (CHr.wr W (hsafe vm0 hZs.alike hZ.alike hC) hC.1), Fr.snoc X' N hz, K.wr W hws,
    (Old.wr (n0 := Z.heap.size) ⟨rfl, O⟩ W hz).2⟩ W).of st
theorem Pos.putF (P : Pos p l e R s m args below meth c own nm bytes ml rt Z a0 EL h0 ws T h cells slots) {R0 O n d C : String} {index kk : Nat} {ty : FieldType} {a : Addr} {v v' old : Value}
    (w : (Jvm.Cond.fieldLink own index R0 n d).before a0 Z = true) (via : Via Z R0 O n d) (F : Fld Z h a O n d old) (E : Exa Z h a C) (L : (Jvm.Cond.lays C O n d).before a0 Z = true ∨ ((Jvm.Cond.laysFinal C O n d).before a0 Z = true ∧ own = O ∧ nm = "<init>")) (wi : (Jvm.Cond.instantiable C kk).before a0 Z = true)
    (hty : parseFieldDescriptor d = some ty) (hn : narrow ty v = v') (hf : fits ty v' = true) (hd : decode bytes pc = .ok (.putfield index, 3))
    (hsafe : ∀ vm, Z.vm.Alike s.vm → Z.vm.Alike vm → CHr Z EL s.vm h0 vm h → Safe Z EL vm h a) (hz : Z.heap.size ≤ a) (hws : a ∈ ws ∨ h0.size ≤ a)
    (k : ∀ T' h', Pos p l e R s m args below meth c own nm bytes ml rt Z a0 EL h0 ws T' h' cells slots → Wr h h' a (Jvm.RoadKit.slotOf Z O n d) v' → Go p e below Q (T'.setTop (mkF m (pc + 3) Ls rest))) : Go p e below Q (T.setTop (mkF m pc Ls (v :: .ref a :: rest))) :=
  P.wr hsafe hz hws (V := fun T' => T'.setTop (mkF m (pc + 3) Ls rest)) (fun vm0 locs X hx hby hZ hown eT hnm => putFN X hx hZ hown w via eT F E (L.imp id fun q => ⟨q.1, q.2.1, hnm.trans q.2.2⟩) wi hty hn hf (g := mkF m pc Ls (v :: .ref a :: rest)) rfl rfl (hb hby hd)) k
theorem inb {j : Int32} {i : Nat} {cl : Cell} {z : Int32} (hj : j.toNatClampNeg = i) (hj0 : ¬ j < 0) (hS : cl.slots.size = z.toNatClampNeg) (hlt : i < z.toNatClampNeg) : ¬ (j < 0 ∨ cl.slots.size ≤ j.toNatClampNeg) := by
  rintro (q | q)
  · exact hj0 q
  · rw [hS, hj] at q; omega
theorem Pos.stC (P : Pos p l e R s m args below meth c own nm bytes ml rt Z a0 EL h0 ws T h cells slots) {a : Addr} {kc : ClassId} {z j x x' : Int32} {vs : List Value} {dv : Value} (A : Arv Z h a kc .char z vs dv) (i : Nat) (hj : j.toNatClampNeg = i) (hj0 : ¬ j < 0) (hlt : i < z.toNatClampNeg) (hi : i < vs.length) (hx' : nar .char x = x') (hd : decode bytes pc = .ok (.castore, 1)) (hz : Z.heap.size ≤ a) (hws : a ∈ ws ∨ h0.size ≤ a)
    (k : ∀ T' h', Pos p l e R s m args below meth c own nm bytes ml rt Z a0 EL h0 ws T' h' cells slots → Wr h h' a j.toNatClampNeg (.int x') → Arv Z h' a kc .char z (vs.set i (.int x')) dv → Go p e below Q (T'.setTop (mkF m (pc + 1) Ls rest))) : Go p e below Q (T.setTop (mkF m pc Ls (.int x :: .int j :: .ref a :: rest))) := by
  obtain ⟨cl, Ar, q1, S, N, H, G⟩ := A
  subst hx'
  refine P.wr (fun vm _ hal _ => Safe.arr hal Ar (by decide)) hz hws (V := fun T' => T'.setTop (mkF m (pc + 1) Ls rest)) (fun vm0 locs X hx hby hZ hown eT hnm => Jvm.RoadKit.stC X hx hZ eT Ar (inb hj hj0 S hlt) (g := mkF m pc Ls (.int x :: .int j :: .ref a :: rest)) rfl rfl (hb hby hd)) (fun T' h' P' W => k T' h' P' W (Arv.set Ar q1 S N H G (fits_nar_char x) W i hj hi))
theorem Pos.stR (P : Pos p l e R s m args below meth c own nm bytes ml rt Z a0 EL h0 ws T h cells slots) {a : Addr} {kc : ClassId} {C : String} {z j : Int32} {y : Addr} {vs : List Value} {dv : Value} (A : Arv Z h a kc (.object C) z vs dv) (O : Ovr Z kc C) (I : Ins Z h y C true) (i : Nat) (hj : j.toNatClampNeg = i) (hj0 : ¬ j < 0) (hlt : i < z.toNatClampNeg) (hi : i < vs.length) (hd : decode bytes pc = .ok (.aastore, 1)) (hz : Z.heap.size ≤ a) (hws : a ∈ ws ∨ h0.size ≤ a)
    (k : ∀ T' h', Pos p l e R s m args below meth c own nm bytes ml rt Z a0 EL h0 ws T' h' cells slots → Wr h h' a j.toNatClampNeg (.ref y) → Arv Z h' a kc (.object C) z (vs.set i (.ref y)) dv → Go p e below Q (T'.setTop (mkF m (pc + 1) Ls rest))) : Go p e below Q (T.setTop (mkF m pc Ls (.ref y :: .int j :: .ref a :: rest))) := by
  obtain ⟨cl, Ar, q1, S, N, H, G⟩ := A
  refine P.wr (fun vm _ hal _ => Safe.arr hal Ar nofun) hz hws (V := fun T' => T'.setTop (mkF m (pc + 1) Ls rest)) (fun vm0 locs X hx hby hZ hown eT hnm => Jvm.RoadKit.stR X hx hZ eT Ar (inb hj hj0 S hlt) rfl (Sto.ofV Ar q1 O I) (g := mkF m pc Ls (.ref y :: .int j :: .ref a :: rest)) rfl rfl (hb hby hd)) (fun T' h' P' W => k T' h' P' W (Arv.set Ar q1 S N H G rfl W i hj hi))
/-- a String constant, opaque -/
theorem Pos.ldcO (P : Pos p l e R s m args below meth c own nm bytes ml rt Z a0 EL h0 ws T h cells slots) {text : String} {index n : Nat} (w : (Jvm.Cond.stringLink own index text).before a0 Z = true) (wS : ∀ a ∈ Bundle.stringAtoms, a.before a0 Z = true) (hd : decode bytes pc = .ok (.ldc index, 2)) (hn : 4 * text.toList.length ≤ n) (hbig : n ≤ 536870912) (hc : cells + 2 ≤ R.cells) (hl : slots + (n + 4) ≤ R.slots)
    (k : ∀ T' h' x, Pos p l e R s m args below meth c own nm bytes ml rt Z a0 EL h0 ws T' h' (cells + 2) (slots + (n + 4)) → Ext h h' → Go p e below Q (T'.setTop (mkF m (pc + 2) Ls (.ref x :: rest)))) : Go p e below Q (T.setTop (mkF m pc Ls rest)) := by
  obtain ⟨vm0, k0, locs, X, ⟨hx, hby, hml, hret, hlk, hnm, hh, hEL, hZs⟩, hZ, hown, hS, hk, eT, hC, N, K, O⟩ := P
  obtain ⟨a, T', h', k1, X', e', E, hS', hk', hZ', hown', hC', -, st⟩ := ldcOH X hx hZ hown w wS eT hS hk hEL hC.1 (g := mkF m pc Ls rest) rfl (hb hby hd) hn hbig hc hl
  exact (k T' h' a ⟨T'.vm, k1, locs, X', ⟨hx, hby, hml, hret, hlk, hnm, hh, hEL, hZs⟩, hZ', hown', hS', hk', e', hC.trans hC', N, K.ext E, ⟨Nat.le_trans O.1 E.1, fun a c q => E.2 _ _ (O.2 _ _ q)⟩⟩ E).of st
/-- a String constant, read -/
theorem Pos.ldcR (P : Pos p l e R s m args below meth c own nm bytes ml rt Z a0 EL h0 ws T h cells slots) {text : String} {index n : Nat} {vs : List Value} {z : Int32} (w : (Jvm.Cond.stringLink own index text).before a0 Z = true) (wS : ∀ a ∈ Bundle.stringAtoms, a.before a0 Z = true) (hmem : (own, index) ∈ EL) (ht : (∀ c ∈ text.toList, c.toNat < 256) ∧ text.toList.map (fun c => Value.int (Jvm.Lit.byteI c.toNat.toUInt16)) = vs) (hz : ¬ z < 0) (hl0 : z.toNatClampNeg = vs.length) (hd : decode bytes pc = .ok (.ldc index, 2)) (hn : 4 * text.toList.length ≤ n) (hbig : n ≤ 536870912) (hc : cells + 2 ≤ R.cells) (hl : slots + (n + 4) ≤ R.slots)
    (k : ∀ T' h' x b kb, Pos p l e R s m args below meth c own nm bytes ml rt Z a0 EL h0 ws T' h' (cells + 2) (slots + (n + 4)) → Ext h h' → Exa Z h' x "java/lang/String" → Fld Z h' x "java/lang/String" "coder" "B" (.int 0) → Fld Z h' x "java/lang/String" "value" "[B" (.ref b) → Arv Z h' b kb .byte z vs (.int 0) → Go p e below Q (T'.setTop (mkF m (pc + 2) Ls (.ref x :: rest)))) : Go p e below Q (T.setTop (mkF m pc Ls rest)) := by
  obtain ⟨vm0, k0, locs, X, ⟨hx, hby, hml, hret, hlk, hnm, hh, hEL, hZs⟩, hZ, hown, hS, hk, eT, hC, N, K, O⟩ := P
  obtain ⟨a, T', h', k1, b, kb, X', e', E, hS', hk', hZ', hown', f1, f2, f3, f4, -, -, hC', -, -, st⟩ := ldcCH X hx hZ hown w wS eT hS hk hEL hmem hC.1 ht hz hl0 (g := mkF m pc Ls rest) rfl (hb hby hd) hn hbig hc hl
  exact (k T' h' a b kb ⟨T'.vm, k1, locs, X', ⟨hx, hby, hml, hret, hlk, hnm, hh, hEL, hZs⟩, hZ', hown', hS', hk', e', hC.trans hC', N, K.ext E, ⟨Nat.le_trans O.1 E.1, fun a c q => E.2 _ _ (O.2 _ _ q)⟩⟩ E f1 f2 f3 f4).of st
/-- behind a call by contract: the point, all its facts -/
theorem Pos.after {vm0 : Vm} {k0 : Nat} {locs L : List Loc} {dc dn cc nn : Nat} {ws' : List Addr} {U : State} {LL : List Loc}
    (hR : p.tables.exec = Jvm.exec ∧ c.code = bytes ∧ c.maxLocals = ml ∧ meth.sig.returnType = rt ∧ meth.locks = false ∧ meth.name = nm ∧ s.heap = h0 ∧ EW Z a0 EL ∧ Z.Warmed39 s.vm) (hZ : Z.Warmed39 vm0) (hown : vm0.findClass own = some m.cls) (hS : s.Since vm0 k0) (hk : k0 ≤ h.size) (eT : T.heap = h) (hC : CHr Z EL s.vm h0 vm0 h) (N : Fr Z.heap.size locs) (K : Keep h0 h ws)
    (X' : Stand p l e R ((s.setVm vm0).setVm U.vm) m args below meth c U LL cc nn) (hS2 : (s.setVm vm0).Since U.vm U.heap.size) (g : T.heap.size ≤ U.heap.size) (hLL : LL = locs ++ L) (hcc : cc = cells + dc) (hnn : nn = slots + dn) (hC' : CHr Z EL vm0 h U.vm U.heap) (N' : Fr Z.heap.size L) (K' : Keep h U.heap ws') (O' : Ext Z.heap U.heap) (hws : ∀ x ∈ ws', x ∈ ws ∨ h0.size ≤ x) :
    Pos p l e R s m args below meth c own nm bytes ml rt Z a0 EL h0 ws U U.heap (cells + dc) (slots + dn) := by
  subst hLL hcc hnn
  rw [eT] at g
  obtain ⟨Y, hS3, hZ3, ho3⟩ := rebS hS hk X' hS2 g hZ hown
  exact ⟨U.vm, _, _, Y, hR, hZ3, ho3, hS3, Nat.le_refl _, rfl, hC.trans hC', N.app N', K.trans K' hws, O'⟩
theorem Pos.callS (P : Pos p l e R s m args below meth c own nm bytes ml rt Z a0 EL h0 ws T h cells slots) {index : Nat} {y : MethodName} {bytes' : ByteArray} {ml' W : Nat} {rt' : Option FieldType} {argsL stk : List Value} {ws' : List Addr} {ps : List FieldType} {r : Option FieldType}
    (w1 : (Jvm.Cond.methodLink own index y).before a0 Z = true) (w2 : (Jvm.Cond.static y).before a0 Z = true) (w3 : (Jvm.Cond.initialized y.cls).before a0 Z = true) (w4 : (Jvm.Cond.code y bytes' ml' rt').before a0 Z = true) (hy : y.cls ≠ "java/lang/invoke/MethodHandle" ∧ y.cls ≠ "java/lang/invoke/VarHandle")
    (C : Con l Z EL [] y bytes' ml' rt' rm argsL.toArray h ws' Qv) (hf : rm.frames + 1 ≤ R.frames) (hl : W + (ml' + 11) + rm.locals ≤ R.locals) (hc : cells + rm.cells ≤ R.cells) (hs : slots + rm.slots ≤ R.slots) (hws : ∀ x ∈ ws', x ∈ ws ∨ h0.size ≤ x)
    (pd : parseMethodDescriptor y.desc = some ⟨ps, r⟩) (hlen : argsL.length = ps.length) (hst : stk = argsL.reverse ++ rest) (hsz : Ls.size = ml) (hW : (rest.map fun v => v.category).sum ≤ W) (hd : decode bytes pc = .ok (.invokestatic index, 3))
    (k : ∀ v T' h', Pos p l e R s m args below meth c own nm bytes ml rt Z a0 EL h0 ws T' h' (cells + rm.cells) (slots + rm.slots) → Keep h h' ws' → Qv v h' → Go p e below Q (T'.setTop (mkF m (pc + 3) Ls (v.toList ++ rest)))) : Go p e below Q (T.setTop (mkF m pc Ls stk)) := by
  obtain ⟨vm0, k0, locs, X, hR, hZ, hown, hS, hk, eT, hC, N, K, O⟩ := P
  have hR' := hR
  obtain ⟨hx, hby, hml, hret, hlk, hnm, hh, hEL, hZs⟩ := hR'
  obtain ⟨v, _, ⟨U, LL, cc, nn⟩, -, X', hS2, hg, ⟨L, ⟨N', K', O', hQ⟩, hLL, hcc, hnn, hC'⟩, st⟩ := callSS X hx (y := y) hown (mvT (s := s.setVm vm0) hZ w1) (mvT (s := s.setVm vm0) hZ w2) (mvT (s := s.setVm vm0) hZ w3) (mvT (s := s.setVm vm0) hZ w4) hy (backOfSH (W := W) (vm0 := vm0) (Q := fun v h' L => Fr Z.heap.size L ∧ Keep h h' ws' ∧ Ext Z.heap h' ∧ Qv v h') C hZ w4 w3 hf hl hEL hC.1) (g := mkF m pc Ls stk) rfl (by rw [hml]; exact hsz) (argsL := argsL) (rest := rest) (lenOf pd hlen) hst (by show 2 * 0 + _ ≤ _; rw [Nat.mul_zero, Nat.zero_add]; exact hW) (hb hby hd) (fun _ _ => ⟨rfl, eT, hc, hs⟩)
  dsimp only at X' hS2 hg hLL hcc hnn hC' st N' K' O' hQ
  exact (k v U U.heap (Pos.after hR hZ hown hS hk eT hC N K X' hS2 hg hLL hcc hnn hC' N' K' O' hws) K' hQ).of (fun t q => st.trans q)
theorem Pos.callI (P : Pos p l e R s m args below meth c own nm bytes ml rt Z a0 EL h0 ws T h cells slots) {index : Nat} {y : MethodName} {bytes' : ByteArray} {ml' W : Nat} {a : Addr} {argsL stk : List Value} {ws' : List Addr} {ps : List FieldType} {r : Option FieldType} (hy1 : y.name = "<init>")
    (w1 : (Jvm.Cond.methodLink own index y).before a0 Z = true) (w2 : (Jvm.Cond.instanceMethod y).before a0 Z = true) (w3 : (Jvm.Cond.initialized y.cls).before a0 Z = true) (w4 : (Jvm.Cond.code y bytes' ml' none).before a0 Z = true) (hy : y.cls ≠ "java/lang/invoke/MethodHandle" ∧ y.cls ≠ "java/lang/invoke/VarHandle")
    (C : Con l Z EL [] y bytes' ml' none rm (.ref a :: argsL).toArray h ws' Qv) (hf : rm.frames + 1 ≤ R.frames) (hl : W + (ml' + 11) + rm.locals ≤ R.locals) (hc : cells + rm.cells ≤ R.cells) (hs : slots + rm.slots ≤ R.slots) (hws : ∀ x ∈ ws', x ∈ ws ∨ h0.size ≤ x)
    (pd : parseMethodDescriptor y.desc = some ⟨ps, r⟩) (hlen : argsL.length = ps.length) (hst : stk = argsL.reverse ++ .ref a :: rest) (hsz : Ls.size = ml) (hW : (rest.map fun v => v.category).sum ≤ W) (hd : decode bytes pc = .ok (.invokespecial index, 3))
    (k : ∀ v T' h', Pos p l e R s m args below meth c own nm bytes ml rt Z a0 EL h0 ws T' h' (cells + rm.cells) (slots + rm.slots) → Keep h h' ws' → Qv v h' → Go p e below Q (T'.setTop (mkF m (pc + 3) Ls (v.toList ++ rest)))) : Go p e below Q (T.setTop (mkF m pc Ls stk)) := by
  obtain ⟨vm0, k0, locs, X, hR, hZ, hown, hS, hk, eT, hC, N, K, O⟩ := P
  have hR' := hR
  obtain ⟨hx, hby, hml, hret, hlk, hnm, hh, hEL, hZs⟩ := hR'
  obtain ⟨v, _, ⟨U, LL, cc, nn⟩, -, X', hS2, hg, ⟨L, ⟨N', K', O', hQ⟩, hLL, hcc, hnn, hC'⟩, st⟩ := X.specialBackS hx (y := y) hy1 hown (mvT (s := s.setVm vm0) hZ w1) (mvT (s := s.setVm vm0) hZ w2) (mvT (s := s.setVm vm0) hZ w4) hy (backOfSH (W := W) (vm0 := vm0) (Q := fun v h' L => Fr Z.heap.size L ∧ Keep h h' ws' ∧ Ext Z.heap h' ∧ Qv v h') C hZ w4 w3 hf hl hEL hC.1) (g := mkF m pc Ls stk) rfl (by rw [hml]; exact hsz) (Steps.refl _) (a := a) (argsL := argsL) (rest := rest) (lenOf pd hlen) hst (by show 2 * 0 + _ ≤ _; rw [Nat.mul_zero, Nat.zero_add]; exact hW) (hb hby hd) (fun _ _ => ⟨rfl, eT, hc, hs⟩)
  dsimp only at X' hS2 hg hLL hcc hnn hC' st N' K' O' hQ
  exact (k v U U.heap (Pos.after hR hZ hown hS hk eT hC N K X' hS2 hg hLL hcc hnn hC' N' K' O' hws) K' hQ).of (fun t q => st.trans q)
theorem Pos.callV (P : Pos p l e R s m args below meth c own nm bytes ml rt Z a0 EL h0 ws T h cells slots) {index : Nat} {y z : MethodName} {bytes' : ByteArray} {ml' W : Nat} {rt' : Option FieldType} {C : String} {a : Addr} {argsL stk : List Value} {ws' : List Addr} {ps : List FieldType} {r : Option FieldType}
    (w1 : (Jvm.Cond.methodLink own index y).before a0 Z = true) (w2 : (Jvm.Cond.declares y).before a0 Z = true) (w5 : (Jvm.Cond.selects C y z).before a0 Z = true) (hnf : ∀ vm0, Z.Warmed39 vm0 → NotFace (s.setVm vm0) y) (w6 : (Jvm.Cond.instanceMethod z).before a0 Z = true) (w3 : (Jvm.Cond.initialized z.cls).before a0 Z = true) (w4 : (Jvm.Cond.code z bytes' ml' rt').before a0 Z = true) (hy : y.cls ≠ "java/lang/invoke/MethodHandle" ∧ y.cls ≠ "java/lang/invoke/VarHandle") (E : Exa Z h a C)
    (Cn : Con l Z EL [] z bytes' ml' rt' rm (.ref a :: argsL).toArray h ws' Qv) (hf : rm.frames + 1 ≤ R.frames) (hl : W + (ml' + 11) + rm.locals ≤ R.locals) (hc : cells + rm.cells ≤ R.cells) (hs : slots + rm.slots ≤ R.slots) (hws : ∀ x ∈ ws', x ∈ ws ∨ h0.size ≤ x)
    (pd : parseMethodDescriptor y.desc = some ⟨ps, r⟩) (hlen : argsL.length = ps.length) (hst : stk = argsL.reverse ++ .ref a :: rest) (hsz : Ls.size = ml) (hW : (rest.map fun v => v.category).sum ≤ W) (hd : decode bytes pc = .ok (.invokevirtual index, 3))
    (k : ∀ v T' h', Pos p l e R s m args below meth c own nm bytes ml rt Z a0 EL h0 ws T' h' (cells + rm.cells) (slots + rm.slots) → Keep h h' ws' → Qv v h' → Go p e below Q (T'.setTop (mkF m (pc + 3) Ls (v.toList ++ rest)))) : Go p e below Q (T.setTop (mkF m pc Ls stk)) := by
  obtain ⟨vm0, k0, locs, X, hR, hZ, hown, hS, hk, eT, hC, N, K, O⟩ := P
  have hR' := hR
  obtain ⟨hx, hby, hml, hret, hlk, hnm, hh, hEL, hZs⟩ := hR'
  obtain ⟨cq, kq, qa, qb, qc⟩ := isOf (s := s.setVm vm0) (T := T) hZ eT E
  obtain ⟨v, _, ⟨U, LL, cc, nn⟩, -, X', hS2, hg, ⟨L, ⟨N', K', O', hQ⟩, hLL, hcc, hnn, hC'⟩, st⟩ := X.virtualBackS hx (y := y) (z := z) hown (mvT (s := s.setVm vm0) hZ w1) (mvT (s := s.setVm vm0) hZ w2) (hnf vm0 hZ) (mvT (s := s.setVm vm0) hZ w5) (mvT (s := s.setVm vm0) hZ w6) hy (backOfSH (W := W) (vm0 := vm0) (Q := fun v h' L => Fr Z.heap.size L ∧ Keep h h' ws' ∧ Ext Z.heap h' ∧ Qv v h') Cn hZ w4 w3 hf hl hEL hC.1) qa qc (g := mkF m pc Ls stk) rfl (by rw [hml]; exact hsz) (Steps.refl _) (argsL := argsL) (rest := rest) (lenOf pd hlen) hst (by show 2 * 0 + _ ≤ _; rw [Nat.mul_zero, Nat.zero_add]; exact hW) (hb hby hd) (fun _ _ => ⟨rfl, eT, hc, hs⟩)
  dsimp only at X' hS2 hg hLL hcc hnn hC' st N' K' O' hQ
  exact (k v U U.heap (Pos.after hR hZ hown hS hk eT hC N K X' hS2 hg hLL hcc hnn hC' N' K' O' hws) K' hQ).of (fun t q => st.trans q)
theorem nfOf {y : MethodName} {C : String} (w5 : (Jvm.Cond.selects C y y).before a0 Z = true) : ∀ vm0, Z.Warmed39 vm0 → NotFace (s.setVm vm0) y := fun vm0 hZ => notFace_of_selects (args := #[]) (mvT (s := s.setVm vm0) hZ w5)
/-- behind a call by one of the library's payers (it interns nothing) -/
theorem Pos.afterB {vm0 : Vm} {k0 : Nat} {locs L : List Loc} {dc dn cc nn : Nat} {ws' : List Addr} {U : State} {LL : List Loc}
    (hR : p.tables.exec = Jvm.exec ∧ c.code = bytes ∧ c.maxLocals = ml ∧ meth.sig.returnType = rt ∧ meth.locks = false ∧ meth.name = nm ∧ s.heap = h0 ∧ EW Z a0 EL ∧ Z.Warmed39 s.vm) (hZ : Z.Warmed39 vm0) (hown : vm0.findClass own = some m.cls) (hS : s.Since vm0 k0) (hk : k0 ≤ h.size) (hC : CHr Z EL s.vm h0 vm0 h) (N : Fr Z.heap.size locs) (K : Keep h0 h ws) (O : Ext Z.heap h)
    (X' : Stand p l e R (s.setVm vm0) m args below meth c U LL cc nn) (hLL : LL = locs ++ L) (hcc : cc = cells + dc) (hnn : nn = slots + dn) (N' : Fr Z.heap.size L) (K' : Keep h U.heap ws') (hws : ∀ x ∈ ws', (x ∈ ws ∨ h0.size ≤ x) ∧ Z.heap.size ≤ x) (hsafe : ∀ vm, Z.vm.Alike s.vm → Z.vm.Alike vm → CHr Z EL s.vm h0 vm h → ∀ x ∈ ws', Safe Z EL vm h x) :
    Pos p l e R s m args below meth c own nm bytes ml rt Z a0 EL h0 ws U U.heap (cells + dc) (slots + dn) := by
  subst hLL hcc hnn
  exact ⟨vm0, k0, _, X', hR, hZ, hown, hS, Nat.le_trans hk K'.1, rfl, hC.trans (CHr.keep K' (hsafe vm0 hR.2.2.2.2.2.2.2.2.alike hZ.alike hC) hC.1), N.app N', K.trans K' (fun x hx => (hws x hx).1), (Old.keep (n0 := Z.heap.size) ⟨rfl, O⟩ K' (fun x hx => (hws x hx).2)).2⟩
theorem Pos.specB (P : Pos p l e R s m args below meth c own nm bytes ml rt Z a0 EL h0 ws T h cells slots) {index : Nat} {y : MethodName} {bytes' : ByteArray} {ml' W dc dn : Nat} {a : Addr} {argsL stk : List Value} {as' : Array Value} {ws' : List Addr} {ps : List FieldType} {r : Option FieldType} {Qx : Option Value → Heap → List Loc → Prop} (hy1 : y.name = "<init>")
    (w1 : (Jvm.Cond.methodLink own index y).before a0 Z = true) (w2 : (Jvm.Cond.instanceMethod y).before a0 Z = true) (w4 : (Jvm.Cond.code y bytes' ml' none).before a0 Z = true) (hy : y.cls ≠ "java/lang/invoke/MethodHandle" ∧ y.cls ≠ "java/lang/invoke/VarHandle")
    (B : ∀ vm0 : Vm, Z.Warmed39 (s.setVm vm0).vm → Back l R p e below (s.setVm vm0) args y 3 W (fun P a => a = as' ∧ P.U.heap = h ∧ P.cells + dc ≤ R.cells ∧ P.slots + dn ≤ R.slots) (fun P _ v B => ∃ L, Qx v B.U.heap L ∧ B.locs = P.locs ++ L ∧ B.cells = P.cells + dc ∧ B.slots = P.slots + dn)) (has : (.ref a :: argsL).toArray = as')
    (hQ : ∀ v h' L, Qx v h' L → Fr Z.heap.size L ∧ Keep h h' ws') (hc : cells + dc ≤ R.cells) (hs : slots + dn ≤ R.slots) (hws : ∀ x ∈ ws', (x ∈ ws ∨ h0.size ≤ x) ∧ Z.heap.size ≤ x) (hsafe : ∀ vm, Z.vm.Alike s.vm → Z.vm.Alike vm → CHr Z EL s.vm h0 vm h → ∀ x ∈ ws', Safe Z EL vm h x)
    (pd : parseMethodDescriptor y.desc = some ⟨ps, r⟩) (hlen : argsL.length = ps.length) (hst : stk = argsL.reverse ++ .ref a :: rest) (hsz : Ls.size = ml) (hW : (rest.map fun v => v.category).sum ≤ W) (hd : decode bytes pc = .ok (.invokespecial index, 3))
    (k : ∀ v T' h' L, Pos p l e R s m args below meth c own nm bytes ml rt Z a0 EL h0 ws T' h' (cells + dc) (slots + dn) → Qx v h' L → Go p e below Q (T'.setTop (mkF m (pc + 3) Ls (v.toList ++ rest)))) : Go p e below Q (T.setTop (mkF m pc Ls stk)) := by
  obtain ⟨vm0, k0, locs, X, hR, hZ, hown, hS, hk, eT, hC, N, K, O⟩ := P
  have hR' := hR
  obtain ⟨hx, hby, hml, hret, hlk, hnm, hh, hEL, hZs⟩ := hR'
  obtain ⟨v, _, ⟨U, LL, cc, nn⟩, -, X', ⟨L, hq, hLL, hcc, hnn⟩, st⟩ := X.specialBack hx (y := y) hy1 hown (mvT (s := s.setVm vm0) hZ w1) (mvT (s := s.setVm vm0) hZ w2) (mvT (s := s.setVm vm0) hZ w4) hy (B vm0 hZ) (g := mkF m pc Ls stk) rfl (by rw [hml]; exact hsz) (Steps.refl _) (a := a) (argsL := argsL) (rest := rest) (lenOf pd hlen) hst (by show 2 * 0 + _ ≤ _; rw [Nat.mul_zero, Nat.zero_add]; exact hW) (hb hby hd) (fun _ _ => ⟨has, eT, hc, hs⟩)
  dsimp only at X' hLL hcc hnn st hq
  obtain ⟨N', K'⟩ := hQ _ _ _ hq
  exact (k v U U.heap L (Pos.afterB hR hZ hown hS hk hC N K O X' hLL hcc hnn N' K' hws hsafe) hq).of (fun t q => st.trans q)
theorem Pos.virtB (P : Pos p l e R s m args below meth c own nm bytes ml rt Z a0 EL h0 ws T h cells slots) {index : Nat} {y z : MethodName} {W dc dn : Nat} {C : String} {a : Addr} {argsL stk : List Value} {as' : Array Value} {ws' : List Addr} {ps : List FieldType} {r : Option FieldType} {Qx : Option Value → Heap → List Loc → Prop}
    (w1 : (Jvm.Cond.methodLink own index y).before a0 Z = true) (w2 : (Jvm.Cond.declares y).before a0 Z = true) (w5 : (Jvm.Cond.selects C y z).before a0 Z = true) (hnf : ∀ vm0, Z.Warmed39 vm0 → NotFace (s.setVm vm0) y) (w6 : (Jvm.Cond.instanceMethod z).before a0 Z = true) (hy : y.cls ≠ "java/lang/invoke/MethodHandle" ∧ y.cls ≠ "java/lang/invoke/VarHandle") (E : Exa Z h a C)
    (B : ∀ vm0 : Vm, Z.Warmed39 (s.setVm vm0).vm → Back l R p e below (s.setVm vm0) args z 3 W (fun P a => a = as' ∧ P.U.heap = h ∧ P.cells + dc ≤ R.cells ∧ P.slots + dn ≤ R.slots) (fun P _ v B => ∃ L, Qx v B.U.heap L ∧ B.locs = P.locs ++ L ∧ B.cells = P.cells + dc ∧ B.slots = P.slots + dn)) (has : (.ref a :: argsL).toArray = as')
    (hQ : ∀ v h' L, Qx v h' L → Fr Z.heap.size L ∧ Keep h h' ws') (hc : cells + dc ≤ R.cells) (hs : slots + dn ≤ R.slots) (hws : ∀ x ∈ ws', (x ∈ ws ∨ h0.size ≤ x) ∧ Z.heap.size ≤ x) (hsafe : ∀ vm, Z.vm.Alike s.vm → Z.vm.Alike vm → CHr Z EL s.vm h0 vm h → ∀ x ∈ ws', Safe Z EL vm h x)
    (pd : parseMethodDescriptor y.desc = some ⟨ps, r⟩) (hlen : argsL.length = ps.length) (hst : stk = argsL.reverse ++ .ref a :: rest) (hsz : Ls.size = ml) (hW : (rest.map fun v => v.category).sum ≤ W) (hd : decode bytes pc = .ok (.invokevirtual index, 3))
    (k : ∀ v T' h' L, Pos p l e R s m args below meth c own nm bytes ml rt Z a0 EL h0 ws T' h' (cells + dc) (slots + dn) → Qx v h' L → Go p e below Q (T'.setTop (mkF m (pc + 3) Ls (v.toList ++ rest)))) : Go p e below Q (T.setTop (mkF m pc Ls stk)) := by
  obtain ⟨vm0, k0, locs, X, hR, hZ, hown, hS, hk, eT, hC, N, K, O⟩ := P
  have hR' := hR
  obtain ⟨hx, hby, hml, hret, hlk, hnm, hh, hEL, hZs⟩ := hR'
  obtain ⟨cq, kq, qa, qb, qc⟩ := isOf (s := s.setVm vm0) (T := T) hZ eT E
  obtain ⟨v, _, ⟨U, LL, cc, nn⟩, -, X', ⟨L, hq, hLL, hcc, hnn⟩, st⟩ := X.virtualBack hx (y := y) (z := z) hown (mvT (s := s.setVm vm0) hZ w1) (mvT (s := s.setVm vm0) hZ w2) (hnf vm0 hZ) (mvT (s := s.setVm vm0) hZ w5) (mvT (s := s.setVm vm0) hZ w6) hy (B vm0 hZ) qa qc (g := mkF m pc Ls stk) rfl (by rw [hml]; exact hsz) (Steps.refl _) (argsL := argsL) (rest := rest) (lenOf pd hlen) hst (by show 2 * 0 + _ ≤ _; rw [Nat.mul_zero, Nat.zero_add]; exact hW) (hb hby hd) (fun _ _ => ⟨has, eT, hc, hs⟩)
  dsimp only at X' hLL hcc hnn st hq
  obtain ⟨N', K'⟩ := hQ _ _ _ hq
  exact (k v U U.heap L (Pos.afterB hR hZ hown hS hk hC N K O X' hLL hcc hnn N' K' hws hsafe) hq).of (fun t q => st.trans q)
theorem Pos.alen (P : Pos p l e R s m args below meth c own nm bytes ml rt Z a0 EL h0 ws T h cells slots) {a : Addr} {kc : ClassId} {ty : FieldType} {z : Int32} {vs : List Value} {dv : Value} (A : Arv Z h a kc ty z vs dv) (hd : decode bytes pc = .ok (.arraylength, 1))
    (g : Go p e below Q (T.setTop (mkF m (pc + 1) Ls (.int z :: rest)))) : Go p e below Q (T.setTop (mkF m pc Ls (.ref a :: rest))) := by
  obtain ⟨vm0, k0, locs, X, ⟨hx, hby, hml, hret, hlk, hnm, hh, hEL, hZs⟩, hZ, hown, hS, hk, eT, -⟩ := P
  obtain ⟨cl, Ar, q1, S, N, -, -⟩ := A
  exact g.of fun t k => X.arraylength hx (by rw [eT]; exact Ar.1) (State.isArrayOf_alike (T := s.setVm vm0) hZ.alike Ar.2.1) (g := mkF m pc Ls (.ref a :: rest)) rfl rfl (hb hby hd) _ (by rw [len_of S N]; exact k)
theorem Pos.ldc2 (P : Pos p l e R s m args below meth c own nm bytes ml rt Z a0 EL h0 ws T h cells slots) {index : Nat} {v : Int64} (w : (Jvm.Cond.constantLong own index v).before a0 Z = true) (hd : decode bytes pc = .ok (.ldc2_w index, 3))
    (g : Go p e below Q (T.setTop (mkF m (pc + 3) Ls (.long v :: rest)))) : Go p e below Q (T.setTop (mkF m pc Ls rest)) := by
  obtain ⟨vm0, k0, locs, X, ⟨hx, hby, hml, hret, hlk, hnm, hh, hEL, hZs⟩, hZ, hown, -⟩ := P
  exact g.of fun t k => X.ldc2Long hx hown (mvT (s := s.setVm vm0) hZ w) (g := mkF m pc Ls rest) rfl (hb hby hd) _ k
theorem Pos.ldcI (P : Pos p l e R s m args below meth c own nm bytes ml rt Z a0 EL h0 ws T h cells slots) {index : Nat} {v : Int32} (w : (Jvm.Cond.constant own index v).before a0 Z = true) (hd : decode bytes pc = .ok (.ldc index, 2))
    (g : Go p e below Q (T.setTop (mkF m (pc + 2) Ls (.int v :: rest)))) : Go p e below Q (T.setTop (mkF m pc Ls rest)) := by
  obtain ⟨vm0, k0, locs, X, ⟨hx, hby, hml, hret, hlk, hnm, hh, hEL, hZs⟩, hZ, hown, -⟩ := P
  exact g.of fun t k => X.ldcInt hx hown (mvT (s := s.setVm vm0) hZ w) (g := mkF m pc Ls rest) rfl (hb hby hd) _ k
/-- a new byte array: it is no literal's -/
theorem Pos.newPB (P : Pos p l e R s m args below meth c own nm bytes ml rt Z a0 EL h0 ws T h cells slots) {n : Int32} {cap : Nat} (w : (Jvm.Cond.arrayClass .byte).before a0 Z = true) (hd : decode bytes pc = .ok (.newarray .byte, 2)) (hn : ¬ n < 0) (hcap : n.toNatClampNeg ≤ cap) (hb8 : cap * 8 ≤ 536870912) (hc : cells + 1 ≤ R.cells) (hl : slots + cap ≤ R.slots)
    (k : ∀ T' h' x cA vm, x = h.size → PosV p l e R s m args below meth c own nm bytes ml rt Z a0 EL h0 ws T' h' (cells + 1) (slots + cap) vm → Safe Z EL vm h' x → Ext h h' → Arv Z h' x cA .byte n [] (.int 0) → Go p e below Q (T'.setTop (mkF m (pc + 2) Ls (.ref x :: rest)))) : Go p e below Q (T.setTop (mkF m pc Ls (.int n :: rest))) := by
  obtain ⟨vm0, k0, locs, X, ⟨hx, hby, hml, hret, hlk, hnm, hh, hEL, hZs⟩, hZ, hown, hS, hk, eT, hC, N, K, O⟩ := P
  obtain ⟨T', h', cA, X', e', E, A, st⟩ := Jvm.RoadKit.newP (aty := .byte) X hx hZ w eT (g := mkF m pc Ls (.int n :: rest)) rfl (hb hby hd) rfl hn hcap hb8 hc hl
  exact (k T' h' _ cA vm0 rfl ⟨k0, locs, X', ⟨hx, hby, hml, hret, hlk, hnm, hh, hEL, hZs⟩, hZ, hown, hS, Nat.le_trans hk E.1, e', hC.trans (CHr.ext E hC.1), N, K.ext E, ⟨Nat.le_trans O.1 E.1, fun a c q => E.2 _ _ (O.2 _ _ q)⟩⟩ (Safe.ext E hC.1 (Safe.new (Nat.le_refl _))) E (Arv.new A hn)).of st
theorem posStB {vm : Vm} (P : PosV p l e R s m args below meth c own nm bytes ml rt Z a0 EL h0 ws T h cells slots vm) {a : Addr} {kc : ClassId} {z j x x' : Int32} {vs : List Value} {dv : Value} (hsf : Safe Z EL vm h a) (A : Arv Z h a kc .byte z vs dv) (i : Nat) (hj : j.toNatClampNeg = i) (hj0 : ¬ j < 0) (hlt : i < z.toNatClampNeg) (hi : i < vs.length) (hx' : nar .byte x = x') (hd : decode bytes pc = .ok (.bastore, 1)) (hz : Z.heap.size ≤ a) (hws : a ∈ ws ∨ h0.size ≤ a)
    (k : ∀ T' h', Pos p l e R s m args below meth c own nm bytes ml rt Z a0 EL h0 ws T' h' cells slots → Wr h h' a j.toNatClampNeg (.int x') → Arv Z h' a kc .byte z (vs.set i (.int x')) dv → Go p e below Q (T'.setTop (mkF m (pc + 1) Ls rest))) : Go p e below Q (T.setTop (mkF m pc Ls (.int x :: .int j :: .ref a :: rest))) := by
  obtain ⟨cl, Ar, q1, S, N', H, G⟩ := A
  subst hx'
  obtain ⟨k0, locs, X, ⟨hx, hby, hml, hret, hlk, hnm, hh, hEL, hZs⟩, hZ, hown, hS, hk, eT, hC, N, K, O⟩ := P
  obtain ⟨T', h', X', e', W, st⟩ := Jvm.RoadKit.stB X hx hZ eT Ar (inb hj hj0 S hlt) (g := mkF m pc Ls (.int x :: .int j :: .ref a :: rest)) rfl rfl (hb hby hd)
  exact (k T' h' ⟨vm, k0, _, X', ⟨hx, hby, hml, hret, hlk, hnm, hh, hEL, hZs⟩, hZ, hown, hS, Nat.le_trans hk (Nat.le_of_eq W.size.symm), e', hC.trans (CHr.wr W hsf hC.1), Fr.snoc X' N hz, K.wr W hws, (Old.wr (n0 := Z.heap.size) ⟨rfl, O⟩ W hz).2⟩ W (Arv.set Ar q1 S N' H G (fits_nar_byte x) W i hj hi)).of st
end Own
section Own2
theorem nin0 {x : Addr} : x ∉ ([] : List Addr) := fun q => nomatch q
theorem ninS {x a : Addr} {ws : List Addr} (h : x ≠ a) (r : x ∉ ws) : x ∉ a :: ws := fun q => (List.mem_cons.mp q).elim h r
theorem narR {t : FieldType} {v : Value} (h : v.isRef = true) : narrow t v = v := by cases v <;> first | (simp [Value.isRef] at h; done) | (cases t <;> rfl)
theorem fitR {C : String} {v : Value} (h : v.isRef = true) : fits (.object C) v = true := by cases v <;> first | (simp [Value.isRef] at h; done) | rfl
theorem mask255 (x : Int32) : ∃ k : Fin 256, (x &&& 255) = Int32.ofNat k.val := by
  have h : (x &&& 255).toBitVec.toNat < 256 := by
    simp only [Int32.toBitVec_and, BitVec.toNat_and]
    exact Nat.lt_succ_of_le Nat.and_le_right
  refine ⟨⟨_, h⟩, ?_⟩
  apply Int32.toBitVec_inj.mp
  show _ = BitVec.ofNat 32 _
  rw [BitVec.ofNat_toNat]; simp
/-- (char) (x & 255): from 0 to 255, and a char -/
theorem chr255 {x y : Int32} (h : ((x &&& (255 : Int32)).toUInt32.toUInt16.toUInt32.toInt32) = y) : (¬ y < 0 ∧ ¬ (255 : Int32) < y) ∧ nar .char y = y := by
  subst h
  have t : ∀ k : Fin 256, (¬ ((Int32.ofNat k.val).toUInt32.toUInt16.toUInt32.toInt32) < 0 ∧ ¬ (255 : Int32) < ((Int32.ofNat k.val).toUInt32.toUInt16.toUInt32.toInt32)) ∧ nar .char ((Int32.ofNat k.val).toUInt32.toUInt16.toUInt32.toInt32) = ((Int32.ofNat k.val).toUInt32.toUInt16.toUInt32.toInt32) := by decide +kernel
  obtain ⟨k, e⟩ := mask255 x
  rw [e]; exact t k
theorem upC (cs : List Int32) (h : ∀ c ∈ cs, ¬ c < 0 ∧ ¬ (255 : Int32) < c) : ∀ c ∈ cs, ¬ c < 0 ∧ ¬ (65535 : Int32) < c := fun c hc => ⟨(h c hc).1, fun q => (h c hc).2 (by rw [Int32.lt_iff_toInt_lt] at q ⊢; have e1 : (65535 : Int32).toInt = 65535 := rfl; have e2 : (255 : Int32).toInt = 255 := rfl; omega)⟩
theorem lat0 : ∀ c ∈ ([] : List Int32), ¬ c < 0 ∧ ¬ (255 : Int32) < c := fun _ q => nomatch q
theorem latS {x : Int32} {cs : List Int32} (h : ¬ x < 0 ∧ ¬ (255 : Int32) < x) (r : ∀ c ∈ cs, ¬ c < 0 ∧ ¬ (255 : Int32) < c) : ∀ c ∈ x :: cs, ¬ c < 0 ∧ ¬ (255 : Int32) < c := fun c q => (List.mem_cons.mp q).elim (fun e => e ▸ h) (r c)
/-- a String whose value is not laid yet is no literal -/
theorem safeNull {Z : State} {EL : List (String × Nat)} {vm : Vm} {h : Heap} {x : Addr} (hal : Z.vm.Alike vm) (E : Exa Z h x "java/lang/String") (F : Fld Z h x "java/lang/String" "value" "[B" .null) : Safe Z EL vm h x := fun B => by
  obtain ⟨cell, k, e1, e2, e3, -, -⟩ := E
  obtain ⟨cell', cf, kf, i, f, f1, f2, f3, f4, f5, f6, f7⟩ := F
  cases e1.symm.trans f1
  obtain ⟨p, -, u, a, -, q, -, G, rfl | rfl⟩ := B
  · cases (show h[q.sa]? = some q.sC from G.ha).symm.trans e1
    obtain ⟨cS, ⟨⟨-, -, -, ⟨c1, k1, i1, g1, -⟩, -, -, -, v1, -⟩, -⟩, -⟩ := G
    obtain ⟨k', z⟩ := ff_back (U := Wst Z vm h) hal g1
    have e4 := z.symm.trans f2
    simp only [Option.some.injEq, Prod.mk.injEq] at e4
    rw [e4.2.2.2, f7] at v1
    cases v1
  · cases (show h[q.sd]? = some q.SA from G.hd).symm.trans e1
    obtain ⟨cS, -, -, g, -⟩ := G
    have g' : vm.findClass "[B" = some q.SA.cls := g
    rw [hal.findClass] at g'
    obtain ⟨k1, q1, q2⟩ := Vm.findClass_spec g'
    obtain ⟨k2, q3, q4⟩ := Vm.findClass_spec e2
    cases q1.symm.trans q3
    exact absurd (q2.symm.trans q4) (by decide)
theorem safe1 {Z : State} {EL : List (String × Nat)} {vm : Vm} {h : Heap} {x : Addr} (S : Safe Z EL vm h x) : ∀ y ∈ [x], Safe Z EL vm h y := fun y q => by cases List.mem_singleton.mp q; exact S
theorem ieq {x y : Int32} (h : x.toInt = y.toInt) : x = y := Int32.toInt_inj.mp h
theorem narB (x : Int32) : nar .byte (x.toInt8.toInt32) = x.toInt8.toInt32 := by simp [nar]
end Own2
theorem wSt {Z : State} {a0 : Array Value} (hw : ∀ d ∈ tables_1, d.before a0 Z = true) : ∀ d ∈ Bundle.stringAtoms, d.before a0 Z = true := fun d hd => hw d ((by decide +kernel : ∀ d ∈ Bundle.stringAtoms, d ∈ tables_1) d hd)
theorem wStr {Z : State} {a0 : Array Value} (hw : ∀ d ∈ tables_1, d.before a0 Z = true) : ∀ d ∈ StrChars.Road.words, d.before a0 Z = true := fun d hd => hw d ((by decide +kernel : ∀ d ∈ StrChars.Road.words, d ∈ tables_1) d hd)
theorem d1_0 : decode method_3_code 0 = .ok (.iconst 2, 1) := by decide +kernel
theorem d1_1 : decode method_3_code 1 = .ok (.newarray .char, 2) := by decide +kernel
theorem d1_3 : decode method_3_code 3 = .ok (.astore_n 1, 1) := by decide +kernel
theorem d1_4 : decode method_3_code 4 = .ok (.aload_n 1, 1) := by decide +kernel
theorem d1_5 : decode method_3_code 5 = .ok (.iconst 0, 1) := by decide +kernel
theorem d1_6 : decode method_3_code 6 = .ok (.iload_n 0, 1) := by decide +kernel
theorem d1_7 : decode method_3_code 7 = .ok (.sipush 255, 3) := by decide +kernel
theorem d1_10 : decode method_3_code 10 = .ok (.iand, 1) := by decide +kernel
theorem d1_11 : decode method_3_code 11 = .ok (.i2c, 1) := by decide +kernel
theorem d1_12 : decode method_3_code 12 = .ok (.castore, 1) := by decide +kernel
theorem d1_13 : decode method_3_code 13 = .ok (.aload_n 1, 1) := by decide +kernel
theorem d1_14 : decode method_3_code 14 = .ok (.iconst 1, 1) := by decide +kernel
theorem d1_15 : decode method_3_code 15 = .ok (.iload_n 0, 1) := by decide +kernel
theorem d1_16 : decode method_3_code 16 = .ok (.bipush 8, 2) := by decide +kernel
theorem d1_18 : decode method_3_code 18 = .ok (.iushr, 1) := by decide +kernel
theorem d1_19 : decode method_3_code 19 = .ok (.sipush 255, 3) := by decide +kernel
theorem d1_22 : decode method_3_code 22 = .ok (.iand, 1) := by decide +kernel
theorem d1_23 : decode method_3_code 23 = .ok (.i2c, 1) := by decide +kernel
theorem d1_24 : decode method_3_code 24 = .ok (.castore, 1) := by decide +kernel
theorem d1_25 : decode method_3_code 25 = .ok (.new 22, 3) := by decide +kernel
theorem d1_28 : decode method_3_code 28 = .ok (.dup, 1) := by decide +kernel
theorem d1_29 : decode method_3_code 29 = .ok (.aload_n 1, 1) := by decide +kernel
theorem d1_30 : decode method_3_code 30 = .ok (.invokespecial 24, 3) := by decide +kernel
theorem d1_33 : decode method_3_code 33 = .ok (.areturn, 1) := by decide +kernel
theorem d8_0 : decode method_2_code 0 = .ok (.iload_n 0, 1) := by decide +kernel
theorem d8_1 : decode method_2_code 1 = .ok (.ifCond .ne 7, 3) := by decide +kernel
theorem d8_4 : decode method_2_code 4 = .ok (.getstatic 7, 3) := by decide +kernel
theorem d8_7 : decode method_2_code 7 = .ok (.areturn, 1) := by decide +kernel
theorem d8_8 : decode method_2_code 8 = .ok (.iload_n 0, 1) := by decide +kernel
theorem d8_9 : decode method_2_code 9 = .ok (.iconst 1, 1) := by decide +kernel
theorem d8_10 : decode method_2_code 10 = .ok (.if_icmp .ne 7, 3) := by decide +kernel
theorem d8_13 : decode method_2_code 13 = .ok (.getstatic 13, 3) := by decide +kernel
theorem d8_16 : decode method_2_code 16 = .ok (.areturn, 1) := by decide +kernel
theorem d8_17 : decode method_2_code 17 = .ok (.iload_n 0, 1) := by decide +kernel
theorem d8_18 : decode method_2_code 18 = .ok (.iconst 2, 1) := by decide +kernel
theorem d8_19 : decode method_2_code 19 = .ok (.if_icmp .ne 7, 3) := by decide +kernel
theorem d8_22 : decode method_2_code 22 = .ok (.getstatic 16, 3) := by decide +kernel
theorem d8_25 : decode method_2_code 25 = .ok (.areturn, 1) := by decide +kernel
theorem d8_26 : decode method_2_code 26 = .ok (.getstatic 19, 3) := by decide +kernel
theorem d8_29 : decode method_2_code 29 = .ok (.areturn, 1) := by decide +kernel
theorem d9_0 : decode prog_29_method_1_code 0 = .ok (.aload_n 0, 1) := by decide +kernel
theorem d9_1 : decode prog_29_method_1_code 1 = .ok (.invokespecial 1, 3) := by decide +kernel
theorem d9_4 : decode prog_29_method_1_code 4 = .ok (.aload_n 0, 1) := by decide +kernel
theorem d9_5 : decode prog_29_method_1_code 5 = .ok (.ldc2_w 9, 3) := by decide +kernel
theorem d9_8 : decode prog_29_method_1_code 8 = .ok (.putfield 11, 3) := by decide +kernel
theorem d9_11 : decode prog_29_method_1_code 11 = .ok (.aload_n 0, 1) := by decide +kernel
theorem d9_12 : decode prog_29_method_1_code 12 = .ok (.aload_n 1, 1) := by decide +kernel
theorem d9_13 : decode prog_29_method_1_code 13 = .ok (.ldc 15, 2) := by decide +kernel
theorem d9_15 : decode prog_29_method_1_code 15 = .ok (.invokestatic 17, 3) := by decide +kernel
theorem d9_18 : decode prog_29_method_1_code 18 = .ok (.checkcast 23, 3) := by decide +kernel
theorem d9_21 : decode prog_29_method_1_code 21 = .ok (.putfield 25, 3) := by decide +kernel
theorem d9_24 : decode prog_29_method_1_code 24 = .ok (.return_, 1) := by decide +kernel
theorem d10_0 : decode jdk_31_method_11_code 0 = .ok (.aload_n 0, 1) := by decide +kernel
theorem d10_1 : decode jdk_31_method_11_code 1 = .ok (.ifnonnull 12, 3) := by decide +kernel
theorem d10_13 : decode jdk_31_method_11_code 13 = .ok (.aload_n 0, 1) := by decide +kernel
theorem d10_14 : decode jdk_31_method_11_code 14 = .ok (.areturn, 1) := by decide +kernel
theorem d11_0 : decode prog_29_method_9_code 0 = .ok (.aload_n 0, 1) := by decide +kernel
theorem d11_1 : decode prog_29_method_9_code 1 = .ok (.getfield 28, 3) := by decide +kernel
theorem d11_4 : decode prog_29_method_9_code 4 = .ok (.ifCond .eq 10, 3) := by decide +kernel
theorem d11_7 : decode prog_29_method_9_code 7 = .ok (.aload_n 0, 1) := by decide +kernel
theorem d11_8 : decode prog_29_method_9_code 8 = .ok (.getfield 43, 3) := by decide +kernel
theorem d11_11 : decode prog_29_method_9_code 11 = .ok (.goto 4, 3) := by decide +kernel
theorem d11_14 : decode prog_29_method_9_code 14 = .ok (.aconst_null, 1) := by decide +kernel
theorem d11_15 : decode prog_29_method_9_code 15 = .ok (.areturn, 1) := by decide +kernel
theorem d12_0 : decode prog_29_method_3_code 0 = .ok (.aload_n 1, 1) := by decide +kernel
theorem d12_1 : decode prog_29_method_3_code 1 = .ok (.ldc 41, 2) := by decide +kernel
theorem d12_3 : decode prog_29_method_3_code 3 = .ok (.invokestatic 17, 3) := by decide +kernel
theorem d12_6 : decode prog_29_method_3_code 6 = .ok (.aload_n 0, 1) := by decide +kernel
theorem d12_7 : decode prog_29_method_3_code 7 = .ok (.getfield 43, 3) := by decide +kernel
theorem d12_10 : decode prog_29_method_3_code 10 = .ok (.if_acmp .eq 8, 3) := by decide +kernel
theorem d12_13 : decode prog_29_method_3_code 13 = .ok (.aload_n 0, 1) := by decide +kernel
theorem d12_14 : decode prog_29_method_3_code 14 = .ok (.aload_n 1, 1) := by decide +kernel
theorem d12_15 : decode prog_29_method_3_code 15 = .ok (.putfield 43, 3) := by decide +kernel
theorem d12_18 : decode prog_29_method_3_code 18 = .ok (.aload_n 0, 1) := by decide +kernel
theorem d12_19 : decode prog_29_method_3_code 19 = .ok (.iconst 1, 1) := by decide +kernel
theorem d12_20 : decode prog_29_method_3_code 20 = .ok (.putfield 28, 3) := by decide +kernel
theorem d12_23 : decode prog_29_method_3_code 23 = .ok (.aload_n 0, 1) := by decide +kernel
theorem d12_24 : decode prog_29_method_3_code 24 = .ok (.areturn, 1) := by decide +kernel
theorem d13_0 : decode method_4_code 0 = .ok (.aload_n 0, 1) := by decide +kernel
theorem d13_1 : decode method_4_code 1 = .ok (.ifnull 15, 3) := by decide +kernel
theorem d13_4 : decode method_4_code 4 = .ok (.aload_n 0, 1) := by decide +kernel
theorem d13_5 : decode method_4_code 5 = .ok (.aload_n 1, 1) := by decide +kernel
theorem d13_6 : decode method_4_code 6 = .ok (.invokevirtual 27, 3) := by decide +kernel
theorem d13_9 : decode method_4_code 9 = .ok (.ifCond .eq 7, 3) := by decide +kernel
theorem d13_12 : decode method_4_code 12 = .ok (.iconst 1, 1) := by decide +kernel
theorem d13_13 : decode method_4_code 13 = .ok (.goto 4, 3) := by decide +kernel
theorem d13_17 : decode method_4_code 17 = .ok (.ireturn, 1) := by decide +kernel
theorem d14_0 : decode jdk_42_method_66_code 0 = .ok (.aload_n 0, 1) := by decide +kernel
theorem d14_1 : decode jdk_42_method_66_code 1 = .ok (.aload_n 1, 1) := by decide +kernel
theorem d14_2 : decode jdk_42_method_66_code 2 = .ok (.if_acmp .ne 5, 3) := by decide +kernel
theorem d14_5 : decode jdk_42_method_66_code 5 = .ok (.iconst 1, 1) := by decide +kernel
theorem d14_6 : decode jdk_42_method_66_code 6 = .ok (.ireturn, 1) := by decide +kernel
theorem d15_0 : decode prog_29_method_2_code 0 = .ok (.aload_n 1, 1) := by decide +kernel
theorem d15_1 : decode prog_29_method_2_code 1 = .ok (.ldc 15, 2) := by decide +kernel
theorem d15_3 : decode prog_29_method_2_code 3 = .ok (.invokestatic 17, 3) := by decide +kernel
theorem d15_6 : decode prog_29_method_2_code 6 = .ok (.aload_n 0, 1) := by decide +kernel
theorem d15_7 : decode prog_29_method_2_code 7 = .ok (.getfield 25, 3) := by decide +kernel
theorem d15_10 : decode prog_29_method_2_code 10 = .ok (.if_acmp .eq 8, 3) := by decide +kernel
theorem d15_13 : decode prog_29_method_2_code 13 = .ok (.aload_n 0, 1) := by decide +kernel
theorem d15_14 : decode prog_29_method_2_code 14 = .ok (.aload_n 1, 1) := by decide +kernel
theorem d15_15 : decode prog_29_method_2_code 15 = .ok (.putfield 25, 3) := by decide +kernel
theorem d15_18 : decode prog_29_method_2_code 18 = .ok (.aload_n 0, 1) := by decide +kernel
theorem d15_19 : decode prog_29_method_2_code 19 = .ok (.iconst 0, 1) := by decide +kernel
theorem d15_20 : decode prog_29_method_2_code 20 = .ok (.putfield 28, 3) := by decide +kernel
theorem d15_23 : decode prog_29_method_2_code 23 = .ok (.aload_n 0, 1) := by decide +kernel
theorem d15_24 : decode prog_29_method_2_code 24 = .ok (.iconst 0, 1) := by decide +kernel
theorem d15_25 : decode prog_29_method_2_code 25 = .ok (.putfield 32, 3) := by decide +kernel
theorem d15_28 : decode prog_29_method_2_code 28 = .ok (.aload_n 0, 1) := by decide +kernel
theorem d15_29 : decode prog_29_method_2_code 29 = .ok (.lconst 0, 1) := by decide +kernel
theorem d15_30 : decode prog_29_method_2_code 30 = .ok (.putfield 35, 3) := by decide +kernel
theorem d15_33 : decode prog_29_method_2_code 33 = .ok (.aload_n 0, 1) := by decide +kernel
theorem d15_34 : decode prog_29_method_2_code 34 = .ok (.lconst 0, 1) := by decide +kernel
theorem d15_35 : decode prog_29_method_2_code 35 = .ok (.putfield 38, 3) := by decide +kernel
theorem d15_38 : decode prog_29_method_2_code 38 = .ok (.aload_n 0, 1) := by decide +kernel
theorem d15_39 : decode prog_29_method_2_code 39 = .ok (.ldc2_w 9, 3) := by decide +kernel
theorem d15_42 : decode prog_29_method_2_code 42 = .ok (.putfield 11, 3) := by decide +kernel
theorem d15_45 : decode prog_29_method_2_code 45 = .ok (.aload_n 0, 1) := by decide +kernel
theorem d15_46 : decode prog_29_method_2_code 46 = .ok (.areturn, 1) := by decide +kernel
theorem d16_0 : decode prog_29_method_4_code 0 = .ok (.aload_n 1, 1) := by decide +kernel
theorem d16_1 : decode prog_29_method_4_code 1 = .ok (.ldc 46, 2) := by decide +kernel
theorem d16_3 : decode prog_29_method_4_code 3 = .ok (.invokestatic 17, 3) := by decide +kernel
theorem d16_6 : decode prog_29_method_4_code 6 = .ok (.aload_n 0, 1) := by decide +kernel
theorem d16_7 : decode prog_29_method_4_code 7 = .ok (.getfield 48, 3) := by decide +kernel
theorem d16_10 : decode prog_29_method_4_code 10 = .ok (.if_acmp .eq 8, 3) := by decide +kernel
theorem d16_13 : decode prog_29_method_4_code 13 = .ok (.aload_n 0, 1) := by decide +kernel
theorem d16_14 : decode prog_29_method_4_code 14 = .ok (.aload_n 1, 1) := by decide +kernel
theorem d16_15 : decode prog_29_method_4_code 15 = .ok (.putfield 48, 3) := by decide +kernel
theorem d16_18 : decode prog_29_method_4_code 18 = .ok (.aload_n 0, 1) := by decide +kernel
theorem d16_19 : decode prog_29_method_4_code 19 = .ok (.iconst 1, 1) := by decide +kernel
theorem d16_20 : decode prog_29_method_4_code 20 = .ok (.putfield 32, 3) := by decide +kernel
theorem d16_23 : decode prog_29_method_4_code 23 = .ok (.aload_n 0, 1) := by decide +kernel
theorem d16_24 : decode prog_29_method_4_code 24 = .ok (.areturn, 1) := by decide +kernel
theorem pd_0 : parseMethodDescriptor "(Ljava/lang/Object;Ljava/lang/String;)Ljava/lang/Object;" = some ⟨[(.object "java/lang/Object"), (.object "java/lang/String")], some (.object "java/lang/Object")⟩ := by decide +kernel
theorem pd_1 : parseMethodDescriptor "(Ljava/lang/Object;)Z" = some ⟨[(.object "java/lang/Object")], some .boolean⟩ := by decide +kernel
theorem pd_2 : parseMethodDescriptor "([C)V" = some ⟨[(.array .char)], none⟩ := by decide +kernel
theorem pd_3 : parseMethodDescriptor "(I)Ljava/lang/String;" = some ⟨[.int], some (.object "java/lang/String")⟩ := by decide +kernel
theorem pd_4 : parseMethodDescriptor "(I)Lcom/example/ration/ration/Api;" = some ⟨[.int], some (.object "com/example/ration/ration/Api")⟩ := by decide +kernel
theorem pd_5 : parseMethodDescriptor "(Lcom/example/ration/ration/Api;)V" = some ⟨[(.object "com/example/ration/ration/Api")], none⟩ := by decide +kernel
theorem pd_6 : parseMethodDescriptor "(Ljava/lang/String;)Lcom/example/ration/ration/Request;" = some ⟨[(.object "java/lang/String")], some (.object "com/example/ration/ration/Request")⟩ := by decide +kernel
theorem pd_7 : parseMethodDescriptor "()Ljava/lang/String;" = some ⟨[], some (.object "java/lang/String")⟩ := by decide +kernel
theorem pd_8 : parseMethodDescriptor "(Ljava/lang/String;Ljava/lang/String;)Z" = some ⟨[(.object "java/lang/String"), (.object "java/lang/String")], some .boolean⟩ := by decide +kernel
theorem pd_9 : parseMethodDescriptor "(Lcom/example/ration/ration/Api;)Lcom/example/ration/ration/Request;" = some ⟨[(.object "com/example/ration/ration/Api")], some (.object "com/example/ration/ration/Request")⟩ := by decide +kernel
theorem pn_2 : plainName "com/example/ration/ration/Request" = true := by first | (simp [plainName, overriddenIn]; done) | decide +kernel
theorem pn_3 : plainName "com/example/ration/ration/RequestUserPinLaw" = true := by first | (simp [plainName, overriddenIn]; done) | decide +kernel
theorem pn_0 : plainName "java/lang/String" = true := by first | (simp [plainName, overriddenIn]; done) | decide +kernel
theorem pn_1 : plainName "java/util/Objects" = true := by first | (simp [plainName, overriddenIn]; done) | decide +kernel
def R_eqId : Room := { frames := 0, cells := 0, slots := 0, locals := 0 }
def Q_eqId (Z : State)  (h0 : Heap) (v : Option Value) (h : Heap) : Prop := v = some (.int (1 : Int32)) ∧ h = h0
set_option maxRecDepth 65536 in
set_option maxHeartbeats 40000000 in
theorem eqId (l : Launch) (Z : State) (a0 : Array Value) (hw : ∀ d ∈ tables_1, d.before a0 Z = true) (hEL : EW Z a0 EL0) (zc : Int32) (S0 : Sta Z Z.heap "java/lang/String" "COMPACT_STRINGS" "Z" (.int zc)) (Pz : ¬ zc = 0) (w_P w_F w_O w_C : Addr) (S_PRODUCE : Sta Z Z.heap "com/example/ration/ration/Api" "PRODUCE" "Lcom/example/ration/ration/Api;" (.ref w_P)) (E_PRODUCE : Exa Z Z.heap w_P "com/example/ration/ration/Api") (S_FETCH : Sta Z Z.heap "com/example/ration/ration/Api" "FETCH" "Lcom/example/ration/ration/Api;" (.ref w_F)) (E_FETCH : Exa Z Z.heap w_F "com/example/ration/ration/Api") (S_OTHER : Sta Z Z.heap "com/example/ration/ration/Api" "OTHER" "Lcom/example/ration/ration/Api;" (.ref w_O)) (E_OTHER : Exa Z Z.heap w_O "com/example/ration/ration/Api") (S_CLUSTER : Sta Z Z.heap "com/example/ration/ration/Api" "CLUSTER" "Lcom/example/ration/ration/Api;" (.ref w_C)) (E_CLUSTER : Exa Z Z.heap w_C "com/example/ration/ration/Api") (x : Addr) (h0 : Heap) (hO : Ext Z.heap h0)  :
    Con l Z EL0 [] (⟨"java/lang/String", "equals", "(Ljava/lang/Object;)Z"⟩ : MethodName) jdk_42_method_66_code 3 (some .boolean) R_eqId #[(.ref x), (.ref x)] h0 [] (Q_eqId Z  h0) := by
  refine Con.of (y := (⟨"java/lang/String", "equals", "(Ljava/lang/Object;)Z"⟩ : MethodName)) (f0 := fun m => mkF m 0 #[.val (.ref x), .val (.ref x), .unset] []) (plainFor_of_name pn_0) hEL hO (fun m => by skip <;> first | (simp [entryFrame, mkF, argsToLocals, Value.category, maxLocals]; done) | rfl) ?_
  intro p e s m below meth c s₁ P0
  show Go p e below _ (s₁.setTop (mkF m 0 #[.val (.ref x), .val (.ref x), .unset] []))
  refine P0.xs (fun hA hx hy t k => XS.aloadN hA hx rfl (hb hy d14_0) rfl rfl  k) ?_
  show Go p e below _ (s₁.setTop (mkF m 1 #[.val (.ref x), .val (.ref x), .unset] [(.ref x)]))
  refine P0.xs (fun hA hx hy t k => XS.aloadN hA hx rfl (hb hy d14_1) rfl rfl  k) ?_
  show Go p e below _ (s₁.setTop (mkF m 2 #[.val (.ref x), .val (.ref x), .unset] [(.ref x), (.ref x)]))
  refine P0.st (fun vm0 locs X hx hy t k => Jvm.RoadKit.acmp (g := (mkF m 2 #[.val (.ref x), .val (.ref x), .unset] [(.ref x), (.ref x)])) X hx rfl rfl rfl (pc0 := 2) (pc' := 5) (same := true) rfl (hb hy d14_2) rfl (decide_eq_true rfl) (by decide) (by decide) k) ?_
  show Go p e below _ (s₁.setTop (mkF m 5 #[.val (.ref x), .val (.ref x), .unset] []))
  refine P0.xs (fun hA hx hy t k => XS.iconst hA hx rfl (hb hy d14_5) k) ?_
  show Go p e below _ (s₁.setTop (mkF m 6 #[.val (.ref x), .val (.ref x), .unset] [(.int (1 : Int32))]))
  exact P0.retN (t := .boolean) rfl (by simp) d14_6 (by decide) (by decide) ⟨rfl, rfl⟩

def R_reqNN : Room := { frames := 0, cells := 0, slots := 0, locals := 0 }
def Q_reqNN (Z : State) (x : Addr) (h0 : Heap) (v : Option Value) (h : Heap) : Prop := v = some (.ref x) ∧ h = h0
set_option maxRecDepth 65536 in
set_option maxHeartbeats 40000000 in
theorem reqNN (l : Launch) (Z : State) (a0 : Array Value) (hw : ∀ d ∈ tables_1, d.before a0 Z = true) (hEL : EW Z a0 EL0) (zc : Int32) (S0 : Sta Z Z.heap "java/lang/String" "COMPACT_STRINGS" "Z" (.int zc)) (Pz : ¬ zc = 0) (w_P w_F w_O w_C : Addr) (S_PRODUCE : Sta Z Z.heap "com/example/ration/ration/Api" "PRODUCE" "Lcom/example/ration/ration/Api;" (.ref w_P)) (E_PRODUCE : Exa Z Z.heap w_P "com/example/ration/ration/Api") (S_FETCH : Sta Z Z.heap "com/example/ration/ration/Api" "FETCH" "Lcom/example/ration/ration/Api;" (.ref w_F)) (E_FETCH : Exa Z Z.heap w_F "com/example/ration/ration/Api") (S_OTHER : Sta Z Z.heap "com/example/ration/ration/Api" "OTHER" "Lcom/example/ration/ration/Api;" (.ref w_O)) (E_OTHER : Exa Z Z.heap w_O "com/example/ration/ration/Api") (S_CLUSTER : Sta Z Z.heap "com/example/ration/ration/Api" "CLUSTER" "Lcom/example/ration/ration/Api;" (.ref w_C)) (E_CLUSTER : Exa Z Z.heap w_C "com/example/ration/ration/Api") (x y : Addr) (h0 : Heap) (hO : Ext Z.heap h0)  :
    Con l Z EL0 [] (⟨"java/util/Objects", "requireNonNull", "(Ljava/lang/Object;Ljava/lang/String;)Ljava/lang/Object;"⟩ : MethodName) jdk_31_method_11_code 2 (some (.object "java/lang/Object")) R_reqNN #[(.ref x), (.ref y)] h0 [] (Q_reqNN Z x h0) := by
  refine Con.of (y := (⟨"java/util/Objects", "requireNonNull", "(Ljava/lang/Object;Ljava/lang/String;)Ljava/lang/Object;"⟩ : MethodName)) (f0 := fun m => mkF m 0 #[.val (.ref x), .val (.ref y)] []) (plainFor_of_name pn_1) hEL hO (fun m => by skip <;> first | (simp [entryFrame, mkF, argsToLocals, Value.category, maxLocals]; done) | rfl) ?_
  intro p e s m below meth c s₁ P0
  show Go p e below _ (s₁.setTop (mkF m 0 #[.val (.ref x), .val (.ref y)] []))
  refine P0.xs (fun hA hx hy t k => XS.aloadN hA hx rfl (hb hy d10_0) rfl rfl  k) ?_
  show Go p e below _ (s₁.setTop (mkF m 1 #[.val (.ref x), .val (.ref y)] [(.ref x)]))
  refine P0.xs (fun hA hx hy t k => XS.ifnonnullYes hA hx rfl (pc0 := 1) (pc' := 13) rfl (hb hy d10_1) rfl (by decide) (by decide) k) ?_
  show Go p e below _ (s₁.setTop (mkF m 13 #[.val (.ref x), .val (.ref y)] []))
  refine P0.xs (fun hA hx hy t k => XS.aloadN hA hx rfl (hb hy d10_13) rfl rfl  k) ?_
  show Go p e below _ (s₁.setTop (mkF m 14 #[.val (.ref x), .val (.ref y)] [(.ref x)]))
  exact P0.retR rfl rfl rfl d10_14 (by decide) (by decide) ⟨rfl, rfl⟩

def R_rInit : Room := { frames := 1, cells := 2, slots := 16, locals := 14 }
def Q_rInit (Z : State) (r w : Addr) (h0 : Heap) (v : Option Value) (h : Heap) : Prop := v = none ∧ Exa Z h r "com/example/ration/ration/Request" ∧ Fld Z h r "com/example/ration/ration/Request" "api" "Lcom/example/ration/ration/Api;" (.ref w) ∧ Fld Z h r "com/example/ration/ration/Request" "user" "Ljava/lang/String;" .null ∧ Fld Z h r "com/example/ration/ration/Request" "clientId" "Ljava/lang/String;" .null ∧ Fld Z h r "com/example/ration/ration/Request" "bytes" "J" (.long (0 : Int64)) ∧ Fld Z h r "com/example/ration/ration/Request" "threadUs" "J" (.long (0 : Int64)) ∧ Fld Z h r "com/example/ration/ration/Request" "producerId" "J" (.long (-1 : Int64)) ∧ Fld Z h r "com/example/ration/ration/Request" "userGiven" "Z" (.int (0 : Int32)) ∧ Fld Z h r "com/example/ration/ration/Request" "clientIdGiven" "Z" (.int (0 : Int32))
set_option maxRecDepth 65536 in
set_option maxHeartbeats 40000000 in
theorem rInit (l : Launch) (Z : State) (a0 : Array Value) (hw : ∀ d ∈ tables_1, d.before a0 Z = true) (hEL : EW Z a0 EL0) (zc : Int32) (S0 : Sta Z Z.heap "java/lang/String" "COMPACT_STRINGS" "Z" (.int zc)) (Pz : ¬ zc = 0) (w_P w_F w_O w_C : Addr) (S_PRODUCE : Sta Z Z.heap "com/example/ration/ration/Api" "PRODUCE" "Lcom/example/ration/ration/Api;" (.ref w_P)) (E_PRODUCE : Exa Z Z.heap w_P "com/example/ration/ration/Api") (S_FETCH : Sta Z Z.heap "com/example/ration/ration/Api" "FETCH" "Lcom/example/ration/ration/Api;" (.ref w_F)) (E_FETCH : Exa Z Z.heap w_F "com/example/ration/ration/Api") (S_OTHER : Sta Z Z.heap "com/example/ration/ration/Api" "OTHER" "Lcom/example/ration/ration/Api;" (.ref w_O)) (E_OTHER : Exa Z Z.heap w_O "com/example/ration/ration/Api") (S_CLUSTER : Sta Z Z.heap "com/example/ration/ration/Api" "CLUSTER" "Lcom/example/ration/ration/Api;" (.ref w_C)) (E_CLUSTER : Exa Z Z.heap w_C "com/example/ration/ration/Api") (r w : Addr) (h0 : Heap) (hO : Ext Z.heap h0) (E : Exa Z h0 r "com/example/ration/ration/Request") (F_api : Fld Z h0 r "com/example/ration/ration/Request" "api" "Lcom/example/ration/ration/Api;" .null) (F_user : Fld Z h0 r "com/example/ration/ration/Request" "user" "Ljava/lang/String;" .null) (F_clientId : Fld Z h0 r "com/example/ration/ration/Request" "clientId" "Ljava/lang/String;" .null) (F_bytes : Fld Z h0 r "com/example/ration/ration/Request" "bytes" "J" (.long (0 : Int64))) (F_threadUs : Fld Z h0 r "com/example/ration/ration/Request" "threadUs" "J" (.long (0 : Int64))) (F_producerId : Fld Z h0 r "com/example/ration/ration/Request" "producerId" "J" (.long (0 : Int64))) (F_userGiven : Fld Z h0 r "com/example/ration/ration/Request" "userGiven" "Z" (.int (0 : Int32))) (F_clientIdGiven : Fld Z h0 r "com/example/ration/ration/Request" "clientIdGiven" "Z" (.int (0 : Int32))) (gr : Z.heap.size ≤ r) (Ew : Exa Z h0 w "com/example/ration/ration/Api") :
    Con l Z EL0 [] (⟨"com/example/ration/ration/Request", "<init>", "(Lcom/example/ration/ration/Api;)V"⟩ : MethodName) prog_29_method_1_code 2 none R_rInit #[(.ref r), (.ref w)] h0 [r] (Q_rInit Z r w h0) := by
  refine Con.of (y := (⟨"com/example/ration/ration/Request", "<init>", "(Lcom/example/ration/ration/Api;)V"⟩ : MethodName)) (f0 := fun m => mkF m 0 #[.val (.ref r), .val (.ref w)] []) (plainFor_of_name pn_2) hEL hO (fun m => by skip <;> first | (simp [entryFrame, mkF, argsToLocals, Value.category, maxLocals]; done) | rfl) ?_
  intro p e s m below meth c s₁ P0
  show Go p e below _ (s₁.setTop (mkF m 0 #[.val (.ref r), .val (.ref w)] []))
  refine P0.xs (fun hA hx hy t k => XS.aloadN hA hx rfl (hb hy d9_0) rfl rfl  k) ?_
  show Go p e below _ (s₁.setTop (mkF m 1 #[.val (.ref r), .val (.ref w)] [(.ref r)]))
  refine P0.init0 (W := 0) (hw _ (List.mem_of_getElem? (i := 46) rfl)) (hw _ (List.mem_of_getElem? (i := 16) rfl)) (hw _ (List.mem_of_getElem? (i := 17) rfl)) d9_1 rfl (by decide) (Nat.le_of_eq rfl) (by decide) fun T1 P1 => ?_
  show Go p e below _ (T1.setTop (mkF m 4 #[.val (.ref r), .val (.ref w)] []))
  refine P1.xs (fun hA hx hy t k => XS.aloadN hA hx rfl (hb hy d9_4) rfl rfl  k) ?_
  show Go p e below _ (T1.setTop (mkF m 5 #[.val (.ref r), .val (.ref w)] [(.ref r)]))
  refine P1.ldc2 (hw _ (List.mem_of_getElem? (i := 47) rfl)) d9_5 ?_
  show Go p e below _ (T1.setTop (mkF m 8 #[.val (.ref r), .val (.ref w)] [(.long (-1 : Int64)), (.ref r)]))
  refine P1.putF (hw _ (List.mem_of_getElem? (i := 48) rfl)) Via.refl F_producerId E (Or.inl (hw _ (List.mem_of_getElem? (i := 49) rfl))) (hw _ (List.mem_of_getElem? (i := 35) rfl)) (ty := .long) (v' := (.long (-1 : Int64))) (by decide) rfl rfl d9_8 (fun vm _ hal _ => Safe.exa hal E (by decide) (by decide)) gr (Or.inl (List.mem_of_getElem? (i := 0) rfl)) fun T2 h2 P2 W2 => ?_
  show Go p e below _ (T2.setTop (mkF m 11 #[.val (.ref r), .val (.ref w)] []))
  refine P2.xs (fun hA hx hy t k => XS.aloadN hA hx rfl (hb hy d9_11) rfl rfl  k) ?_
  show Go p e below _ (T2.setTop (mkF m 12 #[.val (.ref r), .val (.ref w)] [(.ref r)]))
  refine P2.xs (fun hA hx hy t k => XS.aloadN hA hx rfl (hb hy d9_12) rfl rfl  k) ?_
  show Go p e below _ (T2.setTop (mkF m 13 #[.val (.ref r), .val (.ref w)] [(.ref w), (.ref r)]))
  refine P2.ldcO (hw _ (List.mem_of_getElem? (i := 50) rfl)) (wSt hw) d9_13 (n := 12) (by decide) (by decide) (by decide) (by decide) fun T3 h3 o3 P3 E3 => ?_
  show Go p e below _ (T3.setTop (mkF m 15 #[.val (.ref r), .val (.ref w)] [(.ref o3), (.ref w), (.ref r)]))
  have Ec5 : Exa Z h3 r "com/example/ration/ration/Request" := ((E.wr W2).ext E3)
  have Ec6 : Exa Z h3 w "com/example/ration/ration/Api" := ((Ew.wr W2).ext E3)
  have Fc7 : Fld Z h3 r "com/example/ration/ration/Request" "api" "Lcom/example/ration/ration/Api;" .null := ((F_api.other W2 (Or.inr (slot_ne (Or.inl (hw _ (List.mem_of_getElem? (i := 60) rfl))) (Or.inl (hw _ (List.mem_of_getElem? (i := 49) rfl))) (by decide) (t := (.object "com/example/ration/ration/Api")) (t' := .long) (by decide) (by decide)))).ext E3)
  have Fc8 : Fld Z h3 r "com/example/ration/ration/Request" "user" "Ljava/lang/String;" .null := ((F_user.other W2 (Or.inr (slot_ne (Or.inl (hw _ (List.mem_of_getElem? (i := 75) rfl))) (Or.inl (hw _ (List.mem_of_getElem? (i := 49) rfl))) (by decide) (t := (.object "java/lang/String")) (t' := .long) (by decide) (by decide)))).ext E3)
  have Fc9 : Fld Z h3 r "com/example/ration/ration/Request" "clientId" "Ljava/lang/String;" .null := ((F_clientId.other W2 (Or.inr (slot_ne (Or.inl (hw _ (List.mem_of_getElem? (i := 108) rfl))) (Or.inl (hw _ (List.mem_of_getElem? (i := 49) rfl))) (by decide) (t := (.object "java/lang/String")) (t' := .long) (by decide) (by decide)))).ext E3)
  have Fc10 : Fld Z h3 r "com/example/ration/ration/Request" "bytes" "J" (.long (0 : Int64)) := ((F_bytes.other W2 (Or.inr (slot_ne (Or.inl (hw _ (List.mem_of_getElem? (i := 92) rfl))) (Or.inl (hw _ (List.mem_of_getElem? (i := 49) rfl))) (by decide) (t := .long) (t' := .long) (by decide) (by decide)))).ext E3)
  have Fc11 : Fld Z h3 r "com/example/ration/ration/Request" "threadUs" "J" (.long (0 : Int64)) := ((F_threadUs.other W2 (Or.inr (slot_ne (Or.inl (hw _ (List.mem_of_getElem? (i := 94) rfl))) (Or.inl (hw _ (List.mem_of_getElem? (i := 49) rfl))) (by decide) (t := .long) (t' := .long) (by decide) (by decide)))).ext E3)
  have Fc12 : Fld Z h3 r "com/example/ration/ration/Request" "producerId" "J" (.long (-1 : Int64)) := ((F_producerId.same W2).ext E3)
  have Fc13 : Fld Z h3 r "com/example/ration/ration/Request" "userGiven" "Z" (.int (0 : Int32)) := ((F_userGiven.other W2 (Or.inr (slot_ne (Or.inl (hw _ (List.mem_of_getElem? (i := 67) rfl))) (Or.inl (hw _ (List.mem_of_getElem? (i := 49) rfl))) (by decide) (t := .boolean) (t' := .long) (by decide) (by decide)))).ext E3)
  have Fc14 : Fld Z h3 r "com/example/ration/ration/Request" "clientIdGiven" "Z" (.int (0 : Int32)) := ((F_clientIdGiven.other W2 (Or.inr (slot_ne (Or.inl (hw _ (List.mem_of_getElem? (i := 90) rfl))) (Or.inl (hw _ (List.mem_of_getElem? (i := 49) rfl))) (by decide) (t := .boolean) (t' := .long) (by decide) (by decide)))).ext E3)
  refine P3.callS (hw _ (List.mem_of_getElem? (i := 53) rfl)) (hw _ (List.mem_of_getElem? (i := 54) rfl)) (hw _ (List.mem_of_getElem? (i := 55) rfl)) (hw _ (List.mem_of_getElem? (i := 56) rfl)) (by decide) (reqNN l Z a0 hw hEL zc S0 Pz w_P w_F w_O w_C S_PRODUCE E_PRODUCE S_FETCH E_FETCH S_OTHER E_OTHER S_CLUSTER E_CLUSTER w o3 h3 P3.old) (W := 1) (by decide) (by decide) (by decide) (by decide) all0 pd_0 (argsL := [(.ref w), (.ref o3)]) rfl rfl rfl (Nat.le_of_eq rfl) d9_15 fun v4 T4 h4 P4 K4 Q4 => ?_
  obtain ⟨hv4, hh4⟩ := Q4
  subst hv4
  rw [hh4] at P4
  show Go p e below _ (T4.setTop (mkF m 18 #[.val (.ref r), .val (.ref w)] [(.ref w), (.ref r)]))
  refine P4.cast (hw _ (List.mem_of_getElem? (i := 57) rfl)) (Ins.self Ec6) d9_18 fun T15 P15 => ?_
  show Go p e below _ (T15.setTop (mkF m 21 #[.val (.ref r), .val (.ref w)] [(.ref w), (.ref r)]))
  refine P15.putF (hw _ (List.mem_of_getElem? (i := 59) rfl)) Via.refl Fc7 Ec5 (Or.inl (hw _ (List.mem_of_getElem? (i := 60) rfl))) (hw _ (List.mem_of_getElem? (i := 35) rfl)) (ty := (.object "com/example/ration/ration/Api")) (v' := (.ref w)) (by decide) rfl rfl d9_21 (fun vm _ hal _ => Safe.exa hal Ec5 (by decide) (by decide)) gr (Or.inl (List.mem_of_getElem? (i := 0) rfl)) fun T16 h16 P16 W16 => ?_
  show Go p e below _ (T16.setTop (mkF m 24 #[.val (.ref r), .val (.ref w)] []))
  have Ec17 : Exa Z h16 r "com/example/ration/ration/Request" := (Ec5.wr W16)
  have Ec18 : Exa Z h16 w "com/example/ration/ration/Api" := (Ec6.wr W16)
  have Fc19 : Fld Z h16 r "com/example/ration/ration/Request" "api" "Lcom/example/ration/ration/Api;" (.ref w) := (Fc7.same W16)
  have Fc20 : Fld Z h16 r "com/example/ration/ration/Request" "user" "Ljava/lang/String;" .null := (Fc8.other W16 (Or.inr (slot_ne (Or.inl (hw _ (List.mem_of_getElem? (i := 75) rfl))) (Or.inl (hw _ (List.mem_of_getElem? (i := 60) rfl))) (by decide) (t := (.object "java/lang/String")) (t' := (.object "com/example/ration/ration/Api")) (by decide) (by decide))))
  have Fc21 : Fld Z h16 r "com/example/ration/ration/Request" "clientId" "Ljava/lang/String;" .null := (Fc9.other W16 (Or.inr (slot_ne (Or.inl (hw _ (List.mem_of_getElem? (i := 108) rfl))) (Or.inl (hw _ (List.mem_of_getElem? (i := 60) rfl))) (by decide) (t := (.object "java/lang/String")) (t' := (.object "com/example/ration/ration/Api")) (by decide) (by decide))))
  have Fc22 : Fld Z h16 r "com/example/ration/ration/Request" "bytes" "J" (.long (0 : Int64)) := (Fc10.other W16 (Or.inr (slot_ne (Or.inl (hw _ (List.mem_of_getElem? (i := 92) rfl))) (Or.inl (hw _ (List.mem_of_getElem? (i := 60) rfl))) (by decide) (t := .long) (t' := (.object "com/example/ration/ration/Api")) (by decide) (by decide))))
  have Fc23 : Fld Z h16 r "com/example/ration/ration/Request" "threadUs" "J" (.long (0 : Int64)) := (Fc11.other W16 (Or.inr (slot_ne (Or.inl (hw _ (List.mem_of_getElem? (i := 94) rfl))) (Or.inl (hw _ (List.mem_of_getElem? (i := 60) rfl))) (by decide) (t := .long) (t' := (.object "com/example/ration/ration/Api")) (by decide) (by decide))))
  have Fc24 : Fld Z h16 r "com/example/ration/ration/Request" "producerId" "J" (.long (-1 : Int64)) := (Fc12.other W16 (Or.inr (slot_ne (Or.inl (hw _ (List.mem_of_getElem? (i := 49) rfl))) (Or.inl (hw _ (List.mem_of_getElem? (i := 60) rfl))) (by decide) (t := .long) (t' := (.object "com/example/ration/ration/Api")) (by decide) (by decide))))
  have Fc25 : Fld Z h16 r "com/example/ration/ration/Request" "userGiven" "Z" (.int (0 : Int32)) := (Fc13.other W16 (Or.inr (slot_ne (Or.inl (hw _ (List.mem_of_getElem? (i := 67) rfl))) (Or.inl (hw _ (List.mem_of_getElem? (i := 60) rfl))) (by decide) (t := .boolean) (t' := (.object "com/example/ration/ration/Api")) (by decide) (by decide))))
  have Fc26 : Fld Z h16 r "com/example/ration/ration/Request" "clientIdGiven" "Z" (.int (0 : Int32)) := (Fc14.other W16 (Or.inr (slot_ne (Or.inl (hw _ (List.mem_of_getElem? (i := 90) rfl))) (Or.inl (hw _ (List.mem_of_getElem? (i := 60) rfl))) (by decide) (t := .boolean) (t' := (.object "com/example/ration/ration/Api")) (by decide) (by decide))))
  exact P16.retV rfl d9_24 (by decide) (by decide) ⟨rfl, Ec17, Fc19, Fc20, Fc21, Fc22, Fc23, Fc24, Fc25, Fc26⟩

def R_rUser : Room := { frames := 1, cells := 2, slots := 20, locals := 13 }
def Q_rUser (Z : State) (r sx : Addr) (va vu vc : Value) (jb jt jp : Int64) (gu gc : Int32) (h0 : Heap) (v : Option Value) (h : Heap) : Prop := v = some (.ref r) ∧ Exa Z h r "com/example/ration/ration/Request" ∧ Fld Z h r "com/example/ration/ration/Request" "api" "Lcom/example/ration/ration/Api;" va ∧ Fld Z h r "com/example/ration/ration/Request" "user" "Ljava/lang/String;" (.ref sx) ∧ Fld Z h r "com/example/ration/ration/Request" "clientId" "Ljava/lang/String;" vc ∧ Fld Z h r "com/example/ration/ration/Request" "bytes" "J" (.long jb) ∧ Fld Z h r "com/example/ration/ration/Request" "threadUs" "J" (.long jt) ∧ Fld Z h r "com/example/ration/ration/Request" "producerId" "J" (.long jp) ∧ Fld Z h r "com/example/ration/ration/Request" "userGiven" "Z" (.int (1 : Int32)) ∧ Fld Z h r "com/example/ration/ration/Request" "clientIdGiven" "Z" (.int gc)
set_option maxRecDepth 65536 in
set_option maxHeartbeats 40000000 in
theorem rUser (l : Launch) (Z : State) (a0 : Array Value) (hw : ∀ d ∈ tables_1, d.before a0 Z = true) (hEL : EW Z a0 EL0) (zc : Int32) (S0 : Sta Z Z.heap "java/lang/String" "COMPACT_STRINGS" "Z" (.int zc)) (Pz : ¬ zc = 0) (w_P w_F w_O w_C : Addr) (S_PRODUCE : Sta Z Z.heap "com/example/ration/ration/Api" "PRODUCE" "Lcom/example/ration/ration/Api;" (.ref w_P)) (E_PRODUCE : Exa Z Z.heap w_P "com/example/ration/ration/Api") (S_FETCH : Sta Z Z.heap "com/example/ration/ration/Api" "FETCH" "Lcom/example/ration/ration/Api;" (.ref w_F)) (E_FETCH : Exa Z Z.heap w_F "com/example/ration/ration/Api") (S_OTHER : Sta Z Z.heap "com/example/ration/ration/Api" "OTHER" "Lcom/example/ration/ration/Api;" (.ref w_O)) (E_OTHER : Exa Z Z.heap w_O "com/example/ration/ration/Api") (S_CLUSTER : Sta Z Z.heap "com/example/ration/ration/Api" "CLUSTER" "Lcom/example/ration/ration/Api;" (.ref w_C)) (E_CLUSTER : Exa Z Z.heap w_C "com/example/ration/ration/Api") (r sx : Addr) (va vu vc : Value) (hva : va.isRef = true) (hvu : vu.isRef = true) (hvc : vc.isRef = true) (jb jt jp : Int64) (gu gc : Int32) (h0 : Heap) (hO : Ext Z.heap h0) (E : Exa Z h0 r "com/example/ration/ration/Request") (F_api : Fld Z h0 r "com/example/ration/ration/Request" "api" "Lcom/example/ration/ration/Api;" va) (F_user : Fld Z h0 r "com/example/ration/ration/Request" "user" "Ljava/lang/String;" vu) (F_clientId : Fld Z h0 r "com/example/ration/ration/Request" "clientId" "Ljava/lang/String;" vc) (F_bytes : Fld Z h0 r "com/example/ration/ration/Request" "bytes" "J" (.long jb)) (F_threadUs : Fld Z h0 r "com/example/ration/ration/Request" "threadUs" "J" (.long jt)) (F_producerId : Fld Z h0 r "com/example/ration/ration/Request" "producerId" "J" (.long jp)) (F_userGiven : Fld Z h0 r "com/example/ration/ration/Request" "userGiven" "Z" (.int gu)) (F_clientIdGiven : Fld Z h0 r "com/example/ration/ration/Request" "clientIdGiven" "Z" (.int gc)) (gr : Z.heap.size ≤ r) :
    Con l Z EL0 [] (⟨"com/example/ration/ration/Request", "user", "(Ljava/lang/String;)Lcom/example/ration/ration/Request;"⟩ : MethodName) prog_29_method_3_code 2 (some (.object "com/example/ration/ration/Request")) R_rUser #[(.ref r), (.ref sx)] h0 [r] (Q_rUser Z r sx va vu vc jb jt jp gu gc h0) := by
  refine Con.of (y := (⟨"com/example/ration/ration/Request", "user", "(Ljava/lang/String;)Lcom/example/ration/ration/Request;"⟩ : MethodName)) (f0 := fun m => mkF m 0 #[.val (.ref r), .val (.ref sx)] []) (plainFor_of_name pn_2) hEL hO (fun m => by skip <;> first | (simp [entryFrame, mkF, argsToLocals, Value.category, maxLocals]; done) | rfl) ?_
  intro p e s m below meth c s₁ P0
  show Go p e below _ (s₁.setTop (mkF m 0 #[.val (.ref r), .val (.ref sx)] []))
  refine P0.xs (fun hA hx hy t k => XS.aloadN hA hx rfl (hb hy d12_0) rfl rfl  k) ?_
  show Go p e below _ (s₁.setTop (mkF m 1 #[.val (.ref r), .val (.ref sx)] [(.ref sx)]))
  refine P0.ldcO (hw _ (List.mem_of_getElem? (i := 73) rfl)) (wSt hw) d12_1 (n := 16) (by decide) (by decide) (by decide) (by decide) fun T27 h27 o27 P27 E27 => ?_
  show Go p e below _ (T27.setTop (mkF m 3 #[.val (.ref r), .val (.ref sx)] [(.ref o27), (.ref sx)]))
  have Ec29 : Exa Z h27 r "com/example/ration/ration/Request" := (E.ext E27)
  have Fc30 : Fld Z h27 r "com/example/ration/ration/Request" "api" "Lcom/example/ration/ration/Api;" va := (F_api.ext E27)
  have Fc31 : Fld Z h27 r "com/example/ration/ration/Request" "user" "Ljava/lang/String;" vu := (F_user.ext E27)
  have Fc32 : Fld Z h27 r "com/example/ration/ration/Request" "clientId" "Ljava/lang/String;" vc := (F_clientId.ext E27)
  have Fc33 : Fld Z h27 r "com/example/ration/ration/Request" "bytes" "J" (.long jb) := (F_bytes.ext E27)
  have Fc34 : Fld Z h27 r "com/example/ration/ration/Request" "threadUs" "J" (.long jt) := (F_threadUs.ext E27)
  have Fc35 : Fld Z h27 r "com/example/ration/ration/Request" "producerId" "J" (.long jp) := (F_producerId.ext E27)
  have Fc36 : Fld Z h27 r "com/example/ration/ration/Request" "userGiven" "Z" (.int gu) := (F_userGiven.ext E27)
  have Fc37 : Fld Z h27 r "com/example/ration/ration/Request" "clientIdGiven" "Z" (.int gc) := (F_clientIdGiven.ext E27)
  refine P27.callS (hw _ (List.mem_of_getElem? (i := 53) rfl)) (hw _ (List.mem_of_getElem? (i := 54) rfl)) (hw _ (List.mem_of_getElem? (i := 55) rfl)) (hw _ (List.mem_of_getElem? (i := 56) rfl)) (by decide) (reqNN l Z a0 hw hEL zc S0 Pz w_P w_F w_O w_C S_PRODUCE E_PRODUCE S_FETCH E_FETCH S_OTHER E_OTHER S_CLUSTER E_CLUSTER sx o27 h27 P27.old) (W := 0) (by decide) (by decide) (by decide) (by decide) all0 pd_0 (argsL := [(.ref sx), (.ref o27)]) rfl rfl rfl (Nat.le_of_eq rfl) d12_3 fun v28 T28 h28 P28 K28 Q28 => ?_
  obtain ⟨hv28, hh28⟩ := Q28
  subst hv28
  rw [hh28] at P28
  show Go p e below _ (T28.setTop (mkF m 6 #[.val (.ref r), .val (.ref sx)] [(.ref sx)]))
  refine P28.xs (fun hA hx hy t k => XS.aloadN hA hx rfl (hb hy d12_6) rfl rfl  k) ?_
  show Go p e below _ (T28.setTop (mkF m 7 #[.val (.ref r), .val (.ref sx)] [(.ref r), (.ref sx)]))
  refine P28.getF (host := "") (Or.inl (hw _ (List.mem_of_getElem? (i := 74) rfl))) Via.refl Fc31 d12_7 fun T38 P38 => ?_
  show Go p e below _ (T38.setTop (mkF m 10 #[.val (.ref r), .val (.ref sx)] [vu, (.ref sx)]))
  by_cases hq : (Value.ref sx) = vu
  · refine P38.st (fun vm0 locs X hx hy t k => Jvm.RoadKit.acmp (g := (mkF m 10 #[.val (.ref r), .val (.ref sx)] [vu, (.ref sx)])) X hx rfl rfl hvu (pc0 := 10) (pc' := 18) (same := true) rfl (hb hy d12_10) rfl (decide_eq_true hq) (by decide) (by decide) k) ?_
    show Go p e below _ (T38.setTop (mkF m 18 #[.val (.ref r), .val (.ref sx)] []))
    subst hq
    refine P38.xs (fun hA hx hy t k => XS.aloadN hA hx rfl (hb hy d12_18) rfl rfl  k) ?_
    show Go p e below _ (T38.setTop (mkF m 19 #[.val (.ref r), .val (.ref sx)] [(.ref r)]))
    refine P38.xs (fun hA hx hy t k => XS.iconst hA hx rfl (hb hy d12_19) k) ?_
    show Go p e below _ (T38.setTop (mkF m 20 #[.val (.ref r), .val (.ref sx)] [(.int (1 : Int32)), (.ref r)]))
    refine P38.putF (hw _ (List.mem_of_getElem? (i := 66) rfl)) Via.refl Fc36 Ec29 (Or.inl (hw _ (List.mem_of_getElem? (i := 67) rfl))) (hw _ (List.mem_of_getElem? (i := 35) rfl)) (ty := .boolean) (v' := (.int (1 : Int32))) (by decide) rfl rfl d12_20 (fun vm _ hal _ => Safe.exa hal Ec29 (by decide) (by decide)) gr (Or.inl (List.mem_of_getElem? (i := 0) rfl)) fun T39 h39 P39 W39 => ?_
    show Go p e below _ (T39.setTop (mkF m 23 #[.val (.ref r), .val (.ref sx)] []))
    refine P39.xs (fun hA hx hy t k => XS.aloadN hA hx rfl (hb hy d12_23) rfl rfl  k) ?_
    show Go p e below _ (T39.setTop (mkF m 24 #[.val (.ref r), .val (.ref sx)] [(.ref r)]))
    have Ec40 : Exa Z h39 r "com/example/ration/ration/Request" := (Ec29.wr W39)
    have Fc41 : Fld Z h39 r "com/example/ration/ration/Request" "api" "Lcom/example/ration/ration/Api;" va := (Fc30.other W39 (Or.inr (slot_ne (Or.inl (hw _ (List.mem_of_getElem? (i := 60) rfl))) (Or.inl (hw _ (List.mem_of_getElem? (i := 67) rfl))) (by decide) (t := (.object "com/example/ration/ration/Api")) (t' := .boolean) (by decide) (by decide))))
    have Fc42 : Fld Z h39 r "com/example/ration/ration/Request" "user" "Ljava/lang/String;" (.ref sx) := (Fc31.other W39 (Or.inr (slot_ne (Or.inl (hw _ (List.mem_of_getElem? (i := 75) rfl))) (Or.inl (hw _ (List.mem_of_getElem? (i := 67) rfl))) (by decide) (t := (.object "java/lang/String")) (t' := .boolean) (by decide) (by decide))))
    have Fc43 : Fld Z h39 r "com/example/ration/ration/Request" "clientId" "Ljava/lang/String;" vc := (Fc32.other W39 (Or.inr (slot_ne (Or.inl (hw _ (List.mem_of_getElem? (i := 108) rfl))) (Or.inl (hw _ (List.mem_of_getElem? (i := 67) rfl))) (by decide) (t := (.object "java/lang/String")) (t' := .boolean) (by decide) (by decide))))
    have Fc44 : Fld Z h39 r "com/example/ration/ration/Request" "bytes" "J" (.long jb) := (Fc33.other W39 (Or.inr (slot_ne (Or.inl (hw _ (List.mem_of_getElem? (i := 92) rfl))) (Or.inl (hw _ (List.mem_of_getElem? (i := 67) rfl))) (by decide) (t := .long) (t' := .boolean) (by decide) (by decide))))
    have Fc45 : Fld Z h39 r "com/example/ration/ration/Request" "threadUs" "J" (.long jt) := (Fc34.other W39 (Or.inr (slot_ne (Or.inl (hw _ (List.mem_of_getElem? (i := 94) rfl))) (Or.inl (hw _ (List.mem_of_getElem? (i := 67) rfl))) (by decide) (t := .long) (t' := .boolean) (by decide) (by decide))))
    have Fc46 : Fld Z h39 r "com/example/ration/ration/Request" "producerId" "J" (.long jp) := (Fc35.other W39 (Or.inr (slot_ne (Or.inl (hw _ (List.mem_of_getElem? (i := 49) rfl))) (Or.inl (hw _ (List.mem_of_getElem? (i := 67) rfl))) (by decide) (t := .long) (t' := .boolean) (by decide) (by decide))))
    have Fc47 : Fld Z h39 r "com/example/ration/ration/Request" "userGiven" "Z" (.int (1 : Int32)) := (Fc36.same W39)
    have Fc48 : Fld Z h39 r "com/example/ration/ration/Request" "clientIdGiven" "Z" (.int gc) := (Fc37.other W39 (Or.inr (slot_ne (Or.inl (hw _ (List.mem_of_getElem? (i := 90) rfl))) (Or.inl (hw _ (List.mem_of_getElem? (i := 67) rfl))) (by decide) (t := .boolean) (t' := .boolean) (by decide) (by decide))))
    exact P39.retR rfl rfl rfl d12_24 (by decide) (by decide) ⟨rfl, Ec40, Fc41, Fc42, Fc43, Fc44, Fc45, Fc46, Fc47, Fc48⟩
  · refine P38.st (fun vm0 locs X hx hy t k => Jvm.RoadKit.acmp (g := (mkF m 10 #[.val (.ref r), .val (.ref sx)] [vu, (.ref sx)])) X hx rfl rfl hvu (pc0 := 10) (pc' := 13) (same := false) rfl (hb hy d12_10) rfl (decide_eq_false hq) (by decide) (by decide) k) ?_
    show Go p e below _ (T38.setTop (mkF m 13 #[.val (.ref r), .val (.ref sx)] []))
    refine P38.xs (fun hA hx hy t k => XS.aloadN hA hx rfl (hb hy d12_13) rfl rfl  k) ?_
    show Go p e below _ (T38.setTop (mkF m 14 #[.val (.ref r), .val (.ref sx)] [(.ref r)]))
    refine P38.xs (fun hA hx hy t k => XS.aloadN hA hx rfl (hb hy d12_14) rfl rfl  k) ?_
    show Go p e below _ (T38.setTop (mkF m 15 #[.val (.ref r), .val (.ref sx)] [(.ref sx), (.ref r)]))
    refine P38.putF (hw _ (List.mem_of_getElem? (i := 74) rfl)) Via.refl Fc31 Ec29 (Or.inl (hw _ (List.mem_of_getElem? (i := 75) rfl))) (hw _ (List.mem_of_getElem? (i := 35) rfl)) (ty := (.object "java/lang/String")) (v' := (.ref sx)) (by decide) rfl rfl d12_15 (fun vm _ hal _ => Safe.exa hal Ec29 (by decide) (by decide)) gr (Or.inl (List.mem_of_getElem? (i := 0) rfl)) fun T49 h49 P49 W49 => ?_
    show Go p e below _ (T49.setTop (mkF m 18 #[.val (.ref r), .val (.ref sx)] []))
    refine P49.xs (fun hA hx hy t k => XS.aloadN hA hx rfl (hb hy d12_18) rfl rfl  k) ?_
    show Go p e below _ (T49.setTop (mkF m 19 #[.val (.ref r), .val (.ref sx)] [(.ref r)]))
    refine P49.xs (fun hA hx hy t k => XS.iconst hA hx rfl (hb hy d12_19) k) ?_
    show Go p e below _ (T49.setTop (mkF m 20 #[.val (.ref r), .val (.ref sx)] [(.int (1 : Int32)), (.ref r)]))
    have Ec51 : Exa Z h49 r "com/example/ration/ration/Request" := (Ec29.wr W49)
    have Fc52 : Fld Z h49 r "com/example/ration/ration/Request" "api" "Lcom/example/ration/ration/Api;" va := (Fc30.other W49 (Or.inr (slot_ne (Or.inl (hw _ (List.mem_of_getElem? (i := 60) rfl))) (Or.inl (hw _ (List.mem_of_getElem? (i := 75) rfl))) (by decide) (t := (.object "com/example/ration/ration/Api")) (t' := (.object "java/lang/String")) (by decide) (by decide))))
    have Fc53 : Fld Z h49 r "com/example/ration/ration/Request" "user" "Ljava/lang/String;" (.ref sx) := (Fc31.same W49)
    have Fc54 : Fld Z h49 r "com/example/ration/ration/Request" "clientId" "Ljava/lang/String;" vc := (Fc32.other W49 (Or.inr (slot_ne (Or.inl (hw _ (List.mem_of_getElem? (i := 108) rfl))) (Or.inl (hw _ (List.mem_of_getElem? (i := 75) rfl))) (by decide) (t := (.object "java/lang/String")) (t' := (.object "java/lang/String")) (by decide) (by decide))))
    have Fc55 : Fld Z h49 r "com/example/ration/ration/Request" "bytes" "J" (.long jb) := (Fc33.other W49 (Or.inr (slot_ne (Or.inl (hw _ (List.mem_of_getElem? (i := 92) rfl))) (Or.inl (hw _ (List.mem_of_getElem? (i := 75) rfl))) (by decide) (t := .long) (t' := (.object "java/lang/String")) (by decide) (by decide))))
    have Fc56 : Fld Z h49 r "com/example/ration/ration/Request" "threadUs" "J" (.long jt) := (Fc34.other W49 (Or.inr (slot_ne (Or.inl (hw _ (List.mem_of_getElem? (i := 94) rfl))) (Or.inl (hw _ (List.mem_of_getElem? (i := 75) rfl))) (by decide) (t := .long) (t' := (.object "java/lang/String")) (by decide) (by decide))))
    have Fc57 : Fld Z h49 r "com/example/ration/ration/Request" "producerId" "J" (.long jp) := (Fc35.other W49 (Or.inr (slot_ne (Or.inl (hw _ (List.mem_of_getElem? (i := 49) rfl))) (Or.inl (hw _ (List.mem_of_getElem? (i := 75) rfl))) (by decide) (t := .long) (t' := (.object "java/lang/String")) (by decide) (by decide))))
    have Fc58 : Fld Z h49 r "com/example/ration/ration/Request" "userGiven" "Z" (.int gu) := (Fc36.other W49 (Or.inr (slot_ne (Or.inl (hw _ (List.mem_of_getElem? (i := 67) rfl))) (Or.inl (hw _ (List.mem_of_getElem? (i := 75) rfl))) (by decide) (t := .boolean) (t' := (.object "java/lang/String")) (by decide) (by decide))))
    have Fc59 : Fld Z h49 r "com/example/ration/ration/Request" "clientIdGiven" "Z" (.int gc) := (Fc37.other W49 (Or.inr (slot_ne (Or.inl (hw _ (List.mem_of_getElem? (i := 90) rfl))) (Or.inl (hw _ (List.mem_of_getElem? (i := 75) rfl))) (by decide) (t := .boolean) (t' := (.object "java/lang/String")) (by decide) (by decide))))
    refine P49.putF (hw _ (List.mem_of_getElem? (i := 66) rfl)) Via.refl Fc58 Ec51 (Or.inl (hw _ (List.mem_of_getElem? (i := 67) rfl))) (hw _ (List.mem_of_getElem? (i := 35) rfl)) (ty := .boolean) (v' := (.int (1 : Int32))) (by decide) rfl rfl d12_20 (fun vm _ hal _ => Safe.exa hal Ec51 (by decide) (by decide)) gr (Or.inl (List.mem_of_getElem? (i := 0) rfl)) fun T50 h50 P50 W50 => ?_
    show Go p e below _ (T50.setTop (mkF m 23 #[.val (.ref r), .val (.ref sx)] []))
    refine P50.xs (fun hA hx hy t k => XS.aloadN hA hx rfl (hb hy d12_23) rfl rfl  k) ?_
    show Go p e below _ (T50.setTop (mkF m 24 #[.val (.ref r), .val (.ref sx)] [(.ref r)]))
    have Ec60 : Exa Z h50 r "com/example/ration/ration/Request" := (Ec51.wr W50)
    have Fc61 : Fld Z h50 r "com/example/ration/ration/Request" "api" "Lcom/example/ration/ration/Api;" va := (Fc52.other W50 (Or.inr (slot_ne (Or.inl (hw _ (List.mem_of_getElem? (i := 60) rfl))) (Or.inl (hw _ (List.mem_of_getElem? (i := 67) rfl))) (by decide) (t := (.object "com/example/ration/ration/Api")) (t' := .boolean) (by decide) (by decide))))
    have Fc62 : Fld Z h50 r "com/example/ration/ration/Request" "user" "Ljava/lang/String;" (.ref sx) := (Fc53.other W50 (Or.inr (slot_ne (Or.inl (hw _ (List.mem_of_getElem? (i := 75) rfl))) (Or.inl (hw _ (List.mem_of_getElem? (i := 67) rfl))) (by decide) (t := (.object "java/lang/String")) (t' := .boolean) (by decide) (by decide))))
    have Fc63 : Fld Z h50 r "com/example/ration/ration/Request" "clientId" "Ljava/lang/String;" vc := (Fc54.other W50 (Or.inr (slot_ne (Or.inl (hw _ (List.mem_of_getElem? (i := 108) rfl))) (Or.inl (hw _ (List.mem_of_getElem? (i := 67) rfl))) (by decide) (t := (.object "java/lang/String")) (t' := .boolean) (by decide) (by decide))))
    have Fc64 : Fld Z h50 r "com/example/ration/ration/Request" "bytes" "J" (.long jb) := (Fc55.other W50 (Or.inr (slot_ne (Or.inl (hw _ (List.mem_of_getElem? (i := 92) rfl))) (Or.inl (hw _ (List.mem_of_getElem? (i := 67) rfl))) (by decide) (t := .long) (t' := .boolean) (by decide) (by decide))))
    have Fc65 : Fld Z h50 r "com/example/ration/ration/Request" "threadUs" "J" (.long jt) := (Fc56.other W50 (Or.inr (slot_ne (Or.inl (hw _ (List.mem_of_getElem? (i := 94) rfl))) (Or.inl (hw _ (List.mem_of_getElem? (i := 67) rfl))) (by decide) (t := .long) (t' := .boolean) (by decide) (by decide))))
    have Fc66 : Fld Z h50 r "com/example/ration/ration/Request" "producerId" "J" (.long jp) := (Fc57.other W50 (Or.inr (slot_ne (Or.inl (hw _ (List.mem_of_getElem? (i := 49) rfl))) (Or.inl (hw _ (List.mem_of_getElem? (i := 67) rfl))) (by decide) (t := .long) (t' := .boolean) (by decide) (by decide))))
    have Fc67 : Fld Z h50 r "com/example/ration/ration/Request" "userGiven" "Z" (.int (1 : Int32)) := (Fc58.same W50)
    have Fc68 : Fld Z h50 r "com/example/ration/ration/Request" "clientIdGiven" "Z" (.int gc) := (Fc59.other W50 (Or.inr (slot_ne (Or.inl (hw _ (List.mem_of_getElem? (i := 90) rfl))) (Or.inl (hw _ (List.mem_of_getElem? (i := 67) rfl))) (by decide) (t := .boolean) (t' := .boolean) (by decide) (by decide))))
    exact P50.retR rfl rfl rfl d12_24 (by decide) (by decide) ⟨rfl, Ec60, Fc61, Fc62, Fc63, Fc64, Fc65, Fc66, Fc67, Fc68⟩

def R_rClient : Room := { frames := 1, cells := 2, slots := 36, locals := 13 }
def Q_rClient (Z : State) (r sx : Addr) (va vu vc : Value) (jb jt jp : Int64) (gu gc : Int32) (h0 : Heap) (v : Option Value) (h : Heap) : Prop := v = some (.ref r) ∧ Exa Z h r "com/example/ration/ration/Request" ∧ Fld Z h r "com/example/ration/ration/Request" "api" "Lcom/example/ration/ration/Api;" va ∧ Fld Z h r "com/example/ration/ration/Request" "user" "Ljava/lang/String;" vu ∧ Fld Z h r "com/example/ration/ration/Request" "clientId" "Ljava/lang/String;" (.ref sx) ∧ Fld Z h r "com/example/ration/ration/Request" "bytes" "J" (.long jb) ∧ Fld Z h r "com/example/ration/ration/Request" "threadUs" "J" (.long jt) ∧ Fld Z h r "com/example/ration/ration/Request" "producerId" "J" (.long jp) ∧ Fld Z h r "com/example/ration/ration/Request" "userGiven" "Z" (.int gu) ∧ Fld Z h r "com/example/ration/ration/Request" "clientIdGiven" "Z" (.int (1 : Int32))
set_option maxRecDepth 65536 in
set_option maxHeartbeats 40000000 in
theorem rClient (l : Launch) (Z : State) (a0 : Array Value) (hw : ∀ d ∈ tables_1, d.before a0 Z = true) (hEL : EW Z a0 EL0) (zc : Int32) (S0 : Sta Z Z.heap "java/lang/String" "COMPACT_STRINGS" "Z" (.int zc)) (Pz : ¬ zc = 0) (w_P w_F w_O w_C : Addr) (S_PRODUCE : Sta Z Z.heap "com/example/ration/ration/Api" "PRODUCE" "Lcom/example/ration/ration/Api;" (.ref w_P)) (E_PRODUCE : Exa Z Z.heap w_P "com/example/ration/ration/Api") (S_FETCH : Sta Z Z.heap "com/example/ration/ration/Api" "FETCH" "Lcom/example/ration/ration/Api;" (.ref w_F)) (E_FETCH : Exa Z Z.heap w_F "com/example/ration/ration/Api") (S_OTHER : Sta Z Z.heap "com/example/ration/ration/Api" "OTHER" "Lcom/example/ration/ration/Api;" (.ref w_O)) (E_OTHER : Exa Z Z.heap w_O "com/example/ration/ration/Api") (S_CLUSTER : Sta Z Z.heap "com/example/ration/ration/Api" "CLUSTER" "Lcom/example/ration/ration/Api;" (.ref w_C)) (E_CLUSTER : Exa Z Z.heap w_C "com/example/ration/ration/Api") (r sx : Addr) (va vu vc : Value) (hva : va.isRef = true) (hvu : vu.isRef = true) (hvc : vc.isRef = true) (jb jt jp : Int64) (gu gc : Int32) (h0 : Heap) (hO : Ext Z.heap h0) (E : Exa Z h0 r "com/example/ration/ration/Request") (F_api : Fld Z h0 r "com/example/ration/ration/Request" "api" "Lcom/example/ration/ration/Api;" va) (F_user : Fld Z h0 r "com/example/ration/ration/Request" "user" "Ljava/lang/String;" vu) (F_clientId : Fld Z h0 r "com/example/ration/ration/Request" "clientId" "Ljava/lang/String;" vc) (F_bytes : Fld Z h0 r "com/example/ration/ration/Request" "bytes" "J" (.long jb)) (F_threadUs : Fld Z h0 r "com/example/ration/ration/Request" "threadUs" "J" (.long jt)) (F_producerId : Fld Z h0 r "com/example/ration/ration/Request" "producerId" "J" (.long jp)) (F_userGiven : Fld Z h0 r "com/example/ration/ration/Request" "userGiven" "Z" (.int gu)) (F_clientIdGiven : Fld Z h0 r "com/example/ration/ration/Request" "clientIdGiven" "Z" (.int gc)) (gr : Z.heap.size ≤ r) :
    Con l Z EL0 [] (⟨"com/example/ration/ration/Request", "clientId", "(Ljava/lang/String;)Lcom/example/ration/ration/Request;"⟩ : MethodName) prog_29_method_4_code 2 (some (.object "com/example/ration/ration/Request")) R_rClient #[(.ref r), (.ref sx)] h0 [r] (Q_rClient Z r sx va vu vc jb jt jp gu gc h0) := by
  refine Con.of (y := (⟨"com/example/ration/ration/Request", "clientId", "(Ljava/lang/String;)Lcom/example/ration/ration/Request;"⟩ : MethodName)) (f0 := fun m => mkF m 0 #[.val (.ref r), .val (.ref sx)] []) (plainFor_of_name pn_2) hEL hO (fun m => by skip <;> first | (simp [entryFrame, mkF, argsToLocals, Value.category, maxLocals]; done) | rfl) ?_
  intro p e s m below meth c s₁ P0
  show Go p e below _ (s₁.setTop (mkF m 0 #[.val (.ref r), .val (.ref sx)] []))
  refine P0.xs (fun hA hx hy t k => XS.aloadN hA hx rfl (hb hy d16_0) rfl rfl  k) ?_
  show Go p e below _ (s₁.setTop (mkF m 1 #[.val (.ref r), .val (.ref sx)] [(.ref sx)]))
  refine P0.ldcO (hw _ (List.mem_of_getElem? (i := 106) rfl)) (wSt hw) d16_1 (n := 32) (by decide) (by decide) (by decide) (by decide) fun T69 h69 o69 P69 E69 => ?_
  show Go p e below _ (T69.setTop (mkF m 3 #[.val (.ref r), .val (.ref sx)] [(.ref o69), (.ref sx)]))
  have Ec71 : Exa Z h69 r "com/example/ration/ration/Request" := (E.ext E69)
  have Fc72 : Fld Z h69 r "com/example/ration/ration/Request" "api" "Lcom/example/ration/ration/Api;" va := (F_api.ext E69)
  have Fc73 : Fld Z h69 r "com/example/ration/ration/Request" "user" "Ljava/lang/String;" vu := (F_user.ext E69)
  have Fc74 : Fld Z h69 r "com/example/ration/ration/Request" "clientId" "Ljava/lang/String;" vc := (F_clientId.ext E69)
  have Fc75 : Fld Z h69 r "com/example/ration/ration/Request" "bytes" "J" (.long jb) := (F_bytes.ext E69)
  have Fc76 : Fld Z h69 r "com/example/ration/ration/Request" "threadUs" "J" (.long jt) := (F_threadUs.ext E69)
  have Fc77 : Fld Z h69 r "com/example/ration/ration/Request" "producerId" "J" (.long jp) := (F_producerId.ext E69)
  have Fc78 : Fld Z h69 r "com/example/ration/ration/Request" "userGiven" "Z" (.int gu) := (F_userGiven.ext E69)
  have Fc79 : Fld Z h69 r "com/example/ration/ration/Request" "clientIdGiven" "Z" (.int gc) := (F_clientIdGiven.ext E69)
  refine P69.callS (hw _ (List.mem_of_getElem? (i := 53) rfl)) (hw _ (List.mem_of_getElem? (i := 54) rfl)) (hw _ (List.mem_of_getElem? (i := 55) rfl)) (hw _ (List.mem_of_getElem? (i := 56) rfl)) (by decide) (reqNN l Z a0 hw hEL zc S0 Pz w_P w_F w_O w_C S_PRODUCE E_PRODUCE S_FETCH E_FETCH S_OTHER E_OTHER S_CLUSTER E_CLUSTER sx o69 h69 P69.old) (W := 0) (by decide) (by decide) (by decide) (by decide) all0 pd_0 (argsL := [(.ref sx), (.ref o69)]) rfl rfl rfl (Nat.le_of_eq rfl) d16_3 fun v70 T70 h70 P70 K70 Q70 => ?_
  obtain ⟨hv70, hh70⟩ := Q70
  subst hv70
  rw [hh70] at P70
  show Go p e below _ (T70.setTop (mkF m 6 #[.val (.ref r), .val (.ref sx)] [(.ref sx)]))
  refine P70.xs (fun hA hx hy t k => XS.aloadN hA hx rfl (hb hy d16_6) rfl rfl  k) ?_
  show Go p e below _ (T70.setTop (mkF m 7 #[.val (.ref r), .val (.ref sx)] [(.ref r), (.ref sx)]))
  refine P70.getF (host := "") (Or.inl (hw _ (List.mem_of_getElem? (i := 107) rfl))) Via.refl Fc74 d16_7 fun T80 P80 => ?_
  show Go p e below _ (T80.setTop (mkF m 10 #[.val (.ref r), .val (.ref sx)] [vc, (.ref sx)]))
  by_cases hq : (Value.ref sx) = vc
  · refine P80.st (fun vm0 locs X hx hy t k => Jvm.RoadKit.acmp (g := (mkF m 10 #[.val (.ref r), .val (.ref sx)] [vc, (.ref sx)])) X hx rfl rfl hvc (pc0 := 10) (pc' := 18) (same := true) rfl (hb hy d16_10) rfl (decide_eq_true hq) (by decide) (by decide) k) ?_
    show Go p e below _ (T80.setTop (mkF m 18 #[.val (.ref r), .val (.ref sx)] []))
    subst hq
    refine P80.xs (fun hA hx hy t k => XS.aloadN hA hx rfl (hb hy d16_18) rfl rfl  k) ?_
    show Go p e below _ (T80.setTop (mkF m 19 #[.val (.ref r), .val (.ref sx)] [(.ref r)]))
    refine P80.xs (fun hA hx hy t k => XS.iconst hA hx rfl (hb hy d16_19) k) ?_
    show Go p e below _ (T80.setTop (mkF m 20 #[.val (.ref r), .val (.ref sx)] [(.int (1 : Int32)), (.ref r)]))
    refine P80.putF (hw _ (List.mem_of_getElem? (i := 89) rfl)) Via.refl Fc79 Ec71 (Or.inl (hw _ (List.mem_of_getElem? (i := 90) rfl))) (hw _ (List.mem_of_getElem? (i := 35) rfl)) (ty := .boolean) (v' := (.int (1 : Int32))) (by decide) rfl rfl d16_20 (fun vm _ hal _ => Safe.exa hal Ec71 (by decide) (by decide)) gr (Or.inl (List.mem_of_getElem? (i := 0) rfl)) fun T81 h81 P81 W81 => ?_
    show Go p e below _ (T81.setTop (mkF m 23 #[.val (.ref r), .val (.ref sx)] []))
    refine P81.xs (fun hA hx hy t k => XS.aloadN hA hx rfl (hb hy d16_23) rfl rfl  k) ?_
    show Go p e below _ (T81.setTop (mkF m 24 #[.val (.ref r), .val (.ref sx)] [(.ref r)]))
    have Ec82 : Exa Z h81 r "com/example/ration/ration/Request" := (Ec71.wr W81)
    have Fc83 : Fld Z h81 r "com/example/ration/ration/Request" "api" "Lcom/example/ration/ration/Api;" va := (Fc72.other W81 (Or.inr (slot_ne (Or.inl (hw _ (List.mem_of_getElem? (i := 60) rfl))) (Or.inl (hw _ (List.mem_of_getElem? (i := 90) rfl))) (by decide) (t := (.object "com/example/ration/ration/Api")) (t' := .boolean) (by decide) (by decide))))
    have Fc84 : Fld Z h81 r "com/example/ration/ration/Request" "user" "Ljava/lang/String;" vu := (Fc73.other W81 (Or.inr (slot_ne (Or.inl (hw _ (List.mem_of_getElem? (i := 75) rfl))) (Or.inl (hw _ (List.mem_of_getElem? (i := 90) rfl))) (by decide) (t := (.object "java/lang/String")) (t' := .boolean) (by decide) (by decide))))
    have Fc85 : Fld Z h81 r "com/example/ration/ration/Request" "clientId" "Ljava/lang/String;" (.ref sx) := (Fc74.other W81 (Or.inr (slot_ne (Or.inl (hw _ (List.mem_of_getElem? (i := 108) rfl))) (Or.inl (hw _ (List.mem_of_getElem? (i := 90) rfl))) (by decide) (t := (.object "java/lang/String")) (t' := .boolean) (by decide) (by decide))))
    have Fc86 : Fld Z h81 r "com/example/ration/ration/Request" "bytes" "J" (.long jb) := (Fc75.other W81 (Or.inr (slot_ne (Or.inl (hw _ (List.mem_of_getElem? (i := 92) rfl))) (Or.inl (hw _ (List.mem_of_getElem? (i := 90) rfl))) (by decide) (t := .long) (t' := .boolean) (by decide) (by decide))))
    have Fc87 : Fld Z h81 r "com/example/ration/ration/Request" "threadUs" "J" (.long jt) := (Fc76.other W81 (Or.inr (slot_ne (Or.inl (hw _ (List.mem_of_getElem? (i := 94) rfl))) (Or.inl (hw _ (List.mem_of_getElem? (i := 90) rfl))) (by decide) (t := .long) (t' := .boolean) (by decide) (by decide))))
    have Fc88 : Fld Z h81 r "com/example/ration/ration/Request" "producerId" "J" (.long jp) := (Fc77.other W81 (Or.inr (slot_ne (Or.inl (hw _ (List.mem_of_getElem? (i := 49) rfl))) (Or.inl (hw _ (List.mem_of_getElem? (i := 90) rfl))) (by decide) (t := .long) (t' := .boolean) (by decide) (by decide))))
    have Fc89 : Fld Z h81 r "com/example/ration/ration/Request" "userGiven" "Z" (.int gu) := (Fc78.other W81 (Or.inr (slot_ne (Or.inl (hw _ (List.mem_of_getElem? (i := 67) rfl))) (Or.inl (hw _ (List.mem_of_getElem? (i := 90) rfl))) (by decide) (t := .boolean) (t' := .boolean) (by decide) (by decide))))
    have Fc90 : Fld Z h81 r "com/example/ration/ration/Request" "clientIdGiven" "Z" (.int (1 : Int32)) := (Fc79.same W81)
    exact P81.retR rfl rfl rfl d16_24 (by decide) (by decide) ⟨rfl, Ec82, Fc83, Fc84, Fc85, Fc86, Fc87, Fc88, Fc89, Fc90⟩
  · refine P80.st (fun vm0 locs X hx hy t k => Jvm.RoadKit.acmp (g := (mkF m 10 #[.val (.ref r), .val (.ref sx)] [vc, (.ref sx)])) X hx rfl rfl hvc (pc0 := 10) (pc' := 13) (same := false) rfl (hb hy d16_10) rfl (decide_eq_false hq) (by decide) (by decide) k) ?_
    show Go p e below _ (T80.setTop (mkF m 13 #[.val (.ref r), .val (.ref sx)] []))
    refine P80.xs (fun hA hx hy t k => XS.aloadN hA hx rfl (hb hy d16_13) rfl rfl  k) ?_
    show Go p e below _ (T80.setTop (mkF m 14 #[.val (.ref r), .val (.ref sx)] [(.ref r)]))
    refine P80.xs (fun hA hx hy t k => XS.aloadN hA hx rfl (hb hy d16_14) rfl rfl  k) ?_
    show Go p e below _ (T80.setTop (mkF m 15 #[.val (.ref r), .val (.ref sx)] [(.ref sx), (.ref r)]))
    refine P80.putF (hw _ (List.mem_of_getElem? (i := 107) rfl)) Via.refl Fc74 Ec71 (Or.inl (hw _ (List.mem_of_getElem? (i := 108) rfl))) (hw _ (List.mem_of_getElem? (i := 35) rfl)) (ty := (.object "java/lang/String")) (v' := (.ref sx)) (by decide) rfl rfl d16_15 (fun vm _ hal _ => Safe.exa hal Ec71 (by decide) (by decide)) gr (Or.inl (List.mem_of_getElem? (i := 0) rfl)) fun T91 h91 P91 W91 => ?_
    show Go p e below _ (T91.setTop (mkF m 18 #[.val (.ref r), .val (.ref sx)] []))
    refine P91.xs (fun hA hx hy t k => XS.aloadN hA hx rfl (hb hy d16_18) rfl rfl  k) ?_
    show Go p e below _ (T91.setTop (mkF m 19 #[.val (.ref r), .val (.ref sx)] [(.ref r)]))
    refine P91.xs (fun hA hx hy t k => XS.iconst hA hx rfl (hb hy d16_19) k) ?_
    show Go p e below _ (T91.setTop (mkF m 20 #[.val (.ref r), .val (.ref sx)] [(.int (1 : Int32)), (.ref r)]))
    have Ec93 : Exa Z h91 r "com/example/ration/ration/Request" := (Ec71.wr W91)
    have Fc94 : Fld Z h91 r "com/example/ration/ration/Request" "api" "Lcom/example/ration/ration/Api;" va := (Fc72.other W91 (Or.inr (slot_ne (Or.inl (hw _ (List.mem_of_getElem? (i := 60) rfl))) (Or.inl (hw _ (List.mem_of_getElem? (i := 108) rfl))) (by decide) (t := (.object "com/example/ration/ration/Api")) (t' := (.object "java/lang/String")) (by decide) (by decide))))
    have Fc95 : Fld Z h91 r "com/example/ration/ration/Request" "user" "Ljava/lang/String;" vu := (Fc73.other W91 (Or.inr (slot_ne (Or.inl (hw _ (List.mem_of_getElem? (i := 75) rfl))) (Or.inl (hw _ (List.mem_of_getElem? (i := 108) rfl))) (by decide) (t := (.object "java/lang/String")) (t' := (.object "java/lang/String")) (by decide) (by decide))))
    have Fc96 : Fld Z h91 r "com/example/ration/ration/Request" "clientId" "Ljava/lang/String;" (.ref sx) := (Fc74.same W91)
    have Fc97 : Fld Z h91 r "com/example/ration/ration/Request" "bytes" "J" (.long jb) := (Fc75.other W91 (Or.inr (slot_ne (Or.inl (hw _ (List.mem_of_getElem? (i := 92) rfl))) (Or.inl (hw _ (List.mem_of_getElem? (i := 108) rfl))) (by decide) (t := .long) (t' := (.object "java/lang/String")) (by decide) (by decide))))
    have Fc98 : Fld Z h91 r "com/example/ration/ration/Request" "threadUs" "J" (.long jt) := (Fc76.other W91 (Or.inr (slot_ne (Or.inl (hw _ (List.mem_of_getElem? (i := 94) rfl))) (Or.inl (hw _ (List.mem_of_getElem? (i := 108) rfl))) (by decide) (t := .long) (t' := (.object "java/lang/String")) (by decide) (by decide))))
    have Fc99 : Fld Z h91 r "com/example/ration/ration/Request" "producerId" "J" (.long jp) := (Fc77.other W91 (Or.inr (slot_ne (Or.inl (hw _ (List.mem_of_getElem? (i := 49) rfl))) (Or.inl (hw _ (List.mem_of_getElem? (i := 108) rfl))) (by decide) (t := .long) (t' := (.object "java/lang/String")) (by decide) (by decide))))
    have Fc100 : Fld Z h91 r "com/example/ration/ration/Request" "userGiven" "Z" (.int gu) := (Fc78.other W91 (Or.inr (slot_ne (Or.inl (hw _ (List.mem_of_getElem? (i := 67) rfl))) (Or.inl (hw _ (List.mem_of_getElem? (i := 108) rfl))) (by decide) (t := .boolean) (t' := (.object "java/lang/String")) (by decide) (by decide))))
    have Fc101 : Fld Z h91 r "com/example/ration/ration/Request" "clientIdGiven" "Z" (.int gc) := (Fc79.other W91 (Or.inr (slot_ne (Or.inl (hw _ (List.mem_of_getElem? (i := 90) rfl))) (Or.inl (hw _ (List.mem_of_getElem? (i := 108) rfl))) (by decide) (t := .boolean) (t' := (.object "java/lang/String")) (by decide) (by decide))))
    refine P91.putF (hw _ (List.mem_of_getElem? (i := 89) rfl)) Via.refl Fc101 Ec93 (Or.inl (hw _ (List.mem_of_getElem? (i := 90) rfl))) (hw _ (List.mem_of_getElem? (i := 35) rfl)) (ty := .boolean) (v' := (.int (1 : Int32))) (by decide) rfl rfl d16_20 (fun vm _ hal _ => Safe.exa hal Ec93 (by decide) (by decide)) gr (Or.inl (List.mem_of_getElem? (i := 0) rfl)) fun T92 h92 P92 W92 => ?_
    show Go p e below _ (T92.setTop (mkF m 23 #[.val (.ref r), .val (.ref sx)] []))
    refine P92.xs (fun hA hx hy t k => XS.aloadN hA hx rfl (hb hy d16_23) rfl rfl  k) ?_
    show Go p e below _ (T92.setTop (mkF m 24 #[.val (.ref r), .val (.ref sx)] [(.ref r)]))
    have Ec102 : Exa Z h92 r "com/example/ration/ration/Request" := (Ec93.wr W92)
    have Fc103 : Fld Z h92 r "com/example/ration/ration/Request" "api" "Lcom/example/ration/ration/Api;" va := (Fc94.other W92 (Or.inr (slot_ne (Or.inl (hw _ (List.mem_of_getElem? (i := 60) rfl))) (Or.inl (hw _ (List.mem_of_getElem? (i := 90) rfl))) (by decide) (t := (.object "com/example/ration/ration/Api")) (t' := .boolean) (by decide) (by decide))))
    have Fc104 : Fld Z h92 r "com/example/ration/ration/Request" "user" "Ljava/lang/String;" vu := (Fc95.other W92 (Or.inr (slot_ne (Or.inl (hw _ (List.mem_of_getElem? (i := 75) rfl))) (Or.inl (hw _ (List.mem_of_getElem? (i := 90) rfl))) (by decide) (t := (.object "java/lang/String")) (t' := .boolean) (by decide) (by decide))))
    have Fc105 : Fld Z h92 r "com/example/ration/ration/Request" "clientId" "Ljava/lang/String;" (.ref sx) := (Fc96.other W92 (Or.inr (slot_ne (Or.inl (hw _ (List.mem_of_getElem? (i := 108) rfl))) (Or.inl (hw _ (List.mem_of_getElem? (i := 90) rfl))) (by decide) (t := (.object "java/lang/String")) (t' := .boolean) (by decide) (by decide))))
    have Fc106 : Fld Z h92 r "com/example/ration/ration/Request" "bytes" "J" (.long jb) := (Fc97.other W92 (Or.inr (slot_ne (Or.inl (hw _ (List.mem_of_getElem? (i := 92) rfl))) (Or.inl (hw _ (List.mem_of_getElem? (i := 90) rfl))) (by decide) (t := .long) (t' := .boolean) (by decide) (by decide))))
    have Fc107 : Fld Z h92 r "com/example/ration/ration/Request" "threadUs" "J" (.long jt) := (Fc98.other W92 (Or.inr (slot_ne (Or.inl (hw _ (List.mem_of_getElem? (i := 94) rfl))) (Or.inl (hw _ (List.mem_of_getElem? (i := 90) rfl))) (by decide) (t := .long) (t' := .boolean) (by decide) (by decide))))
    have Fc108 : Fld Z h92 r "com/example/ration/ration/Request" "producerId" "J" (.long jp) := (Fc99.other W92 (Or.inr (slot_ne (Or.inl (hw _ (List.mem_of_getElem? (i := 49) rfl))) (Or.inl (hw _ (List.mem_of_getElem? (i := 90) rfl))) (by decide) (t := .long) (t' := .boolean) (by decide) (by decide))))
    have Fc109 : Fld Z h92 r "com/example/ration/ration/Request" "userGiven" "Z" (.int gu) := (Fc100.other W92 (Or.inr (slot_ne (Or.inl (hw _ (List.mem_of_getElem? (i := 67) rfl))) (Or.inl (hw _ (List.mem_of_getElem? (i := 90) rfl))) (by decide) (t := .boolean) (t' := .boolean) (by decide) (by decide))))
    have Fc110 : Fld Z h92 r "com/example/ration/ration/Request" "clientIdGiven" "Z" (.int (1 : Int32)) := (Fc101.same W92)
    exact P92.retR rfl rfl rfl d16_24 (by decide) (by decide) ⟨rfl, Ec102, Fc103, Fc104, Fc105, Fc106, Fc107, Fc108, Fc109, Fc110⟩

def R_rReset : Room := { frames := 1, cells := 2, slots := 16, locals := 13 }
def Q_rReset (Z : State) (r w : Addr) (va vu vc : Value) (jb jt jp : Int64) (gu gc : Int32) (h0 : Heap) (v : Option Value) (h : Heap) : Prop := v = some (.ref r) ∧ Exa Z h r "com/example/ration/ration/Request" ∧ Fld Z h r "com/example/ration/ration/Request" "api" "Lcom/example/ration/ration/Api;" (.ref w) ∧ Fld Z h r "com/example/ration/ration/Request" "user" "Ljava/lang/String;" vu ∧ Fld Z h r "com/example/ration/ration/Request" "clientId" "Ljava/lang/String;" vc ∧ Fld Z h r "com/example/ration/ration/Request" "bytes" "J" (.long (0 : Int64)) ∧ Fld Z h r "com/example/ration/ration/Request" "threadUs" "J" (.long (0 : Int64)) ∧ Fld Z h r "com/example/ration/ration/Request" "producerId" "J" (.long (-1 : Int64)) ∧ Fld Z h r "com/example/ration/ration/Request" "userGiven" "Z" (.int (0 : Int32)) ∧ Fld Z h r "com/example/ration/ration/Request" "clientIdGiven" "Z" (.int (0 : Int32))
set_option maxRecDepth 65536 in
set_option maxHeartbeats 40000000 in
theorem rReset (l : Launch) (Z : State) (a0 : Array Value) (hw : ∀ d ∈ tables_1, d.before a0 Z = true) (hEL : EW Z a0 EL0) (zc : Int32) (S0 : Sta Z Z.heap "java/lang/String" "COMPACT_STRINGS" "Z" (.int zc)) (Pz : ¬ zc = 0) (w_P w_F w_O w_C : Addr) (S_PRODUCE : Sta Z Z.heap "com/example/ration/ration/Api" "PRODUCE" "Lcom/example/ration/ration/Api;" (.ref w_P)) (E_PRODUCE : Exa Z Z.heap w_P "com/example/ration/ration/Api") (S_FETCH : Sta Z Z.heap "com/example/ration/ration/Api" "FETCH" "Lcom/example/ration/ration/Api;" (.ref w_F)) (E_FETCH : Exa Z Z.heap w_F "com/example/ration/ration/Api") (S_OTHER : Sta Z Z.heap "com/example/ration/ration/Api" "OTHER" "Lcom/example/ration/ration/Api;" (.ref w_O)) (E_OTHER : Exa Z Z.heap w_O "com/example/ration/ration/Api") (S_CLUSTER : Sta Z Z.heap "com/example/ration/ration/Api" "CLUSTER" "Lcom/example/ration/ration/Api;" (.ref w_C)) (E_CLUSTER : Exa Z Z.heap w_C "com/example/ration/ration/Api") (r w : Addr) (va vu vc : Value) (hva : va.isRef = true) (hvu : vu.isRef = true) (hvc : vc.isRef = true) (jb jt jp : Int64) (gu gc : Int32) (h0 : Heap) (hO : Ext Z.heap h0) (E : Exa Z h0 r "com/example/ration/ration/Request") (F_api : Fld Z h0 r "com/example/ration/ration/Request" "api" "Lcom/example/ration/ration/Api;" va) (F_user : Fld Z h0 r "com/example/ration/ration/Request" "user" "Ljava/lang/String;" vu) (F_clientId : Fld Z h0 r "com/example/ration/ration/Request" "clientId" "Ljava/lang/String;" vc) (F_bytes : Fld Z h0 r "com/example/ration/ration/Request" "bytes" "J" (.long jb)) (F_threadUs : Fld Z h0 r "com/example/ration/ration/Request" "threadUs" "J" (.long jt)) (F_producerId : Fld Z h0 r "com/example/ration/ration/Request" "producerId" "J" (.long jp)) (F_userGiven : Fld Z h0 r "com/example/ration/ration/Request" "userGiven" "Z" (.int gu)) (F_clientIdGiven : Fld Z h0 r "com/example/ration/ration/Request" "clientIdGiven" "Z" (.int gc)) (gr : Z.heap.size ≤ r) :
    Con l Z EL0 [] (⟨"com/example/ration/ration/Request", "reset", "(Lcom/example/ration/ration/Api;)Lcom/example/ration/ration/Request;"⟩ : MethodName) prog_29_method_2_code 2 (some (.object "com/example/ration/ration/Request")) R_rReset #[(.ref r), (.ref w)] h0 [r] (Q_rReset Z r w va vu vc jb jt jp gu gc h0) := by
  refine Con.of (y := (⟨"com/example/ration/ration/Request", "reset", "(Lcom/example/ration/ration/Api;)Lcom/example/ration/ration/Request;"⟩ : MethodName)) (f0 := fun m => mkF m 0 #[.val (.ref r), .val (.ref w)] []) (plainFor_of_name pn_2) hEL hO (fun m => by skip <;> first | (simp [entryFrame, mkF, argsToLocals, Value.category, maxLocals]; done) | rfl) ?_
  intro p e s m below meth c s₁ P0
  show Go p e below _ (s₁.setTop (mkF m 0 #[.val (.ref r), .val (.ref w)] []))
  refine P0.xs (fun hA hx hy t k => XS.aloadN hA hx rfl (hb hy d15_0) rfl rfl  k) ?_
  show Go p e below _ (s₁.setTop (mkF m 1 #[.val (.ref r), .val (.ref w)] [(.ref w)]))
  refine P0.ldcO (hw _ (List.mem_of_getElem? (i := 50) rfl)) (wSt hw) d15_1 (n := 12) (by decide) (by decide) (by decide) (by decide) fun T111 h111 o111 P111 E111 => ?_
  show Go p e below _ (T111.setTop (mkF m 3 #[.val (.ref r), .val (.ref w)] [(.ref o111), (.ref w)]))
  have Ec113 : Exa Z h111 r "com/example/ration/ration/Request" := (E.ext E111)
  have Fc114 : Fld Z h111 r "com/example/ration/ration/Request" "api" "Lcom/example/ration/ration/Api;" va := (F_api.ext E111)
  have Fc115 : Fld Z h111 r "com/example/ration/ration/Request" "user" "Ljava/lang/String;" vu := (F_user.ext E111)
  have Fc116 : Fld Z h111 r "com/example/ration/ration/Request" "clientId" "Ljava/lang/String;" vc := (F_clientId.ext E111)
  have Fc117 : Fld Z h111 r "com/example/ration/ration/Request" "bytes" "J" (.long jb) := (F_bytes.ext E111)
  have Fc118 : Fld Z h111 r "com/example/ration/ration/Request" "threadUs" "J" (.long jt) := (F_threadUs.ext E111)
  have Fc119 : Fld Z h111 r "com/example/ration/ration/Request" "producerId" "J" (.long jp) := (F_producerId.ext E111)
  have Fc120 : Fld Z h111 r "com/example/ration/ration/Request" "userGiven" "Z" (.int gu) := (F_userGiven.ext E111)
  have Fc121 : Fld Z h111 r "com/example/ration/ration/Request" "clientIdGiven" "Z" (.int gc) := (F_clientIdGiven.ext E111)
  refine P111.callS (hw _ (List.mem_of_getElem? (i := 53) rfl)) (hw _ (List.mem_of_getElem? (i := 54) rfl)) (hw _ (List.mem_of_getElem? (i := 55) rfl)) (hw _ (List.mem_of_getElem? (i := 56) rfl)) (by decide) (reqNN l Z a0 hw hEL zc S0 Pz w_P w_F w_O w_C S_PRODUCE E_PRODUCE S_FETCH E_FETCH S_OTHER E_OTHER S_CLUSTER E_CLUSTER w o111 h111 P111.old) (W := 0) (by decide) (by decide) (by decide) (by decide) all0 pd_0 (argsL := [(.ref w), (.ref o111)]) rfl rfl rfl (Nat.le_of_eq rfl) d15_3 fun v112 T112 h112 P112 K112 Q112 => ?_
  obtain ⟨hv112, hh112⟩ := Q112
  subst hv112
  rw [hh112] at P112
  show Go p e below _ (T112.setTop (mkF m 6 #[.val (.ref r), .val (.ref w)] [(.ref w)]))
  refine P112.xs (fun hA hx hy t k => XS.aloadN hA hx rfl (hb hy d15_6) rfl rfl  k) ?_
  show Go p e below _ (T112.setTop (mkF m 7 #[.val (.ref r), .val (.ref w)] [(.ref r), (.ref w)]))
  refine P112.getF (host := "") (Or.inl (hw _ (List.mem_of_getElem? (i := 59) rfl))) Via.refl Fc114 d15_7 fun T122 P122 => ?_
  show Go p e below _ (T122.setTop (mkF m 10 #[.val (.ref r), .val (.ref w)] [va, (.ref w)]))
  by_cases hq : (Value.ref w) = va
  · refine P122.st (fun vm0 locs X hx hy t k => Jvm.RoadKit.acmp (g := (mkF m 10 #[.val (.ref r), .val (.ref w)] [va, (.ref w)])) X hx rfl rfl hva (pc0 := 10) (pc' := 18) (same := true) rfl (hb hy d15_10) rfl (decide_eq_true hq) (by decide) (by decide) k) ?_
    show Go p e below _ (T122.setTop (mkF m 18 #[.val (.ref r), .val (.ref w)] []))
    subst hq
    refine P122.xs (fun hA hx hy t k => XS.aloadN hA hx rfl (hb hy d15_18) rfl rfl  k) ?_
    show Go p e below _ (T122.setTop (mkF m 19 #[.val (.ref r), .val (.ref w)] [(.ref r)]))
    refine P122.xs (fun hA hx hy t k => XS.iconst hA hx rfl (hb hy d15_19) k) ?_
    show Go p e below _ (T122.setTop (mkF m 20 #[.val (.ref r), .val (.ref w)] [(.int (0 : Int32)), (.ref r)]))
    refine P122.putF (hw _ (List.mem_of_getElem? (i := 66) rfl)) Via.refl Fc120 Ec113 (Or.inl (hw _ (List.mem_of_getElem? (i := 67) rfl))) (hw _ (List.mem_of_getElem? (i := 35) rfl)) (ty := .boolean) (v' := (.int (0 : Int32))) (by decide) rfl rfl d15_20 (fun vm _ hal _ => Safe.exa hal Ec113 (by decide) (by decide)) gr (Or.inl (List.mem_of_getElem? (i := 0) rfl)) fun T123 h123 P123 W123 => ?_
    show Go p e below _ (T123.setTop (mkF m 23 #[.val (.ref r), .val (.ref w)] []))
    refine P123.xs (fun hA hx hy t k => XS.aloadN hA hx rfl (hb hy d15_23) rfl rfl  k) ?_
    show Go p e below _ (T123.setTop (mkF m 24 #[.val (.ref r), .val (.ref w)] [(.ref r)]))
    refine P123.xs (fun hA hx hy t k => XS.iconst hA hx rfl (hb hy d15_24) k) ?_
    show Go p e below _ (T123.setTop (mkF m 25 #[.val (.ref r), .val (.ref w)] [(.int (0 : Int32)), (.ref r)]))
    have Ec125 : Exa Z h123 r "com/example/ration/ration/Request" := (Ec113.wr W123)
    have Fc126 : Fld Z h123 r "com/example/ration/ration/Request" "api" "Lcom/example/ration/ration/Api;" (.ref w) := (Fc114.other W123 (Or.inr (slot_ne (Or.inl (hw _ (List.mem_of_getElem? (i := 60) rfl))) (Or.inl (hw _ (List.mem_of_getElem? (i := 67) rfl))) (by decide) (t := (.object "com/example/ration/ration/Api")) (t' := .boolean) (by decide) (by decide))))
    have Fc127 : Fld Z h123 r "com/example/ration/ration/Request" "user" "Ljava/lang/String;" vu := (Fc115.other W123 (Or.inr (slot_ne (Or.inl (hw _ (List.mem_of_getElem? (i := 75) rfl))) (Or.inl (hw _ (List.mem_of_getElem? (i := 67) rfl))) (by decide) (t := (.object "java/lang/String")) (t' := .boolean) (by decide) (by decide))))
    have Fc128 : Fld Z h123 r "com/example/ration/ration/Request" "clientId" "Ljava/lang/String;" vc := (Fc116.other W123 (Or.inr (slot_ne (Or.inl (hw _ (List.mem_of_getElem? (i := 108) rfl))) (Or.inl (hw _ (List.mem_of_getElem? (i := 67) rfl))) (by decide) (t := (.object "java/lang/String")) (t' := .boolean) (by decide) (by decide))))
    have Fc129 : Fld Z h123 r "com/example/ration/ration/Request" "bytes" "J" (.long jb) := (Fc117.other W123 (Or.inr (slot_ne (Or.inl (hw _ (List.mem_of_getElem? (i := 92) rfl))) (Or.inl (hw _ (List.mem_of_getElem? (i := 67) rfl))) (by decide) (t := .long) (t' := .boolean) (by decide) (by decide))))
    have Fc130 : Fld Z h123 r "com/example/ration/ration/Request" "threadUs" "J" (.long jt) := (Fc118.other W123 (Or.inr (slot_ne (Or.inl (hw _ (List.mem_of_getElem? (i := 94) rfl))) (Or.inl (hw _ (List.mem_of_getElem? (i := 67) rfl))) (by decide) (t := .long) (t' := .boolean) (by decide) (by decide))))
    have Fc131 : Fld Z h123 r "com/example/ration/ration/Request" "producerId" "J" (.long jp) := (Fc119.other W123 (Or.inr (slot_ne (Or.inl (hw _ (List.mem_of_getElem? (i := 49) rfl))) (Or.inl (hw _ (List.mem_of_getElem? (i := 67) rfl))) (by decide) (t := .long) (t' := .boolean) (by decide) (by decide))))
    have Fc132 : Fld Z h123 r "com/example/ration/ration/Request" "userGiven" "Z" (.int (0 : Int32)) := (Fc120.same W123)
    have Fc133 : Fld Z h123 r "com/example/ration/ration/Request" "clientIdGiven" "Z" (.int gc) := (Fc121.other W123 (Or.inr (slot_ne (Or.inl (hw _ (List.mem_of_getElem? (i := 90) rfl))) (Or.inl (hw _ (List.mem_of_getElem? (i := 67) rfl))) (by decide) (t := .boolean) (t' := .boolean) (by decide) (by decide))))
    refine P123.putF (hw _ (List.mem_of_getElem? (i := 89) rfl)) Via.refl Fc133 Ec125 (Or.inl (hw _ (List.mem_of_getElem? (i := 90) rfl))) (hw _ (List.mem_of_getElem? (i := 35) rfl)) (ty := .boolean) (v' := (.int (0 : Int32))) (by decide) rfl rfl d15_25 (fun vm _ hal _ => Safe.exa hal Ec125 (by decide) (by decide)) gr (Or.inl (List.mem_of_getElem? (i := 0) rfl)) fun T124 h124 P124 W124 => ?_
    show Go p e below _ (T124.setTop (mkF m 28 #[.val (.ref r), .val (.ref w)] []))
    refine P124.xs (fun hA hx hy t k => XS.aloadN hA hx rfl (hb hy d15_28) rfl rfl  k) ?_
    show Go p e below _ (T124.setTop (mkF m 29 #[.val (.ref r), .val (.ref w)] [(.ref r)]))
    refine P124.xs (fun hA hx hy t k => XS.lconst hA hx rfl (hb hy d15_29) k) ?_
    show Go p e below _ (T124.setTop (mkF m 30 #[.val (.ref r), .val (.ref w)] [(.long (0 : Int64)), (.ref r)]))
    have Ec135 : Exa Z h124 r "com/example/ration/ration/Request" := (Ec125.wr W124)
    have Fc136 : Fld Z h124 r "com/example/ration/ration/Request" "api" "Lcom/example/ration/ration/Api;" (.ref w) := (Fc126.other W124 (Or.inr (slot_ne (Or.inl (hw _ (List.mem_of_getElem? (i := 60) rfl))) (Or.inl (hw _ (List.mem_of_getElem? (i := 90) rfl))) (by decide) (t := (.object "com/example/ration/ration/Api")) (t' := .boolean) (by decide) (by decide))))
    have Fc137 : Fld Z h124 r "com/example/ration/ration/Request" "user" "Ljava/lang/String;" vu := (Fc127.other W124 (Or.inr (slot_ne (Or.inl (hw _ (List.mem_of_getElem? (i := 75) rfl))) (Or.inl (hw _ (List.mem_of_getElem? (i := 90) rfl))) (by decide) (t := (.object "java/lang/String")) (t' := .boolean) (by decide) (by decide))))
    have Fc138 : Fld Z h124 r "com/example/ration/ration/Request" "clientId" "Ljava/lang/String;" vc := (Fc128.other W124 (Or.inr (slot_ne (Or.inl (hw _ (List.mem_of_getElem? (i := 108) rfl))) (Or.inl (hw _ (List.mem_of_getElem? (i := 90) rfl))) (by decide) (t := (.object "java/lang/String")) (t' := .boolean) (by decide) (by decide))))
    have Fc139 : Fld Z h124 r "com/example/ration/ration/Request" "bytes" "J" (.long jb) := (Fc129.other W124 (Or.inr (slot_ne (Or.inl (hw _ (List.mem_of_getElem? (i := 92) rfl))) (Or.inl (hw _ (List.mem_of_getElem? (i := 90) rfl))) (by decide) (t := .long) (t' := .boolean) (by decide) (by decide))))
    have Fc140 : Fld Z h124 r "com/example/ration/ration/Request" "threadUs" "J" (.long jt) := (Fc130.other W124 (Or.inr (slot_ne (Or.inl (hw _ (List.mem_of_getElem? (i := 94) rfl))) (Or.inl (hw _ (List.mem_of_getElem? (i := 90) rfl))) (by decide) (t := .long) (t' := .boolean) (by decide) (by decide))))
    have Fc141 : Fld Z h124 r "com/example/ration/ration/Request" "producerId" "J" (.long jp) := (Fc131.other W124 (Or.inr (slot_ne (Or.inl (hw _ (List.mem_of_getElem? (i := 49) rfl))) (Or.inl (hw _ (List.mem_of_getElem? (i := 90) rfl))) (by decide) (t := .long) (t' := .boolean) (by decide) (by decide))))
    have Fc142 : Fld Z h124 r "com/example/ration/ration/Request" "userGiven" "Z" (.int (0 : Int32)) := (Fc132.other W124 (Or.inr (slot_ne (Or.inl (hw _ (List.mem_of_getElem? (i := 67) rfl))) (Or.inl (hw _ (List.mem_of_getElem? (i := 90) rfl))) (by decide) (t := .boolean) (t' := .boolean) (by decide) (by decide))))
    have Fc143 : Fld Z h124 r "com/example/ration/ration/Request" "clientIdGiven" "Z" (.int (0 : Int32)) := (Fc133.same W124)
    refine P124.putF (hw _ (List.mem_of_getElem? (i := 91) rfl)) Via.refl Fc139 Ec135 (Or.inl (hw _ (List.mem_of_getElem? (i := 92) rfl))) (hw _ (List.mem_of_getElem? (i := 35) rfl)) (ty := .long) (v' := (.long (0 : Int64))) (by decide) rfl rfl d15_30 (fun vm _ hal _ => Safe.exa hal Ec135 (by decide) (by decide)) gr (Or.inl (List.mem_of_getElem? (i := 0) rfl)) fun T134 h134 P134 W134 => ?_
    show Go p e below _ (T134.setTop (mkF m 33 #[.val (.ref r), .val (.ref w)] []))
    refine P134.xs (fun hA hx hy t k => XS.aloadN hA hx rfl (hb hy d15_33) rfl rfl  k) ?_
    show Go p e below _ (T134.setTop (mkF m 34 #[.val (.ref r), .val (.ref w)] [(.ref r)]))
    refine P134.xs (fun hA hx hy t k => XS.lconst hA hx rfl (hb hy d15_34) k) ?_
    show Go p e below _ (T134.setTop (mkF m 35 #[.val (.ref r), .val (.ref w)] [(.long (0 : Int64)), (.ref r)]))
    have Ec145 : Exa Z h134 r "com/example/ration/ration/Request" := (Ec135.wr W134)
    have Fc146 : Fld Z h134 r "com/example/ration/ration/Request" "api" "Lcom/example/ration/ration/Api;" (.ref w) := (Fc136.other W134 (Or.inr (slot_ne (Or.inl (hw _ (List.mem_of_getElem? (i := 60) rfl))) (Or.inl (hw _ (List.mem_of_getElem? (i := 92) rfl))) (by decide) (t := (.object "com/example/ration/ration/Api")) (t' := .long) (by decide) (by decide))))
    have Fc147 : Fld Z h134 r "com/example/ration/ration/Request" "user" "Ljava/lang/String;" vu := (Fc137.other W134 (Or.inr (slot_ne (Or.inl (hw _ (List.mem_of_getElem? (i := 75) rfl))) (Or.inl (hw _ (List.mem_of_getElem? (i := 92) rfl))) (by decide) (t := (.object "java/lang/String")) (t' := .long) (by decide) (by decide))))
    have Fc148 : Fld Z h134 r "com/example/ration/ration/Request" "clientId" "Ljava/lang/String;" vc := (Fc138.other W134 (Or.inr (slot_ne (Or.inl (hw _ (List.mem_of_getElem? (i := 108) rfl))) (Or.inl (hw _ (List.mem_of_getElem? (i := 92) rfl))) (by decide) (t := (.object "java/lang/String")) (t' := .long) (by decide) (by decide))))
    have Fc149 : Fld Z h134 r "com/example/ration/ration/Request" "bytes" "J" (.long (0 : Int64)) := (Fc139.same W134)
    have Fc150 : Fld Z h134 r "com/example/ration/ration/Request" "threadUs" "J" (.long jt) := (Fc140.other W134 (Or.inr (slot_ne (Or.inl (hw _ (List.mem_of_getElem? (i := 94) rfl))) (Or.inl (hw _ (List.mem_of_getElem? (i := 92) rfl))) (by decide) (t := .long) (t' := .long) (by decide) (by decide))))
    have Fc151 : Fld Z h134 r "com/example/ration/ration/Request" "producerId" "J" (.long jp) := (Fc141.other W134 (Or.inr (slot_ne (Or.inl (hw _ (List.mem_of_getElem? (i := 49) rfl))) (Or.inl (hw _ (List.mem_of_getElem? (i := 92) rfl))) (by decide) (t := .long) (t' := .long) (by decide) (by decide))))
    have Fc152 : Fld Z h134 r "com/example/ration/ration/Request" "userGiven" "Z" (.int (0 : Int32)) := (Fc142.other W134 (Or.inr (slot_ne (Or.inl (hw _ (List.mem_of_getElem? (i := 67) rfl))) (Or.inl (hw _ (List.mem_of_getElem? (i := 92) rfl))) (by decide) (t := .boolean) (t' := .long) (by decide) (by decide))))
    have Fc153 : Fld Z h134 r "com/example/ration/ration/Request" "clientIdGiven" "Z" (.int (0 : Int32)) := (Fc143.other W134 (Or.inr (slot_ne (Or.inl (hw _ (List.mem_of_getElem? (i := 90) rfl))) (Or.inl (hw _ (List.mem_of_getElem? (i := 92) rfl))) (by decide) (t := .boolean) (t' := .long) (by decide) (by decide))))
    refine P134.putF (hw _ (List.mem_of_getElem? (i := 93) rfl)) Via.refl Fc150 Ec145 (Or.inl (hw _ (List.mem_of_getElem? (i := 94) rfl))) (hw _ (List.mem_of_getElem? (i := 35) rfl)) (ty := .long) (v' := (.long (0 : Int64))) (by decide) rfl rfl d15_35 (fun vm _ hal _ => Safe.exa hal Ec145 (by decide) (by decide)) gr (Or.inl (List.mem_of_getElem? (i := 0) rfl)) fun T144 h144 P144 W144 => ?_
    show Go p e below _ (T144.setTop (mkF m 38 #[.val (.ref r), .val (.ref w)] []))
    refine P144.xs (fun hA hx hy t k => XS.aloadN hA hx rfl (hb hy d15_38) rfl rfl  k) ?_
    show Go p e below _ (T144.setTop (mkF m 39 #[.val (.ref r), .val (.ref w)] [(.ref r)]))
    refine P144.ldc2 (hw _ (List.mem_of_getElem? (i := 47) rfl)) d15_39 ?_
    show Go p e below _ (T144.setTop (mkF m 42 #[.val (.ref r), .val (.ref w)] [(.long (-1 : Int64)), (.ref r)]))
    have Ec155 : Exa Z h144 r "com/example/ration/ration/Request" := (Ec145.wr W144)
    have Fc156 : Fld Z h144 r "com/example/ration/ration/Request" "api" "Lcom/example/ration/ration/Api;" (.ref w) := (Fc146.other W144 (Or.inr (slot_ne (Or.inl (hw _ (List.mem_of_getElem? (i := 60) rfl))) (Or.inl (hw _ (List.mem_of_getElem? (i := 94) rfl))) (by decide) (t := (.object "com/example/ration/ration/Api")) (t' := .long) (by decide) (by decide))))
    have Fc157 : Fld Z h144 r "com/example/ration/ration/Request" "user" "Ljava/lang/String;" vu := (Fc147.other W144 (Or.inr (slot_ne (Or.inl (hw _ (List.mem_of_getElem? (i := 75) rfl))) (Or.inl (hw _ (List.mem_of_getElem? (i := 94) rfl))) (by decide) (t := (.object "java/lang/String")) (t' := .long) (by decide) (by decide))))
    have Fc158 : Fld Z h144 r "com/example/ration/ration/Request" "clientId" "Ljava/lang/String;" vc := (Fc148.other W144 (Or.inr (slot_ne (Or.inl (hw _ (List.mem_of_getElem? (i := 108) rfl))) (Or.inl (hw _ (List.mem_of_getElem? (i := 94) rfl))) (by decide) (t := (.object "java/lang/String")) (t' := .long) (by decide) (by decide))))
    have Fc159 : Fld Z h144 r "com/example/ration/ration/Request" "bytes" "J" (.long (0 : Int64)) := (Fc149.other W144 (Or.inr (slot_ne (Or.inl (hw _ (List.mem_of_getElem? (i := 92) rfl))) (Or.inl (hw _ (List.mem_of_getElem? (i := 94) rfl))) (by decide) (t := .long) (t' := .long) (by decide) (by decide))))
    have Fc160 : Fld Z h144 r "com/example/ration/ration/Request" "threadUs" "J" (.long (0 : Int64)) := (Fc150.same W144)
    have Fc161 : Fld Z h144 r "com/example/ration/ration/Request" "producerId" "J" (.long jp) := (Fc151.other W144 (Or.inr (slot_ne (Or.inl (hw _ (List.mem_of_getElem? (i := 49) rfl))) (Or.inl (hw _ (List.mem_of_getElem? (i := 94) rfl))) (by decide) (t := .long) (t' := .long) (by decide) (by decide))))
    have Fc162 : Fld Z h144 r "com/example/ration/ration/Request" "userGiven" "Z" (.int (0 : Int32)) := (Fc152.other W144 (Or.inr (slot_ne (Or.inl (hw _ (List.mem_of_getElem? (i := 67) rfl))) (Or.inl (hw _ (List.mem_of_getElem? (i := 94) rfl))) (by decide) (t := .boolean) (t' := .long) (by decide) (by decide))))
    have Fc163 : Fld Z h144 r "com/example/ration/ration/Request" "clientIdGiven" "Z" (.int (0 : Int32)) := (Fc153.other W144 (Or.inr (slot_ne (Or.inl (hw _ (List.mem_of_getElem? (i := 90) rfl))) (Or.inl (hw _ (List.mem_of_getElem? (i := 94) rfl))) (by decide) (t := .boolean) (t' := .long) (by decide) (by decide))))
    refine P144.putF (hw _ (List.mem_of_getElem? (i := 48) rfl)) Via.refl Fc161 Ec155 (Or.inl (hw _ (List.mem_of_getElem? (i := 49) rfl))) (hw _ (List.mem_of_getElem? (i := 35) rfl)) (ty := .long) (v' := (.long (-1 : Int64))) (by decide) rfl rfl d15_42 (fun vm _ hal _ => Safe.exa hal Ec155 (by decide) (by decide)) gr (Or.inl (List.mem_of_getElem? (i := 0) rfl)) fun T154 h154 P154 W154 => ?_
    show Go p e below _ (T154.setTop (mkF m 45 #[.val (.ref r), .val (.ref w)] []))
    refine P154.xs (fun hA hx hy t k => XS.aloadN hA hx rfl (hb hy d15_45) rfl rfl  k) ?_
    show Go p e below _ (T154.setTop (mkF m 46 #[.val (.ref r), .val (.ref w)] [(.ref r)]))
    have Ec164 : Exa Z h154 r "com/example/ration/ration/Request" := (Ec155.wr W154)
    have Fc165 : Fld Z h154 r "com/example/ration/ration/Request" "api" "Lcom/example/ration/ration/Api;" (.ref w) := (Fc156.other W154 (Or.inr (slot_ne (Or.inl (hw _ (List.mem_of_getElem? (i := 60) rfl))) (Or.inl (hw _ (List.mem_of_getElem? (i := 49) rfl))) (by decide) (t := (.object "com/example/ration/ration/Api")) (t' := .long) (by decide) (by decide))))
    have Fc166 : Fld Z h154 r "com/example/ration/ration/Request" "user" "Ljava/lang/String;" vu := (Fc157.other W154 (Or.inr (slot_ne (Or.inl (hw _ (List.mem_of_getElem? (i := 75) rfl))) (Or.inl (hw _ (List.mem_of_getElem? (i := 49) rfl))) (by decide) (t := (.object "java/lang/String")) (t' := .long) (by decide) (by decide))))
    have Fc167 : Fld Z h154 r "com/example/ration/ration/Request" "clientId" "Ljava/lang/String;" vc := (Fc158.other W154 (Or.inr (slot_ne (Or.inl (hw _ (List.mem_of_getElem? (i := 108) rfl))) (Or.inl (hw _ (List.mem_of_getElem? (i := 49) rfl))) (by decide) (t := (.object "java/lang/String")) (t' := .long) (by decide) (by decide))))
    have Fc168 : Fld Z h154 r "com/example/ration/ration/Request" "bytes" "J" (.long (0 : Int64)) := (Fc159.other W154 (Or.inr (slot_ne (Or.inl (hw _ (List.mem_of_getElem? (i := 92) rfl))) (Or.inl (hw _ (List.mem_of_getElem? (i := 49) rfl))) (by decide) (t := .long) (t' := .long) (by decide) (by decide))))
    have Fc169 : Fld Z h154 r "com/example/ration/ration/Request" "threadUs" "J" (.long (0 : Int64)) := (Fc160.other W154 (Or.inr (slot_ne (Or.inl (hw _ (List.mem_of_getElem? (i := 94) rfl))) (Or.inl (hw _ (List.mem_of_getElem? (i := 49) rfl))) (by decide) (t := .long) (t' := .long) (by decide) (by decide))))
    have Fc170 : Fld Z h154 r "com/example/ration/ration/Request" "producerId" "J" (.long (-1 : Int64)) := (Fc161.same W154)
    have Fc171 : Fld Z h154 r "com/example/ration/ration/Request" "userGiven" "Z" (.int (0 : Int32)) := (Fc162.other W154 (Or.inr (slot_ne (Or.inl (hw _ (List.mem_of_getElem? (i := 67) rfl))) (Or.inl (hw _ (List.mem_of_getElem? (i := 49) rfl))) (by decide) (t := .boolean) (t' := .long) (by decide) (by decide))))
    have Fc172 : Fld Z h154 r "com/example/ration/ration/Request" "clientIdGiven" "Z" (.int (0 : Int32)) := (Fc163.other W154 (Or.inr (slot_ne (Or.inl (hw _ (List.mem_of_getElem? (i := 90) rfl))) (Or.inl (hw _ (List.mem_of_getElem? (i := 49) rfl))) (by decide) (t := .boolean) (t' := .long) (by decide) (by decide))))
    exact P154.retR rfl rfl rfl d15_46 (by decide) (by decide) ⟨rfl, Ec164, Fc165, Fc166, Fc167, Fc168, Fc169, Fc170, Fc171, Fc172⟩
  · refine P122.st (fun vm0 locs X hx hy t k => Jvm.RoadKit.acmp (g := (mkF m 10 #[.val (.ref r), .val (.ref w)] [va, (.ref w)])) X hx rfl rfl hva (pc0 := 10) (pc' := 13) (same := false) rfl (hb hy d15_10) rfl (decide_eq_false hq) (by decide) (by decide) k) ?_
    show Go p e below _ (T122.setTop (mkF m 13 #[.val (.ref r), .val (.ref w)] []))
    refine P122.xs (fun hA hx hy t k => XS.aloadN hA hx rfl (hb hy d15_13) rfl rfl  k) ?_
    show Go p e below _ (T122.setTop (mkF m 14 #[.val (.ref r), .val (.ref w)] [(.ref r)]))
    refine P122.xs (fun hA hx hy t k => XS.aloadN hA hx rfl (hb hy d15_14) rfl rfl  k) ?_
    show Go p e below _ (T122.setTop (mkF m 15 #[.val (.ref r), .val (.ref w)] [(.ref w), (.ref r)]))
    refine P122.putF (hw _ (List.mem_of_getElem? (i := 59) rfl)) Via.refl Fc114 Ec113 (Or.inl (hw _ (List.mem_of_getElem? (i := 60) rfl))) (hw _ (List.mem_of_getElem? (i := 35) rfl)) (ty := (.object "com/example/ration/ration/Api")) (v' := (.ref w)) (by decide) rfl rfl d15_15 (fun vm _ hal _ => Safe.exa hal Ec113 (by decide) (by decide)) gr (Or.inl (List.mem_of_getElem? (i := 0) rfl)) fun T173 h173 P173 W173 => ?_
    show Go p e below _ (T173.setTop (mkF m 18 #[.val (.ref r), .val (.ref w)] []))
    refine P173.xs (fun hA hx hy t k => XS.aloadN hA hx rfl (hb hy d15_18) rfl rfl  k) ?_
    show Go p e below _ (T173.setTop (mkF m 19 #[.val (.ref r), .val (.ref w)] [(.ref r)]))
    refine P173.xs (fun hA hx hy t k => XS.iconst hA hx rfl (hb hy d15_19) k) ?_
    show Go p e below _ (T173.setTop (mkF m 20 #[.val (.ref r), .val (.ref w)] [(.int (0 : Int32)), (.ref r)]))
    have Ec175 : Exa Z h173 r "com/example/ration/ration/Request" := (Ec113.wr W173)
    have Fc176 : Fld Z h173 r "com/example/ration/ration/Request" "api" "Lcom/example/ration/ration/Api;" (.ref w) := (Fc114.same W173)
    have Fc177 : Fld Z h173 r "com/example/ration/ration/Request" "user" "Ljava/lang/String;" vu := (Fc115.other W173 (Or.inr (slot_ne (Or.inl (hw _ (List.mem_of_getElem? (i := 75) rfl))) (Or.inl (hw _ (List.mem_of_getElem? (i := 60) rfl))) (by decide) (t := (.object "java/lang/String")) (t' := (.object "com/example/ration/ration/Api")) (by decide) (by decide))))
    have Fc178 : Fld Z h173 r "com/example/ration/ration/Request" "clientId" "Ljava/lang/String;" vc := (Fc116.other W173 (Or.inr (slot_ne (Or.inl (hw _ (List.mem_of_getElem? (i := 108) rfl))) (Or.inl (hw _ (List.mem_of_getElem? (i := 60) rfl))) (by decide) (t := (.object "java/lang/String")) (t' := (.object "com/example/ration/ration/Api")) (by decide) (by decide))))
    have Fc179 : Fld Z h173 r "com/example/ration/ration/Request" "bytes" "J" (.long jb) := (Fc117.other W173 (Or.inr (slot_ne (Or.inl (hw _ (List.mem_of_getElem? (i := 92) rfl))) (Or.inl (hw _ (List.mem_of_getElem? (i := 60) rfl))) (by decide) (t := .long) (t' := (.object "com/example/ration/ration/Api")) (by decide) (by decide))))
    have Fc180 : Fld Z h173 r "com/example/ration/ration/Request" "threadUs" "J" (.long jt) := (Fc118.other W173 (Or.inr (slot_ne (Or.inl (hw _ (List.mem_of_getElem? (i := 94) rfl))) (Or.inl (hw _ (List.mem_of_getElem? (i := 60) rfl))) (by decide) (t := .long) (t' := (.object "com/example/ration/ration/Api")) (by decide) (by decide))))
    have Fc181 : Fld Z h173 r "com/example/ration/ration/Request" "producerId" "J" (.long jp) := (Fc119.other W173 (Or.inr (slot_ne (Or.inl (hw _ (List.mem_of_getElem? (i := 49) rfl))) (Or.inl (hw _ (List.mem_of_getElem? (i := 60) rfl))) (by decide) (t := .long) (t' := (.object "com/example/ration/ration/Api")) (by decide) (by decide))))
    have Fc182 : Fld Z h173 r "com/example/ration/ration/Request" "userGiven" "Z" (.int gu) := (Fc120.other W173 (Or.inr (slot_ne (Or.inl (hw _ (List.mem_of_getElem? (i := 67) rfl))) (Or.inl (hw _ (List.mem_of_getElem? (i := 60) rfl))) (by decide) (t := .boolean) (t' := (.object "com/example/ration/ration/Api")) (by decide) (by decide))))
    have Fc183 : Fld Z h173 r "com/example/ration/ration/Request" "clientIdGiven" "Z" (.int gc) := (Fc121.other W173 (Or.inr (slot_ne (Or.inl (hw _ (List.mem_of_getElem? (i := 90) rfl))) (Or.inl (hw _ (List.mem_of_getElem? (i := 60) rfl))) (by decide) (t := .boolean) (t' := (.object "com/example/ration/ration/Api")) (by decide) (by decide))))
    refine P173.putF (hw _ (List.mem_of_getElem? (i := 66) rfl)) Via.refl Fc182 Ec175 (Or.inl (hw _ (List.mem_of_getElem? (i := 67) rfl))) (hw _ (List.mem_of_getElem? (i := 35) rfl)) (ty := .boolean) (v' := (.int (0 : Int32))) (by decide) rfl rfl d15_20 (fun vm _ hal _ => Safe.exa hal Ec175 (by decide) (by decide)) gr (Or.inl (List.mem_of_getElem? (i := 0) rfl)) fun T174 h174 P174 W174 => ?_
    show Go p e below _ (T174.setTop (mkF m 23 #[.val (.ref r), .val (.ref w)] []))
    refine P174.xs (fun hA hx hy t k => XS.aloadN hA hx rfl (hb hy d15_23) rfl rfl  k) ?_
    show Go p e below _ (T174.setTop (mkF m 24 #[.val (.ref r), .val (.ref w)] [(.ref r)]))
    refine P174.xs (fun hA hx hy t k => XS.iconst hA hx rfl (hb hy d15_24) k) ?_
    show Go p e below _ (T174.setTop (mkF m 25 #[.val (.ref r), .val (.ref w)] [(.int (0 : Int32)), (.ref r)]))
    have Ec185 : Exa Z h174 r "com/example/ration/ration/Request" := (Ec175.wr W174)
    have Fc186 : Fld Z h174 r "com/example/ration/ration/Request" "api" "Lcom/example/ration/ration/Api;" (.ref w) := (Fc176.other W174 (Or.inr (slot_ne (Or.inl (hw _ (List.mem_of_getElem? (i := 60) rfl))) (Or.inl (hw _ (List.mem_of_getElem? (i := 67) rfl))) (by decide) (t := (.object "com/example/ration/ration/Api")) (t' := .boolean) (by decide) (by decide))))
    have Fc187 : Fld Z h174 r "com/example/ration/ration/Request" "user" "Ljava/lang/String;" vu := (Fc177.other W174 (Or.inr (slot_ne (Or.inl (hw _ (List.mem_of_getElem? (i := 75) rfl))) (Or.inl (hw _ (List.mem_of_getElem? (i := 67) rfl))) (by decide) (t := (.object "java/lang/String")) (t' := .boolean) (by decide) (by decide))))
    have Fc188 : Fld Z h174 r "com/example/ration/ration/Request" "clientId" "Ljava/lang/String;" vc := (Fc178.other W174 (Or.inr (slot_ne (Or.inl (hw _ (List.mem_of_getElem? (i := 108) rfl))) (Or.inl (hw _ (List.mem_of_getElem? (i := 67) rfl))) (by decide) (t := (.object "java/lang/String")) (t' := .boolean) (by decide) (by decide))))
    have Fc189 : Fld Z h174 r "com/example/ration/ration/Request" "bytes" "J" (.long jb) := (Fc179.other W174 (Or.inr (slot_ne (Or.inl (hw _ (List.mem_of_getElem? (i := 92) rfl))) (Or.inl (hw _ (List.mem_of_getElem? (i := 67) rfl))) (by decide) (t := .long) (t' := .boolean) (by decide) (by decide))))
    have Fc190 : Fld Z h174 r "com/example/ration/ration/Request" "threadUs" "J" (.long jt) := (Fc180.other W174 (Or.inr (slot_ne (Or.inl (hw _ (List.mem_of_getElem? (i := 94) rfl))) (Or.inl (hw _ (List.mem_of_getElem? (i := 67) rfl))) (by decide) (t := .long) (t' := .boolean) (by decide) (by decide))))
    have Fc191 : Fld Z h174 r "com/example/ration/ration/Request" "producerId" "J" (.long jp) := (Fc181.other W174 (Or.inr (slot_ne (Or.inl (hw _ (List.mem_of_getElem? (i := 49) rfl))) (Or.inl (hw _ (List.mem_of_getElem? (i := 67) rfl))) (by decide) (t := .long) (t' := .boolean) (by decide) (by decide))))
    have Fc192 : Fld Z h174 r "com/example/ration/ration/Request" "userGiven" "Z" (.int (0 : Int32)) := (Fc182.same W174)
    have Fc193 : Fld Z h174 r "com/example/ration/ration/Request" "clientIdGiven" "Z" (.int gc) := (Fc183.other W174 (Or.inr (slot_ne (Or.inl (hw _ (List.mem_of_getElem? (i := 90) rfl))) (Or.inl (hw _ (List.mem_of_getElem? (i := 67) rfl))) (by decide) (t := .boolean) (t' := .boolean) (by decide) (by decide))))
    refine P174.putF (hw _ (List.mem_of_getElem? (i := 89) rfl)) Via.refl Fc193 Ec185 (Or.inl (hw _ (List.mem_of_getElem? (i := 90) rfl))) (hw _ (List.mem_of_getElem? (i := 35) rfl)) (ty := .boolean) (v' := (.int (0 : Int32))) (by decide) rfl rfl d15_25 (fun vm _ hal _ => Safe.exa hal Ec185 (by decide) (by decide)) gr (Or.inl (List.mem_of_getElem? (i := 0) rfl)) fun T184 h184 P184 W184 => ?_
    show Go p e below _ (T184.setTop (mkF m 28 #[.val (.ref r), .val (.ref w)] []))
    refine P184.xs (fun hA hx hy t k => XS.aloadN hA hx rfl (hb hy d15_28) rfl rfl  k) ?_
    show Go p e below _ (T184.setTop (mkF m 29 #[.val (.ref r), .val (.ref w)] [(.ref r)]))
    refine P184.xs (fun hA hx hy t k => XS.lconst hA hx rfl (hb hy d15_29) k) ?_
    show Go p e below _ (T184.setTop (mkF m 30 #[.val (.ref r), .val (.ref w)] [(.long (0 : Int64)), (.ref r)]))
    have Ec195 : Exa Z h184 r "com/example/ration/ration/Request" := (Ec185.wr W184)
    have Fc196 : Fld Z h184 r "com/example/ration/ration/Request" "api" "Lcom/example/ration/ration/Api;" (.ref w) := (Fc186.other W184 (Or.inr (slot_ne (Or.inl (hw _ (List.mem_of_getElem? (i := 60) rfl))) (Or.inl (hw _ (List.mem_of_getElem? (i := 90) rfl))) (by decide) (t := (.object "com/example/ration/ration/Api")) (t' := .boolean) (by decide) (by decide))))
    have Fc197 : Fld Z h184 r "com/example/ration/ration/Request" "user" "Ljava/lang/String;" vu := (Fc187.other W184 (Or.inr (slot_ne (Or.inl (hw _ (List.mem_of_getElem? (i := 75) rfl))) (Or.inl (hw _ (List.mem_of_getElem? (i := 90) rfl))) (by decide) (t := (.object "java/lang/String")) (t' := .boolean) (by decide) (by decide))))
    have Fc198 : Fld Z h184 r "com/example/ration/ration/Request" "clientId" "Ljava/lang/String;" vc := (Fc188.other W184 (Or.inr (slot_ne (Or.inl (hw _ (List.mem_of_getElem? (i := 108) rfl))) (Or.inl (hw _ (List.mem_of_getElem? (i := 90) rfl))) (by decide) (t := (.object "java/lang/String")) (t' := .boolean) (by decide) (by decide))))
    have Fc199 : Fld Z h184 r "com/example/ration/ration/Request" "bytes" "J" (.long jb) := (Fc189.other W184 (Or.inr (slot_ne (Or.inl (hw _ (List.mem_of_getElem? (i := 92) rfl))) (Or.inl (hw _ (List.mem_of_getElem? (i := 90) rfl))) (by decide) (t := .long) (t' := .boolean) (by decide) (by decide))))
    have Fc200 : Fld Z h184 r "com/example/ration/ration/Request" "threadUs" "J" (.long jt) := (Fc190.other W184 (Or.inr (slot_ne (Or.inl (hw _ (List.mem_of_getElem? (i := 94) rfl))) (Or.inl (hw _ (List.mem_of_getElem? (i := 90) rfl))) (by decide) (t := .long) (t' := .boolean) (by decide) (by decide))))
    have Fc201 : Fld Z h184 r "com/example/ration/ration/Request" "producerId" "J" (.long jp) := (Fc191.other W184 (Or.inr (slot_ne (Or.inl (hw _ (List.mem_of_getElem? (i := 49) rfl))) (Or.inl (hw _ (List.mem_of_getElem? (i := 90) rfl))) (by decide) (t := .long) (t' := .boolean) (by decide) (by decide))))
    have Fc202 : Fld Z h184 r "com/example/ration/ration/Request" "userGiven" "Z" (.int (0 : Int32)) := (Fc192.other W184 (Or.inr (slot_ne (Or.inl (hw _ (List.mem_of_getElem? (i := 67) rfl))) (Or.inl (hw _ (List.mem_of_getElem? (i := 90) rfl))) (by decide) (t := .boolean) (t' := .boolean) (by decide) (by decide))))
    have Fc203 : Fld Z h184 r "com/example/ration/ration/Request" "clientIdGiven" "Z" (.int (0 : Int32)) := (Fc193.same W184)
    refine P184.putF (hw _ (List.mem_of_getElem? (i := 91) rfl)) Via.refl Fc199 Ec195 (Or.inl (hw _ (List.mem_of_getElem? (i := 92) rfl))) (hw _ (List.mem_of_getElem? (i := 35) rfl)) (ty := .long) (v' := (.long (0 : Int64))) (by decide) rfl rfl d15_30 (fun vm _ hal _ => Safe.exa hal Ec195 (by decide) (by decide)) gr (Or.inl (List.mem_of_getElem? (i := 0) rfl)) fun T194 h194 P194 W194 => ?_
    show Go p e below _ (T194.setTop (mkF m 33 #[.val (.ref r), .val (.ref w)] []))
    refine P194.xs (fun hA hx hy t k => XS.aloadN hA hx rfl (hb hy d15_33) rfl rfl  k) ?_
    show Go p e below _ (T194.setTop (mkF m 34 #[.val (.ref r), .val (.ref w)] [(.ref r)]))
    refine P194.xs (fun hA hx hy t k => XS.lconst hA hx rfl (hb hy d15_34) k) ?_
    show Go p e below _ (T194.setTop (mkF m 35 #[.val (.ref r), .val (.ref w)] [(.long (0 : Int64)), (.ref r)]))
    have Ec205 : Exa Z h194 r "com/example/ration/ration/Request" := (Ec195.wr W194)
    have Fc206 : Fld Z h194 r "com/example/ration/ration/Request" "api" "Lcom/example/ration/ration/Api;" (.ref w) := (Fc196.other W194 (Or.inr (slot_ne (Or.inl (hw _ (List.mem_of_getElem? (i := 60) rfl))) (Or.inl (hw _ (List.mem_of_getElem? (i := 92) rfl))) (by decide) (t := (.object "com/example/ration/ration/Api")) (t' := .long) (by decide) (by decide))))
    have Fc207 : Fld Z h194 r "com/example/ration/ration/Request" "user" "Ljava/lang/String;" vu := (Fc197.other W194 (Or.inr (slot_ne (Or.inl (hw _ (List.mem_of_getElem? (i := 75) rfl))) (Or.inl (hw _ (List.mem_of_getElem? (i := 92) rfl))) (by decide) (t := (.object "java/lang/String")) (t' := .long) (by decide) (by decide))))
    have Fc208 : Fld Z h194 r "com/example/ration/ration/Request" "clientId" "Ljava/lang/String;" vc := (Fc198.other W194 (Or.inr (slot_ne (Or.inl (hw _ (List.mem_of_getElem? (i := 108) rfl))) (Or.inl (hw _ (List.mem_of_getElem? (i := 92) rfl))) (by decide) (t := (.object "java/lang/String")) (t' := .long) (by decide) (by decide))))
    have Fc209 : Fld Z h194 r "com/example/ration/ration/Request" "bytes" "J" (.long (0 : Int64)) := (Fc199.same W194)
    have Fc210 : Fld Z h194 r "com/example/ration/ration/Request" "threadUs" "J" (.long jt) := (Fc200.other W194 (Or.inr (slot_ne (Or.inl (hw _ (List.mem_of_getElem? (i := 94) rfl))) (Or.inl (hw _ (List.mem_of_getElem? (i := 92) rfl))) (by decide) (t := .long) (t' := .long) (by decide) (by decide))))
    have Fc211 : Fld Z h194 r "com/example/ration/ration/Request" "producerId" "J" (.long jp) := (Fc201.other W194 (Or.inr (slot_ne (Or.inl (hw _ (List.mem_of_getElem? (i := 49) rfl))) (Or.inl (hw _ (List.mem_of_getElem? (i := 92) rfl))) (by decide) (t := .long) (t' := .long) (by decide) (by decide))))
    have Fc212 : Fld Z h194 r "com/example/ration/ration/Request" "userGiven" "Z" (.int (0 : Int32)) := (Fc202.other W194 (Or.inr (slot_ne (Or.inl (hw _ (List.mem_of_getElem? (i := 67) rfl))) (Or.inl (hw _ (List.mem_of_getElem? (i := 92) rfl))) (by decide) (t := .boolean) (t' := .long) (by decide) (by decide))))
    have Fc213 : Fld Z h194 r "com/example/ration/ration/Request" "clientIdGiven" "Z" (.int (0 : Int32)) := (Fc203.other W194 (Or.inr (slot_ne (Or.inl (hw _ (List.mem_of_getElem? (i := 90) rfl))) (Or.inl (hw _ (List.mem_of_getElem? (i := 92) rfl))) (by decide) (t := .boolean) (t' := .long) (by decide) (by decide))))
    refine P194.putF (hw _ (List.mem_of_getElem? (i := 93) rfl)) Via.refl Fc210 Ec205 (Or.inl (hw _ (List.mem_of_getElem? (i := 94) rfl))) (hw _ (List.mem_of_getElem? (i := 35) rfl)) (ty := .long) (v' := (.long (0 : Int64))) (by decide) rfl rfl d15_35 (fun vm _ hal _ => Safe.exa hal Ec205 (by decide) (by decide)) gr (Or.inl (List.mem_of_getElem? (i := 0) rfl)) fun T204 h204 P204 W204 => ?_
    show Go p e below _ (T204.setTop (mkF m 38 #[.val (.ref r), .val (.ref w)] []))
    refine P204.xs (fun hA hx hy t k => XS.aloadN hA hx rfl (hb hy d15_38) rfl rfl  k) ?_
    show Go p e below _ (T204.setTop (mkF m 39 #[.val (.ref r), .val (.ref w)] [(.ref r)]))
    refine P204.ldc2 (hw _ (List.mem_of_getElem? (i := 47) rfl)) d15_39 ?_
    show Go p e below _ (T204.setTop (mkF m 42 #[.val (.ref r), .val (.ref w)] [(.long (-1 : Int64)), (.ref r)]))
    have Ec215 : Exa Z h204 r "com/example/ration/ration/Request" := (Ec205.wr W204)
    have Fc216 : Fld Z h204 r "com/example/ration/ration/Request" "api" "Lcom/example/ration/ration/Api;" (.ref w) := (Fc206.other W204 (Or.inr (slot_ne (Or.inl (hw _ (List.mem_of_getElem? (i := 60) rfl))) (Or.inl (hw _ (List.mem_of_getElem? (i := 94) rfl))) (by decide) (t := (.object "com/example/ration/ration/Api")) (t' := .long) (by decide) (by decide))))
    have Fc217 : Fld Z h204 r "com/example/ration/ration/Request" "user" "Ljava/lang/String;" vu := (Fc207.other W204 (Or.inr (slot_ne (Or.inl (hw _ (List.mem_of_getElem? (i := 75) rfl))) (Or.inl (hw _ (List.mem_of_getElem? (i := 94) rfl))) (by decide) (t := (.object "java/lang/String")) (t' := .long) (by decide) (by decide))))
    have Fc218 : Fld Z h204 r "com/example/ration/ration/Request" "clientId" "Ljava/lang/String;" vc := (Fc208.other W204 (Or.inr (slot_ne (Or.inl (hw _ (List.mem_of_getElem? (i := 108) rfl))) (Or.inl (hw _ (List.mem_of_getElem? (i := 94) rfl))) (by decide) (t := (.object "java/lang/String")) (t' := .long) (by decide) (by decide))))
    have Fc219 : Fld Z h204 r "com/example/ration/ration/Request" "bytes" "J" (.long (0 : Int64)) := (Fc209.other W204 (Or.inr (slot_ne (Or.inl (hw _ (List.mem_of_getElem? (i := 92) rfl))) (Or.inl (hw _ (List.mem_of_getElem? (i := 94) rfl))) (by decide) (t := .long) (t' := .long) (by decide) (by decide))))
    have Fc220 : Fld Z h204 r "com/example/ration/ration/Request" "threadUs" "J" (.long (0 : Int64)) := (Fc210.same W204)
    have Fc221 : Fld Z h204 r "com/example/ration/ration/Request" "producerId" "J" (.long jp) := (Fc211.other W204 (Or.inr (slot_ne (Or.inl (hw _ (List.mem_of_getElem? (i := 49) rfl))) (Or.inl (hw _ (List.mem_of_getElem? (i := 94) rfl))) (by decide) (t := .long) (t' := .long) (by decide) (by decide))))
    have Fc222 : Fld Z h204 r "com/example/ration/ration/Request" "userGiven" "Z" (.int (0 : Int32)) := (Fc212.other W204 (Or.inr (slot_ne (Or.inl (hw _ (List.mem_of_getElem? (i := 67) rfl))) (Or.inl (hw _ (List.mem_of_getElem? (i := 94) rfl))) (by decide) (t := .boolean) (t' := .long) (by decide) (by decide))))
    have Fc223 : Fld Z h204 r "com/example/ration/ration/Request" "clientIdGiven" "Z" (.int (0 : Int32)) := (Fc213.other W204 (Or.inr (slot_ne (Or.inl (hw _ (List.mem_of_getElem? (i := 90) rfl))) (Or.inl (hw _ (List.mem_of_getElem? (i := 94) rfl))) (by decide) (t := .boolean) (t' := .long) (by decide) (by decide))))
    refine P204.putF (hw _ (List.mem_of_getElem? (i := 48) rfl)) Via.refl Fc221 Ec215 (Or.inl (hw _ (List.mem_of_getElem? (i := 49) rfl))) (hw _ (List.mem_of_getElem? (i := 35) rfl)) (ty := .long) (v' := (.long (-1 : Int64))) (by decide) rfl rfl d15_42 (fun vm _ hal _ => Safe.exa hal Ec215 (by decide) (by decide)) gr (Or.inl (List.mem_of_getElem? (i := 0) rfl)) fun T214 h214 P214 W214 => ?_
    show Go p e below _ (T214.setTop (mkF m 45 #[.val (.ref r), .val (.ref w)] []))
    refine P214.xs (fun hA hx hy t k => XS.aloadN hA hx rfl (hb hy d15_45) rfl rfl  k) ?_
    show Go p e below _ (T214.setTop (mkF m 46 #[.val (.ref r), .val (.ref w)] [(.ref r)]))
    have Ec224 : Exa Z h214 r "com/example/ration/ration/Request" := (Ec215.wr W214)
    have Fc225 : Fld Z h214 r "com/example/ration/ration/Request" "api" "Lcom/example/ration/ration/Api;" (.ref w) := (Fc216.other W214 (Or.inr (slot_ne (Or.inl (hw _ (List.mem_of_getElem? (i := 60) rfl))) (Or.inl (hw _ (List.mem_of_getElem? (i := 49) rfl))) (by decide) (t := (.object "com/example/ration/ration/Api")) (t' := .long) (by decide) (by decide))))
    have Fc226 : Fld Z h214 r "com/example/ration/ration/Request" "user" "Ljava/lang/String;" vu := (Fc217.other W214 (Or.inr (slot_ne (Or.inl (hw _ (List.mem_of_getElem? (i := 75) rfl))) (Or.inl (hw _ (List.mem_of_getElem? (i := 49) rfl))) (by decide) (t := (.object "java/lang/String")) (t' := .long) (by decide) (by decide))))
    have Fc227 : Fld Z h214 r "com/example/ration/ration/Request" "clientId" "Ljava/lang/String;" vc := (Fc218.other W214 (Or.inr (slot_ne (Or.inl (hw _ (List.mem_of_getElem? (i := 108) rfl))) (Or.inl (hw _ (List.mem_of_getElem? (i := 49) rfl))) (by decide) (t := (.object "java/lang/String")) (t' := .long) (by decide) (by decide))))
    have Fc228 : Fld Z h214 r "com/example/ration/ration/Request" "bytes" "J" (.long (0 : Int64)) := (Fc219.other W214 (Or.inr (slot_ne (Or.inl (hw _ (List.mem_of_getElem? (i := 92) rfl))) (Or.inl (hw _ (List.mem_of_getElem? (i := 49) rfl))) (by decide) (t := .long) (t' := .long) (by decide) (by decide))))
    have Fc229 : Fld Z h214 r "com/example/ration/ration/Request" "threadUs" "J" (.long (0 : Int64)) := (Fc220.other W214 (Or.inr (slot_ne (Or.inl (hw _ (List.mem_of_getElem? (i := 94) rfl))) (Or.inl (hw _ (List.mem_of_getElem? (i := 49) rfl))) (by decide) (t := .long) (t' := .long) (by decide) (by decide))))
    have Fc230 : Fld Z h214 r "com/example/ration/ration/Request" "producerId" "J" (.long (-1 : Int64)) := (Fc221.same W214)
    have Fc231 : Fld Z h214 r "com/example/ration/ration/Request" "userGiven" "Z" (.int (0 : Int32)) := (Fc222.other W214 (Or.inr (slot_ne (Or.inl (hw _ (List.mem_of_getElem? (i := 67) rfl))) (Or.inl (hw _ (List.mem_of_getElem? (i := 49) rfl))) (by decide) (t := .boolean) (t' := .long) (by decide) (by decide))))
    have Fc232 : Fld Z h214 r "com/example/ration/ration/Request" "clientIdGiven" "Z" (.int (0 : Int32)) := (Fc223.other W214 (Or.inr (slot_ne (Or.inl (hw _ (List.mem_of_getElem? (i := 90) rfl))) (Or.inl (hw _ (List.mem_of_getElem? (i := 49) rfl))) (by decide) (t := .boolean) (t' := .long) (by decide) (by decide))))
    exact P214.retR rfl rfl rfl d15_46 (by decide) (by decide) ⟨rfl, Ec224, Fc225, Fc226, Fc227, Fc228, Fc229, Fc230, Fc231, Fc232⟩

def R_rGetUserN : Room := { frames := 0, cells := 0, slots := 0, locals := 0 }
def Q_rGetUserN (Z : State) (wv : Value) (h0 : Heap) (v : Option Value) (h : Heap) : Prop := v = some .null ∧ h = h0
set_option maxRecDepth 65536 in
set_option maxHeartbeats 40000000 in
theorem rGetUserN (l : Launch) (Z : State) (a0 : Array Value) (hw : ∀ d ∈ tables_1, d.before a0 Z = true) (hEL : EW Z a0 EL0) (zc : Int32) (S0 : Sta Z Z.heap "java/lang/String" "COMPACT_STRINGS" "Z" (.int zc)) (Pz : ¬ zc = 0) (w_P w_F w_O w_C : Addr) (S_PRODUCE : Sta Z Z.heap "com/example/ration/ration/Api" "PRODUCE" "Lcom/example/ration/ration/Api;" (.ref w_P)) (E_PRODUCE : Exa Z Z.heap w_P "com/example/ration/ration/Api") (S_FETCH : Sta Z Z.heap "com/example/ration/ration/Api" "FETCH" "Lcom/example/ration/ration/Api;" (.ref w_F)) (E_FETCH : Exa Z Z.heap w_F "com/example/ration/ration/Api") (S_OTHER : Sta Z Z.heap "com/example/ration/ration/Api" "OTHER" "Lcom/example/ration/ration/Api;" (.ref w_O)) (E_OTHER : Exa Z Z.heap w_O "com/example/ration/ration/Api") (S_CLUSTER : Sta Z Z.heap "com/example/ration/ration/Api" "CLUSTER" "Lcom/example/ration/ration/Api;" (.ref w_C)) (E_CLUSTER : Exa Z Z.heap w_C "com/example/ration/ration/Api") (r : Addr) (wv : Value) (hwv : wv.isRef = true) (h0 : Heap) (hO : Ext Z.heap h0) (Fg : Fld Z h0 r "com/example/ration/ration/Request" "userGiven" "Z" (.int (0 : Int32))) (Fv : Fld Z h0 r "com/example/ration/ration/Request" "user" "Ljava/lang/String;" wv) :
    Con l Z EL0 [] (⟨"com/example/ration/ration/Request", "user", "()Ljava/lang/String;"⟩ : MethodName) prog_29_method_9_code 1 (some (.object "java/lang/String")) R_rGetUserN #[(.ref r)] h0 [] (Q_rGetUserN Z wv h0) := by
  refine Con.of (y := (⟨"com/example/ration/ration/Request", "user", "()Ljava/lang/String;"⟩ : MethodName)) (f0 := fun m => mkF m 0 #[.val (.ref r)] []) (plainFor_of_name pn_2) hEL hO (fun m => by skip <;> first | (simp [entryFrame, mkF, argsToLocals, Value.category, maxLocals]; done) | rfl) ?_
  intro p e s m below meth c s₁ P0
  show Go p e below _ (s₁.setTop (mkF m 0 #[.val (.ref r)] []))
  refine P0.xs (fun hA hx hy t k => XS.aloadN hA hx rfl (hb hy d11_0) rfl rfl  k) ?_
  show Go p e below _ (s₁.setTop (mkF m 1 #[.val (.ref r)] [(.ref r)]))
  refine P0.getF (host := "") (Or.inl (hw _ (List.mem_of_getElem? (i := 66) rfl))) Via.refl Fg d11_1 fun T233 P233 => ?_
  show Go p e below _ (T233.setTop (mkF m 4 #[.val (.ref r)] [(.int (0 : Int32))]))
  refine P233.xs (fun hA hx hy t k => XS.ifYes hA hx rfl (pc0 := 4) (pc' := 14) rfl (hb hy d11_4) rfl ((if0 _ _).trans (teq rfl).1) (by decide) (by decide) k) ?_
  show Go p e below _ (T233.setTop (mkF m 14 #[.val (.ref r)] []))
  refine P233.xs (fun hA hx hy t k => XS.aconstNull hA hx rfl (hb hy d11_14) k) ?_
  show Go p e below _ (T233.setTop (mkF m 15 #[.val (.ref r)] [.null]))
  exact P233.retR rfl rfl rfl d11_15 (by decide) (by decide) ⟨rfl, rfl⟩

def R_rGetUserR : Room := { frames := 0, cells := 0, slots := 0, locals := 0 }
def Q_rGetUserR (Z : State) (wv : Value) (h0 : Heap) (v : Option Value) (h : Heap) : Prop := v = some wv ∧ h = h0
set_option maxRecDepth 65536 in
set_option maxHeartbeats 40000000 in
theorem rGetUserR (l : Launch) (Z : State) (a0 : Array Value) (hw : ∀ d ∈ tables_1, d.before a0 Z = true) (hEL : EW Z a0 EL0) (zc : Int32) (S0 : Sta Z Z.heap "java/lang/String" "COMPACT_STRINGS" "Z" (.int zc)) (Pz : ¬ zc = 0) (w_P w_F w_O w_C : Addr) (S_PRODUCE : Sta Z Z.heap "com/example/ration/ration/Api" "PRODUCE" "Lcom/example/ration/ration/Api;" (.ref w_P)) (E_PRODUCE : Exa Z Z.heap w_P "com/example/ration/ration/Api") (S_FETCH : Sta Z Z.heap "com/example/ration/ration/Api" "FETCH" "Lcom/example/ration/ration/Api;" (.ref w_F)) (E_FETCH : Exa Z Z.heap w_F "com/example/ration/ration/Api") (S_OTHER : Sta Z Z.heap "com/example/ration/ration/Api" "OTHER" "Lcom/example/ration/ration/Api;" (.ref w_O)) (E_OTHER : Exa Z Z.heap w_O "com/example/ration/ration/Api") (S_CLUSTER : Sta Z Z.heap "com/example/ration/ration/Api" "CLUSTER" "Lcom/example/ration/ration/Api;" (.ref w_C)) (E_CLUSTER : Exa Z Z.heap w_C "com/example/ration/ration/Api") (r : Addr) (wv : Value) (hwv : wv.isRef = true) (h0 : Heap) (hO : Ext Z.heap h0) (Fg : Fld Z h0 r "com/example/ration/ration/Request" "userGiven" "Z" (.int (1 : Int32))) (Fv : Fld Z h0 r "com/example/ration/ration/Request" "user" "Ljava/lang/String;" wv) :
    Con l Z EL0 [] (⟨"com/example/ration/ration/Request", "user", "()Ljava/lang/String;"⟩ : MethodName) prog_29_method_9_code 1 (some (.object "java/lang/String")) R_rGetUserR #[(.ref r)] h0 [] (Q_rGetUserR Z wv h0) := by
  refine Con.of (y := (⟨"com/example/ration/ration/Request", "user", "()Ljava/lang/String;"⟩ : MethodName)) (f0 := fun m => mkF m 0 #[.val (.ref r)] []) (plainFor_of_name pn_2) hEL hO (fun m => by skip <;> first | (simp [entryFrame, mkF, argsToLocals, Value.category, maxLocals]; done) | rfl) ?_
  intro p e s m below meth c s₁ P0
  show Go p e below _ (s₁.setTop (mkF m 0 #[.val (.ref r)] []))
  refine P0.xs (fun hA hx hy t k => XS.aloadN hA hx rfl (hb hy d11_0) rfl rfl  k) ?_
  show Go p e below _ (s₁.setTop (mkF m 1 #[.val (.ref r)] [(.ref r)]))
  refine P0.getF (host := "") (Or.inl (hw _ (List.mem_of_getElem? (i := 66) rfl))) Via.refl Fg d11_1 fun T234 P234 => ?_
  show Go p e below _ (T234.setTop (mkF m 4 #[.val (.ref r)] [(.int (1 : Int32))]))
  refine P234.xs (fun hA hx hy t k => XS.ifNo hA hx rfl (hb hy d11_4) rfl ((if0 _ _).trans (feq (by decide)).1) k) ?_
  show Go p e below _ (T234.setTop (mkF m 7 #[.val (.ref r)] []))
  refine P234.xs (fun hA hx hy t k => XS.aloadN hA hx rfl (hb hy d11_7) rfl rfl  k) ?_
  show Go p e below _ (T234.setTop (mkF m 8 #[.val (.ref r)] [(.ref r)]))
  refine P234.getF (host := "") (Or.inl (hw _ (List.mem_of_getElem? (i := 74) rfl))) Via.refl Fv d11_8 fun T235 P235 => ?_
  show Go p e below _ (T235.setTop (mkF m 11 #[.val (.ref r)] [wv]))
  refine P235.xs (fun hA hx hy t k => XS.goto hA hx rfl (pc0 := 11) (pc' := 15) rfl (hb hy d11_11) (by decide) (by decide) k) ?_
  show Go p e below _ (T235.setTop (mkF m 15 #[.val (.ref r)] [wv]))
  exact P235.retR rfl rfl hwv d11_15 (by decide) (by decide) ⟨rfl, rfl⟩

def R_rApi : Room := { frames := 0, cells := 0, slots := 0, locals := 0 }
def Q_rApi (Z : State)  (h0 : Heap) (v : Option Value) (h : Heap) : Prop := ∃ w : Addr, v = some (.ref w) ∧ Exa Z Z.heap w "com/example/ration/ration/Api" ∧ h = h0
set_option maxRecDepth 65536 in
set_option maxHeartbeats 40000000 in
theorem rApi (l : Launch) (Z : State) (a0 : Array Value) (hw : ∀ d ∈ tables_1, d.before a0 Z = true) (hEL : EW Z a0 EL0) (zc : Int32) (S0 : Sta Z Z.heap "java/lang/String" "COMPACT_STRINGS" "Z" (.int zc)) (Pz : ¬ zc = 0) (w_P w_F w_O w_C : Addr) (S_PRODUCE : Sta Z Z.heap "com/example/ration/ration/Api" "PRODUCE" "Lcom/example/ration/ration/Api;" (.ref w_P)) (E_PRODUCE : Exa Z Z.heap w_P "com/example/ration/ration/Api") (S_FETCH : Sta Z Z.heap "com/example/ration/ration/Api" "FETCH" "Lcom/example/ration/ration/Api;" (.ref w_F)) (E_FETCH : Exa Z Z.heap w_F "com/example/ration/ration/Api") (S_OTHER : Sta Z Z.heap "com/example/ration/ration/Api" "OTHER" "Lcom/example/ration/ration/Api;" (.ref w_O)) (E_OTHER : Exa Z Z.heap w_O "com/example/ration/ration/Api") (S_CLUSTER : Sta Z Z.heap "com/example/ration/ration/Api" "CLUSTER" "Lcom/example/ration/ration/Api;" (.ref w_C)) (E_CLUSTER : Exa Z Z.heap w_C "com/example/ration/ration/Api") (i : Int32) (h0 : Heap) (hO : Ext Z.heap h0)  :
    Con l Z EL0 [] (⟨"com/example/ration/ration/RequestUserPinLaw", "api", "(I)Lcom/example/ration/ration/Api;"⟩ : MethodName) method_2_code 1 (some (.object "com/example/ration/ration/Api")) R_rApi #[(.int i)] h0 [] (Q_rApi Z  h0) := by
  refine Con.of (y := (⟨"com/example/ration/ration/RequestUserPinLaw", "api", "(I)Lcom/example/ration/ration/Api;"⟩ : MethodName)) (f0 := fun m => mkF m 0 #[.val (.int i)] []) (plainFor_of_name pn_3) hEL hO (fun m => by skip <;> first | (simp [entryFrame, mkF, argsToLocals, Value.category, maxLocals]; done) | rfl) ?_
  intro p e s m below meth c s₁ P0
  show Go p e below _ (s₁.setTop (mkF m 0 #[.val (.int i)] []))
  refine P0.xs (fun hA hx hy t k => XS.iloadN hA hx rfl (hb hy d8_0) rfl  k) ?_
  show Go p e below _ (s₁.setTop (mkF m 1 #[.val (.int i)] [(.int i)]))
  by_cases hq0 : i = 0
  · refine P0.xs (fun hA hx hy t k => XS.ifNo hA hx rfl (hb hy d8_1) rfl ((if0 _ _).trans (teq hq0).2) k) ?_
    show Go p e below _ (s₁.setTop (mkF m 4 #[.val (.int i)] []))
    refine P0.getS (host := "") (Or.inl (hw _ (List.mem_of_getElem? (i := 40) rfl))) Via.refl S_PRODUCE d8_4 fun T236 P236 => ?_
    show Go p e below _ (T236.setTop (mkF m 7 #[.val (.int i)] [(.ref w_P)]))
    exact P236.retR rfl rfl rfl d8_7 (by decide) (by decide) ⟨w_P, rfl, E_PRODUCE, rfl⟩
  · refine P0.xs (fun hA hx hy t k => XS.ifYes hA hx rfl (pc0 := 1) (pc' := 8) rfl (hb hy d8_1) rfl ((if0 _ _).trans (feq hq0).2) (by decide) (by decide) k) ?_
    show Go p e below _ (s₁.setTop (mkF m 8 #[.val (.int i)] []))
    refine P0.xs (fun hA hx hy t k => XS.iloadN hA hx rfl (hb hy d8_8) rfl  k) ?_
    show Go p e below _ (s₁.setTop (mkF m 9 #[.val (.int i)] [(.int i)]))
    refine P0.xs (fun hA hx hy t k => XS.iconst hA hx rfl (hb hy d8_9) k) ?_
    show Go p e below _ (s₁.setTop (mkF m 10 #[.val (.int i)] [(.int (1 : Int32)), (.int i)]))
    by_cases hq1 : i = 1
    · refine P0.xs (fun hA hx hy t k => XS.icmpNo hA hx rfl (hb hy d8_10) rfl (teq hq1).2 k) ?_
      show Go p e below _ (s₁.setTop (mkF m 13 #[.val (.int i)] []))
      refine P0.getS (host := "") (Or.inl (hw _ (List.mem_of_getElem? (i := 95) rfl))) Via.refl S_FETCH d8_13 fun T237 P237 => ?_
      show Go p e below _ (T237.setTop (mkF m 16 #[.val (.int i)] [(.ref w_F)]))
      exact P237.retR rfl rfl rfl d8_16 (by decide) (by decide) ⟨w_F, rfl, E_FETCH, rfl⟩
    · refine P0.xs (fun hA hx hy t k => XS.icmpYes hA hx rfl (pc0 := 10) (pc' := 17) rfl (hb hy d8_10) rfl (feq hq1).2 (by decide) (by decide) k) ?_
      show Go p e below _ (s₁.setTop (mkF m 17 #[.val (.int i)] []))
      refine P0.xs (fun hA hx hy t k => XS.iloadN hA hx rfl (hb hy d8_17) rfl  k) ?_
      show Go p e below _ (s₁.setTop (mkF m 18 #[.val (.int i)] [(.int i)]))
      refine P0.xs (fun hA hx hy t k => XS.iconst hA hx rfl (hb hy d8_18) k) ?_
      show Go p e below _ (s₁.setTop (mkF m 19 #[.val (.int i)] [(.int (2 : Int32)), (.int i)]))
      by_cases hq2 : i = 2
      · refine P0.xs (fun hA hx hy t k => XS.icmpNo hA hx rfl (hb hy d8_19) rfl (teq hq2).2 k) ?_
        show Go p e below _ (s₁.setTop (mkF m 22 #[.val (.int i)] []))
        refine P0.getS (host := "") (Or.inl (hw _ (List.mem_of_getElem? (i := 99) rfl))) Via.refl S_OTHER d8_22 fun T238 P238 => ?_
        show Go p e below _ (T238.setTop (mkF m 25 #[.val (.int i)] [(.ref w_O)]))
        exact P238.retR rfl rfl rfl d8_25 (by decide) (by decide) ⟨w_O, rfl, E_OTHER, rfl⟩
      · refine P0.xs (fun hA hx hy t k => XS.icmpYes hA hx rfl (pc0 := 19) (pc' := 26) rfl (hb hy d8_19) rfl (feq hq2).2 (by decide) (by decide) k) ?_
        show Go p e below _ (s₁.setTop (mkF m 26 #[.val (.int i)] []))
        refine P0.getS (host := "") (Or.inl (hw _ (List.mem_of_getElem? (i := 97) rfl))) Via.refl S_CLUSTER d8_26 fun T239 P239 => ?_
        show Go p e below _ (T239.setTop (mkF m 29 #[.val (.int i)] [(.ref w_C)]))
        exact P239.retR rfl rfl rfl d8_29 (by decide) (by decide) ⟨w_C, rfl, E_CLUSTER, rfl⟩

def R_rIs : Room := { frames := 1, cells := 0, slots := 0, locals := 14 }
def Q_rIs (Z : State)  (h0 : Heap) (v : Option Value) (h : Heap) : Prop := v = some (.int (1 : Int32)) ∧ h = h0
set_option maxRecDepth 65536 in
set_option maxHeartbeats 40000000 in
theorem rIs (l : Launch) (Z : State) (a0 : Array Value) (hw : ∀ d ∈ tables_1, d.before a0 Z = true) (hEL : EW Z a0 EL0) (zc : Int32) (S0 : Sta Z Z.heap "java/lang/String" "COMPACT_STRINGS" "Z" (.int zc)) (Pz : ¬ zc = 0) (w_P w_F w_O w_C : Addr) (S_PRODUCE : Sta Z Z.heap "com/example/ration/ration/Api" "PRODUCE" "Lcom/example/ration/ration/Api;" (.ref w_P)) (E_PRODUCE : Exa Z Z.heap w_P "com/example/ration/ration/Api") (S_FETCH : Sta Z Z.heap "com/example/ration/ration/Api" "FETCH" "Lcom/example/ration/ration/Api;" (.ref w_F)) (E_FETCH : Exa Z Z.heap w_F "com/example/ration/ration/Api") (S_OTHER : Sta Z Z.heap "com/example/ration/ration/Api" "OTHER" "Lcom/example/ration/ration/Api;" (.ref w_O)) (E_OTHER : Exa Z Z.heap w_O "com/example/ration/ration/Api") (S_CLUSTER : Sta Z Z.heap "com/example/ration/ration/Api" "CLUSTER" "Lcom/example/ration/ration/Api;" (.ref w_C)) (E_CLUSTER : Exa Z Z.heap w_C "com/example/ration/ration/Api") (x : Addr) (h0 : Heap) (hO : Ext Z.heap h0) (E : Exa Z h0 x "java/lang/String") :
    Con l Z EL0 [] (⟨"com/example/ration/ration/RequestUserPinLaw", "is", "(Ljava/lang/String;Ljava/lang/String;)Z"⟩ : MethodName) method_4_code 2 (some .boolean) R_rIs #[(.ref x), (.ref x)] h0 [] (Q_rIs Z  h0) := by
  refine Con.of (y := (⟨"com/example/ration/ration/RequestUserPinLaw", "is", "(Ljava/lang/String;Ljava/lang/String;)Z"⟩ : MethodName)) (f0 := fun m => mkF m 0 #[.val (.ref x), .val (.ref x)] []) (plainFor_of_name pn_3) hEL hO (fun m => by skip <;> first | (simp [entryFrame, mkF, argsToLocals, Value.category, maxLocals]; done) | rfl) ?_
  intro p e s m below meth c s₁ P0
  show Go p e below _ (s₁.setTop (mkF m 0 #[.val (.ref x), .val (.ref x)] []))
  refine P0.xs (fun hA hx hy t k => XS.aloadN hA hx rfl (hb hy d13_0) rfl rfl  k) ?_
  show Go p e below _ (s₁.setTop (mkF m 1 #[.val (.ref x), .val (.ref x)] [(.ref x)]))
  refine P0.xs (fun hA hx hy t k => XS.ifnullNo hA hx rfl (hb hy d13_1) rfl k) ?_
  show Go p e below _ (s₁.setTop (mkF m 4 #[.val (.ref x), .val (.ref x)] []))
  refine P0.xs (fun hA hx hy t k => XS.aloadN hA hx rfl (hb hy d13_4) rfl rfl  k) ?_
  show Go p e below _ (s₁.setTop (mkF m 5 #[.val (.ref x), .val (.ref x)] [(.ref x)]))
  refine P0.xs (fun hA hx hy t k => XS.aloadN hA hx rfl (hb hy d13_5) rfl rfl  k) ?_
  show Go p e below _ (s₁.setTop (mkF m 6 #[.val (.ref x), .val (.ref x)] [(.ref x), (.ref x)]))
  refine P0.callV (hw _ (List.mem_of_getElem? (i := 79) rfl)) (hw _ (List.mem_of_getElem? (i := 80) rfl)) (hw _ (List.mem_of_getElem? (i := 82) rfl)) (nfOf (hw _ (List.mem_of_getElem? (i := 82) rfl))) (hw _ (List.mem_of_getElem? (i := 81) rfl)) (hw _ (List.mem_of_getElem? (i := 7) rfl)) (hw _ (List.mem_of_getElem? (i := 83) rfl)) (by decide) E (eqId l Z a0 hw hEL zc S0 Pz w_P w_F w_O w_C S_PRODUCE E_PRODUCE S_FETCH E_FETCH S_OTHER E_OTHER S_CLUSTER E_CLUSTER x h0 P0.old) (W := 0) (by decide) (by decide) (by decide) (by decide) all0 pd_1 (argsL := [(.ref x)]) rfl rfl rfl (Nat.le_of_eq rfl) d13_6 fun v240 T240 h240 P240 K240 Q240 => ?_
  obtain ⟨hv240, hh240⟩ := Q240
  subst hv240
  rw [hh240] at P240
  show Go p e below _ (T240.setTop (mkF m 9 #[.val (.ref x), .val (.ref x)] [(.int (1 : Int32))]))
  refine P240.xs (fun hA hx hy t k => XS.ifNo hA hx rfl (hb hy d13_9) rfl ((if0 _ _).trans (feq (by decide)).1) k) ?_
  show Go p e below _ (T240.setTop (mkF m 12 #[.val (.ref x), .val (.ref x)] []))
  refine P240.xs (fun hA hx hy t k => XS.iconst hA hx rfl (hb hy d13_12) k) ?_
  show Go p e below _ (T240.setTop (mkF m 13 #[.val (.ref x), .val (.ref x)] [(.int (1 : Int32))]))
  refine P240.xs (fun hA hx hy t k => XS.goto hA hx rfl (pc0 := 13) (pc' := 17) rfl (hb hy d13_13) (by decide) (by decide) k) ?_
  show Go p e below _ (T240.setTop (mkF m 17 #[.val (.ref x), .val (.ref x)] [(.int (1 : Int32))]))
  exact P240.retN (t := .boolean) rfl (by simp) d13_17 (by decide) (by decide) ⟨rfl, rfl⟩

def R_rStr : Room := { frames := 4, cells := 3, slots := 8, locals := 66 }
def Q_rStr (Z : State)  (h0 : Heap) (v : Option Value) (h : Heap) : Prop := ∃ x : Addr, v = some (.ref x) ∧ h0.size ≤ x ∧ Exa Z h x "java/lang/String"
set_option maxRecDepth 65536 in
set_option maxHeartbeats 40000000 in
theorem rStr (l : Launch) (Z : State) (a0 : Array Value) (hw : ∀ d ∈ tables_1, d.before a0 Z = true) (hEL : EW Z a0 EL0) (zc : Int32) (S0 : Sta Z Z.heap "java/lang/String" "COMPACT_STRINGS" "Z" (.int zc)) (Pz : ¬ zc = 0) (w_P w_F w_O w_C : Addr) (S_PRODUCE : Sta Z Z.heap "com/example/ration/ration/Api" "PRODUCE" "Lcom/example/ration/ration/Api;" (.ref w_P)) (E_PRODUCE : Exa Z Z.heap w_P "com/example/ration/ration/Api") (S_FETCH : Sta Z Z.heap "com/example/ration/ration/Api" "FETCH" "Lcom/example/ration/ration/Api;" (.ref w_F)) (E_FETCH : Exa Z Z.heap w_F "com/example/ration/ration/Api") (S_OTHER : Sta Z Z.heap "com/example/ration/ration/Api" "OTHER" "Lcom/example/ration/ration/Api;" (.ref w_O)) (E_OTHER : Exa Z Z.heap w_O "com/example/ration/ration/Api") (S_CLUSTER : Sta Z Z.heap "com/example/ration/ration/Api" "CLUSTER" "Lcom/example/ration/ration/Api;" (.ref w_C)) (E_CLUSTER : Exa Z Z.heap w_C "com/example/ration/ration/Api") (i : Int32) (h0 : Heap) (hO : Ext Z.heap h0)  :
    Con l Z EL0 [] (⟨"com/example/ration/ration/RequestUserPinLaw", "str", "(I)Ljava/lang/String;"⟩ : MethodName) method_3_code 2 (some (.object "java/lang/String")) R_rStr #[(.int i)] h0 [] (Q_rStr Z  h0) := by
  refine Con.of (y := (⟨"com/example/ration/ration/RequestUserPinLaw", "str", "(I)Ljava/lang/String;"⟩ : MethodName)) (f0 := fun m => mkF m 0 #[.val (.int i), .unset] []) (plainFor_of_name pn_3) hEL hO (fun m => by skip <;> first | (simp [entryFrame, mkF, argsToLocals, Value.category, maxLocals]; done) | rfl) ?_
  intro p e s m below meth c s₁ P0
  show Go p e below _ (s₁.setTop (mkF m 0 #[.val (.int i), .unset] []))
  refine P0.xs (fun hA hx hy t k => XS.iconst hA hx rfl (hb hy d1_0) k) ?_
  show Go p e below _ (s₁.setTop (mkF m 1 #[.val (.int i), .unset] [(.int (2 : Int32))]))
  refine P0.newP (aty := .char) (hw _ (List.mem_of_getElem? (i := 4) rfl)) d1_1 (by decide) (cap := 2) (by decide) (by decide) (by decide) (by decide) fun T241 h241 o241 k241 g241 P241 E241 A241 => ?_
  have gz_o241 : Z.heap.size ≤ o241 := Nat.le_trans P0.old.1 (Nat.le_of_eq g241.symm)
  have gw_o241 : h0.size ≤ o241 := Nat.le_trans P0.kept.1 (Nat.le_of_eq g241.symm)
  have V241 : Arv Z h241 o241 k241 .char (2 : Int32) [(.int (0 : Int32)), (.int (0 : Int32))] (.int (0 : Int32)) := Arv.pad A241 (pad_rep [] (.int (0 : Int32)) 2)
  show Go p e below _ (T241.setTop (mkF m 3 #[.val (.int i), .unset] [(.ref o241)]))
  refine P241.xs (fun hA hx hy t k => XS.astoreN hA hx rfl (hb hy d1_3) rfl rfl (l' := #[.val (.int i), .val (.ref o241)]) rfl k) ?_
  show Go p e below _ (T241.setTop (mkF m 4 #[.val (.int i), .val (.ref o241)] []))
  refine P241.xs (fun hA hx hy t k => XS.aloadN hA hx rfl (hb hy d1_4) rfl rfl  k) ?_
  show Go p e below _ (T241.setTop (mkF m 5 #[.val (.int i), .val (.ref o241)] [(.ref o241)]))
  refine P241.xs (fun hA hx hy t k => XS.iconst hA hx rfl (hb hy d1_5) k) ?_
  show Go p e below _ (T241.setTop (mkF m 6 #[.val (.int i), .val (.ref o241)] [(.int (0 : Int32)), (.ref o241)]))
  refine P241.xs (fun hA hx hy t k => XS.iloadN hA hx rfl (hb hy d1_6) rfl  k) ?_
  show Go p e below _ (T241.setTop (mkF m 7 #[.val (.int i), .val (.ref o241)] [(.int i), (.int (0 : Int32)), (.ref o241)]))
  refine P241.xs (fun hA hx hy t k => XS.sipush hA hx rfl (hb hy d1_7) k) ?_
  show Go p e below _ (T241.setTop (mkF m 10 #[.val (.int i), .val (.ref o241)] [(.int (255 : Int32)), (.int i), (.int (0 : Int32)), (.ref o241)]))
  refine P241.xs (fun hA hx hy t k => XS.iand hA hx rfl (hb hy d1_10) rfl k) ?_
  show Go p e below _ (T241.setTop (mkF m 11 #[.val (.int i), .val (.ref o241)] [(.int (i &&& (255 : Int32))), (.int (0 : Int32)), (.ref o241)]))
  refine P241.xs (fun hA hx hy t k => XS.i2c hA hx rfl (hb hy d1_11) rfl k) ?_
  show Go p e below _ (T241.setTop (mkF m 12 #[.val (.int i), .val (.ref o241)] [(.int ((i &&& (255 : Int32)).toUInt32.toUInt16.toUInt32.toInt32)), (.int (0 : Int32)), (.ref o241)]))
  generalize hch242 : ((i &&& (255 : Int32)).toUInt32.toUInt16.toUInt32.toInt32) = ch242
  obtain ⟨lch242, nch242⟩ := chr255 hch242
  show Go p e below _ (T241.setTop (mkF m 12 #[.val (.int i), .val (.ref o241)] [(.int ch242), (.int (0 : Int32)), (.ref o241)]))
  refine P241.stC V241 0 (by decide) (by decide) (by decide) (Nat.le_of_ble_eq_true rfl) (x' := ch242) nch242 d1_12 gz_o241 (Or.inr gw_o241) fun T243 h243 P243 W243 V243 => ?_
  have Va243 : Arv Z h243 o241 k241 .char (2 : Int32) [(.int ch242), (.int (0 : Int32))] (.int (0 : Int32)) := V243
  show Go p e below _ (T243.setTop (mkF m 13 #[.val (.int i), .val (.ref o241)] []))
  refine P243.xs (fun hA hx hy t k => XS.aloadN hA hx rfl (hb hy d1_13) rfl rfl  k) ?_
  show Go p e below _ (T243.setTop (mkF m 14 #[.val (.int i), .val (.ref o241)] [(.ref o241)]))
  refine P243.xs (fun hA hx hy t k => XS.iconst hA hx rfl (hb hy d1_14) k) ?_
  show Go p e below _ (T243.setTop (mkF m 15 #[.val (.int i), .val (.ref o241)] [(.int (1 : Int32)), (.ref o241)]))
  refine P243.xs (fun hA hx hy t k => XS.iloadN hA hx rfl (hb hy d1_15) rfl  k) ?_
  show Go p e below _ (T243.setTop (mkF m 16 #[.val (.int i), .val (.ref o241)] [(.int i), (.int (1 : Int32)), (.ref o241)]))
  refine P243.xs (fun hA hx hy t k => XS.bipush hA hx rfl (hb hy d1_16) k) ?_
  show Go p e below _ (T243.setTop (mkF m 18 #[.val (.int i), .val (.ref o241)] [(.int (8 : Int32)), (.int i), (.int (1 : Int32)), (.ref o241)]))
  refine P243.xs (fun hA hx hy t k => XS.iushr hA hx rfl (hb hy d1_18) rfl k) ?_
  show Go p e below _ (T243.setTop (mkF m 19 #[.val (.int i), .val (.ref o241)] [(.int ((i.toUInt32 >>> ((8 : Int32) &&& 31).toUInt32).toInt32)), (.int (1 : Int32)), (.ref o241)]))
  refine P243.xs (fun hA hx hy t k => XS.sipush hA hx rfl (hb hy d1_19) k) ?_
  show Go p e below _ (T243.setTop (mkF m 22 #[.val (.int i), .val (.ref o241)] [(.int (255 : Int32)), (.int ((i.toUInt32 >>> ((8 : Int32) &&& 31).toUInt32).toInt32)), (.int (1 : Int32)), (.ref o241)]))
  refine P243.xs (fun hA hx hy t k => XS.iand hA hx rfl (hb hy d1_22) rfl k) ?_
  show Go p e below _ (T243.setTop (mkF m 23 #[.val (.int i), .val (.ref o241)] [(.int (((i.toUInt32 >>> ((8 : Int32) &&& 31).toUInt32).toInt32) &&& (255 : Int32))), (.int (1 : Int32)), (.ref o241)]))
  refine P243.xs (fun hA hx hy t k => XS.i2c hA hx rfl (hb hy d1_23) rfl k) ?_
  show Go p e below _ (T243.setTop (mkF m 24 #[.val (.int i), .val (.ref o241)] [(.int ((((i.toUInt32 >>> ((8 : Int32) &&& 31).toUInt32).toInt32) &&& (255 : Int32)).toUInt32.toUInt16.toUInt32.toInt32)), (.int (1 : Int32)), (.ref o241)]))
  generalize hch244 : ((((i.toUInt32 >>> ((8 : Int32) &&& 31).toUInt32).toInt32) &&& (255 : Int32)).toUInt32.toUInt16.toUInt32.toInt32) = ch244
  obtain ⟨lch244, nch244⟩ := chr255 hch244
  show Go p e below _ (T243.setTop (mkF m 24 #[.val (.int i), .val (.ref o241)] [(.int ch244), (.int (1 : Int32)), (.ref o241)]))
  refine P243.stC Va243 1 (by decide) (by decide) (by decide) (Nat.le_of_ble_eq_true rfl) (x' := ch244) nch244 d1_24 gz_o241 (Or.inr gw_o241) fun T245 h245 P245 W245 V245 => ?_
  have Va245 : Arv Z h245 o241 k241 .char (2 : Int32) [(.int ch242), (.int ch244)] (.int (0 : Int32)) := V245
  show Go p e below _ (T245.setTop (mkF m 25 #[.val (.int i), .val (.ref o241)] []))
  refine P245.newO (hw _ (List.mem_of_getElem? (i := 5) rfl)) (hw _ (List.mem_of_getElem? (i := 6) rfl)) (hw _ (List.mem_of_getElem? (i := 7) rfl)) d1_25 (by decide) (by decide) fun T246 h246 o246 g246 P246 E246 A246 D246 => ?_
  have ne_o241_o246 : o241 ≠ o246 := Nat.ne_of_lt (Nat.lt_of_lt_of_le Va245.lt (Nat.le_of_eq g246.symm))
  have gz_o246 : Z.heap.size ≤ o246 := Nat.le_trans P245.old.1 (Nat.le_of_eq g246.symm)
  have gw_o246 : h0.size ≤ o246 := Nat.le_trans P245.kept.1 (Nat.le_of_eq g246.symm)
  have F246_coder : Fld Z h246 o246 "java/lang/String" "coder" "B" (.int (0 : Int32)) := D246 (Or.inr (hw _ (List.mem_of_getElem? (i := 31) rfl))) (ty := .byte) (by decide)
  have F246_value : Fld Z h246 o246 "java/lang/String" "value" "[B" .null := D246 (Or.inr (hw _ (List.mem_of_getElem? (i := 33) rfl))) (ty := (.array .byte)) (by decide)
  show Go p e below _ (T246.setTop (mkF m 28 #[.val (.int i), .val (.ref o241)] [(.ref o246)]))
  refine P246.xs (fun hA hx hy t k => XS.dup hA hx rfl (hb hy d1_28) rfl rfl k) ?_
  show Go p e below _ (T246.setTop (mkF m 29 #[.val (.int i), .val (.ref o241)] [(.ref o246), (.ref o246)]))
  refine P246.xs (fun hA hx hy t k => XS.aloadN hA hx rfl (hb hy d1_29) rfl rfl  k) ?_
  show Go p e below _ (T246.setTop (mkF m 30 #[.val (.int i), .val (.ref o241)] [(.ref o241), (.ref o246), (.ref o246)]))
  have Ac247 : Arv Z h246 o241 k241 .char (2 : Int32) [(.int ch242), (.int ch244)] (.int (0 : Int32)) := (Va245.ext E246)
  refine P246.specB (W := 1) (ws' := [o246]) rfl (hw _ (List.mem_of_getElem? (i := 8) rfl)) (hw _ (List.mem_of_getElem? (i := 9) rfl)) (hw _ (List.mem_of_getElem? (i := 10) rfl)) (by decide) (fun vm0 hZ => StrChars.Road.backV (W := 1) hZ (wStr hw) (kI := 4) (hw _ (List.mem_of_getElem? (i := 6) rfl)) (cs := ([ch242, ch244] : List Int32)) (bs := ([ch242, ch244] : List Int32).map (fun c => c.toInt8.toInt32)) (n := 2) gz_o246 P246.old.1 A246 F246_value F246_coder Ac247 (S0.ext P246.old) Pz rfl rfl (by decide) (by decide) (latS lch242 (latS lch244 lat0)) rfl (by decide) (by decide)) rfl (fun v h' L q => ⟨q.2.1, q.2.2.1⟩) (by decide) (by decide) (allS ⟨(Or.inr gw_o246), gz_o246⟩ all0) (fun vm hs hal hr => safe1 (safeNull hal A246 F246_value)) pd_2 (argsL := [(.ref o241)]) rfl rfl rfl (Nat.le_of_eq rfl) d1_30 fun v248 T248 h248 L248 P248 Q248 => ?_
  obtain ⟨rfl, N248, K248, E248, C248, b248, k248, gb248, gc248, gd248, V248, B248⟩ := Q248
  show Go p e below _ (T248.setTop (mkF m 33 #[.val (.int i), .val (.ref o241)] [(.ref o246)]))
  exact P248.retR rfl rfl rfl d1_33 (by decide) (by decide) ⟨o246, rfl, gw_o246, E248⟩

def Q_mLaw (Z : State)  (h0 : Heap) (v : Option Value) (h : Heap) : Prop := v = some (.int 1)
set_option maxRecDepth 65536 in
set_option maxHeartbeats 40000000 in
theorem mLaw (l : Launch) (Z : State) (a0 : Array Value) (hw : ∀ d ∈ tables_1, d.before a0 Z = true) (hEL : EW Z a0 EL0) (zc : Int32) (S0 : Sta Z Z.heap "java/lang/String" "COMPACT_STRINGS" "Z" (.int zc)) (Pz : ¬ zc = 0) (w_P w_F w_O w_C : Addr) (S_PRODUCE : Sta Z Z.heap "com/example/ration/ration/Api" "PRODUCE" "Lcom/example/ration/ration/Api;" (.ref w_P)) (E_PRODUCE : Exa Z Z.heap w_P "com/example/ration/ration/Api") (S_FETCH : Sta Z Z.heap "com/example/ration/ration/Api" "FETCH" "Lcom/example/ration/ration/Api;" (.ref w_F)) (E_FETCH : Exa Z Z.heap w_F "com/example/ration/ration/Api") (S_OTHER : Sta Z Z.heap "com/example/ration/ration/Api" "OTHER" "Lcom/example/ration/ration/Api;" (.ref w_O)) (E_OTHER : Exa Z Z.heap w_O "com/example/ration/ration/Api") (S_CLUSTER : Sta Z Z.heap "com/example/ration/ration/Api" "CLUSTER" "Lcom/example/ration/ration/Api;" (.ref w_C)) (E_CLUSTER : Exa Z Z.heap w_C "com/example/ration/ration/Api") (p0 p1 p2 : Int32) (h0 : Heap) (hO : Ext Z.heap h0)  :
    Con l Z EL0 tables_1 x code maxLocals ret room_1 #[(.int p0), (.int p1), (.int p2)] h0 [] (Q_mLaw Z  h0) := by
  refine Con.of (y := (⟨"com/example/ration/ration/RequestUserPinLaw", "law", "(III)Z"⟩ : MethodName)) (f0 := fun m => mkF m 0 #[.val (.int p0), .val (.int p1), .val (.int p2), .unset, .unset, .unset, .unset, .unset, .unset, .unset] []) (plainFor_of_name pn_3) hEL hO (fun m => by skip <;> first | (simp [entryFrame, mkF, argsToLocals, Value.category, maxLocals]; done) | rfl) ?_
  intro p e s m below meth c s₁ P0
  show Go p e below _ (s₁.setTop (mkF m 0 #[.val (.int p0), .val (.int p1), .val (.int p2), .unset, .unset, .unset, .unset, .unset, .unset, .unset] []))
  refine P0.xs (fun hA hx hy t k => XS.iloadN hA hx rfl (hb hy at_0) rfl  k) ?_
  show Go p e below _ (s₁.setTop (mkF m 1 #[.val (.int p0), .val (.int p1), .val (.int p2), .unset, .unset, .unset, .unset, .unset, .unset, .unset] [(.int p1)]))
  refine P0.callS (hw _ (List.mem_of_getElem? (i := 0) rfl)) (hw _ (List.mem_of_getElem? (i := 1) rfl)) (hw _ (List.mem_of_getElem? (i := 2) rfl)) (hw _ (List.mem_of_getElem? (i := 3) rfl)) (by decide) (rStr l Z a0 hw hEL zc S0 Pz w_P w_F w_O w_C S_PRODUCE E_PRODUCE S_FETCH E_FETCH S_OTHER E_OTHER S_CLUSTER E_CLUSTER p1 h0 P0.old) (W := 0) (by decide) (by decide) (by decide) (by decide) all0 pd_3 (argsL := [(.int p1)]) rfl rfl rfl (Nat.le_of_eq rfl) at_1 fun v249 T249 h249 P249 K249 Q249 => ?_
  obtain ⟨o249, rfl, g249, E249⟩ := Q249
  have gz_o249 : Z.heap.size ≤ o249 := Nat.le_trans P0.old.1 g249
  have gw_o249 : h0.size ≤ o249 := Nat.le_trans P0.kept.1 g249
  show Go p e below _ (T249.setTop (mkF m 4 #[.val (.int p0), .val (.int p1), .val (.int p2), .unset, .unset, .unset, .unset, .unset, .unset, .unset] [(.ref o249)]))
  refine P249.xs (fun hA hx hy t k => XS.astoreN hA hx rfl (hb hy at_4) rfl rfl (l' := #[.val (.int p0), .val (.int p1), .val (.int p2), .val (.ref o249), .unset, .unset, .unset, .unset, .unset, .unset]) rfl k) ?_
  show Go p e below _ (T249.setTop (mkF m 5 #[.val (.int p0), .val (.int p1), .val (.int p2), .val (.ref o249), .unset, .unset, .unset, .unset, .unset, .unset] []))
  refine P249.xs (fun hA hx hy t k => XS.iloadN hA hx rfl (hb hy at_5) rfl  k) ?_
  show Go p e below _ (T249.setTop (mkF m 6 #[.val (.int p0), .val (.int p1), .val (.int p2), .val (.ref o249), .unset, .unset, .unset, .unset, .unset, .unset] [(.int p2)]))
  refine P249.callS (hw _ (List.mem_of_getElem? (i := 0) rfl)) (hw _ (List.mem_of_getElem? (i := 1) rfl)) (hw _ (List.mem_of_getElem? (i := 2) rfl)) (hw _ (List.mem_of_getElem? (i := 3) rfl)) (by decide) (rStr l Z a0 hw hEL zc S0 Pz w_P w_F w_O w_C S_PRODUCE E_PRODUCE S_FETCH E_FETCH S_OTHER E_OTHER S_CLUSTER E_CLUSTER p2 h249 P249.old) (W := 0) (by decide) (by decide) (by decide) (by decide) all0 pd_3 (argsL := [(.int p2)]) rfl rfl rfl (Nat.le_of_eq rfl) at_6 fun v250 T250 h250 P250 K250 Q250 => ?_
  obtain ⟨o250, rfl, g250, E250⟩ := Q250
  have ne_o249_o250 : o249 ≠ o250 := Nat.ne_of_lt (Nat.lt_of_lt_of_le E249.lt g250)
  have gz_o250 : Z.heap.size ≤ o250 := Nat.le_trans P249.old.1 g250
  have gw_o250 : h0.size ≤ o250 := Nat.le_trans P249.kept.1 g250
  show Go p e below _ (T250.setTop (mkF m 9 #[.val (.int p0), .val (.int p1), .val (.int p2), .val (.ref o249), .unset, .unset, .unset, .unset, .unset, .unset] [(.ref o250)]))
  refine P250.xs (fun hA hx hy t k => XS.astore hA hx rfl (hb hy at_9) rfl rfl (l' := #[.val (.int p0), .val (.int p1), .val (.int p2), .val (.ref o249), .val (.ref o250), .unset, .unset, .unset, .unset, .unset]) rfl k) ?_
  show Go p e below _ (T250.setTop (mkF m 11 #[.val (.int p0), .val (.int p1), .val (.int p2), .val (.ref o249), .val (.ref o250), .unset, .unset, .unset, .unset, .unset] []))
  refine P250.newO (hw _ (List.mem_of_getElem? (i := 34) rfl)) (hw _ (List.mem_of_getElem? (i := 35) rfl)) (hw _ (List.mem_of_getElem? (i := 36) rfl)) at_11 (by decide) (by decide) fun T251 h251 o251 g251 P251 E251 A251 D251 => ?_
  have ne_o249_o251 : o249 ≠ o251 := Nat.ne_of_lt (Nat.lt_of_lt_of_le (E249.keep K250).lt (Nat.le_of_eq g251.symm))
  have ne_o250_o251 : o250 ≠ o251 := Nat.ne_of_lt (Nat.lt_of_lt_of_le E250.lt (Nat.le_of_eq g251.symm))
  have gz_o251 : Z.heap.size ≤ o251 := Nat.le_trans P250.old.1 (Nat.le_of_eq g251.symm)
  have gw_o251 : h0.size ≤ o251 := Nat.le_trans P250.kept.1 (Nat.le_of_eq g251.symm)
  have F251_producerId : Fld Z h251 o251 "com/example/ration/ration/Request" "producerId" "J" (.long (0 : Int64)) := D251 (Or.inl (hw _ (List.mem_of_getElem? (i := 49) rfl))) (ty := .long) (by decide)
  have F251_api : Fld Z h251 o251 "com/example/ration/ration/Request" "api" "Lcom/example/ration/ration/Api;" .null := D251 (Or.inl (hw _ (List.mem_of_getElem? (i := 60) rfl))) (ty := (.object "com/example/ration/ration/Api")) (by decide)
  have F251_userGiven : Fld Z h251 o251 "com/example/ration/ration/Request" "userGiven" "Z" (.int (0 : Int32)) := D251 (Or.inl (hw _ (List.mem_of_getElem? (i := 67) rfl))) (ty := .boolean) (by decide)
  have F251_user : Fld Z h251 o251 "com/example/ration/ration/Request" "user" "Ljava/lang/String;" .null := D251 (Or.inl (hw _ (List.mem_of_getElem? (i := 75) rfl))) (ty := (.object "java/lang/String")) (by decide)
  have F251_clientIdGiven : Fld Z h251 o251 "com/example/ration/ration/Request" "clientIdGiven" "Z" (.int (0 : Int32)) := D251 (Or.inl (hw _ (List.mem_of_getElem? (i := 90) rfl))) (ty := .boolean) (by decide)
  have F251_bytes : Fld Z h251 o251 "com/example/ration/ration/Request" "bytes" "J" (.long (0 : Int64)) := D251 (Or.inl (hw _ (List.mem_of_getElem? (i := 92) rfl))) (ty := .long) (by decide)
  have F251_threadUs : Fld Z h251 o251 "com/example/ration/ration/Request" "threadUs" "J" (.long (0 : Int64)) := D251 (Or.inl (hw _ (List.mem_of_getElem? (i := 94) rfl))) (ty := .long) (by decide)
  have F251_clientId : Fld Z h251 o251 "com/example/ration/ration/Request" "clientId" "Ljava/lang/String;" .null := D251 (Or.inl (hw _ (List.mem_of_getElem? (i := 108) rfl))) (ty := (.object "java/lang/String")) (by decide)
  show Go p e below _ (T251.setTop (mkF m 14 #[.val (.int p0), .val (.int p1), .val (.int p2), .val (.ref o249), .val (.ref o250), .unset, .unset, .unset, .unset, .unset] [(.ref o251)]))
  refine P251.xs (fun hA hx hy t k => XS.dup hA hx rfl (hb hy at_14) rfl rfl k) ?_
  show Go p e below _ (T251.setTop (mkF m 15 #[.val (.int p0), .val (.int p1), .val (.int p2), .val (.ref o249), .val (.ref o250), .unset, .unset, .unset, .unset, .unset] [(.ref o251), (.ref o251)]))
  refine P251.xs (fun hA hx hy t k => XS.iloadN hA hx rfl (hb hy at_15) rfl  k) ?_
  show Go p e below _ (T251.setTop (mkF m 16 #[.val (.int p0), .val (.int p1), .val (.int p2), .val (.ref o249), .val (.ref o250), .unset, .unset, .unset, .unset, .unset] [(.int p0), (.ref o251), (.ref o251)]))
  refine P251.xs (fun hA hx hy t k => XS.iconst hA hx rfl (hb hy at_16) k) ?_
  show Go p e below _ (T251.setTop (mkF m 17 #[.val (.int p0), .val (.int p1), .val (.int p2), .val (.ref o249), .val (.ref o250), .unset, .unset, .unset, .unset, .unset] [(.int (3 : Int32)), (.int p0), (.ref o251), (.ref o251)]))
  refine P251.xs (fun hA hx hy t k => XS.iand hA hx rfl (hb hy at_17) rfl k) ?_
  show Go p e below _ (T251.setTop (mkF m 18 #[.val (.int p0), .val (.int p1), .val (.int p2), .val (.ref o249), .val (.ref o250), .unset, .unset, .unset, .unset, .unset] [(.int (p0 &&& (3 : Int32))), (.ref o251), (.ref o251)]))
  have Ec253 : Exa Z h251 o249 "java/lang/String" := ((E249.keep K250).ext E251)
  have Ec254 : Exa Z h251 o250 "java/lang/String" := (E250.ext E251)
  refine P251.callS (hw _ (List.mem_of_getElem? (i := 37) rfl)) (hw _ (List.mem_of_getElem? (i := 38) rfl)) (hw _ (List.mem_of_getElem? (i := 2) rfl)) (hw _ (List.mem_of_getElem? (i := 39) rfl)) (by decide) (rApi l Z a0 hw hEL zc S0 Pz w_P w_F w_O w_C S_PRODUCE E_PRODUCE S_FETCH E_FETCH S_OTHER E_OTHER S_CLUSTER E_CLUSTER (p0 &&& (3 : Int32)) h251 P251.old) (W := 2) (by decide) (by decide) (by decide) (by decide) all0 pd_4 (argsL := [(.int (p0 &&& (3 : Int32)))]) rfl rfl rfl (Nat.le_of_eq rfl) at_18 fun v252 T252 h252 P252 K252 Q252 => ?_
  obtain ⟨w252, rfl, Ew252, hh252⟩ := Q252
  rw [hh252] at P252
  show Go p e below _ (T252.setTop (mkF m 21 #[.val (.int p0), .val (.int p1), .val (.int p2), .val (.ref o249), .val (.ref o250), .unset, .unset, .unset, .unset, .unset] [(.ref w252), (.ref o251), (.ref o251)]))
  have Ec256 : Exa Z h251 w252 "com/example/ration/ration/Api" := (Ew252.ext P251.old)
  refine P252.callI rfl (hw _ (List.mem_of_getElem? (i := 43) rfl)) (hw _ (List.mem_of_getElem? (i := 44) rfl)) (hw _ (List.mem_of_getElem? (i := 36) rfl)) (hw _ (List.mem_of_getElem? (i := 45) rfl)) (by decide) (rInit l Z a0 hw hEL zc S0 Pz w_P w_F w_O w_C S_PRODUCE E_PRODUCE S_FETCH E_FETCH S_OTHER E_OTHER S_CLUSTER E_CLUSTER o251 w252 h251 P252.old A251 F251_api F251_user F251_clientId F251_bytes F251_threadUs F251_producerId F251_userGiven F251_clientIdGiven gz_o251 Ec256) (W := 1) (by decide) (by decide) (by decide) (by decide) (allS (Or.inr gw_o251) all0) pd_5 (argsL := [(.ref w252)]) rfl rfl rfl (Nat.le_of_eq rfl) at_21 fun v255 T255 h255 P255 K255 Q255 => ?_
  obtain ⟨rfl, E255, F255_api, F255_user, F255_clientId, F255_bytes, F255_threadUs, F255_producerId, F255_userGiven, F255_clientIdGiven⟩ := Q255
  show Go p e below _ (T255.setTop (mkF m 24 #[.val (.int p0), .val (.int p1), .val (.int p2), .val (.ref o249), .val (.ref o250), .unset, .unset, .unset, .unset, .unset] [(.ref o251)]))
  refine P255.xs (fun hA hx hy t k => XS.astore hA hx rfl (hb hy at_24) rfl rfl (l' := #[.val (.int p0), .val (.int p1), .val (.int p2), .val (.ref o249), .val (.ref o250), .val (.ref o251), .unset, .unset, .unset, .unset]) rfl k) ?_
  show Go p e below _ (T255.setTop (mkF m 26 #[.val (.int p0), .val (.int p1), .val (.int p2), .val (.ref o249), .val (.ref o250), .val (.ref o251), .unset, .unset, .unset, .unset] []))
  refine P255.xs (fun hA hx hy t k => XS.iloadN hA hx rfl (hb hy at_26) rfl  k) ?_
  show Go p e below _ (T255.setTop (mkF m 27 #[.val (.int p0), .val (.int p1), .val (.int p2), .val (.ref o249), .val (.ref o250), .val (.ref o251), .unset, .unset, .unset, .unset] [(.int p0)]))
  refine P255.xs (fun hA hx hy t k => XS.bipush hA hx rfl (hb hy at_27) k) ?_
  show Go p e below _ (T255.setTop (mkF m 29 #[.val (.int p0), .val (.int p1), .val (.int p2), .val (.ref o249), .val (.ref o250), .val (.ref o251), .unset, .unset, .unset, .unset] [(.int (16 : Int32)), (.int p0)]))
  refine P255.xs (fun hA hx hy t k => XS.iand hA hx rfl (hb hy at_29) rfl k) ?_
  show Go p e below _ (T255.setTop (mkF m 30 #[.val (.int p0), .val (.int p1), .val (.int p2), .val (.ref o249), .val (.ref o250), .val (.ref o251), .unset, .unset, .unset, .unset] [(.int (p0 &&& (16 : Int32)))]))
  suffices j1 : ∀ (T257 : State) (h257 : Heap) (vc : Value) (gc : Int32) (hvc : vc.isRef = true), Pos p l e room_1 s m #[(.int p0), (.int p1), (.int p2)] below meth c "com/example/ration/ration/RequestUserPinLaw" "law" code maxLocals ret Z a0 EL0 h0 [] T257 h257 11 80 → Exa Z h257 o249 "java/lang/String" → Exa Z h257 o250 "java/lang/String" → Exa Z h257 o251 "com/example/ration/ration/Request" → Fld Z h257 o251 "com/example/ration/ration/Request" "api" "Lcom/example/ration/ration/Api;" (.ref w252) → Fld Z h257 o251 "com/example/ration/ration/Request" "user" "Ljava/lang/String;" .null → Fld Z h257 o251 "com/example/ration/ration/Request" "clientId" "Ljava/lang/String;" vc → Fld Z h257 o251 "com/example/ration/ration/Request" "bytes" "J" (.long (0 : Int64)) → Fld Z h257 o251 "com/example/ration/ration/Request" "threadUs" "J" (.long (0 : Int64)) → Fld Z h257 o251 "com/example/ration/ration/Request" "producerId" "J" (.long (-1 : Int64)) → Fld Z h257 o251 "com/example/ration/ration/Request" "userGiven" "Z" (.int (0 : Int32)) → Fld Z h257 o251 "com/example/ration/ration/Request" "clientIdGiven" "Z" (.int gc) → Go p e below (Fini Z EL0 h0 [] room_1 (Q_mLaw Z  h0) s) (T257.setTop (mkF m 41 #[.val (.int p0), .val (.int p1), .val (.int p2), .val (.ref o249), .val (.ref o250), .val (.ref o251), .unset, .unset, .unset, .unset] [])) by
    by_cases hk : (p0 &&& (16 : Int32)) = 0
    · refine P255.xs (fun hA hx hy t k => XS.ifYes hA hx rfl (pc0 := 30) (pc' := 41) rfl (hb hy at_30) rfl ((if0 _ _).trans (teq hk).1) (by decide) (by decide) k) ?_
      show Go p e below _ (T255.setTop (mkF m 41 #[.val (.int p0), .val (.int p1), .val (.int p2), .val (.ref o249), .val (.ref o250), .val (.ref o251), .unset, .unset, .unset, .unset] []))
      exact j1 _ _ .null (0 : Int32) rfl  (P255.wider (by decide) (by decide)) (Ec253.keep K255) (Ec254.keep K255) E255 F255_api F255_user F255_clientId F255_bytes F255_threadUs F255_producerId F255_userGiven F255_clientIdGiven
    · refine P255.xs (fun hA hx hy t k => XS.ifNo hA hx rfl (hb hy at_30) rfl ((if0 _ _).trans (feq hk).1) k) ?_
      show Go p e below _ (T255.setTop (mkF m 33 #[.val (.int p0), .val (.int p1), .val (.int p2), .val (.ref o249), .val (.ref o250), .val (.ref o251), .unset, .unset, .unset, .unset] []))
      refine P255.xs (fun hA hx hy t k => XS.aload hA hx rfl (hb hy at_33) rfl rfl  k) ?_
      show Go p e below _ (T255.setTop (mkF m 35 #[.val (.int p0), .val (.int p1), .val (.int p2), .val (.ref o249), .val (.ref o250), .val (.ref o251), .unset, .unset, .unset, .unset] [(.ref o251)]))
      refine P255.xs (fun hA hx hy t k => XS.aload hA hx rfl (hb hy at_35) rfl rfl  k) ?_
      show Go p e below _ (T255.setTop (mkF m 37 #[.val (.int p0), .val (.int p1), .val (.int p2), .val (.ref o249), .val (.ref o250), .val (.ref o251), .unset, .unset, .unset, .unset] [(.ref o250), (.ref o251)]))
      have Ec259 : Exa Z h255 o249 "java/lang/String" := (Ec253.keep K255)
      have Ec260 : Exa Z h255 o250 "java/lang/String" := (Ec254.keep K255)
      have Ec261 : Exa Z h255 w252 "com/example/ration/ration/Api" := (Ec256.keep K255)
      refine P255.callV (hw _ (List.mem_of_getElem? (i := 101) rfl)) (hw _ (List.mem_of_getElem? (i := 102) rfl)) (hw _ (List.mem_of_getElem? (i := 104) rfl)) (nfOf (hw _ (List.mem_of_getElem? (i := 104) rfl))) (hw _ (List.mem_of_getElem? (i := 103) rfl)) (hw _ (List.mem_of_getElem? (i := 36) rfl)) (hw _ (List.mem_of_getElem? (i := 105) rfl)) (by decide) E255 (rClient l Z a0 hw hEL zc S0 Pz w_P w_F w_O w_C S_PRODUCE E_PRODUCE S_FETCH E_FETCH S_OTHER E_OTHER S_CLUSTER E_CLUSTER o251 o250 (.ref w252) .null .null rfl rfl rfl (0 : Int64) (0 : Int64) (-1 : Int64) (0 : Int32) (0 : Int32) h255 P255.old E255 F255_api F255_user F255_clientId F255_bytes F255_threadUs F255_producerId F255_userGiven F255_clientIdGiven gz_o251) (W := 0) (by decide) (by decide) (by decide) (by decide) (allS (Or.inr gw_o251) all0) pd_6 (argsL := [(.ref o250)]) rfl rfl rfl (Nat.le_of_eq rfl) at_37 fun v258 T258 h258 P258 K258 Q258 => ?_
      obtain ⟨rfl, E258, F258_api, F258_user, F258_clientId, F258_bytes, F258_threadUs, F258_producerId, F258_userGiven, F258_clientIdGiven⟩ := Q258
      show Go p e below _ (T258.setTop (mkF m 40 #[.val (.int p0), .val (.int p1), .val (.int p2), .val (.ref o249), .val (.ref o250), .val (.ref o251), .unset, .unset, .unset, .unset] [(.ref o251)]))
      refine P258.xs (fun hA hx hy t k => XS.pop hA hx rfl (hb hy at_40) rfl rfl k) ?_
      show Go p e below _ (T258.setTop (mkF m 41 #[.val (.int p0), .val (.int p1), .val (.int p2), .val (.ref o249), .val (.ref o250), .val (.ref o251), .unset, .unset, .unset, .unset] []))
      exact j1 _ _ (.ref o250) (1 : Int32) rfl  (P258.wider (by decide) (by decide)) (Ec259.keep K258) (Ec260.keep K258) E258 F258_api F258_user F258_clientId F258_bytes F258_threadUs F258_producerId F258_userGiven F258_clientIdGiven
  intro T257 h257 vc gc hvc  P257 f257_0 f257_1 f257_2 f257_3 f257_4 f257_5 f257_6 f257_7 f257_8 f257_9 f257_10
  show Go p e below _ (T257.setTop (mkF m 41 #[.val (.int p0), .val (.int p1), .val (.int p2), .val (.ref o249), .val (.ref o250), .val (.ref o251), .unset, .unset, .unset, .unset] []))
  refine P257.xs (fun hA hx hy t k => XS.aload hA hx rfl (hb hy at_41) rfl rfl  k) ?_
  show Go p e below _ (T257.setTop (mkF m 43 #[.val (.int p0), .val (.int p1), .val (.int p2), .val (.ref o249), .val (.ref o250), .val (.ref o251), .unset, .unset, .unset, .unset] [(.ref o251)]))
  refine P257.callV (hw _ (List.mem_of_getElem? (i := 61) rfl)) (hw _ (List.mem_of_getElem? (i := 62) rfl)) (hw _ (List.mem_of_getElem? (i := 64) rfl)) (nfOf (hw _ (List.mem_of_getElem? (i := 64) rfl))) (hw _ (List.mem_of_getElem? (i := 63) rfl)) (hw _ (List.mem_of_getElem? (i := 36) rfl)) (hw _ (List.mem_of_getElem? (i := 65) rfl)) (by decide) f257_2 (rGetUserN l Z a0 hw hEL zc S0 Pz w_P w_F w_O w_C S_PRODUCE E_PRODUCE S_FETCH E_FETCH S_OTHER E_OTHER S_CLUSTER E_CLUSTER o251 .null rfl h257 P257.old f257_9 f257_4) (W := 0) (by decide) (by decide) (by decide) (by decide) all0 pd_7 (argsL := []) rfl rfl rfl (Nat.le_of_eq rfl) at_43 fun v262 T262 h262 P262 K262 Q262 => ?_
  obtain ⟨hv262, hh262⟩ := Q262
  subst hv262
  rw [hh262] at P262
  show Go p e below _ (T262.setTop (mkF m 46 #[.val (.int p0), .val (.int p1), .val (.int p2), .val (.ref o249), .val (.ref o250), .val (.ref o251), .unset, .unset, .unset, .unset] [.null]))
  refine P262.xs (fun hA hx hy t k => XS.ifnonnullNo hA hx rfl (hb hy at_46) rfl k) ?_
  show Go p e below _ (T262.setTop (mkF m 49 #[.val (.int p0), .val (.int p1), .val (.int p2), .val (.ref o249), .val (.ref o250), .val (.ref o251), .unset, .unset, .unset, .unset] []))
  refine P262.xs (fun hA hx hy t k => XS.iconst hA hx rfl (hb hy at_49) k) ?_
  show Go p e below _ (T262.setTop (mkF m 50 #[.val (.int p0), .val (.int p1), .val (.int p2), .val (.ref o249), .val (.ref o250), .val (.ref o251), .unset, .unset, .unset, .unset] [(.int (1 : Int32))]))
  refine P262.xs (fun hA hx hy t k => XS.goto hA hx rfl (pc0 := 50) (pc' := 54) rfl (hb hy at_50) (by decide) (by decide) k) ?_
  show Go p e below _ (T262.setTop (mkF m 54 #[.val (.int p0), .val (.int p1), .val (.int p2), .val (.ref o249), .val (.ref o250), .val (.ref o251), .unset, .unset, .unset, .unset] [(.int (1 : Int32))]))
  refine P262.xs (fun hA hx hy t k => XS.istore hA hx rfl (hb hy at_54) rfl (l' := #[.val (.int p0), .val (.int p1), .val (.int p2), .val (.ref o249), .val (.ref o250), .val (.ref o251), .val (.int (1 : Int32)), .unset, .unset, .unset]) rfl k) ?_
  show Go p e below _ (T262.setTop (mkF m 56 #[.val (.int p0), .val (.int p1), .val (.int p2), .val (.ref o249), .val (.ref o250), .val (.ref o251), .val (.int (1 : Int32)), .unset, .unset, .unset] []))
  refine P262.xs (fun hA hx hy t k => XS.aload hA hx rfl (hb hy at_56) rfl rfl  k) ?_
  show Go p e below _ (T262.setTop (mkF m 58 #[.val (.int p0), .val (.int p1), .val (.int p2), .val (.ref o249), .val (.ref o250), .val (.ref o251), .val (.int (1 : Int32)), .unset, .unset, .unset] [(.ref o251)]))
  refine P262.xs (fun hA hx hy t k => XS.aloadN hA hx rfl (hb hy at_58) rfl rfl  k) ?_
  show Go p e below _ (T262.setTop (mkF m 59 #[.val (.int p0), .val (.int p1), .val (.int p2), .val (.ref o249), .val (.ref o250), .val (.ref o251), .val (.int (1 : Int32)), .unset, .unset, .unset] [(.ref o249), (.ref o251)]))
  refine P262.callV (hw _ (List.mem_of_getElem? (i := 68) rfl)) (hw _ (List.mem_of_getElem? (i := 69) rfl)) (hw _ (List.mem_of_getElem? (i := 71) rfl)) (nfOf (hw _ (List.mem_of_getElem? (i := 71) rfl))) (hw _ (List.mem_of_getElem? (i := 70) rfl)) (hw _ (List.mem_of_getElem? (i := 36) rfl)) (hw _ (List.mem_of_getElem? (i := 72) rfl)) (by decide) f257_2 (rUser l Z a0 hw hEL zc S0 Pz w_P w_F w_O w_C S_PRODUCE E_PRODUCE S_FETCH E_FETCH S_OTHER E_OTHER S_CLUSTER E_CLUSTER o251 o249 (.ref w252) .null vc rfl rfl hvc (0 : Int64) (0 : Int64) (-1 : Int64) (0 : Int32) gc h257 P262.old f257_2 f257_3 f257_4 f257_5 f257_6 f257_7 f257_8 f257_9 f257_10 gz_o251) (W := 0) (by decide) (by decide) (by decide) (by decide) (allS (Or.inr gw_o251) all0) pd_6 (argsL := [(.ref o249)]) rfl rfl rfl (Nat.le_of_eq rfl) at_59 fun v263 T263 h263 P263 K263 Q263 => ?_
  obtain ⟨rfl, E263, F263_api, F263_user, F263_clientId, F263_bytes, F263_threadUs, F263_producerId, F263_userGiven, F263_clientIdGiven⟩ := Q263
  show Go p e below _ (T263.setTop (mkF m 62 #[.val (.int p0), .val (.int p1), .val (.int p2), .val (.ref o249), .val (.ref o250), .val (.ref o251), .val (.int (1 : Int32)), .unset, .unset, .unset] [(.ref o251)]))
  refine P263.xs (fun hA hx hy t k => XS.astore hA hx rfl (hb hy at_62) rfl rfl (l' := #[.val (.int p0), .val (.int p1), .val (.int p2), .val (.ref o249), .val (.ref o250), .val (.ref o251), .val (.int (1 : Int32)), .val (.ref o251), .unset, .unset]) rfl k) ?_
  show Go p e below _ (T263.setTop (mkF m 64 #[.val (.int p0), .val (.int p1), .val (.int p2), .val (.ref o249), .val (.ref o250), .val (.ref o251), .val (.int (1 : Int32)), .val (.ref o251), .unset, .unset] []))
  refine P263.xs (fun hA hx hy t k => XS.iload hA hx rfl (hb hy at_64) rfl  k) ?_
  show Go p e below _ (T263.setTop (mkF m 66 #[.val (.int p0), .val (.int p1), .val (.int p2), .val (.ref o249), .val (.ref o250), .val (.ref o251), .val (.int (1 : Int32)), .val (.ref o251), .unset, .unset] [(.int (1 : Int32))]))
  refine P263.xs (fun hA hx hy t k => XS.ifNo hA hx rfl (hb hy at_66) rfl ((if0 _ _).trans (feq (by decide)).1) k) ?_
  show Go p e below _ (T263.setTop (mkF m 69 #[.val (.int p0), .val (.int p1), .val (.int p2), .val (.ref o249), .val (.ref o250), .val (.ref o251), .val (.int (1 : Int32)), .val (.ref o251), .unset, .unset] []))
  refine P263.xs (fun hA hx hy t k => XS.aload hA hx rfl (hb hy at_69) rfl rfl  k) ?_
  show Go p e below _ (T263.setTop (mkF m 71 #[.val (.int p0), .val (.int p1), .val (.int p2), .val (.ref o249), .val (.ref o250), .val (.ref o251), .val (.int (1 : Int32)), .val (.ref o251), .unset, .unset] [(.ref o251)]))
  refine P263.xs (fun hA hx hy t k => XS.aload hA hx rfl (hb hy at_71) rfl rfl  k) ?_
  show Go p e below _ (T263.setTop (mkF m 73 #[.val (.int p0), .val (.int p1), .val (.int p2), .val (.ref o249), .val (.ref o250), .val (.ref o251), .val (.int (1 : Int32)), .val (.ref o251), .unset, .unset] [(.ref o251), (.ref o251)]))
  refine P263.st (fun vm0 locs X hx hy t k => Jvm.RoadKit.acmp (g := (mkF m 73 #[.val (.int p0), .val (.int p1), .val (.int p2), .val (.ref o249), .val (.ref o250), .val (.ref o251), .val (.int (1 : Int32)), .val (.ref o251), .unset, .unset] [(.ref o251), (.ref o251)])) X hx rfl rfl rfl (pc0 := 73) (pc' := 76) (same := true) rfl (hb hy at_73) rfl (decide_eq_true rfl) (by decide) (by decide) k) ?_
  show Go p e below _ (T263.setTop (mkF m 76 #[.val (.int p0), .val (.int p1), .val (.int p2), .val (.ref o249), .val (.ref o250), .val (.ref o251), .val (.int (1 : Int32)), .val (.ref o251), .unset, .unset] []))
  refine P263.xs (fun hA hx hy t k => XS.aload hA hx rfl (hb hy at_76) rfl rfl  k) ?_
  show Go p e below _ (T263.setTop (mkF m 78 #[.val (.int p0), .val (.int p1), .val (.int p2), .val (.ref o249), .val (.ref o250), .val (.ref o251), .val (.int (1 : Int32)), .val (.ref o251), .unset, .unset] [(.ref o251)]))
  have Ec265 : Exa Z h263 o249 "java/lang/String" := (f257_0.keep K263)
  have Ec266 : Exa Z h263 o250 "java/lang/String" := (f257_1.keep K263)
  refine P263.callV (hw _ (List.mem_of_getElem? (i := 61) rfl)) (hw _ (List.mem_of_getElem? (i := 62) rfl)) (hw _ (List.mem_of_getElem? (i := 64) rfl)) (nfOf (hw _ (List.mem_of_getElem? (i := 64) rfl))) (hw _ (List.mem_of_getElem? (i := 63) rfl)) (hw _ (List.mem_of_getElem? (i := 36) rfl)) (hw _ (List.mem_of_getElem? (i := 65) rfl)) (by decide) E263 (rGetUserR l Z a0 hw hEL zc S0 Pz w_P w_F w_O w_C S_PRODUCE E_PRODUCE S_FETCH E_FETCH S_OTHER E_OTHER S_CLUSTER E_CLUSTER o251 (.ref o249) rfl h263 P263.old F263_userGiven F263_user) (W := 0) (by decide) (by decide) (by decide) (by decide) all0 pd_7 (argsL := []) rfl rfl rfl (Nat.le_of_eq rfl) at_78 fun v264 T264 h264 P264 K264 Q264 => ?_
  obtain ⟨hv264, hh264⟩ := Q264
  subst hv264
  rw [hh264] at P264
  show Go p e below _ (T264.setTop (mkF m 81 #[.val (.int p0), .val (.int p1), .val (.int p2), .val (.ref o249), .val (.ref o250), .val (.ref o251), .val (.int (1 : Int32)), .val (.ref o251), .unset, .unset] [(.ref o249)]))
  refine P264.xs (fun hA hx hy t k => XS.aloadN hA hx rfl (hb hy at_81) rfl rfl  k) ?_
  show Go p e below _ (T264.setTop (mkF m 82 #[.val (.int p0), .val (.int p1), .val (.int p2), .val (.ref o249), .val (.ref o250), .val (.ref o251), .val (.int (1 : Int32)), .val (.ref o251), .unset, .unset] [(.ref o249), (.ref o249)]))
  refine P264.callS (hw _ (List.mem_of_getElem? (i := 76) rfl)) (hw _ (List.mem_of_getElem? (i := 77) rfl)) (hw _ (List.mem_of_getElem? (i := 2) rfl)) (hw _ (List.mem_of_getElem? (i := 78) rfl)) (by decide) (rIs l Z a0 hw hEL zc S0 Pz w_P w_F w_O w_C S_PRODUCE E_PRODUCE S_FETCH E_FETCH S_OTHER E_OTHER S_CLUSTER E_CLUSTER o249 h263 P264.old Ec265) (W := 0) (by decide) (by decide) (by decide) (by decide) all0 pd_8 (argsL := [(.ref o249), (.ref o249)]) rfl rfl rfl (Nat.le_of_eq rfl) at_82 fun v267 T267 h267 P267 K267 Q267 => ?_
  obtain ⟨hv267, hh267⟩ := Q267
  subst hv267
  rw [hh267] at P267
  show Go p e below _ (T267.setTop (mkF m 85 #[.val (.int p0), .val (.int p1), .val (.int p2), .val (.ref o249), .val (.ref o250), .val (.ref o251), .val (.int (1 : Int32)), .val (.ref o251), .unset, .unset] [(.int (1 : Int32))]))
  refine P267.xs (fun hA hx hy t k => XS.ifNo hA hx rfl (hb hy at_85) rfl ((if0 _ _).trans (feq (by decide)).1) k) ?_
  show Go p e below _ (T267.setTop (mkF m 88 #[.val (.int p0), .val (.int p1), .val (.int p2), .val (.ref o249), .val (.ref o250), .val (.ref o251), .val (.int (1 : Int32)), .val (.ref o251), .unset, .unset] []))
  refine P267.xs (fun hA hx hy t k => XS.iconst hA hx rfl (hb hy at_88) k) ?_
  show Go p e below _ (T267.setTop (mkF m 89 #[.val (.int p0), .val (.int p1), .val (.int p2), .val (.ref o249), .val (.ref o250), .val (.ref o251), .val (.int (1 : Int32)), .val (.ref o251), .unset, .unset] [(.int (1 : Int32))]))
  refine P267.xs (fun hA hx hy t k => XS.goto hA hx rfl (pc0 := 89) (pc' := 93) rfl (hb hy at_89) (by decide) (by decide) k) ?_
  show Go p e below _ (T267.setTop (mkF m 93 #[.val (.int p0), .val (.int p1), .val (.int p2), .val (.ref o249), .val (.ref o250), .val (.ref o251), .val (.int (1 : Int32)), .val (.ref o251), .unset, .unset] [(.int (1 : Int32))]))
  refine P267.xs (fun hA hx hy t k => XS.istore hA hx rfl (hb hy at_93) rfl (l' := #[.val (.int p0), .val (.int p1), .val (.int p2), .val (.ref o249), .val (.ref o250), .val (.ref o251), .val (.int (1 : Int32)), .val (.ref o251), .unset, .unset]) rfl k) ?_
  show Go p e below _ (T267.setTop (mkF m 95 #[.val (.int p0), .val (.int p1), .val (.int p2), .val (.ref o249), .val (.ref o250), .val (.ref o251), .val (.int (1 : Int32)), .val (.ref o251), .unset, .unset] []))
  refine P267.xs (fun hA hx hy t k => XS.aloadN hA hx rfl (hb hy at_95) rfl rfl  k) ?_
  show Go p e below _ (T267.setTop (mkF m 96 #[.val (.int p0), .val (.int p1), .val (.int p2), .val (.ref o249), .val (.ref o250), .val (.ref o251), .val (.int (1 : Int32)), .val (.ref o251), .unset, .unset] [(.ref o249)]))
  refine P267.xs (fun hA hx hy t k => XS.astore hA hx rfl (hb hy at_96) rfl rfl (l' := #[.val (.int p0), .val (.int p1), .val (.int p2), .val (.ref o249), .val (.ref o250), .val (.ref o251), .val (.int (1 : Int32)), .val (.ref o251), .val (.ref o249), .unset]) rfl k) ?_
  show Go p e below _ (T267.setTop (mkF m 98 #[.val (.int p0), .val (.int p1), .val (.int p2), .val (.ref o249), .val (.ref o250), .val (.ref o251), .val (.int (1 : Int32)), .val (.ref o251), .val (.ref o249), .unset] []))
  refine P267.xs (fun hA hx hy t k => XS.iloadN hA hx rfl (hb hy at_98) rfl  k) ?_
  show Go p e below _ (T267.setTop (mkF m 99 #[.val (.int p0), .val (.int p1), .val (.int p2), .val (.ref o249), .val (.ref o250), .val (.ref o251), .val (.int (1 : Int32)), .val (.ref o251), .val (.ref o249), .unset] [(.int p0)]))
  refine P267.xs (fun hA hx hy t k => XS.bipush hA hx rfl (hb hy at_99) k) ?_
  show Go p e below _ (T267.setTop (mkF m 101 #[.val (.int p0), .val (.int p1), .val (.int p2), .val (.ref o249), .val (.ref o250), .val (.ref o251), .val (.int (1 : Int32)), .val (.ref o251), .val (.ref o249), .unset] [(.int (64 : Int32)), (.int p0)]))
  refine P267.xs (fun hA hx hy t k => XS.iand hA hx rfl (hb hy at_101) rfl k) ?_
  show Go p e below _ (T267.setTop (mkF m 102 #[.val (.int p0), .val (.int p1), .val (.int p2), .val (.ref o249), .val (.ref o250), .val (.ref o251), .val (.int (1 : Int32)), .val (.ref o251), .val (.ref o249), .unset] [(.int (p0 &&& (64 : Int32)))]))
  suffices j2 : ∀ (T268 : State) (h268 : Heap) (wt : Addr), Pos p l e room_1 s m #[(.int p0), (.int p1), (.int p2)] below meth c "com/example/ration/ration/RequestUserPinLaw" "law" code maxLocals ret Z a0 EL0 h0 [] T268 h268 15 120 → Exa Z h268 wt "java/lang/String" → Exa Z h268 o250 "java/lang/String" → Exa Z h268 o251 "com/example/ration/ration/Request" → Fld Z h268 o251 "com/example/ration/ration/Request" "api" "Lcom/example/ration/ration/Api;" (.ref w252) → Fld Z h268 o251 "com/example/ration/ration/Request" "user" "Ljava/lang/String;" (.ref wt) → Fld Z h268 o251 "com/example/ration/ration/Request" "clientId" "Ljava/lang/String;" vc → Fld Z h268 o251 "com/example/ration/ration/Request" "bytes" "J" (.long (0 : Int64)) → Fld Z h268 o251 "com/example/ration/ration/Request" "threadUs" "J" (.long (0 : Int64)) → Fld Z h268 o251 "com/example/ration/ration/Request" "producerId" "J" (.long (-1 : Int64)) → Fld Z h268 o251 "com/example/ration/ration/Request" "userGiven" "Z" (.int (1 : Int32)) → Fld Z h268 o251 "com/example/ration/ration/Request" "clientIdGiven" "Z" (.int gc) → Go p e below (Fini Z EL0 h0 [] room_1 (Q_mLaw Z  h0) s) (T268.setTop (mkF m 117 #[.val (.int p0), .val (.int p1), .val (.int p2), .val (.ref o249), .val (.ref o250), .val (.ref o251), .val (.int (1 : Int32)), .val (.ref o251), .val (.ref wt), .unset] [])) by
    by_cases hk2 : (p0 &&& (64 : Int32)) = 0
    · refine P267.xs (fun hA hx hy t k => XS.ifYes hA hx rfl (pc0 := 102) (pc' := 117) rfl (hb hy at_102) rfl ((if0 _ _).trans (teq hk2).1) (by decide) (by decide) k) ?_
      show Go p e below _ (T267.setTop (mkF m 117 #[.val (.int p0), .val (.int p1), .val (.int p2), .val (.ref o249), .val (.ref o250), .val (.ref o251), .val (.int (1 : Int32)), .val (.ref o251), .val (.ref o249), .unset] []))
      exact j2 _ _ o249  (P267.wider (by decide) (by decide)) Ec265 Ec266 E263 F263_api F263_user F263_clientId F263_bytes F263_threadUs F263_producerId F263_userGiven F263_clientIdGiven
    · refine P267.xs (fun hA hx hy t k => XS.ifNo hA hx rfl (hb hy at_102) rfl ((if0 _ _).trans (feq hk2).1) k) ?_
      show Go p e below _ (T267.setTop (mkF m 105 #[.val (.int p0), .val (.int p1), .val (.int p2), .val (.ref o249), .val (.ref o250), .val (.ref o251), .val (.int (1 : Int32)), .val (.ref o251), .val (.ref o249), .unset] []))
      refine P267.xs (fun hA hx hy t k => XS.aload hA hx rfl (hb hy at_105) rfl rfl  k) ?_
      show Go p e below _ (T267.setTop (mkF m 107 #[.val (.int p0), .val (.int p1), .val (.int p2), .val (.ref o249), .val (.ref o250), .val (.ref o251), .val (.int (1 : Int32)), .val (.ref o251), .val (.ref o249), .unset] [(.ref o251)]))
      refine P267.xs (fun hA hx hy t k => XS.aload hA hx rfl (hb hy at_107) rfl rfl  k) ?_
      show Go p e below _ (T267.setTop (mkF m 109 #[.val (.int p0), .val (.int p1), .val (.int p2), .val (.ref o249), .val (.ref o250), .val (.ref o251), .val (.int (1 : Int32)), .val (.ref o251), .val (.ref o249), .unset] [(.ref o250), (.ref o251)]))
      refine P267.callV (hw _ (List.mem_of_getElem? (i := 68) rfl)) (hw _ (List.mem_of_getElem? (i := 69) rfl)) (hw _ (List.mem_of_getElem? (i := 71) rfl)) (nfOf (hw _ (List.mem_of_getElem? (i := 71) rfl))) (hw _ (List.mem_of_getElem? (i := 70) rfl)) (hw _ (List.mem_of_getElem? (i := 36) rfl)) (hw _ (List.mem_of_getElem? (i := 72) rfl)) (by decide) E263 (rUser l Z a0 hw hEL zc S0 Pz w_P w_F w_O w_C S_PRODUCE E_PRODUCE S_FETCH E_FETCH S_OTHER E_OTHER S_CLUSTER E_CLUSTER o251 o250 (.ref w252) (.ref o249) vc rfl rfl hvc (0 : Int64) (0 : Int64) (-1 : Int64) (1 : Int32) gc h263 P267.old E263 F263_api F263_user F263_clientId F263_bytes F263_threadUs F263_producerId F263_userGiven F263_clientIdGiven gz_o251) (W := 0) (by decide) (by decide) (by decide) (by decide) (allS (Or.inr gw_o251) all0) pd_6 (argsL := [(.ref o250)]) rfl rfl rfl (Nat.le_of_eq rfl) at_109 fun v269 T269 h269 P269 K269 Q269 => ?_
      obtain ⟨rfl, E269, F269_api, F269_user, F269_clientId, F269_bytes, F269_threadUs, F269_producerId, F269_userGiven, F269_clientIdGiven⟩ := Q269
      show Go p e below _ (T269.setTop (mkF m 112 #[.val (.int p0), .val (.int p1), .val (.int p2), .val (.ref o249), .val (.ref o250), .val (.ref o251), .val (.int (1 : Int32)), .val (.ref o251), .val (.ref o249), .unset] [(.ref o251)]))
      refine P269.xs (fun hA hx hy t k => XS.pop hA hx rfl (hb hy at_112) rfl rfl k) ?_
      show Go p e below _ (T269.setTop (mkF m 113 #[.val (.int p0), .val (.int p1), .val (.int p2), .val (.ref o249), .val (.ref o250), .val (.ref o251), .val (.int (1 : Int32)), .val (.ref o251), .val (.ref o249), .unset] []))
      refine P269.xs (fun hA hx hy t k => XS.aload hA hx rfl (hb hy at_113) rfl rfl  k) ?_
      show Go p e below _ (T269.setTop (mkF m 115 #[.val (.int p0), .val (.int p1), .val (.int p2), .val (.ref o249), .val (.ref o250), .val (.ref o251), .val (.int (1 : Int32)), .val (.ref o251), .val (.ref o249), .unset] [(.ref o250)]))
      refine P269.xs (fun hA hx hy t k => XS.astore hA hx rfl (hb hy at_115) rfl rfl (l' := #[.val (.int p0), .val (.int p1), .val (.int p2), .val (.ref o249), .val (.ref o250), .val (.ref o251), .val (.int (1 : Int32)), .val (.ref o251), .val (.ref o250), .unset]) rfl k) ?_
      show Go p e below _ (T269.setTop (mkF m 117 #[.val (.int p0), .val (.int p1), .val (.int p2), .val (.ref o249), .val (.ref o250), .val (.ref o251), .val (.int (1 : Int32)), .val (.ref o251), .val (.ref o250), .unset] []))
      exact j2 _ _ o250  (P269.wider (by decide) (by decide)) (Ec266.keep K269) (Ec266.keep K269) E269 F269_api F269_user F269_clientId F269_bytes F269_threadUs F269_producerId F269_userGiven F269_clientIdGiven
  intro T268 h268 wt  P268 f268_0 f268_1 f268_2 f268_3 f268_4 f268_5 f268_6 f268_7 f268_8 f268_9 f268_10
  show Go p e below _ (T268.setTop (mkF m 117 #[.val (.int p0), .val (.int p1), .val (.int p2), .val (.ref o249), .val (.ref o250), .val (.ref o251), .val (.int (1 : Int32)), .val (.ref o251), .val (.ref wt), .unset] []))
  refine P268.xs (fun hA hx hy t k => XS.iload hA hx rfl (hb hy at_117) rfl  k) ?_
  show Go p e below _ (T268.setTop (mkF m 119 #[.val (.int p0), .val (.int p1), .val (.int p2), .val (.ref o249), .val (.ref o250), .val (.ref o251), .val (.int (1 : Int32)), .val (.ref o251), .val (.ref wt), .unset] [(.int (1 : Int32))]))
  refine P268.xs (fun hA hx hy t k => XS.ifNo hA hx rfl (hb hy at_119) rfl ((if0 _ _).trans (feq (by decide)).1) k) ?_
  show Go p e below _ (T268.setTop (mkF m 122 #[.val (.int p0), .val (.int p1), .val (.int p2), .val (.ref o249), .val (.ref o250), .val (.ref o251), .val (.int (1 : Int32)), .val (.ref o251), .val (.ref wt), .unset] []))
  refine P268.xs (fun hA hx hy t k => XS.aload hA hx rfl (hb hy at_122) rfl rfl  k) ?_
  show Go p e below _ (T268.setTop (mkF m 124 #[.val (.int p0), .val (.int p1), .val (.int p2), .val (.ref o249), .val (.ref o250), .val (.ref o251), .val (.int (1 : Int32)), .val (.ref o251), .val (.ref wt), .unset] [(.ref o251)]))
  refine P268.callV (hw _ (List.mem_of_getElem? (i := 61) rfl)) (hw _ (List.mem_of_getElem? (i := 62) rfl)) (hw _ (List.mem_of_getElem? (i := 64) rfl)) (nfOf (hw _ (List.mem_of_getElem? (i := 64) rfl))) (hw _ (List.mem_of_getElem? (i := 63) rfl)) (hw _ (List.mem_of_getElem? (i := 36) rfl)) (hw _ (List.mem_of_getElem? (i := 65) rfl)) (by decide) f268_2 (rGetUserR l Z a0 hw hEL zc S0 Pz w_P w_F w_O w_C S_PRODUCE E_PRODUCE S_FETCH E_FETCH S_OTHER E_OTHER S_CLUSTER E_CLUSTER o251 (.ref wt) rfl h268 P268.old f268_9 f268_4) (W := 0) (by decide) (by decide) (by decide) (by decide) all0 pd_7 (argsL := []) rfl rfl rfl (Nat.le_of_eq rfl) at_124 fun v270 T270 h270 P270 K270 Q270 => ?_
  obtain ⟨hv270, hh270⟩ := Q270
  subst hv270
  rw [hh270] at P270
  show Go p e below _ (T270.setTop (mkF m 127 #[.val (.int p0), .val (.int p1), .val (.int p2), .val (.ref o249), .val (.ref o250), .val (.ref o251), .val (.int (1 : Int32)), .val (.ref o251), .val (.ref wt), .unset] [(.ref wt)]))
  refine P270.xs (fun hA hx hy t k => XS.aload hA hx rfl (hb hy at_127) rfl rfl  k) ?_
  show Go p e below _ (T270.setTop (mkF m 129 #[.val (.int p0), .val (.int p1), .val (.int p2), .val (.ref o249), .val (.ref o250), .val (.ref o251), .val (.int (1 : Int32)), .val (.ref o251), .val (.ref wt), .unset] [(.ref wt), (.ref wt)]))
  refine P270.callS (hw _ (List.mem_of_getElem? (i := 76) rfl)) (hw _ (List.mem_of_getElem? (i := 77) rfl)) (hw _ (List.mem_of_getElem? (i := 2) rfl)) (hw _ (List.mem_of_getElem? (i := 78) rfl)) (by decide) (rIs l Z a0 hw hEL zc S0 Pz w_P w_F w_O w_C S_PRODUCE E_PRODUCE S_FETCH E_FETCH S_OTHER E_OTHER S_CLUSTER E_CLUSTER wt h268 P270.old f268_0) (W := 0) (by decide) (by decide) (by decide) (by decide) all0 pd_8 (argsL := [(.ref wt), (.ref wt)]) rfl rfl rfl (Nat.le_of_eq rfl) at_129 fun v271 T271 h271 P271 K271 Q271 => ?_
  obtain ⟨hv271, hh271⟩ := Q271
  subst hv271
  rw [hh271] at P271
  show Go p e below _ (T271.setTop (mkF m 132 #[.val (.int p0), .val (.int p1), .val (.int p2), .val (.ref o249), .val (.ref o250), .val (.ref o251), .val (.int (1 : Int32)), .val (.ref o251), .val (.ref wt), .unset] [(.int (1 : Int32))]))
  refine P271.xs (fun hA hx hy t k => XS.ifNo hA hx rfl (hb hy at_132) rfl ((if0 _ _).trans (feq (by decide)).1) k) ?_
  show Go p e below _ (T271.setTop (mkF m 135 #[.val (.int p0), .val (.int p1), .val (.int p2), .val (.ref o249), .val (.ref o250), .val (.ref o251), .val (.int (1 : Int32)), .val (.ref o251), .val (.ref wt), .unset] []))
  refine P271.xs (fun hA hx hy t k => XS.iconst hA hx rfl (hb hy at_135) k) ?_
  show Go p e below _ (T271.setTop (mkF m 136 #[.val (.int p0), .val (.int p1), .val (.int p2), .val (.ref o249), .val (.ref o250), .val (.ref o251), .val (.int (1 : Int32)), .val (.ref o251), .val (.ref wt), .unset] [(.int (1 : Int32))]))
  refine P271.xs (fun hA hx hy t k => XS.goto hA hx rfl (pc0 := 136) (pc' := 140) rfl (hb hy at_136) (by decide) (by decide) k) ?_
  show Go p e below _ (T271.setTop (mkF m 140 #[.val (.int p0), .val (.int p1), .val (.int p2), .val (.ref o249), .val (.ref o250), .val (.ref o251), .val (.int (1 : Int32)), .val (.ref o251), .val (.ref wt), .unset] [(.int (1 : Int32))]))
  refine P271.xs (fun hA hx hy t k => XS.istore hA hx rfl (hb hy at_140) rfl (l' := #[.val (.int p0), .val (.int p1), .val (.int p2), .val (.ref o249), .val (.ref o250), .val (.ref o251), .val (.int (1 : Int32)), .val (.ref o251), .val (.ref wt), .unset]) rfl k) ?_
  show Go p e below _ (T271.setTop (mkF m 142 #[.val (.int p0), .val (.int p1), .val (.int p2), .val (.ref o249), .val (.ref o250), .val (.ref o251), .val (.int (1 : Int32)), .val (.ref o251), .val (.ref wt), .unset] []))
  refine P271.xs (fun hA hx hy t k => XS.aload hA hx rfl (hb hy at_142) rfl rfl  k) ?_
  show Go p e below _ (T271.setTop (mkF m 144 #[.val (.int p0), .val (.int p1), .val (.int p2), .val (.ref o249), .val (.ref o250), .val (.ref o251), .val (.int (1 : Int32)), .val (.ref o251), .val (.ref wt), .unset] [(.ref o251)]))
  refine P271.xs (fun hA hx hy t k => XS.iloadN hA hx rfl (hb hy at_144) rfl  k) ?_
  show Go p e below _ (T271.setTop (mkF m 145 #[.val (.int p0), .val (.int p1), .val (.int p2), .val (.ref o249), .val (.ref o250), .val (.ref o251), .val (.int (1 : Int32)), .val (.ref o251), .val (.ref wt), .unset] [(.int p0), (.ref o251)]))
  refine P271.xs (fun hA hx hy t k => XS.iconst hA hx rfl (hb hy at_145) k) ?_
  show Go p e below _ (T271.setTop (mkF m 146 #[.val (.int p0), .val (.int p1), .val (.int p2), .val (.ref o249), .val (.ref o250), .val (.ref o251), .val (.int (1 : Int32)), .val (.ref o251), .val (.ref wt), .unset] [(.int (2 : Int32)), (.int p0), (.ref o251)]))
  refine P271.xs (fun hA hx hy t k => XS.iushr hA hx rfl (hb hy at_146) rfl k) ?_
  show Go p e below _ (T271.setTop (mkF m 147 #[.val (.int p0), .val (.int p1), .val (.int p2), .val (.ref o249), .val (.ref o250), .val (.ref o251), .val (.int (1 : Int32)), .val (.ref o251), .val (.ref wt), .unset] [(.int ((p0.toUInt32 >>> ((2 : Int32) &&& 31).toUInt32).toInt32)), (.ref o251)]))
  refine P271.xs (fun hA hx hy t k => XS.iconst hA hx rfl (hb hy at_147) k) ?_
  show Go p e below _ (T271.setTop (mkF m 148 #[.val (.int p0), .val (.int p1), .val (.int p2), .val (.ref o249), .val (.ref o250), .val (.ref o251), .val (.int (1 : Int32)), .val (.ref o251), .val (.ref wt), .unset] [(.int (3 : Int32)), (.int ((p0.toUInt32 >>> ((2 : Int32) &&& 31).toUInt32).toInt32)), (.ref o251)]))
  refine P271.xs (fun hA hx hy t k => XS.iand hA hx rfl (hb hy at_148) rfl k) ?_
  show Go p e below _ (T271.setTop (mkF m 149 #[.val (.int p0), .val (.int p1), .val (.int p2), .val (.ref o249), .val (.ref o250), .val (.ref o251), .val (.int (1 : Int32)), .val (.ref o251), .val (.ref wt), .unset] [(.int (((p0.toUInt32 >>> ((2 : Int32) &&& 31).toUInt32).toInt32) &&& (3 : Int32))), (.ref o251)]))
  refine P271.callS (hw _ (List.mem_of_getElem? (i := 37) rfl)) (hw _ (List.mem_of_getElem? (i := 38) rfl)) (hw _ (List.mem_of_getElem? (i := 2) rfl)) (hw _ (List.mem_of_getElem? (i := 39) rfl)) (by decide) (rApi l Z a0 hw hEL zc S0 Pz w_P w_F w_O w_C S_PRODUCE E_PRODUCE S_FETCH E_FETCH S_OTHER E_OTHER S_CLUSTER E_CLUSTER (((p0.toUInt32 >>> ((2 : Int32) &&& 31).toUInt32).toInt32) &&& (3 : Int32)) h268 P271.old) (W := 1) (by decide) (by decide) (by decide) (by decide) all0 pd_4 (argsL := [(.int (((p0.toUInt32 >>> ((2 : Int32) &&& 31).toUInt32).toInt32) &&& (3 : Int32)))]) rfl rfl rfl (Nat.le_of_eq rfl) at_149 fun v272 T272 h272 P272 K272 Q272 => ?_
  obtain ⟨w272, rfl, Ew272, hh272⟩ := Q272
  rw [hh272] at P272
  show Go p e below _ (T272.setTop (mkF m 152 #[.val (.int p0), .val (.int p1), .val (.int p2), .val (.ref o249), .val (.ref o250), .val (.ref o251), .val (.int (1 : Int32)), .val (.ref o251), .val (.ref wt), .unset] [(.ref w272), (.ref o251)]))
  have Ec274 : Exa Z h268 w272 "com/example/ration/ration/Api" := (Ew272.ext P271.old)
  refine P272.callV (hw _ (List.mem_of_getElem? (i := 84) rfl)) (hw _ (List.mem_of_getElem? (i := 85) rfl)) (hw _ (List.mem_of_getElem? (i := 87) rfl)) (nfOf (hw _ (List.mem_of_getElem? (i := 87) rfl))) (hw _ (List.mem_of_getElem? (i := 86) rfl)) (hw _ (List.mem_of_getElem? (i := 36) rfl)) (hw _ (List.mem_of_getElem? (i := 88) rfl)) (by decide) f268_2 (rReset l Z a0 hw hEL zc S0 Pz w_P w_F w_O w_C S_PRODUCE E_PRODUCE S_FETCH E_FETCH S_OTHER E_OTHER S_CLUSTER E_CLUSTER o251 w272 (.ref w252) (.ref wt) vc rfl rfl hvc (0 : Int64) (0 : Int64) (-1 : Int64) (1 : Int32) gc h268 P272.old f268_2 f268_3 f268_4 f268_5 f268_6 f268_7 f268_8 f268_9 f268_10 gz_o251) (W := 0) (by decide) (by decide) (by decide) (by decide) (allS (Or.inr gw_o251) all0) pd_9 (argsL := [(.ref w272)]) rfl rfl rfl (Nat.le_of_eq rfl) at_152 fun v273 T273 h273 P273 K273 Q273 => ?_
  obtain ⟨rfl, E273, F273_api, F273_user, F273_clientId, F273_bytes, F273_threadUs, F273_producerId, F273_userGiven, F273_clientIdGiven⟩ := Q273
  show Go p e below _ (T273.setTop (mkF m 155 #[.val (.int p0), .val (.int p1), .val (.int p2), .val (.ref o249), .val (.ref o250), .val (.ref o251), .val (.int (1 : Int32)), .val (.ref o251), .val (.ref wt), .unset] [(.ref o251)]))
  refine P273.xs (fun hA hx hy t k => XS.pop hA hx rfl (hb hy at_155) rfl rfl k) ?_
  show Go p e below _ (T273.setTop (mkF m 156 #[.val (.int p0), .val (.int p1), .val (.int p2), .val (.ref o249), .val (.ref o250), .val (.ref o251), .val (.int (1 : Int32)), .val (.ref o251), .val (.ref wt), .unset] []))
  refine P273.xs (fun hA hx hy t k => XS.iload hA hx rfl (hb hy at_156) rfl  k) ?_
  show Go p e below _ (T273.setTop (mkF m 158 #[.val (.int p0), .val (.int p1), .val (.int p2), .val (.ref o249), .val (.ref o250), .val (.ref o251), .val (.int (1 : Int32)), .val (.ref o251), .val (.ref wt), .unset] [(.int (1 : Int32))]))
  refine P273.xs (fun hA hx hy t k => XS.ifNo hA hx rfl (hb hy at_158) rfl ((if0 _ _).trans (feq (by decide)).1) k) ?_
  show Go p e below _ (T273.setTop (mkF m 161 #[.val (.int p0), .val (.int p1), .val (.int p2), .val (.ref o249), .val (.ref o250), .val (.ref o251), .val (.int (1 : Int32)), .val (.ref o251), .val (.ref wt), .unset] []))
  refine P273.xs (fun hA hx hy t k => XS.aload hA hx rfl (hb hy at_161) rfl rfl  k) ?_
  show Go p e below _ (T273.setTop (mkF m 163 #[.val (.int p0), .val (.int p1), .val (.int p2), .val (.ref o249), .val (.ref o250), .val (.ref o251), .val (.int (1 : Int32)), .val (.ref o251), .val (.ref wt), .unset] [(.ref o251)]))
  have Ec276 : Exa Z h273 wt "java/lang/String" := (f268_0.keep K273)
  have Ec277 : Exa Z h273 o250 "java/lang/String" := (f268_1.keep K273)
  have Ec278 : Exa Z h273 w272 "com/example/ration/ration/Api" := (Ec274.keep K273)
  refine P273.callV (hw _ (List.mem_of_getElem? (i := 61) rfl)) (hw _ (List.mem_of_getElem? (i := 62) rfl)) (hw _ (List.mem_of_getElem? (i := 64) rfl)) (nfOf (hw _ (List.mem_of_getElem? (i := 64) rfl))) (hw _ (List.mem_of_getElem? (i := 63) rfl)) (hw _ (List.mem_of_getElem? (i := 36) rfl)) (hw _ (List.mem_of_getElem? (i := 65) rfl)) (by decide) E273 (rGetUserN l Z a0 hw hEL zc S0 Pz w_P w_F w_O w_C S_PRODUCE E_PRODUCE S_FETCH E_FETCH S_OTHER E_OTHER S_CLUSTER E_CLUSTER o251 (.ref wt) rfl h273 P273.old F273_userGiven F273_user) (W := 0) (by decide) (by decide) (by decide) (by decide) all0 pd_7 (argsL := []) rfl rfl rfl (Nat.le_of_eq rfl) at_163 fun v275 T275 h275 P275 K275 Q275 => ?_
  obtain ⟨hv275, hh275⟩ := Q275
  subst hv275
  rw [hh275] at P275
  show Go p e below _ (T275.setTop (mkF m 166 #[.val (.int p0), .val (.int p1), .val (.int p2), .val (.ref o249), .val (.ref o250), .val (.ref o251), .val (.int (1 : Int32)), .val (.ref o251), .val (.ref wt), .unset] [.null]))
  refine P275.xs (fun hA hx hy t k => XS.ifnonnullNo hA hx rfl (hb hy at_166) rfl k) ?_
  show Go p e below _ (T275.setTop (mkF m 169 #[.val (.int p0), .val (.int p1), .val (.int p2), .val (.ref o249), .val (.ref o250), .val (.ref o251), .val (.int (1 : Int32)), .val (.ref o251), .val (.ref wt), .unset] []))
  refine P275.xs (fun hA hx hy t k => XS.iconst hA hx rfl (hb hy at_169) k) ?_
  show Go p e below _ (T275.setTop (mkF m 170 #[.val (.int p0), .val (.int p1), .val (.int p2), .val (.ref o249), .val (.ref o250), .val (.ref o251), .val (.int (1 : Int32)), .val (.ref o251), .val (.ref wt), .unset] [(.int (1 : Int32))]))
  refine P275.xs (fun hA hx hy t k => XS.goto hA hx rfl (pc0 := 170) (pc' := 174) rfl (hb hy at_170) (by decide) (by decide) k) ?_
  show Go p e below _ (T275.setTop (mkF m 174 #[.val (.int p0), .val (.int p1), .val (.int p2), .val (.ref o249), .val (.ref o250), .val (.ref o251), .val (.int (1 : Int32)), .val (.ref o251), .val (.ref wt), .unset] [(.int (1 : Int32))]))
  refine P275.xs (fun hA hx hy t k => XS.istore hA hx rfl (hb hy at_174) rfl (l' := #[.val (.int p0), .val (.int p1), .val (.int p2), .val (.ref o249), .val (.ref o250), .val (.ref o251), .val (.int (1 : Int32)), .val (.ref o251), .val (.ref wt), .unset]) rfl k) ?_
  show Go p e below _ (T275.setTop (mkF m 176 #[.val (.int p0), .val (.int p1), .val (.int p2), .val (.ref o249), .val (.ref o250), .val (.ref o251), .val (.int (1 : Int32)), .val (.ref o251), .val (.ref wt), .unset] []))
  refine P275.xs (fun hA hx hy t k => XS.iloadN hA hx rfl (hb hy at_176) rfl  k) ?_
  show Go p e below _ (T275.setTop (mkF m 177 #[.val (.int p0), .val (.int p1), .val (.int p2), .val (.ref o249), .val (.ref o250), .val (.ref o251), .val (.int (1 : Int32)), .val (.ref o251), .val (.ref wt), .unset] [(.int p0)]))
  refine P275.xs (fun hA hx hy t k => XS.bipush hA hx rfl (hb hy at_177) k) ?_
  show Go p e below _ (T275.setTop (mkF m 179 #[.val (.int p0), .val (.int p1), .val (.int p2), .val (.ref o249), .val (.ref o250), .val (.ref o251), .val (.int (1 : Int32)), .val (.ref o251), .val (.ref wt), .unset] [(.int (32 : Int32)), (.int p0)]))
  refine P275.xs (fun hA hx hy t k => XS.iand hA hx rfl (hb hy at_179) rfl k) ?_
  show Go p e below _ (T275.setTop (mkF m 180 #[.val (.int p0), .val (.int p1), .val (.int p2), .val (.ref o249), .val (.ref o250), .val (.ref o251), .val (.int (1 : Int32)), .val (.ref o251), .val (.ref wt), .unset] [(.int (p0 &&& (32 : Int32)))]))
  suffices j3 : ∀ (T279 : State) (h279 : Heap) (tt : Addr), Pos p l e room_1 s m #[(.int p0), (.int p1), (.int p2)] below meth c "com/example/ration/ration/RequestUserPinLaw" "law" code maxLocals ret Z a0 EL0 h0 [] T279 h279 17 136 → Exa Z h279 tt "java/lang/String" → Exa Z h279 o251 "com/example/ration/ration/Request" → Fld Z h279 o251 "com/example/ration/ration/Request" "api" "Lcom/example/ration/ration/Api;" (.ref w272) → Fld Z h279 o251 "com/example/ration/ration/Request" "user" "Ljava/lang/String;" (.ref wt) → Fld Z h279 o251 "com/example/ration/ration/Request" "clientId" "Ljava/lang/String;" vc → Fld Z h279 o251 "com/example/ration/ration/Request" "bytes" "J" (.long (0 : Int64)) → Fld Z h279 o251 "com/example/ration/ration/Request" "threadUs" "J" (.long (0 : Int64)) → Fld Z h279 o251 "com/example/ration/ration/Request" "producerId" "J" (.long (-1 : Int64)) → Fld Z h279 o251 "com/example/ration/ration/Request" "userGiven" "Z" (.int (0 : Int32)) → Fld Z h279 o251 "com/example/ration/ration/Request" "clientIdGiven" "Z" (.int (0 : Int32)) → Go p e below (Fini Z EL0 h0 [] room_1 (Q_mLaw Z  h0) s) (T279.setTop (mkF m 190 #[.val (.int p0), .val (.int p1), .val (.int p2), .val (.ref o249), .val (.ref o250), .val (.ref o251), .val (.int (1 : Int32)), .val (.ref o251), .val (.ref wt), .unset] [(.ref tt)])) by
    by_cases hk3 : (p0 &&& (32 : Int32)) = 0
    · refine P275.xs (fun hA hx hy t k => XS.ifYes hA hx rfl (pc0 := 180) (pc' := 188) rfl (hb hy at_180) rfl ((if0 _ _).trans (teq hk3).1) (by decide) (by decide) k) ?_
      show Go p e below _ (T275.setTop (mkF m 188 #[.val (.int p0), .val (.int p1), .val (.int p2), .val (.ref o249), .val (.ref o250), .val (.ref o251), .val (.int (1 : Int32)), .val (.ref o251), .val (.ref wt), .unset] []))
      refine P275.xs (fun hA hx hy t k => XS.aload hA hx rfl (hb hy at_188) rfl rfl  k) ?_
      show Go p e below _ (T275.setTop (mkF m 190 #[.val (.int p0), .val (.int p1), .val (.int p2), .val (.ref o249), .val (.ref o250), .val (.ref o251), .val (.int (1 : Int32)), .val (.ref o251), .val (.ref wt), .unset] [(.ref o250)]))
      exact j3 _ _ o250  (P275.wider (by decide) (by decide)) Ec277 E273 F273_api F273_user F273_clientId F273_bytes F273_threadUs F273_producerId F273_userGiven F273_clientIdGiven
    · refine P275.xs (fun hA hx hy t k => XS.ifNo hA hx rfl (hb hy at_180) rfl ((if0 _ _).trans (feq hk3).1) k) ?_
      show Go p e below _ (T275.setTop (mkF m 183 #[.val (.int p0), .val (.int p1), .val (.int p2), .val (.ref o249), .val (.ref o250), .val (.ref o251), .val (.int (1 : Int32)), .val (.ref o251), .val (.ref wt), .unset] []))
      refine P275.xs (fun hA hx hy t k => XS.aload hA hx rfl (hb hy at_183) rfl rfl  k) ?_
      show Go p e below _ (T275.setTop (mkF m 185 #[.val (.int p0), .val (.int p1), .val (.int p2), .val (.ref o249), .val (.ref o250), .val (.ref o251), .val (.int (1 : Int32)), .val (.ref o251), .val (.ref wt), .unset] [(.ref wt)]))
      refine P275.xs (fun hA hx hy t k => XS.goto hA hx rfl (pc0 := 185) (pc' := 190) rfl (hb hy at_185) (by decide) (by decide) k) ?_
      show Go p e below _ (T275.setTop (mkF m 190 #[.val (.int p0), .val (.int p1), .val (.int p2), .val (.ref o249), .val (.ref o250), .val (.ref o251), .val (.int (1 : Int32)), .val (.ref o251), .val (.ref wt), .unset] [(.ref wt)]))
      exact j3 _ _ wt  (P275.wider (by decide) (by decide)) Ec276 E273 F273_api F273_user F273_clientId F273_bytes F273_threadUs F273_producerId F273_userGiven F273_clientIdGiven
  intro T279 h279 tt  P279 f279_0 f279_1 f279_2 f279_3 f279_4 f279_5 f279_6 f279_7 f279_8 f279_9
  show Go p e below _ (T279.setTop (mkF m 190 #[.val (.int p0), .val (.int p1), .val (.int p2), .val (.ref o249), .val (.ref o250), .val (.ref o251), .val (.int (1 : Int32)), .val (.ref o251), .val (.ref wt), .unset] [(.ref tt)]))
  refine P279.xs (fun hA hx hy t k => XS.astore hA hx rfl (hb hy at_190) rfl rfl (l' := #[.val (.int p0), .val (.int p1), .val (.int p2), .val (.ref o249), .val (.ref o250), .val (.ref o251), .val (.int (1 : Int32)), .val (.ref o251), .val (.ref wt), .val (.ref tt)]) rfl k) ?_
  show Go p e below _ (T279.setTop (mkF m 192 #[.val (.int p0), .val (.int p1), .val (.int p2), .val (.ref o249), .val (.ref o250), .val (.ref o251), .val (.int (1 : Int32)), .val (.ref o251), .val (.ref wt), .val (.ref tt)] []))
  refine P279.xs (fun hA hx hy t k => XS.aload hA hx rfl (hb hy at_192) rfl rfl  k) ?_
  show Go p e below _ (T279.setTop (mkF m 194 #[.val (.int p0), .val (.int p1), .val (.int p2), .val (.ref o249), .val (.ref o250), .val (.ref o251), .val (.int (1 : Int32)), .val (.ref o251), .val (.ref wt), .val (.ref tt)] [(.ref o251)]))
  refine P279.xs (fun hA hx hy t k => XS.aload hA hx rfl (hb hy at_194) rfl rfl  k) ?_
  show Go p e below _ (T279.setTop (mkF m 196 #[.val (.int p0), .val (.int p1), .val (.int p2), .val (.ref o249), .val (.ref o250), .val (.ref o251), .val (.int (1 : Int32)), .val (.ref o251), .val (.ref wt), .val (.ref tt)] [(.ref tt), (.ref o251)]))
  refine P279.callV (hw _ (List.mem_of_getElem? (i := 68) rfl)) (hw _ (List.mem_of_getElem? (i := 69) rfl)) (hw _ (List.mem_of_getElem? (i := 71) rfl)) (nfOf (hw _ (List.mem_of_getElem? (i := 71) rfl))) (hw _ (List.mem_of_getElem? (i := 70) rfl)) (hw _ (List.mem_of_getElem? (i := 36) rfl)) (hw _ (List.mem_of_getElem? (i := 72) rfl)) (by decide) f279_1 (rUser l Z a0 hw hEL zc S0 Pz w_P w_F w_O w_C S_PRODUCE E_PRODUCE S_FETCH E_FETCH S_OTHER E_OTHER S_CLUSTER E_CLUSTER o251 tt (.ref w272) (.ref wt) vc rfl rfl hvc (0 : Int64) (0 : Int64) (-1 : Int64) (0 : Int32) (0 : Int32) h279 P279.old f279_1 f279_2 f279_3 f279_4 f279_5 f279_6 f279_7 f279_8 f279_9 gz_o251) (W := 0) (by decide) (by decide) (by decide) (by decide) (allS (Or.inr gw_o251) all0) pd_6 (argsL := [(.ref tt)]) rfl rfl rfl (Nat.le_of_eq rfl) at_196 fun v280 T280 h280 P280 K280 Q280 => ?_
  obtain ⟨rfl, E280, F280_api, F280_user, F280_clientId, F280_bytes, F280_threadUs, F280_producerId, F280_userGiven, F280_clientIdGiven⟩ := Q280
  show Go p e below _ (T280.setTop (mkF m 199 #[.val (.int p0), .val (.int p1), .val (.int p2), .val (.ref o249), .val (.ref o250), .val (.ref o251), .val (.int (1 : Int32)), .val (.ref o251), .val (.ref wt), .val (.ref tt)] [(.ref o251)]))
  refine P280.xs (fun hA hx hy t k => XS.pop hA hx rfl (hb hy at_199) rfl rfl k) ?_
  show Go p e below _ (T280.setTop (mkF m 200 #[.val (.int p0), .val (.int p1), .val (.int p2), .val (.ref o249), .val (.ref o250), .val (.ref o251), .val (.int (1 : Int32)), .val (.ref o251), .val (.ref wt), .val (.ref tt)] []))
  refine P280.xs (fun hA hx hy t k => XS.iload hA hx rfl (hb hy at_200) rfl  k) ?_
  show Go p e below _ (T280.setTop (mkF m 202 #[.val (.int p0), .val (.int p1), .val (.int p2), .val (.ref o249), .val (.ref o250), .val (.ref o251), .val (.int (1 : Int32)), .val (.ref o251), .val (.ref wt), .val (.ref tt)] [(.int (1 : Int32))]))
  refine P280.xs (fun hA hx hy t k => XS.ifNo hA hx rfl (hb hy at_202) rfl ((if0 _ _).trans (feq (by decide)).1) k) ?_
  show Go p e below _ (T280.setTop (mkF m 205 #[.val (.int p0), .val (.int p1), .val (.int p2), .val (.ref o249), .val (.ref o250), .val (.ref o251), .val (.int (1 : Int32)), .val (.ref o251), .val (.ref wt), .val (.ref tt)] []))
  refine P280.xs (fun hA hx hy t k => XS.aload hA hx rfl (hb hy at_205) rfl rfl  k) ?_
  show Go p e below _ (T280.setTop (mkF m 207 #[.val (.int p0), .val (.int p1), .val (.int p2), .val (.ref o249), .val (.ref o250), .val (.ref o251), .val (.int (1 : Int32)), .val (.ref o251), .val (.ref wt), .val (.ref tt)] [(.ref o251)]))
  have Ec282 : Exa Z h280 tt "java/lang/String" := (f279_0.keep K280)
  refine P280.callV (hw _ (List.mem_of_getElem? (i := 61) rfl)) (hw _ (List.mem_of_getElem? (i := 62) rfl)) (hw _ (List.mem_of_getElem? (i := 64) rfl)) (nfOf (hw _ (List.mem_of_getElem? (i := 64) rfl))) (hw _ (List.mem_of_getElem? (i := 63) rfl)) (hw _ (List.mem_of_getElem? (i := 36) rfl)) (hw _ (List.mem_of_getElem? (i := 65) rfl)) (by decide) E280 (rGetUserR l Z a0 hw hEL zc S0 Pz w_P w_F w_O w_C S_PRODUCE E_PRODUCE S_FETCH E_FETCH S_OTHER E_OTHER S_CLUSTER E_CLUSTER o251 (.ref tt) rfl h280 P280.old F280_userGiven F280_user) (W := 0) (by decide) (by decide) (by decide) (by decide) all0 pd_7 (argsL := []) rfl rfl rfl (Nat.le_of_eq rfl) at_207 fun v281 T281 h281 P281 K281 Q281 => ?_
  obtain ⟨hv281, hh281⟩ := Q281
  subst hv281
  rw [hh281] at P281
  show Go p e below _ (T281.setTop (mkF m 210 #[.val (.int p0), .val (.int p1), .val (.int p2), .val (.ref o249), .val (.ref o250), .val (.ref o251), .val (.int (1 : Int32)), .val (.ref o251), .val (.ref wt), .val (.ref tt)] [(.ref tt)]))
  refine P281.xs (fun hA hx hy t k => XS.aload hA hx rfl (hb hy at_210) rfl rfl  k) ?_
  show Go p e below _ (T281.setTop (mkF m 212 #[.val (.int p0), .val (.int p1), .val (.int p2), .val (.ref o249), .val (.ref o250), .val (.ref o251), .val (.int (1 : Int32)), .val (.ref o251), .val (.ref wt), .val (.ref tt)] [(.ref tt), (.ref tt)]))
  refine P281.callS (hw _ (List.mem_of_getElem? (i := 76) rfl)) (hw _ (List.mem_of_getElem? (i := 77) rfl)) (hw _ (List.mem_of_getElem? (i := 2) rfl)) (hw _ (List.mem_of_getElem? (i := 78) rfl)) (by decide) (rIs l Z a0 hw hEL zc S0 Pz w_P w_F w_O w_C S_PRODUCE E_PRODUCE S_FETCH E_FETCH S_OTHER E_OTHER S_CLUSTER E_CLUSTER tt h280 P281.old Ec282) (W := 0) (by decide) (by decide) (by decide) (by decide) all0 pd_8 (argsL := [(.ref tt), (.ref tt)]) rfl rfl rfl (Nat.le_of_eq rfl) at_212 fun v283 T283 h283 P283 K283 Q283 => ?_
  obtain ⟨hv283, hh283⟩ := Q283
  subst hv283
  rw [hh283] at P283
  show Go p e below _ (T283.setTop (mkF m 215 #[.val (.int p0), .val (.int p1), .val (.int p2), .val (.ref o249), .val (.ref o250), .val (.ref o251), .val (.int (1 : Int32)), .val (.ref o251), .val (.ref wt), .val (.ref tt)] [(.int (1 : Int32))]))
  refine P283.xs (fun hA hx hy t k => XS.ifNo hA hx rfl (hb hy at_215) rfl ((if0 _ _).trans (feq (by decide)).1) k) ?_
  show Go p e below _ (T283.setTop (mkF m 218 #[.val (.int p0), .val (.int p1), .val (.int p2), .val (.ref o249), .val (.ref o250), .val (.ref o251), .val (.int (1 : Int32)), .val (.ref o251), .val (.ref wt), .val (.ref tt)] []))
  refine P283.xs (fun hA hx hy t k => XS.iconst hA hx rfl (hb hy at_218) k) ?_
  show Go p e below _ (T283.setTop (mkF m 219 #[.val (.int p0), .val (.int p1), .val (.int p2), .val (.ref o249), .val (.ref o250), .val (.ref o251), .val (.int (1 : Int32)), .val (.ref o251), .val (.ref wt), .val (.ref tt)] [(.int (1 : Int32))]))
  refine P283.xs (fun hA hx hy t k => XS.goto hA hx rfl (pc0 := 219) (pc' := 223) rfl (hb hy at_219) (by decide) (by decide) k) ?_
  show Go p e below _ (T283.setTop (mkF m 223 #[.val (.int p0), .val (.int p1), .val (.int p2), .val (.ref o249), .val (.ref o250), .val (.ref o251), .val (.int (1 : Int32)), .val (.ref o251), .val (.ref wt), .val (.ref tt)] [(.int (1 : Int32))]))
  refine P283.xs (fun hA hx hy t k => XS.istore hA hx rfl (hb hy at_223) rfl (l' := #[.val (.int p0), .val (.int p1), .val (.int p2), .val (.ref o249), .val (.ref o250), .val (.ref o251), .val (.int (1 : Int32)), .val (.ref o251), .val (.ref wt), .val (.ref tt)]) rfl k) ?_
  show Go p e below _ (T283.setTop (mkF m 225 #[.val (.int p0), .val (.int p1), .val (.int p2), .val (.ref o249), .val (.ref o250), .val (.ref o251), .val (.int (1 : Int32)), .val (.ref o251), .val (.ref wt), .val (.ref tt)] []))
  refine P283.xs (fun hA hx hy t k => XS.iload hA hx rfl (hb hy at_225) rfl  k) ?_
  show Go p e below _ (T283.setTop (mkF m 227 #[.val (.int p0), .val (.int p1), .val (.int p2), .val (.ref o249), .val (.ref o250), .val (.ref o251), .val (.int (1 : Int32)), .val (.ref o251), .val (.ref wt), .val (.ref tt)] [(.int (1 : Int32))]))
  exact P283.retN (t := .boolean) rfl (by simp) at_227 (by decide) (by decide) rfl

theorem hELof {Z : State} {a0 : Array Value} (hw : ∀ d ∈ tables_1, d.before a0 Z = true) : EW Z a0 EL0 := EW.nil
set_option maxRecDepth 65536 in
set_option maxHeartbeats 40000000 in
theorem comes_1 {Post : Tables → Env → Array Value → State → Outcome → State → Prop} (hpost : ∀ tb e args s v u, (limb_1_1.after args s (.returned v) u = true ∧ limb_1_2.after args s (.returned v) u = true ∧ True) → ReturnedEndW s (.returned v) u (Jvm.fieldLocs frame_1_writes args s ++ Jvm.arrayLocs frame_1_arrays args s ++ Jvm.staticLocs frame_1_statics s) 32 3200 → Post tb e args s (.returned v) u) :
    ArmFor flags0 classFile x code maxLocals ret World_1 tables_1 room_1 Calls_1 rest_1 Pre_1 Post := by
  intro l hfl _ _ p e ha hc hk s m args below hf hA hF happ hP
  obtain ⟨hcalls, hrest, hpre⟩ := hP
  obtain ⟨-, -, -, hnamed, -, -, -, hat⟩ := (Spec.applies_iff hf).mp happ
  obtain ⟨hg, hn⟩ := and_e (Cond.before_iff.mp (show (Jvm.Cond.and given_1 narrow_1).before args s = true from hpre))
  obtain ⟨hcount, a0_⟩ := and_e hg
  obtain ⟨q0, a1_⟩ := and_e a0_
  obtain ⟨q1, a2_⟩ := and_e a1_
  have q2 := a2_
  obtain ⟨w0, w1, w2, rfl⟩ : ∃ w0 w1 w2 : Value, args = #[w0, w1, w2] := by
    have hs : args.size = 3 := by simpa [Cond.value, given_1] using hcount
    obtain ⟨L⟩ := args
    match L, hs with
    | [w0, w1, w2], _ => exact ⟨w0, w1, w2, rfl⟩
  have hw := fun d (hd : d ∈ tables_1) => atoms_spec (ws := Jvm.Cond.code x code maxLocals ret :: tables_1) hat d (List.mem_cons_of_mem _ hd)
  obtain ⟨hsets, hown0⟩ := atoms_of _ (rest_1_c_eq ▸ (show rest_1_c.before _ s = true from hrest))
  have hfit : Fit s := fun {y c} hc i hi => by
    obtain ⟨ha, rfl⟩ := Array.getElem?_eq_some_iff.mp hc
    have q := List.all_eq_true.mp ((Array.all_eq_true_iff_forall_mem.mp hF) _ (Array.getElem_mem ha)) i (List.mem_range.mpr hi)
    simpa [Array.getElem?_eq_getElem hi] using q
  have n5 := not_v (Cond.before_iff.mp (hsets _ (List.mem_of_getElem? (i := 2) rfl)))
  obtain ⟨i0, e0⟩ := is_v q0
  obtain rfl : w0 = (.int i0) := Option.some.inj e0
  obtain ⟨i1, e1⟩ := is_v q1
  obtain rfl : w1 = (.int i1) := Option.some.inj e1
  obtain ⟨i2, e2⟩ := is_v q2
  obtain rfl : w2 = (.int i2) := Option.some.inj e2
  obtain ⟨zc, ez⟩ := is_v (Cond.before_iff.mp (hsets _ (List.mem_of_getElem? (i := 1) rfl)))
  have S0 : Sta s s.heap "java/lang/String" "COMPACT_STRINGS" "Z" (.int zc) := Sta.start ez (Or.inl (hsets _ (List.mem_of_getElem? (i := 0) rfl)))
  have Pz : ¬ (zc = (0 : Int32)) := gotF (Cond.eq_ints ez (Term.int_eval (0))) n5
  obtain ⟨m0, n0⟩ := and_e hn
  obtain ⟨w_P, ev_PRODUCE⟩ := exa_v m0
  have E_PRODUCE : Exa s s.heap w_P "com/example/ration/ration/Api" := Exa.start ev_PRODUCE m0
  have S_PRODUCE : Sta s s.heap "com/example/ration/ration/Api" "PRODUCE" "Lcom/example/ration/ration/Api;" (.ref w_P) := Sta.start ev_PRODUCE (Or.inr ⟨(hw _ (List.mem_of_getElem? (i := 41) rfl)), (hw _ (List.mem_of_getElem? (i := 42) rfl))⟩)
  obtain ⟨m1, n1⟩ := and_e n0
  obtain ⟨w_F, ev_FETCH⟩ := exa_v m1
  have E_FETCH : Exa s s.heap w_F "com/example/ration/ration/Api" := Exa.start ev_FETCH m1
  have S_FETCH : Sta s s.heap "com/example/ration/ration/Api" "FETCH" "Lcom/example/ration/ration/Api;" (.ref w_F) := Sta.start ev_FETCH (Or.inr ⟨(hw _ (List.mem_of_getElem? (i := 41) rfl)), (hw _ (List.mem_of_getElem? (i := 96) rfl))⟩)
  obtain ⟨m2, n2⟩ := and_e n1
  obtain ⟨m3, n3⟩ := and_e n2
  obtain ⟨m4, n4⟩ := and_e n3
  obtain ⟨w_C, ev_CLUSTER⟩ := exa_v m4
  have E_CLUSTER : Exa s s.heap w_C "com/example/ration/ration/Api" := Exa.start ev_CLUSTER m4
  have S_CLUSTER : Sta s s.heap "com/example/ration/ration/Api" "CLUSTER" "Lcom/example/ration/ration/Api;" (.ref w_C) := Sta.start ev_CLUSTER (Or.inr ⟨(hw _ (List.mem_of_getElem? (i := 41) rfl)), (hw _ (List.mem_of_getElem? (i := 98) rfl))⟩)
  obtain ⟨m5, n5⟩ := and_e n4
  obtain ⟨w_O, ev_OTHER⟩ := exa_v m5
  have E_OTHER : Exa s s.heap w_O "com/example/ration/ration/Api" := Exa.start ev_OTHER m5
  have S_OTHER : Sta s s.heap "com/example/ration/ration/Api" "OTHER" "Lcom/example/ration/ration/Api;" (.ref w_O) := Sta.start ev_OTHER (Or.inr ⟨(hw _ (List.mem_of_getElem? (i := 41) rfl)), (hw _ (List.mem_of_getElem? (i := 100) rfl))⟩)
  obtain ⟨m6, n6⟩ := and_e n5
  obtain ⟨n, o, h1, h2, h3, _, L, rfl, ⟨N, K, O, hv⟩, -, hq⟩ := mLaw l s _ hw (hELof hw) zc S0 Pz w_P w_F w_O w_C S_PRODUCE E_PRODUCE S_FETCH E_FETCH S_OTHER E_OTHER S_CLUSTER E_CLUSTER i0 i1 i2 s.heap ⟨Nat.le_refl _, fun _ _ q => q⟩  p e ha hc hk s m _ below hf ((Spec.applies_iff_loose hf).mp happ).1 ⟨rfl, State.Warmed39.refl s, rfl, (fun p hp => nomatch hp)⟩ trivial
  cases hv
  refine ⟨n, _, h1, h2, h3, hpost _ _ _ _ _ _ ⟨Cond.after_iff.mpr rfl, Cond.after_iff.mpr (eq_i res_at (Term.int_eval (1)) rfl), trivial⟩ ⟨hq.1, hq.2.1, hq.2.2.1, (hq.2.2.2.sift fun y hy => Or.inr (N y hy)).mono (by decide) (by decide)⟩⟩
theorem main_1_1 : Claimed_1_1 := comes_1 fun _ _ _ _ _ _ h hF => ⟨h.1, hF⟩
theorem main_1_2 : Claimed_1_2 := comes_1 fun _ _ _ _ _ _ h hF => ⟨h.2.1, hF⟩
end Jvm.Pilot.@@N@@
namespace Jvm.Pilot.@@N@@
open Jvm Jvm.ClassFile Sem Op Lib Jvm.Free Jvm.Stand Jvm.Pilot.@@N@@.Jvm.D
/-! MADE BY PROGRAM (witnessworld.py) out of the Statement's table words and the real class files: 23 classes; the members and pool entries that the words name. The judged class is class 1, her method 4. -/
namespace start1
open Jvm.ClassFile
def u (s : String) : CpInfo := .utf8 (stringToUtf16 s)
/-- a pool by its gaps: so many unusable entries, then the entry; so many at the end -/
def gap : Nat → List CpInfo → List CpInfo
  | 0, r => r
  | n + 1, r => .unusable :: gap n r
def poolList (es : List (Nat × CpInfo)) (last : Nat) : List CpInfo := es.foldr (fun e r => gap e.1 (e.2 :: r)) (gap last [])
def pool (es : List (Nat × CpInfo)) (last : Nat) : Array CpInfo := ⟨poolList es last⟩
def fileOf (pool : Array CpInfo) (this : Nat) (attrs : Array Attribute := #[]) (ms : Array MethodInfo := #[]) (fl : Nat := 33) (sup : Nat := 0) (ifs : Array Nat := #[]) (fds : Array FieldInfo := #[]) : ClassFile where
  minorVersion := 0
  majorVersion := 65
  constantPool := pool
  accessFlags := fl
  thisClass := this
  superClass := sup
  interfaces := ifs
  fields := fds
  methods := ms
  attributes := attrs
def plain (name : String) (sup : Option ClassId) : Class where
  name := name
  kind := .ordinary
  loader := none
  accessFlags := 33
  super := sup
  interfaces := #[]
  cf := none
  fields := #[]
  methods := #[]
  instanceTypes := #[]
  staticTypes := #[]
  resolved := #[]
  callSites := []
  init := .initialized
  statics := none
  mirror := none

def pool0 : Array CpInfo := pool [(5, u "<init>"), (0, u "()V"), (1, .class_ 10), (1, u "java/lang/Object")] 113

def k0c0 : Code := { maxStack := 0, maxLocals := 1, code := object_method_1_code, exceptionTable := #[], attributes := #[] }
def k0m0 : Method := { name := "<init>", desc := "()V", sig := { parameters := [], returnType := none }, accessFlags := 1, code := some k0c0 }
/-- java/lang/Object -/
def k0 : Class := { plain "java/lang/Object" none with
  accessFlags := 33
  interfaces := #[]
  cf := some (fileOf pool0 8 #[] #[{ accessFlags := 1, nameIndex := 5, descriptorIndex := 6, attributes := #[] }] 33 0 #[] #[])
  fields := #[]
  methods := #[k0m0]
  instanceTypes := #[]
  staticTypes := #[]
  resolved := Array.replicate 124 none
  statics := none }

def pool1 : Array CpInfo := pool [(2, .class_ 4), (1, u "java/lang/Object"), (0, u "<init>"), (0, u "()V"), (0, .fieldref 8 9), (0, .class_ 10), (0, .nameAndType 11 12), (0, u "com/example/ration/ration/Api"), (0, u "PRODUCE"), (0, u "Lcom/example/ration/ration/Api;"), (0, .fieldref 8 14), (0, .nameAndType 15 12), (0, u "FETCH"), (0, .fieldref 8 17), (0, .nameAndType 18 12), (0, u "OTHER"), (0, .fieldref 8 20), (0, .nameAndType 21 12), (0, u "CLUSTER"), (0, .class_ 23), (0, u "java/lang/String"), (0, .methodref 22 25), (0, .nameAndType 5 26), (0, u "([C)V"), (0, .methodref 22 28), (0, .nameAndType 29 30), (0, u "equals"), (0, u "(Ljava/lang/Object;)Z"), (0, .methodref 32 33), (0, .class_ 34), (0, .nameAndType 35 36), (0, u "com/example/ration/ration/RequestUserPinLaw"), (0, u "str"), (0, u "(I)Ljava/lang/String;"), (0, .class_ 38), (0, u "com/example/ration/ration/Request"), (0, .methodref 32 40), (0, .nameAndType 41 42), (0, u "api"), (0, u "(I)Lcom/example/ration/ration/Api;"), (0, .methodref 37 44), (0, .nameAndType 5 45), (0, u "(Lcom/example/ration/ration/Api;)V"), (0, .methodref 37 47), (0, .nameAndType 48 49), (0, u "clientId"), (0, u "(Ljava/lang/String;)Lcom/example/ration/ration/Request;"), (0, .methodref 37 51), (0, .nameAndType 52 53), (0, u "user"), (0, u "()Ljava/lang/String;"), (0, .methodref 37 55), (0, .nameAndType 52 49), (0, .methodref 32 57), (0, .nameAndType 58 59), (0, u "is"), (0, u "(Ljava/lang/String;Ljava/lang/String;)Z"), (0, .methodref 37 61), (0, .nameAndType 62 63), (0, u "reset"), (0, u "(Lcom/example/ration/ration/Api;)Lcom/example/ration/ration/Request;"), (3, u "law"), (0, u "(III)Z")] 2

def k1m0 : Method := { name := "<init>", desc := "()V", sig := { parameters := [], returnType := none }, accessFlags := 1, code := none }
def k1c1 : Code := { maxStack := 2, maxLocals := 1, code := method_2_code, exceptionTable := #[], attributes := #[] }
def k1m1 : Method := { name := "api", desc := "(I)Lcom/example/ration/ration/Api;", sig := { parameters := [.int], returnType := some (.object "com/example/ration/ration/Api") }, accessFlags := 10, code := some k1c1 }
def k1c2 : Code := { maxStack := 4, maxLocals := 2, code := method_3_code, exceptionTable := #[], attributes := #[] }
def k1m2 : Method := { name := "str", desc := "(I)Ljava/lang/String;", sig := { parameters := [.int], returnType := some (.object "java/lang/String") }, accessFlags := 10, code := some k1c2 }
def k1c3 : Code := { maxStack := 2, maxLocals := 2, code := method_4_code, exceptionTable := #[], attributes := #[] }
def k1m3 : Method := { name := "is", desc := "(Ljava/lang/String;Ljava/lang/String;)Z", sig := { parameters := [(.object "java/lang/String"), (.object "java/lang/String")], returnType := some .boolean }, accessFlags := 10, code := some k1c3 }
def k1c4 : Code := { maxStack := 4, maxLocals := 10, code := code, exceptionTable := #[], attributes := #[] }
def k1m4 : Method := { name := "law", desc := "(III)Z", sig := { parameters := [.int, .int, .int], returnType := some .boolean }, accessFlags := 9, code := some k1c4 }
/-- com/example/ration/ration/RequestUserPinLaw -/
def k1 : Class := { plain "com/example/ration/ration/RequestUserPinLaw" (some 0) with
  accessFlags := 49
  interfaces := #[]
  cf := some (fileOf pool1 32 #[] #[{ accessFlags := 1, nameIndex := 5, descriptorIndex := 6, attributes := #[] }, { accessFlags := 10, nameIndex := 41, descriptorIndex := 42, attributes := #[] }, { accessFlags := 10, nameIndex := 35, descriptorIndex := 36, attributes := #[] }, { accessFlags := 10, nameIndex := 58, descriptorIndex := 59, attributes := #[] }, { accessFlags := 9, nameIndex := 67, descriptorIndex := 68, attributes := #[] }] 49 2 #[] #[])
  fields := #[]
  methods := #[k1m0, k1m1, k1m2, k1m3, k1m4]
  instanceTypes := #[]
  staticTypes := #[]
  resolved := Array.replicate 71 none
  statics := none }

def pool2 : Array CpInfo := pool [(1, .class_ 2), (0, u "java/io/Serializable"), (0, .class_ 4), (0, u "java/lang/Object")] 2

/-- java/io/Serializable -/
def k2 : Class := { plain "java/io/Serializable" (some 0) with
  accessFlags := 1537
  interfaces := #[]
  cf := some (fileOf pool2 1 #[] #[] 1537 3 #[] #[])
  fields := #[]
  methods := #[]
  instanceTypes := #[]
  staticTypes := #[]
  resolved := Array.replicate 7 none
  statics := none }

def pool3 : Array CpInfo := pool [(1, .class_ 2), (0, u "java/lang/Comparable"), (0, .class_ 4), (0, u "java/lang/Object")] 7

/-- java/lang/Comparable -/
def k3 : Class := { plain "java/lang/Comparable" (some 0) with
  accessFlags := 1537
  interfaces := #[]
  cf := some (fileOf pool3 1 #[] #[] 1537 3 #[] #[])
  fields := #[]
  methods := #[]
  instanceTypes := #[]
  staticTypes := #[]
  resolved := Array.replicate 12 none
  statics := none }

def pool4 : Array CpInfo := pool [(2, .class_ 4), (1, u "java/lang/CharSequence"), (42, .class_ 48), (0, u "java/lang/CharSequence$1CodePointIterator"), (10, .class_ 60), (0, u "java/lang/CharSequence$1CharIterator"), (5, .class_ 67), (0, u "java/lang/Object")] 63

/-- java/lang/CharSequence -/
def k4 : Class := { plain "java/lang/CharSequence" (some 0) with
  accessFlags := 1537
  interfaces := #[]
  cf := some (fileOf pool4 2 #[.nestMembers #[47, 59]] #[] 1537 66 #[] #[])
  fields := #[]
  methods := #[]
  instanceTypes := #[]
  staticTypes := #[]
  resolved := Array.replicate 131 none
  statics := none }

def pool5 : Array CpInfo := pool [(1, .class_ 2), (0, u "java/lang/constant/Constable"), (0, .class_ 4), (0, u "java/lang/Object")] 6

/-- java/lang/constant/Constable -/
def k5 : Class := { plain "java/lang/constant/Constable" (some 0) with
  accessFlags := 1537
  interfaces := #[]
  cf := some (fileOf pool5 1 #[] #[] 1537 3 #[] #[])
  fields := #[]
  methods := #[]
  instanceTypes := #[]
  staticTypes := #[]
  resolved := Array.replicate 11 none
  statics := none }

def pool6 : Array CpInfo := pool [(1, .class_ 2), (0, u "java/lang/constant/ConstantDesc"), (0, .class_ 4), (0, u "java/lang/Object")] 32

/-- java/lang/constant/ConstantDesc -/
def k6 : Class := { plain "java/lang/constant/ConstantDesc" (some 0) with
  accessFlags := 1537
  interfaces := #[]
  cf := some (fileOf pool6 1 #[] #[] 1537 3 #[] #[])
  fields := #[]
  methods := #[]
  instanceTypes := #[]
  staticTypes := #[]
  resolved := Array.replicate 37 none
  statics := none }

def pool7 : Array CpInfo := pool [(1, .methodref 2 3), (0, .class_ 4), (0, .nameAndType 5 6), (0, u "java/lang/Object"), (0, u "<init>"), (0, u "()V"), (2, .fieldref 10 11), (0, .class_ 12), (0, .nameAndType 13 14), (0, u "java/lang/String"), (0, u "value"), (0, u "[B"), (0, .fieldref 10 16), (0, .nameAndType 17 18), (0, u "coder"), (0, u "B"), (2, u "hash"), (0, u "I"), (2, u "hashIsZero"), (0, u "Z"), (0, .methodref 10 28), (0, .nameAndType 5 29), (0, u "([CIILjava/lang/Void;)V"), (8, .fieldref 10 39), (0, .nameAndType 40 26), (0, u "COMPACT_STRINGS"), (1, .class_ 44), (1, u "java/lang/StringUTF16"), (0, u "compress"), (1, .methodref 42 48), (0, .nameAndType 49 50), (0, u "coderFromArrayLen"), (0, u "([BI)B"), (126, .methodref 42 178), (0, .nameAndType 45 179), (0, u "([CII)[B"), (363, u "equals"), (29, u "(Ljava/lang/Object;)Z"), (1, .class_ 576), (0, u "java/lang/CharSequence"), (22, u "CASE_INSENSITIVE_ORDER"), (0, u "Ljava/util/Comparator;"), (409, u "([C)V"), (90, u "serialPersistentFields"), (0, u "[Ljava/io/ObjectStreamField;"), (0, .class_ 1104), (0, u "java/lang/String$CaseInsensitiveComparator"), (1, .class_ 1107), (0, u "java/io/Serializable"), (0, .class_ 1109), (0, u "java/lang/Comparable"), (0, .class_ 1111), (0, u "java/lang/constant/Constable"), (0, .class_ 1113), (0, u "java/lang/constant/ConstantDesc"), (2, u "serialVersionUID"), (0, u "J"), (3, u "REPL"), (0, u "C"), (2, u "LATIN1"), (1, u "UTF16")] 323

def k7m0 : Method := { name := "<init>", desc := "()V", sig := { parameters := [], returnType := none }, accessFlags := 1, code := none }
def k7c1 : Code := { maxStack := 5, maxLocals := 2, code := jdk_42_method_3_code, exceptionTable := #[], attributes := #[] }
def k7m1 : Method := { name := "<init>", desc := "([C)V", sig := { parameters := [(.array .char)], returnType := none }, accessFlags := 1, code := some k7c1 }
def k7c2 : Code := { maxStack := 2, maxLocals := 3, code := jdk_42_method_66_code, exceptionTable := #[], attributes := #[] }
def k7m2 : Method := { name := "equals", desc := "(Ljava/lang/Object;)Z", sig := { parameters := [(.object "java/lang/Object")], returnType := some .boolean }, accessFlags := 1, code := some k7c2 }
def k7c3 : Code := { maxStack := 4, maxLocals := 6, code := jdk_42_method_149_code, exceptionTable := #[], attributes := #[] }
def k7m3 : Method := { name := "<init>", desc := "([CIILjava/lang/Void;)V", sig := { parameters := [(.array .char), .int, .int, (.object "java/lang/Void")], returnType := none }, accessFlags := 2, code := some k7c3 }
/-- java/lang/String -/
def k7 : Class := { plain "java/lang/String" (some 0) with
  accessFlags := 49
  interfaces := #[2, 3, 4, 5, 6]
  cf := some (fileOf pool7 10 #[.nestMembers #[1103]] #[{ accessFlags := 1, nameIndex := 5, descriptorIndex := 6, attributes := #[] }, { accessFlags := 1, nameIndex := 5, descriptorIndex := 1010, attributes := #[] }, { accessFlags := 1, nameIndex := 543, descriptorIndex := 573, attributes := #[] }, { accessFlags := 2, nameIndex := 5, descriptorIndex := 29, attributes := #[] }] 49 2 #[1106, 1108, 575, 1110, 1112] #[{ accessFlags := 18, nameIndex := 13, descriptorIndex := 14, attributes := #[] }, { accessFlags := 18, nameIndex := 17, descriptorIndex := 18, attributes := #[] }, { accessFlags := 2, nameIndex := 21, descriptorIndex := 22, attributes := #[] }, { accessFlags := 2, nameIndex := 25, descriptorIndex := 26, attributes := #[] }, { accessFlags := 26, nameIndex := 1116, descriptorIndex := 1117, attributes := #[] }, { accessFlags := 24, nameIndex := 40, descriptorIndex := 26, attributes := #[] }, { accessFlags := 26, nameIndex := 1101, descriptorIndex := 1102, attributes := #[] }, { accessFlags := 26, nameIndex := 1121, descriptorIndex := 1122, attributes := #[] }, { accessFlags := 25, nameIndex := 599, descriptorIndex := 600, attributes := #[] }, { accessFlags := 24, nameIndex := 1125, descriptorIndex := 18, attributes := #[] }, { accessFlags := 24, nameIndex := 1127, descriptorIndex := 18, attributes := #[] }])
  fields := #[{ name := "value", type := (.array .byte), accessFlags := 18, slot := 0, constantValue := 0 }, { name := "coder", type := .byte, accessFlags := 18, slot := 1, constantValue := 0 }, { name := "hash", type := .int, accessFlags := 2, slot := 2, constantValue := 0 }, { name := "hashIsZero", type := .boolean, accessFlags := 2, slot := 3, constantValue := 0 }, { name := "serialVersionUID", type := .long, accessFlags := 26, slot := 0, constantValue := 0 }, { name := "COMPACT_STRINGS", type := .boolean, accessFlags := 24, slot := 1, constantValue := 0 }, { name := "serialPersistentFields", type := (.array (.object "java/io/ObjectStreamField")), accessFlags := 26, slot := 2, constantValue := 0 }, { name := "REPL", type := .char, accessFlags := 26, slot := 3, constantValue := 0 }, { name := "CASE_INSENSITIVE_ORDER", type := (.object "java/util/Comparator"), accessFlags := 25, slot := 4, constantValue := 0 }, { name := "LATIN1", type := .byte, accessFlags := 24, slot := 5, constantValue := 0 }, { name := "UTF16", type := .byte, accessFlags := 24, slot := 6, constantValue := 0 }]
  methods := #[k7m0, k7m1, k7m2, k7m3]
  instanceTypes := #[(.array .byte), .byte, .int, .boolean]
  staticTypes := #[.long, .boolean, (.array (.object "java/io/ObjectStreamField")), .char, (.object "java/util/Comparator"), .byte, .byte]
  resolved := Array.replicate 1451 none
  statics := some 0 }

def pool8 : Array CpInfo := pool [(6, .class_ 8), (1, u "java/lang/Object"), (0, u "<init>"), (0, u "()V"), (1, .class_ 14), (1, u "java/lang/StringUTF16"), (31, u "$assertionsDisabled"), (0, u "Z"), (13, u "HI_BYTE_SHIFT"), (0, u "I"), (2, u "LO_BYTE_SHIFT"), (49, .methodref 12 116), (0, .nameAndType 117 118), (0, u "compress"), (0, u "([CI[BII)I"), (3, u "([CII)[B"), (138, u "coderFromArrayLen"), (0, u "([BI)B"), (106, .class_ 371), (1, u "java/lang/StringUTF16$LinesSpliterator"), (58, u "MAX_LENGTH"), (196, .class_ 628), (0, u "java/lang/StringUTF16$CodePointsSpliterator"), (0, .class_ 630), (0, u "java/lang/StringUTF16$CharsSpliterator")] 4

def k8m0 : Method := { name := "<init>", desc := "()V", sig := { parameters := [], returnType := none }, accessFlags := 0, code := none }
def k8c1 : Code := { maxStack := 2, maxLocals := 2, code := jdk_52_method_15_code, exceptionTable := #[], attributes := #[] }
def k8m1 : Method := { name := "coderFromArrayLen", desc := "([BI)B", sig := { parameters := [(.array .byte), .int], returnType := some .byte }, accessFlags := 8, code := some k8c1 }
def k8c2 : Code := { maxStack := 5, maxLocals := 6, code := jdk_52_method_16_code, exceptionTable := #[], attributes := #[] }
def k8m2 : Method := { name := "compress", desc := "([CII)[B", sig := { parameters := [(.array .char), .int, .int], returnType := some (.array .byte) }, accessFlags := 9, code := some k8c2 }
def k8c3 : Code := { maxStack := 3, maxLocals := 7, code := jdk_52_method_21_code, exceptionTable := #[], attributes := #[] }
def k8m3 : Method := { name := "compress", desc := "([CI[BII)I", sig := { parameters := [(.array .char), .int, (.array .byte), .int, .int], returnType := some .int }, accessFlags := 9, code := some k8c3 }
/-- java/lang/StringUTF16 -/
def k8 : Class := { plain "java/lang/StringUTF16" (some 0) with
  accessFlags := 48
  interfaces := #[]
  cf := some (fileOf pool8 12 #[.nestMembers #[627, 629, 369]] #[{ accessFlags := 0, nameIndex := 9, descriptorIndex := 10, attributes := #[] }, { accessFlags := 8, nameIndex := 261, descriptorIndex := 262, attributes := #[] }, { accessFlags := 9, nameIndex := 117, descriptorIndex := 122, attributes := #[] }, { accessFlags := 9, nameIndex := 117, descriptorIndex := 118, attributes := #[] }] 48 6 #[] #[{ accessFlags := 26, nameIndex := 61, descriptorIndex := 62, attributes := #[] }, { accessFlags := 26, nameIndex := 65, descriptorIndex := 62, attributes := #[] }, { accessFlags := 24, nameIndex := 430, descriptorIndex := 62, attributes := #[] }, { accessFlags := 4120, nameIndex := 46, descriptorIndex := 47, attributes := #[] }])
  fields := #[{ name := "HI_BYTE_SHIFT", type := .int, accessFlags := 26, slot := 0, constantValue := 0 }, { name := "LO_BYTE_SHIFT", type := .int, accessFlags := 26, slot := 1, constantValue := 0 }, { name := "MAX_LENGTH", type := .int, accessFlags := 24, slot := 2, constantValue := 0 }, { name := "$assertionsDisabled", type := .boolean, accessFlags := 4120, slot := 3, constantValue := 0 }]
  methods := #[k8m0, k8m1, k8m2, k8m3]
  instanceTypes := #[]
  staticTypes := #[.int, .int, .int, .boolean]
  resolved := Array.replicate 635 none
  statics := none }

def pool9 : Array CpInfo := pool [(1, .methodref 2 3), (0, .class_ 4), (0, .nameAndType 5 6), (0, u "java/lang/Object"), (0, u "<init>"), (0, u "()V"), (0, .class_ 8), (0, u "com/example/ration/ration/Request"), (0, .long 18446744073709551615), (1, .fieldref 7 12), (0, .nameAndType 13 14), (0, u "producerId"), (0, u "J"), (0, .string 16), (0, u "api"), (0, .methodref 18 19), (0, .class_ 20), (0, .nameAndType 21 22), (0, u "java/util/Objects"), (0, u "requireNonNull"), (0, u "(Ljava/lang/Object;Ljava/lang/String;)Ljava/lang/Object;"), (0, .class_ 24), (0, u "com/example/ration/ration/Api"), (0, .fieldref 7 26), (0, .nameAndType 16 27), (0, u "Lcom/example/ration/ration/Api;"), (0, .fieldref 7 29), (0, .nameAndType 30 31), (0, u "userGiven"), (0, u "Z"), (0, .fieldref 7 33), (0, .nameAndType 34 31), (0, u "clientIdGiven"), (0, .fieldref 7 36), (0, .nameAndType 37 14), (0, u "bytes"), (0, .fieldref 7 39), (0, .nameAndType 40 14), (0, u "threadUs"), (0, .string 42), (0, u "user"), (0, .fieldref 7 44), (0, .nameAndType 42 45), (0, u "Ljava/lang/String;"), (0, .string 47), (0, u "clientId"), (0, .fieldref 7 49), (0, .nameAndType 47 45), (11, u "NO_PRODUCER_ID"), (1, u "(Lcom/example/ration/ration/Api;)V"), (2, u "reset"), (0, u "(Lcom/example/ration/ration/Api;)Lcom/example/ration/ration/Request;"), (1, u "(Ljava/lang/String;)Lcom/example/ration/ration/Request;"), (2, u "()Ljava/lang/String;")] 24

def k9c0 : Code := { maxStack := 3, maxLocals := 2, code := prog_29_method_1_code, exceptionTable := #[], attributes := #[] }
def k9m0 : Method := { name := "<init>", desc := "(Lcom/example/ration/ration/Api;)V", sig := { parameters := [(.object "com/example/ration/ration/Api")], returnType := none }, accessFlags := 1, code := some k9c0 }
def k9c1 : Code := { maxStack := 3, maxLocals := 2, code := prog_29_method_2_code, exceptionTable := #[], attributes := #[] }
def k9m1 : Method := { name := "reset", desc := "(Lcom/example/ration/ration/Api;)Lcom/example/ration/ration/Request;", sig := { parameters := [(.object "com/example/ration/ration/Api")], returnType := some (.object "com/example/ration/ration/Request") }, accessFlags := 1, code := some k9c1 }
def k9c2 : Code := { maxStack := 2, maxLocals := 2, code := prog_29_method_3_code, exceptionTable := #[], attributes := #[] }
def k9m2 : Method := { name := "user", desc := "(Ljava/lang/String;)Lcom/example/ration/ration/Request;", sig := { parameters := [(.object "java/lang/String")], returnType := some (.object "com/example/ration/ration/Request") }, accessFlags := 1, code := some k9c2 }
def k9c3 : Code := { maxStack := 2, maxLocals := 2, code := prog_29_method_4_code, exceptionTable := #[], attributes := #[] }
def k9m3 : Method := { name := "clientId", desc := "(Ljava/lang/String;)Lcom/example/ration/ration/Request;", sig := { parameters := [(.object "java/lang/String")], returnType := some (.object "com/example/ration/ration/Request") }, accessFlags := 1, code := some k9c3 }
def k9c4 : Code := { maxStack := 1, maxLocals := 1, code := prog_29_method_9_code, exceptionTable := #[], attributes := #[] }
def k9m4 : Method := { name := "user", desc := "()Ljava/lang/String;", sig := { parameters := [], returnType := some (.object "java/lang/String") }, accessFlags := 1, code := some k9c4 }
/-- com/example/ration/ration/Request -/
def k9 : Class := { plain "com/example/ration/ration/Request" (some 0) with
  accessFlags := 49
  interfaces := #[]
  cf := some (fileOf pool9 7 #[] #[{ accessFlags := 1, nameIndex := 5, descriptorIndex := 63, attributes := #[] }, { accessFlags := 1, nameIndex := 66, descriptorIndex := 67, attributes := #[] }, { accessFlags := 1, nameIndex := 42, descriptorIndex := 69, attributes := #[] }, { accessFlags := 1, nameIndex := 47, descriptorIndex := 69, attributes := #[] }, { accessFlags := 1, nameIndex := 42, descriptorIndex := 72, attributes := #[] }] 49 2 #[] #[{ accessFlags := 25, nameIndex := 61, descriptorIndex := 14, attributes := #[] }, { accessFlags := 2, nameIndex := 16, descriptorIndex := 27, attributes := #[] }, { accessFlags := 2, nameIndex := 42, descriptorIndex := 45, attributes := #[] }, { accessFlags := 2, nameIndex := 30, descriptorIndex := 31, attributes := #[] }, { accessFlags := 2, nameIndex := 47, descriptorIndex := 45, attributes := #[] }, { accessFlags := 2, nameIndex := 34, descriptorIndex := 31, attributes := #[] }, { accessFlags := 2, nameIndex := 37, descriptorIndex := 14, attributes := #[] }, { accessFlags := 2, nameIndex := 40, descriptorIndex := 14, attributes := #[] }, { accessFlags := 2, nameIndex := 13, descriptorIndex := 14, attributes := #[] }])
  fields := #[{ name := "NO_PRODUCER_ID", type := .long, accessFlags := 25, slot := 0, constantValue := 0 }, { name := "api", type := (.object "com/example/ration/ration/Api"), accessFlags := 2, slot := 0, constantValue := 0 }, { name := "user", type := (.object "java/lang/String"), accessFlags := 2, slot := 1, constantValue := 0 }, { name := "userGiven", type := .boolean, accessFlags := 2, slot := 2, constantValue := 0 }, { name := "clientId", type := (.object "java/lang/String"), accessFlags := 2, slot := 3, constantValue := 0 }, { name := "clientIdGiven", type := .boolean, accessFlags := 2, slot := 4, constantValue := 0 }, { name := "bytes", type := .long, accessFlags := 2, slot := 5, constantValue := 0 }, { name := "threadUs", type := .long, accessFlags := 2, slot := 6, constantValue := 0 }, { name := "producerId", type := .long, accessFlags := 2, slot := 7, constantValue := 0 }]
  methods := #[k9m0, k9m1, k9m2, k9m3, k9m4]
  instanceTypes := #[(.object "com/example/ration/ration/Api"), (.object "java/lang/String"), .boolean, (.object "java/lang/String"), .boolean, .long, .long, .long]
  staticTypes := #[.long]
  resolved := Array.replicate 97 none
  statics := none }

def pool10 : Array CpInfo := pool [(2, .class_ 4), (1, u "java/lang/Enum"), (0, u "name"), (0, u "Ljava/lang/String;"), (2, u "ordinal"), (0, u "I"), (1, .class_ 14), (1, u "java/lang/Object"), (4, u "hash"), (86, .class_ 108), (1, u "java/lang/Enum$EnumDesc"), (2, .class_ 112), (0, u "java/lang/constant/Constable"), (0, .class_ 114), (0, u "java/lang/Comparable"), (0, .class_ 116), (0, u "java/io/Serializable")] 87

/-- java/lang/Enum -/
def k10 : Class := { plain "java/lang/Enum" (some 0) with
  accessFlags := 1057
  interfaces := #[5, 3, 2]
  cf := some (fileOf pool10 2 #[.nestMembers #[106]] #[] 1057 12 #[111, 113, 115] #[{ accessFlags := 18, nameIndex := 5, descriptorIndex := 6, attributes := #[] }, { accessFlags := 18, nameIndex := 9, descriptorIndex := 10, attributes := #[] }, { accessFlags := 2, nameIndex := 19, descriptorIndex := 10, attributes := #[] }])
  fields := #[{ name := "name", type := (.object "java/lang/String"), accessFlags := 18, slot := 0, constantValue := 0 }, { name := "ordinal", type := .int, accessFlags := 18, slot := 1, constantValue := 0 }, { name := "hash", type := .int, accessFlags := 2, slot := 2, constantValue := 0 }]
  methods := #[]
  instanceTypes := #[(.object "java/lang/String"), .int, .int]
  staticTypes := #[]
  resolved := Array.replicate 204 none
  statics := none }

def pool11 : Array CpInfo := pool [(1, .class_ 2), (0, u "com/example/ration/ration/Api"), (2, u "PRODUCE"), (0, u "Lcom/example/ration/ration/Api;"), (2, u "FETCH"), (2, u "OTHER"), (2, u "CLUSTER"), (2, u "$VALUES"), (0, u "[Lcom/example/ration/ration/Api;"), (6, .class_ 28), (1, u "java/lang/Enum"), (8, u "byteRate"), (0, u "Lcom/example/ration/ration/QuotaKind;"), (2, u "threadTime"), (2, u "producerIds")] 38

/-- com/example/ration/ration/Api -/
def k11 : Class := { plain "com/example/ration/ration/Api" (some 10) with
  accessFlags := 16433
  interfaces := #[]
  cf := some (fileOf pool11 1 #[] #[] 16433 26 #[] #[{ accessFlags := 16409, nameIndex := 5, descriptorIndex := 6, attributes := #[] }, { accessFlags := 16409, nameIndex := 9, descriptorIndex := 6, attributes := #[] }, { accessFlags := 16409, nameIndex := 12, descriptorIndex := 6, attributes := #[] }, { accessFlags := 16409, nameIndex := 15, descriptorIndex := 6, attributes := #[] }, { accessFlags := 18, nameIndex := 37, descriptorIndex := 38, attributes := #[] }, { accessFlags := 18, nameIndex := 41, descriptorIndex := 38, attributes := #[] }, { accessFlags := 18, nameIndex := 44, descriptorIndex := 38, attributes := #[] }, { accessFlags := 4122, nameIndex := 18, descriptorIndex := 19, attributes := #[] }])
  fields := #[{ name := "PRODUCE", type := (.object "com/example/ration/ration/Api"), accessFlags := 16409, slot := 0, constantValue := 0 }, { name := "FETCH", type := (.object "com/example/ration/ration/Api"), accessFlags := 16409, slot := 1, constantValue := 0 }, { name := "OTHER", type := (.object "com/example/ration/ration/Api"), accessFlags := 16409, slot := 2, constantValue := 0 }, { name := "CLUSTER", type := (.object "com/example/ration/ration/Api"), accessFlags := 16409, slot := 3, constantValue := 0 }, { name := "byteRate", type := (.object "com/example/ration/ration/QuotaKind"), accessFlags := 18, slot := 3, constantValue := 0 }, { name := "threadTime", type := (.object "com/example/ration/ration/QuotaKind"), accessFlags := 18, slot := 4, constantValue := 0 }, { name := "producerIds", type := (.object "com/example/ration/ration/QuotaKind"), accessFlags := 18, slot := 5, constantValue := 0 }, { name := "$VALUES", type := (.array (.object "com/example/ration/ration/Api")), accessFlags := 4122, slot := 4, constantValue := 0 }]
  methods := #[]
  instanceTypes := #[(.object "java/lang/String"), .int, .int, (.object "com/example/ration/ration/QuotaKind"), (.object "com/example/ration/ration/QuotaKind"), (.object "com/example/ration/ration/QuotaKind")]
  staticTypes := #[(.object "com/example/ration/ration/Api"), (.object "com/example/ration/ration/Api"), (.object "com/example/ration/ration/Api"), (.object "com/example/ration/ration/Api"), (.array (.object "com/example/ration/ration/Api"))]
  resolved := Array.replicate 83 none
  statics := some 1 }

def pool12 : Array CpInfo := pool [(2, .class_ 4), (1, u "java/lang/Object"), (0, u "<init>"), (0, u "()V"), (35, .class_ 44), (1, u "java/util/Objects"), (0, u "requireNonNull"), (48, u "(Ljava/lang/Object;Ljava/lang/String;)Ljava/lang/Object;")] 89

def k12m0 : Method := { name := "<init>", desc := "()V", sig := { parameters := [], returnType := none }, accessFlags := 2, code := none }
def k12c1 : Code := { maxStack := 3, maxLocals := 2, code := jdk_31_method_11_code, exceptionTable := #[], attributes := #[] }
def k12m1 : Method := { name := "requireNonNull", desc := "(Ljava/lang/Object;Ljava/lang/String;)Ljava/lang/Object;", sig := { parameters := [(.object "java/lang/Object"), (.object "java/lang/String")], returnType := some (.object "java/lang/Object") }, accessFlags := 9, code := some k12c1 }
/-- java/util/Objects -/
def k12 : Class := { plain "java/util/Objects" (some 0) with
  accessFlags := 49
  interfaces := #[]
  cf := some (fileOf pool12 42 #[] #[{ accessFlags := 2, nameIndex := 5, descriptorIndex := 6, attributes := #[] }, { accessFlags := 9, nameIndex := 45, descriptorIndex := 94, attributes := #[] }] 49 2 #[] #[])
  fields := #[]
  methods := #[k12m0, k12m1]
  instanceTypes := #[]
  staticTypes := #[]
  resolved := Array.replicate 184 none
  statics := none }

def pool13 : Array CpInfo := pool [(4, .class_ 6), (1, u "java/lang/Object"), (0, u "<init>"), (0, u "()V"), (5, .class_ 16), (1, u "java/lang/StringLatin1"), (104, u "$assertionsDisabled"), (0, u "Z"), (98, .class_ 223), (1, u "java/lang/StringLatin1$LinesSpliterator"), (166, .class_ 391), (0, u "java/lang/StringLatin1$CharsSpliterator")] 3

def k13m0 : Method := { name := "<init>", desc := "()V", sig := { parameters := [], returnType := none }, accessFlags := 0, code := none }
/-- java/lang/StringLatin1 -/
def k13 : Class := { plain "java/lang/StringLatin1" (some 0) with
  accessFlags := 48
  interfaces := #[]
  cf := some (fileOf pool13 14 #[.nestMembers #[390, 221]] #[{ accessFlags := 0, nameIndex := 7, descriptorIndex := 8, attributes := #[] }] 48 4 #[] #[{ accessFlags := 4120, nameIndex := 121, descriptorIndex := 122, attributes := #[] }])
  fields := #[{ name := "$assertionsDisabled", type := .boolean, accessFlags := 4120, slot := 0, constantValue := 0 }]
  methods := #[k13m0]
  instanceTypes := #[]
  staticTypes := #[.boolean]
  resolved := Array.replicate 395 none
  statics := none }

def pool14 : Array CpInfo := pool [(2, .class_ 4), (1, u "java/lang/Object"), (0, u "<init>"), (0, u "()V"), (17, .class_ 26), (1, u "jdk/internal/util/Preconditions"), (28, .class_ 56), (0, u "jdk/internal/util/Preconditions$4"), (57, .class_ 115), (0, u "jdk/internal/util/Preconditions$1"), (7, u "SIOOBE_FORMATTER"), (0, u "Ljava/util/function/BiFunction;"), (0, .class_ 126), (0, u "jdk/internal/util/Preconditions$2"), (3, u "AIOOBE_FORMATTER"), (0, .class_ 132), (0, u "jdk/internal/util/Preconditions$3"), (3, u "IOOBE_FORMATTER")] 57

def k14m0 : Method := { name := "<init>", desc := "()V", sig := { parameters := [], returnType := none }, accessFlags := 1, code := none }
/-- jdk/internal/util/Preconditions -/
def k14 : Class := { plain "jdk/internal/util/Preconditions" (some 0) with
  accessFlags := 33
  interfaces := #[]
  cf := some (fileOf pool14 24 #[.nestMembers #[55, 131, 125, 114]] #[{ accessFlags := 1, nameIndex := 5, descriptorIndex := 6, attributes := #[] }] 33 2 #[] #[{ accessFlags := 25, nameIndex := 123, descriptorIndex := 124, attributes := #[] }, { accessFlags := 25, nameIndex := 130, descriptorIndex := 124, attributes := #[] }, { accessFlags := 25, nameIndex := 136, descriptorIndex := 124, attributes := #[] }])
  fields := #[{ name := "SIOOBE_FORMATTER", type := (.object "java/util/function/BiFunction"), accessFlags := 25, slot := 0, constantValue := 0 }, { name := "AIOOBE_FORMATTER", type := (.object "java/util/function/BiFunction"), accessFlags := 25, slot := 1, constantValue := 0 }, { name := "IOOBE_FORMATTER", type := (.object "java/util/function/BiFunction"), accessFlags := 25, slot := 2, constantValue := 0 }]
  methods := #[k14m0]
  instanceTypes := #[]
  staticTypes := #[(.object "java/util/function/BiFunction"), (.object "java/util/function/BiFunction"), (.object "java/util/function/BiFunction")]
  resolved := Array.replicate 194 none
  statics := some 2 }

def pool15 : Array CpInfo := pool [(9, u "<init>"), (6, .class_ 18), (1, u "java/lang/Object"), (0, u "()V"), (1, .class_ 23), (1, u "jdk/internal/util/ArraysSupport"), (0, u "LOG2_ARRAY_LONG_INDEX_SCALE"), (0, u "I"), (2, u "U"), (0, u "Ljdk/internal/misc/Unsafe;"), (8, u "BIG_ENDIAN"), (0, u "Z"), (8, u "LOG2_BYTE_BIT_SIZE"), (4, u "LOG2_ARRAY_INT_INDEX_SCALE"), (54, u "JLA"), (0, u "Ljdk/internal/access/JavaLangAccess;"), (11, u "LOG2_ARRAY_BOOLEAN_INDEX_SCALE"), (9, u "LOG2_ARRAY_BYTE_INDEX_SCALE"), (5, u "LOG2_ARRAY_CHAR_INDEX_SCALE"), (5, u "LOG2_ARRAY_SHORT_INDEX_SCALE"), (18, u "LOG2_ARRAY_FLOAT_INDEX_SCALE"), (24, u "LOG2_ARRAY_DOUBLE_INDEX_SCALE"), (89, u "T_BOOLEAN"), (2, u "T_CHAR"), (1, u "T_FLOAT"), (1, u "T_DOUBLE"), (1, u "T_BYTE"), (1, u "T_SHORT"), (1, u "T_INT"), (1, u "T_LONG"), (1, u "SOFT_MAX_ARRAY_LENGTH")] 83

def k15m0 : Method := { name := "<init>", desc := "()V", sig := { parameters := [], returnType := none }, accessFlags := 2, code := none }
/-- jdk/internal/util/ArraysSupport -/
def k15 : Class := { plain "jdk/internal/util/ArraysSupport" (some 0) with
  accessFlags := 33
  interfaces := #[]
  cf := some (fileOf pool15 21 #[] #[{ accessFlags := 2, nameIndex := 9, descriptorIndex := 19, attributes := #[] }] 33 16 #[] #[{ accessFlags := 24, nameIndex := 28, descriptorIndex := 29, attributes := #[] }, { accessFlags := 26, nameIndex := 38, descriptorIndex := 39, attributes := #[] }, { accessFlags := 25, nameIndex := 121, descriptorIndex := 25, attributes := #[] }, { accessFlags := 25, nameIndex := 131, descriptorIndex := 25, attributes := #[] }, { accessFlags := 25, nameIndex := 137, descriptorIndex := 25, attributes := #[] }, { accessFlags := 25, nameIndex := 143, descriptorIndex := 25, attributes := #[] }, { accessFlags := 25, nameIndex := 53, descriptorIndex := 25, attributes := #[] }, { accessFlags := 25, nameIndex := 24, descriptorIndex := 25, attributes := #[] }, { accessFlags := 25, nameIndex := 162, descriptorIndex := 25, attributes := #[] }, { accessFlags := 25, nameIndex := 187, descriptorIndex := 25, attributes := #[] }, { accessFlags := 26, nameIndex := 48, descriptorIndex := 25, attributes := #[] }, { accessFlags := 25, nameIndex := 277, descriptorIndex := 25, attributes := #[] }, { accessFlags := 25, nameIndex := 280, descriptorIndex := 25, attributes := #[] }, { accessFlags := 25, nameIndex := 282, descriptorIndex := 25, attributes := #[] }, { accessFlags := 25, nameIndex := 284, descriptorIndex := 25, attributes := #[] }, { accessFlags := 25, nameIndex := 286, descriptorIndex := 25, attributes := #[] }, { accessFlags := 25, nameIndex := 288, descriptorIndex := 25, attributes := #[] }, { accessFlags := 25, nameIndex := 290, descriptorIndex := 25, attributes := #[] }, { accessFlags := 25, nameIndex := 292, descriptorIndex := 25, attributes := #[] }, { accessFlags := 26, nameIndex := 108, descriptorIndex := 109, attributes := #[] }, { accessFlags := 25, nameIndex := 294, descriptorIndex := 25, attributes := #[] }])
  fields := #[{ name := "U", type := (.object "jdk/internal/misc/Unsafe"), accessFlags := 24, slot := 0, constantValue := 0 }, { name := "BIG_ENDIAN", type := .boolean, accessFlags := 26, slot := 1, constantValue := 0 }, { name := "LOG2_ARRAY_BOOLEAN_INDEX_SCALE", type := .int, accessFlags := 25, slot := 2, constantValue := 0 }, { name := "LOG2_ARRAY_BYTE_INDEX_SCALE", type := .int, accessFlags := 25, slot := 3, constantValue := 0 }, { name := "LOG2_ARRAY_CHAR_INDEX_SCALE", type := .int, accessFlags := 25, slot := 4, constantValue := 0 }, { name := "LOG2_ARRAY_SHORT_INDEX_SCALE", type := .int, accessFlags := 25, slot := 5, constantValue := 0 }, { name := "LOG2_ARRAY_INT_INDEX_SCALE", type := .int, accessFlags := 25, slot := 6, constantValue := 0 }, { name := "LOG2_ARRAY_LONG_INDEX_SCALE", type := .int, accessFlags := 25, slot := 7, constantValue := 0 }, { name := "LOG2_ARRAY_FLOAT_INDEX_SCALE", type := .int, accessFlags := 25, slot := 8, constantValue := 0 }, { name := "LOG2_ARRAY_DOUBLE_INDEX_SCALE", type := .int, accessFlags := 25, slot := 9, constantValue := 0 }, { name := "LOG2_BYTE_BIT_SIZE", type := .int, accessFlags := 26, slot := 10, constantValue := 0 }, { name := "T_BOOLEAN", type := .int, accessFlags := 25, slot := 11, constantValue := 0 }, { name := "T_CHAR", type := .int, accessFlags := 25, slot := 12, constantValue := 0 }, { name := "T_FLOAT", type := .int, accessFlags := 25, slot := 13, constantValue := 0 }, { name := "T_DOUBLE", type := .int, accessFlags := 25, slot := 14, constantValue := 0 }, { name := "T_BYTE", type := .int, accessFlags := 25, slot := 15, constantValue := 0 }, { name := "T_SHORT", type := .int, accessFlags := 25, slot := 16, constantValue := 0 }, { name := "T_INT", type := .int, accessFlags := 25, slot := 17, constantValue := 0 }, { name := "T_LONG", type := .int, accessFlags := 25, slot := 18, constantValue := 0 }, { name := "JLA", type := (.object "jdk/internal/access/JavaLangAccess"), accessFlags := 26, slot := 19, constantValue := 0 }, { name := "SOFT_MAX_ARRAY_LENGTH", type := .int, accessFlags := 25, slot := 20, constantValue := 0 }]
  methods := #[k15m0]
  instanceTypes := #[]
  staticTypes := #[(.object "jdk/internal/misc/Unsafe"), .boolean, .int, .int, .int, .int, .int, .int, .int, .int, .int, .int, .int, .int, .int, .int, .int, .int, .int, (.object "jdk/internal/access/JavaLangAccess"), .int]
  resolved := Array.replicate 378 none
  statics := none }

def pool16 : Array CpInfo := pool [(1, u "java/lang/Cloneable"), (0, .class_ 1), (0, u "java/lang/Object"), (0, .class_ 3)] 3

/-- java/lang/Cloneable -/
def k16 : Class := { plain "java/lang/Cloneable" (some 0) with
  accessFlags := 1537
  interfaces := #[]
  cf := some (fileOf pool16 2 #[] #[] 1537 4 #[] #[])
  fields := #[]
  methods := #[]
  instanceTypes := #[]
  staticTypes := #[]
  resolved := Array.replicate 8 none
  statics := none }

/-- the primitive byte -/
def k17 : Class := { plain "byte" none with kind := .primitive 'B', accessFlags := 0x411 }
/-- [B -/
def k18 : Class := { plain "[B" (some 0) with kind := .array 17 .byte, interfaces := #[16, 2], accessFlags := 1041 }

/-- the primitive char -/
def k19 : Class := { plain "char" none with kind := .primitive 'C', accessFlags := 0x411 }
/-- [C -/
def k20 : Class := { plain "[C" (some 0) with kind := .array 19 .char, interfaces := #[16, 2], accessFlags := 1041 }

/-- the primitive int -/
def k21 : Class := { plain "int" none with kind := .primitive 'I', accessFlags := 0x411 }
/-- [I -/
def k22 : Class := { plain "[I" (some 0) with kind := .array 21 .int, interfaces := #[16, 2], accessFlags := 1041 }

def heap : Heap := #[{ cls := 7, slots := #[.long 0, .int 1, .null, .int 0, .null, .int 0, .int 0], vm := .statics 7 },
  { cls := 11, slots := #[.ref 3, .ref 4, .ref 5, .ref 6, .null], vm := .statics 11 },
  { cls := 14, slots := #[.null, .null, .null], vm := .statics 14 },
  { cls := 11, slots := #[.null, .int 0, .int 0, .null, .null, .null], vm := .none },
  { cls := 11, slots := #[.null, .int 1, .int 0, .null, .null, .null], vm := .none },
  { cls := 11, slots := #[.null, .int 2, .int 0, .null, .null, .null], vm := .none },
  { cls := 11, slots := #[.null, .int 3, .int 0, .null, .null, .null], vm := .none }]
def classes : Array Class := #[k0, k1, k2, k3, k4, k5, k6, k7, k8, k9, k10, k11, k12, k13, k14, k15, k16, k17, k18, k19, k20, k21, k22]
def interned : List (Array UInt16 × Addr) := []
def slotsUsed : Nat := 39
def theMethod : MethodId := ⟨1, 4⟩
def args0 : Array Value := #[.int 5, .int 6, .int 7]
def aboutOver (below : List Frame) : State where
  vm := { classes := classes, interned := interned.toArray }
  heap := heap
  slotsUsed := slotsUsed
  threads := #[{ frames := .invoking theMethod args0 :: below }]
def below0 : List Frame := [.native { method := ⟨0, 0⟩, args := #[] }]
def about1 : State := aboutOver below0
def p0 : Program := .bare "" "" ""
def e0 : Env := launch0.env 0 0 0
theorem w_frames : about1.frames = Frame.invoking theMethod args0 :: below0 := rfl
set_option maxRecDepth 65536 in
theorem w_args : argsFit about1.vm theMethod args0 = true := by decide +kernel
set_option maxRecDepth 65536 in
theorem w_heap : heapFits about1 = true := by decide +kernel
set_option maxRecDepth 65536 in
theorem w_runnable : about1.curStatus? = some .runnable := by decide +kernel
set_option maxRecDepth 65536 in
theorem w_alone : about1.alone = true := by decide +kernel
set_option maxRecDepth 65536 in
theorem w_named : about1.methodNamed? x = some theMethod := by decide +kernel
set_option maxRecDepth 65536 in
theorem w_hears : about1.hears theMethod below0 = true := by decide +kernel
set_option maxRecDepth 65536 in
theorem w_ripe : about1.ripe theMethod args0 below0 = true := by decide +kernel
theorem w_running : about1.status = .running := rfl
set_option maxRecDepth 65536 in
theorem w_room : about1.hasRoom e0.platform room_1 = true :=
  launch0.hasRoom_least _ room_1 (by decide +kernel) (by decide +kernel) (by decide +kernel) (by decide +kernel) (by decide +kernel) (by decide +kernel)
theorem allAtoms_all (ts : List Jvm.Cond) (a : Array Jvm.Value) (st : Jvm.State) : (allAtoms ts).before a st = ts.all (fun c => c.before a st) := by
  induction ts with
  | nil => rfl
  | cons c t ih =>
    show (Jvm.Cond.and c (allAtoms t)).before a st = _
    rw [Jvm.Cond.before_and, ih, List.all_cons]
def words1 : List Jvm.Cond := Jvm.Cond.code x code maxLocals ret :: tables_1
/-- a 'code' word, met by the world's own term for the bytes: nothing is compared byte by byte -/
theorem code_word {y : MethodName} {bytes : ByteArray} {mx : Nat} {rt : Option FieldType} {a : Array Value} {s : State} {m : MethodId} {meth : Method} {c : Code} (h1 : s.methodNamed? y = some m) (h2 : s.vm.method? m = some meth) (h3 : meth.code = some c) (h4 : c.code = bytes)
    (h5 : (c.maxLocals == mx && c.exceptionTable.isEmpty && decide (c.maxStack ≤ mostOperands) && decide (meth.sig.returnType = rt) && !meth.locks && decide (parseMethodDescriptor y.desc = some meth.sig)) = true) : (Jvm.Cond.code y bytes mx rt).before a s = true := by
  simp only [Bool.and_eq_true, beq_iff_eq, Bool.not_eq_true', decide_eq_true_eq] at h5
  obtain ⟨⟨⟨⟨⟨g1, g2⟩, g3⟩, g4⟩, g5⟩, g6⟩ := h5
  simp [Cond.before, Cond.holds, Cond.value, h1, h2, h3, h4, g1, g2, g3, g4, g5, g6]
def isCode : Jvm.Cond → Bool
  | .code _ _ _ _ => true
  | _ => false
theorem all_split {L : List Jvm.Cond} {P : Jvm.Cond → Bool} (h1 : L.all (fun c => isCode c || P c) = true) (h2 : ∀ c ∈ L.filter isCode, P c = true) : L.all P = true := by
  refine List.all_eq_true.mpr fun c hc => ?_
  have h := List.all_eq_true.mp h1 c hc
  rcases Bool.eq_false_or_eq_true (isCode c) with hi | hi
  · exact h2 c (List.mem_filter.mpr ⟨hc, hi⟩)
  · simpa [hi] using h
set_option maxRecDepth 65536 in
theorem w_c0 : (Jvm.Cond.code x code maxLocals ret).before args0 about1 = true := code_word (m := ⟨1, 4⟩) (meth := k1m4) (c := k1c4) (by decide +kernel) rfl rfl rfl (by decide +kernel)
set_option maxRecDepth 65536 in
theorem w_c1 : (Jvm.Cond.code ({ cls := "com/example/ration/ration/RequestUserPinLaw", name := "str", desc := "(I)Ljava/lang/String;" } : Jvm.MethodName) method_3_code (2 : Nat) (Option.some (Jvm.ClassFile.FieldType.object "java/lang/String"))).before args0 about1 = true := code_word (m := ⟨1, 2⟩) (meth := k1m2) (c := k1c2) (by decide +kernel) rfl rfl rfl (by decide +kernel)
set_option maxRecDepth 65536 in
theorem w_c2 : (Jvm.Cond.code ({ cls := "java/lang/String", name := "<init>", desc := "([C)V" } : Jvm.MethodName) jdk_42_method_3_code (2 : Nat) (Option.none : Option Jvm.ClassFile.FieldType)).before args0 about1 = true := code_word (m := ⟨7, 1⟩) (meth := k7m1) (c := k7c1) (by decide +kernel) rfl rfl rfl (by decide +kernel)
set_option maxRecDepth 65536 in
theorem w_c3 : (Jvm.Cond.code ({ cls := "java/lang/String", name := "<init>", desc := "([CIILjava/lang/Void;)V" } : Jvm.MethodName) jdk_42_method_149_code (6 : Nat) (Option.none : Option Jvm.ClassFile.FieldType)).before args0 about1 = true := code_word (m := ⟨7, 3⟩) (meth := k7m3) (c := k7c3) (by decide +kernel) rfl rfl rfl (by decide +kernel)
set_option maxRecDepth 65536 in
theorem w_c4 : (Jvm.Cond.code ({ cls := "java/lang/Object", name := "<init>", desc := "()V" } : Jvm.MethodName) object_method_1_code (1 : Nat) (Option.none : Option Jvm.ClassFile.FieldType)).before args0 about1 = true := code_word (m := ⟨0, 0⟩) (meth := k0m0) (c := k0c0) (by decide +kernel) rfl rfl rfl (by decide +kernel)
set_option maxRecDepth 65536 in
theorem w_c5 : (Jvm.Cond.code ({ cls := "java/lang/StringUTF16", name := "compress", desc := "([CII)[B" } : Jvm.MethodName) jdk_52_method_16_code (6 : Nat) (Option.some (Jvm.ClassFile.FieldType.array Jvm.ClassFile.FieldType.byte))).before args0 about1 = true := code_word (m := ⟨8, 2⟩) (meth := k8m2) (c := k8c2) (by decide +kernel) rfl rfl rfl (by decide +kernel)
set_option maxRecDepth 65536 in
theorem w_c6 : (Jvm.Cond.code ({ cls := "java/lang/StringUTF16", name := "compress", desc := "([CI[BII)I" } : Jvm.MethodName) jdk_52_method_21_code (7 : Nat) (Option.some Jvm.ClassFile.FieldType.int)).before args0 about1 = true := code_word (m := ⟨8, 3⟩) (meth := k8m3) (c := k8c3) (by decide +kernel) rfl rfl rfl (by decide +kernel)
set_option maxRecDepth 65536 in
theorem w_c7 : (Jvm.Cond.code ({ cls := "java/lang/StringUTF16", name := "coderFromArrayLen", desc := "([BI)B" } : Jvm.MethodName) jdk_52_method_15_code (2 : Nat) (Option.some Jvm.ClassFile.FieldType.byte)).before args0 about1 = true := code_word (m := ⟨8, 1⟩) (meth := k8m1) (c := k8c1) (by decide +kernel) rfl rfl rfl (by decide +kernel)
set_option maxRecDepth 65536 in
theorem w_c8 : (Jvm.Cond.code ({ cls := "com/example/ration/ration/RequestUserPinLaw", name := "api", desc := "(I)Lcom/example/ration/ration/Api;" } : Jvm.MethodName) method_2_code (1 : Nat) (Option.some (Jvm.ClassFile.FieldType.object "com/example/ration/ration/Api"))).before args0 about1 = true := code_word (m := ⟨1, 1⟩) (meth := k1m1) (c := k1c1) (by decide +kernel) rfl rfl rfl (by decide +kernel)
set_option maxRecDepth 65536 in
theorem w_c9 : (Jvm.Cond.code ({ cls := "com/example/ration/ration/Request", name := "<init>", desc := "(Lcom/example/ration/ration/Api;)V" } : Jvm.MethodName) prog_29_method_1_code (2 : Nat) (Option.none : Option Jvm.ClassFile.FieldType)).before args0 about1 = true := code_word (m := ⟨9, 0⟩) (meth := k9m0) (c := k9c0) (by decide +kernel) rfl rfl rfl (by decide +kernel)
set_option maxRecDepth 65536 in
theorem w_c10 : (Jvm.Cond.code ({ cls := "java/util/Objects", name := "requireNonNull", desc := "(Ljava/lang/Object;Ljava/lang/String;)Ljava/lang/Object;" } : Jvm.MethodName) jdk_31_method_11_code (2 : Nat) (Option.some (Jvm.ClassFile.FieldType.object "java/lang/Object"))).before args0 about1 = true := code_word (m := ⟨12, 1⟩) (meth := k12m1) (c := k12c1) (by decide +kernel) rfl rfl rfl (by decide +kernel)
set_option maxRecDepth 65536 in
theorem w_c11 : (Jvm.Cond.code ({ cls := "com/example/ration/ration/Request", name := "user", desc := "()Ljava/lang/String;" } : Jvm.MethodName) prog_29_method_9_code (1 : Nat) (Option.some (Jvm.ClassFile.FieldType.object "java/lang/String"))).before args0 about1 = true := code_word (m := ⟨9, 4⟩) (meth := k9m4) (c := k9c4) (by decide +kernel) rfl rfl rfl (by decide +kernel)
set_option maxRecDepth 65536 in
theorem w_c12 : (Jvm.Cond.code ({ cls := "com/example/ration/ration/Request", name := "user", desc := "(Ljava/lang/String;)Lcom/example/ration/ration/Request;" } : Jvm.MethodName) prog_29_method_3_code (2 : Nat) (Option.some (Jvm.ClassFile.FieldType.object "com/example/ration/ration/Request"))).before args0 about1 = true := code_word (m := ⟨9, 2⟩) (meth := k9m2) (c := k9c2) (by decide +kernel) rfl rfl rfl (by decide +kernel)
set_option maxRecDepth 65536 in
theorem w_c13 : (Jvm.Cond.code ({ cls := "com/example/ration/ration/RequestUserPinLaw", name := "is", desc := "(Ljava/lang/String;Ljava/lang/String;)Z" } : Jvm.MethodName) method_4_code (2 : Nat) (Option.some Jvm.ClassFile.FieldType.boolean)).before args0 about1 = true := code_word (m := ⟨1, 3⟩) (meth := k1m3) (c := k1c3) (by decide +kernel) rfl rfl rfl (by decide +kernel)
set_option maxRecDepth 65536 in
theorem w_c14 : (Jvm.Cond.code ({ cls := "java/lang/String", name := "equals", desc := "(Ljava/lang/Object;)Z" } : Jvm.MethodName) jdk_42_method_66_code (3 : Nat) (Option.some Jvm.ClassFile.FieldType.boolean)).before args0 about1 = true := code_word (m := ⟨7, 2⟩) (meth := k7m2) (c := k7c2) (by decide +kernel) rfl rfl rfl (by decide +kernel)
set_option maxRecDepth 65536 in
theorem w_c15 : (Jvm.Cond.code ({ cls := "com/example/ration/ration/Request", name := "reset", desc := "(Lcom/example/ration/ration/Api;)Lcom/example/ration/ration/Request;" } : Jvm.MethodName) prog_29_method_2_code (2 : Nat) (Option.some (Jvm.ClassFile.FieldType.object "com/example/ration/ration/Request"))).before args0 about1 = true := code_word (m := ⟨9, 1⟩) (meth := k9m1) (c := k9c1) (by decide +kernel) rfl rfl rfl (by decide +kernel)
set_option maxRecDepth 65536 in
theorem w_c16 : (Jvm.Cond.code ({ cls := "com/example/ration/ration/Request", name := "clientId", desc := "(Ljava/lang/String;)Lcom/example/ration/ration/Request;" } : Jvm.MethodName) prog_29_method_4_code (2 : Nat) (Option.some (Jvm.ClassFile.FieldType.object "com/example/ration/ration/Request"))).before args0 about1 = true := code_word (m := ⟨9, 3⟩) (meth := k9m3) (c := k9c3) (by decide +kernel) rfl rfl rfl (by decide +kernel)
def codes1 : List Jvm.Cond := [Jvm.Cond.code x code maxLocals ret, Jvm.Cond.code ({ cls := "com/example/ration/ration/RequestUserPinLaw", name := "str", desc := "(I)Ljava/lang/String;" } : Jvm.MethodName) method_3_code (2 : Nat) (Option.some (Jvm.ClassFile.FieldType.object "java/lang/String")), Jvm.Cond.code ({ cls := "java/lang/String", name := "<init>", desc := "([C)V" } : Jvm.MethodName) jdk_42_method_3_code (2 : Nat) (Option.none : Option Jvm.ClassFile.FieldType), Jvm.Cond.code ({ cls := "java/lang/String", name := "<init>", desc := "([CIILjava/lang/Void;)V" } : Jvm.MethodName) jdk_42_method_149_code (6 : Nat) (Option.none : Option Jvm.ClassFile.FieldType), Jvm.Cond.code ({ cls := "java/lang/Object", name := "<init>", desc := "()V" } : Jvm.MethodName) object_method_1_code (1 : Nat) (Option.none : Option Jvm.ClassFile.FieldType), Jvm.Cond.code ({ cls := "java/lang/StringUTF16", name := "compress", desc := "([CII)[B" } : Jvm.MethodName) jdk_52_method_16_code (6 : Nat) (Option.some (Jvm.ClassFile.FieldType.array Jvm.ClassFile.FieldType.byte)), Jvm.Cond.code ({ cls := "java/lang/StringUTF16", name := "compress", desc := "([CI[BII)I" } : Jvm.MethodName) jdk_52_method_21_code (7 : Nat) (Option.some Jvm.ClassFile.FieldType.int), Jvm.Cond.code ({ cls := "java/lang/StringUTF16", name := "coderFromArrayLen", desc := "([BI)B" } : Jvm.MethodName) jdk_52_method_15_code (2 : Nat) (Option.some Jvm.ClassFile.FieldType.byte), Jvm.Cond.code ({ cls := "com/example/ration/ration/RequestUserPinLaw", name := "api", desc := "(I)Lcom/example/ration/ration/Api;" } : Jvm.MethodName) method_2_code (1 : Nat) (Option.some (Jvm.ClassFile.FieldType.object "com/example/ration/ration/Api")), Jvm.Cond.code ({ cls := "com/example/ration/ration/Request", name := "<init>", desc := "(Lcom/example/ration/ration/Api;)V" } : Jvm.MethodName) prog_29_method_1_code (2 : Nat) (Option.none : Option Jvm.ClassFile.FieldType), Jvm.Cond.code ({ cls := "java/util/Objects", name := "requireNonNull", desc := "(Ljava/lang/Object;Ljava/lang/String;)Ljava/lang/Object;" } : Jvm.MethodName) jdk_31_method_11_code (2 : Nat) (Option.some (Jvm.ClassFile.FieldType.object "java/lang/Object")), Jvm.Cond.code ({ cls := "com/example/ration/ration/Request", name := "user", desc := "()Ljava/lang/String;" } : Jvm.MethodName) prog_29_method_9_code (1 : Nat) (Option.some (Jvm.ClassFile.FieldType.object "java/lang/String")), Jvm.Cond.code ({ cls := "com/example/ration/ration/Request", name := "user", desc := "(Ljava/lang/String;)Lcom/example/ration/ration/Request;" } : Jvm.MethodName) prog_29_method_3_code (2 : Nat) (Option.some (Jvm.ClassFile.FieldType.object "com/example/ration/ration/Request")), Jvm.Cond.code ({ cls := "com/example/ration/ration/RequestUserPinLaw", name := "is", desc := "(Ljava/lang/String;Ljava/lang/String;)Z" } : Jvm.MethodName) method_4_code (2 : Nat) (Option.some Jvm.ClassFile.FieldType.boolean), Jvm.Cond.code ({ cls := "java/lang/String", name := "equals", desc := "(Ljava/lang/Object;)Z" } : Jvm.MethodName) jdk_42_method_66_code (3 : Nat) (Option.some Jvm.ClassFile.FieldType.boolean), Jvm.Cond.code ({ cls := "com/example/ration/ration/Request", name := "reset", desc := "(Lcom/example/ration/ration/Api;)Lcom/example/ration/ration/Request;" } : Jvm.MethodName) prog_29_method_2_code (2 : Nat) (Option.some (Jvm.ClassFile.FieldType.object "com/example/ration/ration/Request")), Jvm.Cond.code ({ cls := "com/example/ration/ration/Request", name := "clientId", desc := "(Ljava/lang/String;)Lcom/example/ration/ration/Request;" } : Jvm.MethodName) prog_29_method_4_code (2 : Nat) (Option.some (Jvm.ClassFile.FieldType.object "com/example/ration/ration/Request"))]
set_option maxRecDepth 65536 in
theorem codes_eq : words1.filter isCode = codes1 := rfl
theorem w_codes : ∀ c ∈ words1.filter isCode, c.before args0 about1 = true := by
  rw [codes_eq]
  intro c hc
  simp only [codes1, List.mem_cons, List.not_mem_nil, or_false] at hc
  rcases hc with rfl | rfl | rfl | rfl | rfl | rfl | rfl | rfl | rfl | rfl | rfl | rfl | rfl | rfl | rfl | rfl | rfl
  · exact w_c0
  · exact w_c1
  · exact w_c2
  · exact w_c3
  · exact w_c4
  · exact w_c5
  · exact w_c6
  · exact w_c7
  · exact w_c8
  · exact w_c9
  · exact w_c10
  · exact w_c11
  · exact w_c12
  · exact w_c13
  · exact w_c14
  · exact w_c15
  · exact w_c16
set_option maxRecDepth 65536 in
theorem w_t1 : (words1.take 24).all (fun c => isCode c || c.before args0 about1) = true := by decide +kernel
set_option maxRecDepth 65536 in
theorem w_t2 : ((words1.drop 24).take 24).all (fun c => isCode c || c.before args0 about1) = true := by decide +kernel
set_option maxRecDepth 65536 in
theorem w_t3 : (((words1.drop 24).drop 24).take 24).all (fun c => isCode c || c.before args0 about1) = true := by decide +kernel
set_option maxRecDepth 65536 in
theorem w_t4 : ((((words1.drop 24).drop 24).drop 24).take 24).all (fun c => isCode c || c.before args0 about1) = true := by decide +kernel
set_option maxRecDepth 65536 in
theorem w_t5 : ((((words1.drop 24).drop 24).drop 24).drop 24).all (fun c => isCode c || c.before args0 about1) = true := by decide +kernel
theorem w_tables : (allAtoms (Jvm.Cond.code x code maxLocals ret :: tables_1)).before args0 about1 = true := by
  rw [allAtoms_all]
  show words1.all (fun c => c.before args0 about1) = true
  refine all_split ?_ w_codes
  rw [← List.take_append_drop 24 words1, List.all_append, w_t1, ← List.take_append_drop 24 (words1.drop 24), List.all_append, w_t2, ← List.take_append_drop 24 ((words1.drop 24).drop 24), List.all_append, w_t3, ← List.take_append_drop 24 (((words1.drop 24).drop 24).drop 24), List.all_append, w_t4, w_t5]
  rfl
set_option maxRecDepth 65536 in
theorem w_rest : rest_1_c.before args0 about1 = true := by decide +kernel
set_option maxRecDepth 65536 in
theorem w_case : (Jvm.Cond.and given_1 narrow_1).before args0 about1 = true := by decide +kernel
theorem w_applies : (headSpec (Jvm.Cond.code x code maxLocals ret :: tables_1) room_1).applies x e0.platform about1 = true :=
  (Spec.applies_iff w_frames).mpr ⟨w_running, w_runnable, w_alone, w_named, w_hears, w_ripe, w_room, w_tables⟩
theorem atStart : AtStart classFile x code maxLocals ret World_1 tables_1 room_1 Calls_1 rest_1 Pre_1 launch0 p0 e0 about1 theMethod args0 below0 :=
  ⟨lists_1, trivial, launch0.admits_env _ _ _, launch0.least_env, fairChoices_fair.cas, fairChoices_fair.clock, w_frames, w_args, w_heap, w_applies, trivial, w_rest, w_case⟩
end start1
theorem witness_1 : WitnessClaimed_1 := ⟨start1.p0, start1.e0, start1.about1, start1.theMethod, start1.args0, start1.below0, start1.atStart⟩
end Jvm.Pilot.@@N@@
