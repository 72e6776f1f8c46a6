import JvmDerived
import JvmDerived.Pilot.@@N@@Statement
import JvmDerived.Pilot.@@N@@Code
set_option linter.unusedVariables false
set_option linter.unusedSimpArgs false
/- laws to paste: Road.backV, Road.lenW, Road.chN, Road.codOf (cut by pick.py; bodies as the Statement names them) -/
namespace Jvm.Pilot.@@N@@
namespace StrChars
open Jvm Sem ClassFile Op Lib Jvm.Stand Jvm.Free.XT Jvm.Free.ALB Jvm.Free.JM Jvm.Free
open Jvm.Lib.Cold (StaticIs)
/-- a char array whose places are chars -/
def Ch (a : Addr) (A : Cell) (U : State) : Prop := Arr .char a A U ∧ Typed .char A
theorem Ch.mv {a : Addr} {A : Cell} {U U' : State} (h : Ch a A U) (hal : U.vm.Alike U'.vm) (hh : U'.heap = U.heap) : Ch a A U' := ⟨h.1.mv hal hh, h.2⟩
theorem Ch.keep {a : Addr} {A : Cell} {U U' : State} (h : Ch a A U) (hal : U.vm.Alike U'.vm) (hk : U'.heap[a]? = some A) : Ch a A U' := ⟨h.1.keep hal hk, h.2⟩
/-- what place i of a char[]'s cell holds -/
def cv (A : Cell) (i : Nat) : Int32 := match A.slots[i]? with | some (.int x) => x | _ => 0
theorem Ch.get {a : Addr} {A : Cell} {U : State} (h : Ch a A U) {i : Nat} (hi : i < A.slots.size) : A.slots[i]? = some (.int (cv A i)) := by
  have e := Array.getElem?_eq_getElem hi
  have f := h.2 i _ e
  unfold cv; rw [e]
  generalize A.slots[i] = v at f
  cases v <;> simp [fits] at f ⊢
/-- the byte that i2b leaves of a char -/
def lo8 (x : Int32) : Int32 := x.toInt8.toInt32
theorem fits_lo8 (y : Int32) : fits .byte (.int (lo8 y)) = true := by
  have h1 := y.toInt8.le_toInt
  have h2 := y.toInt8.toInt_lt
  simp only [lo8, fits, Bool.and_eq_true, decide_eq_true_eq, Int32.le_iff_toInt_le, Int8.toInt_toInt32, show (-128 : Int32).toInt = -128 from by decide, show (127 : Int32).toInt = 127 from by decide]
  omega
/-- A' is A but that each place j of lo .. hi - 1 holds f j -/
def Laid (A A' : Cell) (lo hi : Nat) (f : Nat → Value) : Prop := A'.cls = A.cls ∧ A'.vm = A.vm ∧ A'.slots.size = A.slots.size ∧ ∀ i, A'.slots[i]? = if lo ≤ i ∧ i < hi then some (f i) else A.slots[i]?
theorem Laid.zero (A : Cell) (lo : Nat) (f : Nat → Value) : Laid A A lo (lo + 0) f := ⟨rfl, rfl, rfl, fun i => by rw [if_neg (by omega)]⟩
theorem Laid.step {A Ak : Cell} {lo k : Nat} {f : Nat → Value} {v : Value} (h : Laid A Ak lo k f) (hlo : lo ≤ k) (hk : k < Ak.slots.size) (hv : v = f k) : Laid A (Ak.setSlot k v) lo (k + 1) f := by
  refine ⟨h.1, h.2.1, by simpa [Cell.setSlot] using h.2.2.1, fun i => ?_⟩
  by_cases e : k = i
  · subst e; rw [Cell.slots_setSlot_self v hk, if_pos (by omega), hv]
  · rw [Cell.slots_setSlot_ne v e, h.2.2.2 i]
    by_cases q : lo ≤ i ∧ i < k
    · rw [if_pos q, if_pos (by omega)]
    · rw [if_neg q, if_neg (by omega)]
def U16 : String := "java/lang/StringUTF16"
namespace Cmp5
def yN : MethodName := ⟨"java/lang/StringUTF16", "compress", "([CI[BII)I"⟩
abbrev yB : ByteArray := jdk_52_method_21_code
theorem d0 : decode yB 0 = .ok (.iconst 0, 1) := by decide +kernel
theorem d1 : decode yB 1 = .ok (.istore 5, 2) := by decide +kernel
theorem d3 : decode yB 3 = .ok (.iload 5, 2) := by decide +kernel
theorem d5 : decode yB 5 = .ok (.iload 4, 2) := by decide +kernel
theorem d7 : decode yB 7 = .ok (.if_icmp (.ge) 37, 3) := by decide +kernel
theorem d10 : decode yB 10 = .ok (.aload_n 0, 1) := by decide +kernel
theorem d11 : decode yB 11 = .ok (.iload_n 1, 1) := by decide +kernel
theorem d12 : decode yB 12 = .ok (.caload, 1) := by decide +kernel
theorem d13 : decode yB 13 = .ok (.istore 6, 2) := by decide +kernel
theorem d15 : decode yB 15 = .ok (.iload 6, 2) := by decide +kernel
theorem d17 : decode yB 17 = .ok (.sipush 255, 3) := by decide +kernel
theorem d20 : decode yB 20 = .ok (.if_icmp (.le) 6, 3) := by decide +kernel
theorem d26 : decode yB 26 = .ok (.aload_n 2, 1) := by decide +kernel
theorem d27 : decode yB 27 = .ok (.iload_n 3, 1) := by decide +kernel
theorem d28 : decode yB 28 = .ok (.iload 6, 2) := by decide +kernel
theorem d30 : decode yB 30 = .ok (.i2b, 1) := by decide +kernel
theorem d31 : decode yB 31 = .ok (.bastore, 1) := by decide +kernel
theorem d32 : decode yB 32 = .ok (.iinc 1 1, 3) := by decide +kernel
theorem d35 : decode yB 35 = .ok (.iinc 3 1, 3) := by decide +kernel
theorem d38 : decode yB 38 = .ok (.iinc 5 1, 3) := by decide +kernel
theorem d41 : decode yB 41 = .ok (.goto (-38), 3) := by decide +kernel
theorem d44 : decode yB 44 = .ok (.iload 4, 2) := by decide +kernel
theorem d46 : decode yB 46 = .ok (.ireturn, 1) := by decide +kernel
def site : List Cond := []
def tab : Cond := tabOf yN yB 7 (some .int) site
def P (b : Addr) (A : Cell) (d : Addr) (B : Cell) (o q len : Nat) (args : Array Value) (s : State) : Prop := args = #[.ref b, .int (Int32.ofNat o), .ref d, .int (Int32.ofNat q), .int (Int32.ofNat len)] ∧ Ch b A s ∧ Arr .byte d B s ∧ b ≠ d ∧ o + len ≤ A.slots.size ∧ q + len ≤ B.slots.size ∧ ∀ i, i < len → ¬ 255 < cv A (o + i)
def E (b : Addr) (A : Cell) (d : Addr) (B : Cell) (o q len : Nat) (r : Option Value) (s u : State) : Prop := r = some (.int (Int32.ofNat len)) ∧ ∃ B', Put d B' s u ∧ Laid B B' q (q + len) (fun j => Value.int (lo8 (cv A (o + (j - q)))))
/-- no char of the range above 255: len; the places written hold each char's low byte -/
theorem law (l : Launch) (b : Addr) (A : Cell) (d : Addr) (B : Cell) (o q len : Nat) : Law l yN 5 5 0 0 yB 7 (some .int) site (P b A d B o q len) (E b A d B o q len) (copyLocs d q len) 0 0 := by
  refine Law.of_walk (plainFor_of_name (by decide +kernel)) (by decide +kernel) (by decide +kernel) (by decide) (fun _ _ h => by rw [h.1]; rfl) (fun _ U U' hal hh h => ⟨h.1, h.2.1.mv hal hh, h.2.2.1.mv hal hh, h.2.2.2⟩) (fun r U U' V V' h1 hal h2 h => ⟨h.1, h.2.elim fun B' q => ⟨B', q.1.mv h1 h2, q.2⟩⟩) ?_
  intro p e s m args below meth c s₁ X0 hexec hbytes hml hret hlk hnm hown hh0 W hP
  obtain ⟨rfl, hA, hB, hne, l1, l2, hp⟩ := hP
  have c1 : Steps p.tables e below (s₁.setTop (entryFrame m #[.ref b, .int (Int32.ofNat o), .ref d, .int (Int32.ofNat q), .int (Int32.ofNat len)] 7)) (s₁.setTop (mkF m 0 #[.val (.ref b), .val (.int (Int32.ofNat o)), .val (.ref d), .val (.int (Int32.ofNat q)), .val (.int (Int32.ofNat len)), .unset, .unset] [])) := entry rfl
  have hA0 := hA.1.mv X0.warmed.alike hh0
  have hB0 := hB.mv X0.warmed.alike hh0
  have a31 := hA.1.2.2.2
  have c2 : Steps p.tables e below (s₁.setTop (entryFrame m #[.ref b, .int (Int32.ofNat o), .ref d, .int (Int32.ofNat q), .int (Int32.ofNat len)] 7)) (s₁.setTop (mkF m 3 #[.val (.ref b), .val (.int (Int32.ofNat o)), .val (.ref d), .val (.int (Int32.ofNat q)), .val (.int (Int32.ofNat len)), .val (.int 0), .unset] [])) := c1.trans (by
    refine iconstV X0.here hexec rfl 0 (hb hbytes d0) (by decide) ?_
    refine XS.istore X0.here hexec rfl (hb hbytes d1) rfl rfl ?_
    exact Steps.refl _)
  have loop : ∀ (r i : Nat), i + r = len → ∀ (z : Slot), (z = .unset ∨ ∃ w, z = .val w ∧ w.category = 1) → ∀ (Tl : State) (Bk : Cell), Stand p l e { frames := 0, locals := 0, cells := 0, slots := 0 } s m #[.ref b, .int (Int32.ofNat o), .ref d, .int (Int32.ofNat q), .int (Int32.ofNat len)] below meth c Tl ([] ++ copyLocs d q i) 0 0 → Put d Bk s₁ Tl → Laid B Bk q (q + i) (fun j => Value.int (lo8 (cv A (o + (j - q))))) →
      Steps p.tables e below (s₁.setTop (entryFrame m #[.ref b, .int (Int32.ofNat o), .ref d, .int (Int32.ofNat q), .int (Int32.ofNat len)] 7)) (Tl.setTop (mkF m 3 #[.val (.ref b), .val (.int (Int32.ofNat (o + i))), .val (.ref d), .val (.int (Int32.ofNat (q + i))), .val (.int (Int32.ofNat len)), .val (.int (Int32.ofNat i)), z] [])) → ∃ (T' : State) (B' : Cell) (z' : Slot), Stand p l e { frames := 0, locals := 0, cells := 0, slots := 0 } s m #[.ref b, .int (Int32.ofNat o), .ref d, .int (Int32.ofNat q), .int (Int32.ofNat len)] below meth c T' ([] ++ copyLocs d q len) 0 0 ∧ Put d B' s₁ T' ∧ Laid B B' q (q + len) (fun j => Value.int (lo8 (cv A (o + (j - q))))) ∧
      Steps p.tables e below (s₁.setTop (entryFrame m #[.ref b, .int (Int32.ofNat o), .ref d, .int (Int32.ofNat q), .int (Int32.ofNat len)] 7)) (T'.setTop (mkF m 3 #[.val (.ref b), .val (.int (Int32.ofNat (o + len))), .val (.ref d), .val (.int (Int32.ofNat (q + len))), .val (.int (Int32.ofNat len)), .val (.int (Int32.ofNat len)), z'] [])) := by
    intro r
    induction r with
    | zero =>
      intro i hi z hz Tl Bk Xl pl fl cl
      have hil : i = len := by omega
      rw [hil] at Xl fl cl
      exact ⟨Tl, Bk, z, Xl, pl, fl, cl⟩
    | succ r ih =>
      intro i hi z hz Tl Bk Xl pl fl cl
      have all := X0.warmed.alike.symm.trans Xl.warmed.alike
      have hAl := hA0.keep all (pl.other hne hA0.1)
      have hBk := hB0.like all pl.1 fl.1 fl.2.1 fl.2.2.1
      have hlt : q + i < Bk.slots.size := by rw [fl.2.2.1]; omega
      have c3 : Steps p.tables e below (s₁.setTop (entryFrame m #[.ref b, .int (Int32.ofNat o), .ref d, .int (Int32.ofNat q), .int (Int32.ofNat len)] 7)) (Tl.setTop (mkF m 12 #[.val (.ref b), .val (.int (Int32.ofNat (o + i))), .val (.ref d), .val (.int (Int32.ofNat (q + i))), .val (.int (Int32.ofNat len)), .val (.int (Int32.ofNat i)), z] [.int (Int32.ofNat (o + i)), .ref b])) := cl.trans (by
        refine XS.iload Xl.here hexec rfl (hb hbytes d3) rfl ?_
        refine XS.iload Xl.here hexec rfl (hb hbytes d5) rfl ?_
        refine XS.icmpNo Xl.here hexec rfl (hb hbytes d7) rfl (ii_ge_f (lt32 (by omega) (by omega))) ?_
        refine XS.aloadN Xl.here hexec rfl (hb hbytes d10) rfl rfl ?_
        refine XS.iloadN Xl.here hexec rfl (hb hbytes d11) rfl ?_
        exact Steps.refl _)
      have c4 : Steps p.tables e below (s₁.setTop (entryFrame m #[.ref b, .int (Int32.ofNat o), .ref d, .int (Int32.ofNat q), .int (Int32.ofNat len)] 7)) (Tl.setTop (mkF m 13 #[.val (.ref b), .val (.int (Int32.ofNat (o + i))), .val (.ref d), .val (.int (Int32.ofNat (q + i))), .val (.int (Int32.ofNat len)), .val (.int (Int32.ofNat i)), z] [.int (cv A (o + i))])) := c3.trans (by
        refine Xl.aget hexec hAl rfl (hA.get (i := o + i) (by omega)) rfl rfl (hb hbytes d12) ?_
        exact Steps.refl _)
      have c5 : Steps p.tables e below (s₁.setTop (entryFrame m #[.ref b, .int (Int32.ofNat o), .ref d, .int (Int32.ofNat q), .int (Int32.ofNat len)] 7)) (Tl.setTop (mkF m 15 #[.val (.ref b), .val (.int (Int32.ofNat (o + i))), .val (.ref d), .val (.int (Int32.ofNat (q + i))), .val (.int (Int32.ofNat len)), .val (.int (Int32.ofNat i)), .val (.int (cv A (o + i)))] [])) := c4.trans (by
        refine XS.istoreS Xl.here hexec rfl (hb hbytes d13) rfl rfl hz ?_
        exact Steps.refl _)
      have c6 : Steps p.tables e below (s₁.setTop (entryFrame m #[.ref b, .int (Int32.ofNat o), .ref d, .int (Int32.ofNat q), .int (Int32.ofNat len)] 7)) (Tl.setTop (mkF m 31 #[.val (.ref b), .val (.int (Int32.ofNat (o + i))), .val (.ref d), .val (.int (Int32.ofNat (q + i))), .val (.int (Int32.ofNat len)), .val (.int (Int32.ofNat i)), .val (.int (cv A (o + i)))] [.int (lo8 (cv A (o + i))), .int (Int32.ofNat (q + i)), .ref d])) := c5.trans (by
        refine XS.iload Xl.here hexec rfl (hb hbytes d15) rfl ?_
        refine sipushV Xl.here hexec rfl 255 (hb hbytes d17) (by decide) ?_
        refine XS.icmpYes Xl.here hexec rfl (pc0 := 20) rfl (hb hbytes d20) rfl (ii_le_t (hp i (by omega))) (by decide) rfl ?_
        refine XS.aloadN Xl.here hexec rfl (hb hbytes d26) rfl rfl ?_
        refine XS.iloadN Xl.here hexec rfl (hb hbytes d27) rfl ?_
        refine XS.iload Xl.here hexec rfl (hb hbytes d28) rfl ?_
        refine i2b Xl.here hexec rfl (hb hbytes d30) rfl ?_
        exact Steps.refl _)
      obtain ⟨T7, X7, p7, st7⟩ := Xl.aput hexec hBk rfl hlt rfl (fits_lo8 (cv A (o + i))) (g := (mkF m 31 #[.val (.ref b), .val (.int (Int32.ofNat (o + i))), .val (.ref d), .val (.int (Int32.ofNat (q + i))), .val (.int (Int32.ofNat len)), .val (.int (Int32.ofNat i)), .val (.int (cv A (o + i)))] [.int (lo8 (cv A (o + i))), .int (Int32.ofNat (q + i)), .ref d])) rfl (rest := []) rfl (hb hbytes d31)
      have c8 : Steps p.tables e below (s₁.setTop (entryFrame m #[.ref b, .int (Int32.ofNat o), .ref d, .int (Int32.ofNat q), .int (Int32.ofNat len)] 7)) (T7.setTop (mkF m 32 #[.val (.ref b), .val (.int (Int32.ofNat (o + i))), .val (.ref d), .val (.int (Int32.ofNat (q + i))), .val (.int (Int32.ofNat len)), .val (.int (Int32.ofNat i)), .val (.int (cv A (o + i)))] [])) := c6.trans (st7 _ (Steps.refl _))
      have c9 : Steps p.tables e below (s₁.setTop (entryFrame m #[.ref b, .int (Int32.ofNat o), .ref d, .int (Int32.ofNat q), .int (Int32.ofNat len)] 7)) (T7.setTop (mkF m 3 #[.val (.ref b), .val (.int (Int32.ofNat (o + i) + 1)), .val (.ref d), .val (.int (Int32.ofNat (q + i) + 1)), .val (.int (Int32.ofNat len)), .val (.int (Int32.ofNat i + 1)), .val (.int (cv A (o + i)))] [])) := c8.trans (by
        refine iincV X7.here hexec rfl 1 (hb hbytes d32) (by decide) rfl rfl ?_
        refine iincV X7.here hexec rfl 1 (hb hbytes d35) (by decide) rfl rfl ?_
        refine iincV X7.here hexec rfl 1 (hb hbytes d38) (by decide) rfl rfl ?_
        refine XS.goto X7.here hexec rfl (pc0 := 41) rfl (hb hbytes d41) (by decide) rfl ?_
        exact Steps.refl _)
      have c10 : Steps p.tables e below (s₁.setTop (entryFrame m #[.ref b, .int (Int32.ofNat o), .ref d, .int (Int32.ofNat q), .int (Int32.ofNat len)] 7)) (T7.setTop (mkF m 3 #[.val (.ref b), .val (.int (Int32.ofNat (o + (i + 1)))), .val (.ref d), .val (.int (Int32.ofNat (q + (i + 1)))), .val (.int (Int32.ofNat len)), .val (.int (Int32.ofNat (i + 1))), .val (.int (cv A (o + i)))] [])) := by
        have := c9
        rw [succ32, succ32, succ32] at this
        exact this
      exact ih (i + 1) (by omega) _ (Or.inr ⟨_, rfl, rfl⟩) T7 _ (by rw [copyLocs_step, ← List.append_assoc]; exact X7) (pl.trans p7) (fl.step (by omega) hlt (by simp)) c10
  obtain ⟨T9, B9, z9, X9, p9, f9, g9⟩ := loop len 0 (by omega) .unset (Or.inl rfl) s₁ B (by simpa [copyLocs] using X0) ⟨hB0.1, fun _ _ => rfl, rfl⟩ (Laid.zero _ _ _) c2
  have c11 : Steps p.tables e below (s₁.setTop (entryFrame m #[.ref b, .int (Int32.ofNat o), .ref d, .int (Int32.ofNat q), .int (Int32.ofNat len)] 7)) (T9.setTop (mkF m 46 #[.val (.ref b), .val (.int (Int32.ofNat (o + len))), .val (.ref d), .val (.int (Int32.ofNat (q + len))), .val (.int (Int32.ofNat len)), .val (.int (Int32.ofNat len)), z9] [.int (Int32.ofNat len)])) := g9.trans (by
    refine XS.iload X9.here hexec rfl (hb hbytes d3) rfl ?_
    refine XS.iload X9.here hexec rfl (hb hbytes d5) rfl ?_
    refine XS.icmpYes X9.here hexec rfl (pc0 := 7) rfl (hb hbytes d7) rfl (ii_ge_t (nlt32 (by omega) (Nat.le_refl _))) (by decide) rfl ?_
    refine XS.iload X9.here hexec rfl (hb hbytes d44) rfl ?_
    exact Steps.refl _)
  exact ⟨T9, some (.int (Int32.ofNat len)), _, _, _, X9, by simp, rfl, rfl, (fun h => by cases h), ⟨rfl, B9, p9.from hh0, f9⟩, fun fs hl => c11.trans (X9.ireturnOut hexec hret rfl (Or.inl rfl) (hb hbytes d46) hl)⟩
end Cmp5
namespace Cmp3
def yN : MethodName := ⟨"java/lang/StringUTF16", "compress", "([CII)[B"⟩
abbrev yB : ByteArray := jdk_52_method_16_code
theorem d0 : decode yB 0 = .ok (.iload_n 2, 1) := by decide +kernel
theorem d1 : decode yB 1 = .ok (.newarray .byte, 2) := by decide +kernel
theorem d3 : decode yB 3 = .ok (.astore_n 3, 1) := by decide +kernel
theorem d4 : decode yB 4 = .ok (.aload_n 0, 1) := by decide +kernel
theorem d5 : decode yB 5 = .ok (.iload_n 1, 1) := by decide +kernel
theorem d6 : decode yB 6 = .ok (.aload_n 3, 1) := by decide +kernel
theorem d7 : decode yB 7 = .ok (.iconst 0, 1) := by decide +kernel
theorem d8 : decode yB 8 = .ok (.iload_n 2, 1) := by decide +kernel
theorem d9 : decode yB 9 = .ok (.invokestatic 115, 3) := by decide +kernel
theorem d12 : decode yB 12 = .ok (.istore 4, 2) := by decide +kernel
theorem d14 : decode yB 14 = .ok (.iload 4, 2) := by decide +kernel
theorem d16 : decode yB 16 = .ok (.iload_n 2, 1) := by decide +kernel
theorem d17 : decode yB 17 = .ok (.if_icmp (.eq) 40, 3) := by decide +kernel
theorem d57 : decode yB 57 = .ok (.aload_n 3, 1) := by decide +kernel
theorem d58 : decode yB 58 = .ok (.areturn, 1) := by decide +kernel
def site : List Cond := [.arrayClass .byte, Cmp5.tab] ++ staticW U16 115 Cmp5.yN
def tab : Cond := tabOf yN yB 6 (some (.array .byte)) site
def P (b : Addr) (A : Cell) (o len : Nat) (args : Array Value) (s : State) : Prop := args = #[.ref b, .int (Int32.ofNat o), .int (Int32.ofNat len)] ∧ Ch b A s ∧ o + len ≤ A.slots.size ∧ len ≤ 536870912 ∧ ∀ i, i < len → ¬ 255 < cv A (o + i)
def E (b : Addr) (A : Cell) (o len : Nat) (r : Option Value) (s u : State) : Prop := NewArr .byte "[B" len (fun j => .int (lo8 (cv A (o + j)))) r s u ∧ u.heap.size = s.heap.size + 1
/-- no char of the range above 255: a new byte[] of their low bytes -/
theorem law (l : Launch) (b : Addr) (A : Cell) (o len : Nat) : Law l yN 3 3 1 18 yB 6 (some (.array .byte)) site (P b A o len) (E b A o len) [] 1 len := by
  refine Law.of_walk (plainFor_of_name (by decide +kernel)) (by decide +kernel) (by decide +kernel) (by decide) (fun _ _ h => by rw [h.1]; rfl) (fun _ U U' hal hh h => ⟨h.1, h.2.1.mv hal hh, h.2.2⟩) (fun r U U' V V' h1 hal h2 h => ⟨NewArr.mv r U U' V V' h1 hal h2 h.1, by rw [h1, h2]; exact h.2⟩) ?_
  intro p e s m args below meth c s₁ X0 hexec hbytes hml hret hlk hnm hown hh0 W hP
  obtain ⟨rfl, hA, l1, l2, hp⟩ := hP
  have a31 := hA.1.2.2.2
  have c1 : Steps p.tables e below (s₁.setTop (entryFrame m #[.ref b, .int (Int32.ofNat o), .int (Int32.ofNat len)] 6)) (s₁.setTop (mkF m 0 #[.val (.ref b), .val (.int (Int32.ofNat o)), .val (.int (Int32.ofNat len)), .unset, .unset, .unset] [])) := entry rfl
  have c2 : Steps p.tables e below (s₁.setTop (entryFrame m #[.ref b, .int (Int32.ofNat o), .int (Int32.ofNat len)] 6)) (s₁.setTop (mkF m 1 #[.val (.ref b), .val (.int (Int32.ofNat o)), .val (.int (Int32.ofNat len)), .unset, .unset, .unset] [.int (Int32.ofNat len)])) := c1.trans (by
    refine XS.iloadN X0.here hexec rfl (hb hbytes d0) rfl ?_
    exact Steps.refl _)
  obtain ⟨T3, B3, X3, ba3, bs3, bv3, bh3, bf3, st3⟩ := X0.anew hexec (atype := .byte) (wk W (.arrayClass .byte)) rfl (by show len * 1 ≤ _; omega) (by omega) (g := (mkF m 1 #[.val (.ref b), .val (.int (Int32.ofNat o)), .val (.int (Int32.ofNat len)), .unset, .unset, .unset] [.int (Int32.ofNat len)])) rfl (hb hbytes d1) (rest := []) rfl (Nat.le_refl _) (by show 0 + len ≤ len; omega)
  rw [hh0] at ba3 st3
  have kp3 : XT.Kept s T3 := (XT.Kept.of_eq hh0).push bh3
  have hA3 := hA.keep X3.warmed.alike (kp3 _ _ hA.1.1)
  have hne : b ≠ s.heap.size := hA.1.ne
  have c4 : Steps p.tables e below (s₁.setTop (entryFrame m #[.ref b, .int (Int32.ofNat o), .int (Int32.ofNat len)] 6)) (T3.setTop (mkF m 3 #[.val (.ref b), .val (.int (Int32.ofNat o)), .val (.int (Int32.ofNat len)), .unset, .unset, .unset] [.ref s.heap.size])) := c2.trans (st3 _ (Steps.refl _))
  have c5 : Steps p.tables e below (s₁.setTop (entryFrame m #[.ref b, .int (Int32.ofNat o), .int (Int32.ofNat len)] 6)) (T3.setTop (mkF m 9 #[.val (.ref b), .val (.int (Int32.ofNat o)), .val (.int (Int32.ofNat len)), .val (.ref s.heap.size), .unset, .unset] [.int (Int32.ofNat len), .int 0, .ref s.heap.size, .int (Int32.ofNat o), .ref b])) := c4.trans (by
    refine XS.astoreN X3.here hexec rfl (hb hbytes d3) rfl rfl rfl ?_
    refine XS.aloadN X3.here hexec rfl (hb hbytes d4) rfl rfl ?_
    refine XS.iloadN X3.here hexec rfl (hb hbytes d5) rfl ?_
    refine XS.aloadN X3.here hexec rfl (hb hbytes d6) rfl rfl ?_
    refine iconstV X3.here hexec rfl 0 (hb hbytes d7) (by decide) ?_
    refine XS.iloadN X3.here hexec rfl (hb hbytes d8) rfl ?_
    exact Steps.refl _)
  obtain ⟨v6, T6, X6, E6, g6⟩ := X3.callS hexec (Cmp5.law l b A s.heap.size B3 o 0 len) hown (wks W (staticW U16 115 Cmp5.yN)) (wk W Cmp5.tab) (W := 0) (Nat.le_of_ble_eq_true rfl) (Nat.le_of_ble_eq_true rfl) (Nat.le_refl _) (by show 0 + len + 0 ≤ len; omega) (g := (mkF m 9 #[.val (.ref b), .val (.int (Int32.ofNat o)), .val (.int (Int32.ofNat len)), .val (.ref s.heap.size), .unset, .unset] [.int (Int32.ofNat len), .int (Int32.ofNat 0), .ref s.heap.size, .int (Int32.ofNat o), .ref b])) rfl (by rw [hml]; rfl) c5 (argsL := [.ref b, .int (Int32.ofNat o), .ref s.heap.size, .int (Int32.ofNat 0), .int (Int32.ofNat len)]) (rest := []) rfl rfl (by show 2 * 0 + 0 ≤ _; decide) (hb hbytes d9) (⟨rfl, hA3, ba3, hne, l1, by rw [bs3]; simp, hp⟩)
  obtain ⟨rfl, B6, p6, f6⟩ := E6
  have c7 : Steps p.tables e below (s₁.setTop (entryFrame m #[.ref b, .int (Int32.ofNat o), .int (Int32.ofNat len)] 6)) (T6.setTop (mkF m 12 #[.val (.ref b), .val (.int (Int32.ofNat o)), .val (.int (Int32.ofNat len)), .val (.ref s.heap.size), .unset, .unset] [.int (Int32.ofNat len)])) := g6
  have c8 : Steps p.tables e below (s₁.setTop (entryFrame m #[.ref b, .int (Int32.ofNat o), .int (Int32.ofNat len)] 6)) (T6.setTop (mkF m 58 #[.val (.ref b), .val (.int (Int32.ofNat o)), .val (.int (Int32.ofNat len)), .val (.ref s.heap.size), .val (.int (Int32.ofNat len)), .unset] [.ref s.heap.size])) := c7.trans (by
    refine XS.istore X6.here hexec rfl (hb hbytes d12) rfl rfl ?_
    refine XS.iload X6.here hexec rfl (hb hbytes d14) rfl ?_
    refine XS.iloadN X6.here hexec rfl (hb hbytes d16) rfl ?_
    refine XS.icmpYes X6.here hexec rfl (pc0 := 17) rfl (hb hbytes d17) rfl (ii_eq_t rfl) (by decide) rfl ?_
    refine XS.aloadN X6.here hexec rfl (hb hbytes d57) rfl rfl ?_
    exact Steps.refl _)
  have X8 := X6.wide (L' := []) (cells' := 1) (slots' := len) (fun x hx hlt => by
    simp only [List.nil_append, copyLocs, List.mem_map, List.mem_range] at hx
    obtain ⟨i, -, rfl⟩ := hx
    exact absurd hlt (Nat.lt_irrefl _)) (Nat.le_refl _) (by omega)
  exact ⟨T6, some (.ref s.heap.size), _, _, _, X8, rfl, rfl, rfl, (fun h => by cases h), ⟨⟨rfl, B6, ba3.like (X3.warmed.alike.symm.trans X6.warmed.alike) p6.1 f6.1 f6.2.1 f6.2.2.1, f6.2.1.trans bv3, by rw [X6.warmed.alike.findClass, f6.1]; exact bf3, by rw [f6.2.2.1, bs3]; simp, fun j hj => by rw [f6.2.2.2 j, if_pos (by omega)]; rfl, kp3.put p6 (Nat.le_refl _)⟩, by rw [p6.2.2, bh3, hh0]; simp⟩, fun fs hl => c8.trans (X8.areturnOut hexec rfl hret rfl (hb hbytes d58) hl)⟩
end Cmp3
namespace CodL
def yN : MethodName := ⟨"java/lang/StringUTF16", "coderFromArrayLen", "([BI)B"⟩
abbrev yB : ByteArray := jdk_52_method_15_code
theorem d0 : decode yB 0 = .ok (.iload_n 1, 1) := by decide +kernel
theorem d1 : decode yB 1 = .ok (.aload_n 0, 1) := by decide +kernel
theorem d2 : decode yB 2 = .ok (.arraylength, 1) := by decide +kernel
theorem d3 : decode yB 3 = .ok (.isub, 1) := by decide +kernel
theorem d4 : decode yB 4 = .ok (.bipush 31, 2) := by decide +kernel
theorem d6 : decode yB 6 = .ok (.iushr, 1) := by decide +kernel
theorem d7 : decode yB 7 = .ok (.i2b, 1) := by decide +kernel
theorem d8 : decode yB 8 = .ok (.ireturn, 1) := by decide +kernel
def site : List Cond := []
def tab : Cond := tabOf yN yB 2 (some .byte) site
def P (d : Addr) (B : Cell) (args : Array Value) (s : State) : Prop := args = #[.ref d, .int (Int32.ofNat B.slots.size)] ∧ Arr .byte d B s
def E (r : Option Value) (s u : State) : Prop := XT.PureE (some (.int 0)) r s u
/-- an array as long as the number of chars: LATIN1 -/
theorem law (l : Launch) (d : Addr) (B : Cell) : Law l yN 2 2 0 0 yB 2 (some .byte) site (P d B) E [] 0 0 := by
  refine Law.of_walk (plainFor_of_name (by decide +kernel)) (by decide +kernel) (by decide +kernel) (by decide) (fun _ _ h => by rw [h.1]; rfl) (fun _ U U' hal hh h => ⟨h.1, h.2.mv hal hh⟩) (fun r U U' V V' h1 hal h2 h => XT.PureE.mv r U U' V V' h1 hal h2 h) ?_
  intro p e s m args below meth c s₁ X0 hexec hbytes hml hret hlk hnm hown hh0 W hP
  obtain ⟨rfl, hB⟩ := hP
  have hB0 := hB.mv X0.warmed.alike hh0
  have c1 : Steps p.tables e below (s₁.setTop (entryFrame m #[.ref d, .int (Int32.ofNat B.slots.size)] 2)) (s₁.setTop (mkF m 0 #[.val (.ref d), .val (.int (Int32.ofNat B.slots.size))] [])) := entry rfl
  have c2 : Steps p.tables e below (s₁.setTop (entryFrame m #[.ref d, .int (Int32.ofNat B.slots.size)] 2)) (s₁.setTop (mkF m 2 #[.val (.ref d), .val (.int (Int32.ofNat B.slots.size))] [.ref d, .int (Int32.ofNat B.slots.size)])) := c1.trans (by
    refine XS.iloadN X0.here hexec rfl (hb hbytes d0) rfl ?_
    refine XS.aloadN X0.here hexec rfl (hb hbytes d1) rfl rfl ?_
    exact Steps.refl _)
  have c3 : Steps p.tables e below (s₁.setTop (entryFrame m #[.ref d, .int (Int32.ofNat B.slots.size)] 2)) (s₁.setTop (mkF m 8 #[.val (.ref d), .val (.int (Int32.ofNat B.slots.size))] [.int (lo8 (ushr (Int32.ofNat B.slots.size - Int32.ofNat B.slots.size) 31))])) := c2.trans (by
    refine X0.alen hexec hB0 rfl rfl (hb hbytes d2) ?_
    refine XS.isub X0.here hexec rfl (hb hbytes d3) rfl ?_
    refine bipushV X0.here hexec rfl 31 (hb hbytes d4) (by decide) ?_
    refine iushr X0.here hexec rfl (hb hbytes d6) rfl ?_
    refine i2b X0.here hexec rfl (hb hbytes d7) rfl ?_
    exact Steps.refl _)
  have e0 : lo8 (ushr (Int32.ofNat B.slots.size - Int32.ofNat B.slots.size) 31) = 0 := by rw [Int32.sub_self]; decide
  rw [e0] at c3
  exact ⟨s₁, some (.int 0), _, _, _, X0, rfl, rfl, rfl, (fun h => by cases h), ⟨rfl, hh0⟩, fun fs hl => c3.trans (X0.ireturnOut hexec hret rfl (Or.inr (Or.inr (Or.inl rfl))) (hb hbytes d8) hl)⟩
end CodL
/-- the String at a is Latin-1 over a new byte[] (the heap's one new cell): the low bytes of the len chars of A from o on; every cell but a is kept -/
def Got (a : Addr) (D : Cell) (fV fC : Field) (A : Cell) (o len : Nat) (r : Option Value) (s u : State) : Prop := r = none ∧ ∃ D' V : Cell, Blank "java/lang/String" a D' u ∧ Same D D' [fV.slot, fC.slot] ∧ D'.slots[fV.slot]? = some (.ref s.heap.size) ∧ D'.slots[fC.slot]? = some (.int 0) ∧ Arr .byte s.heap.size V u ∧ V.vm = .none ∧ u.vm.findClass "[B" = some V.cls ∧ V.slots.size = len ∧ (∀ j, j < len → V.slots[j]? = some (.int (lo8 (cv A (o + j))))) ∧ (∀ (y : Addr) (c : Cell), y ≠ a → s.heap[y]? = some c → u.heap[y]? = some c) ∧ u.heap.size = s.heap.size + 1
theorem Got.mv {a : Addr} {D A : Cell} {fV fC : Field} {o len : Nat} : ∀ r (U U' V V' : State), U'.heap = U.heap → V.vm.Alike V'.vm → V'.heap = V.heap → Got a D fV fC A o len r U V → Got a D fV fC A o len r U' V' :=
  fun r U U' V V' h1 hal h2 ⟨e0, D', X, a1, a2, a3, a4, a5, a6, a7, a8, a9, a10, a11⟩ => ⟨e0, D', X, a1.mv hal h2, a2, by rw [h1]; exact a3, a4, by rw [h1]; exact a5.mv hal h2, a6, by rw [hal.findClass]; exact a7, a8, a9, by rw [h1, h2]; exact a10, by rw [h1, h2]; exact a11⟩
namespace New4
def yN : MethodName := ⟨"java/lang/String", "<init>", "([CIILjava/lang/Void;)V"⟩
abbrev yB : ByteArray := jdk_42_method_149_code
theorem d0 : decode yB 0 = .ok (.aload_n 0, 1) := by decide +kernel
theorem d1 : decode yB 1 = .ok (.invokespecial 1, 3) := by decide +kernel
theorem d4 : decode yB 4 = .ok (.iload_n 3, 1) := by decide +kernel
theorem d5 : decode yB 5 = .ok (.ifCond (.ne) 22, 3) := by decide +kernel
theorem d27 : decode yB 27 = .ok (.getstatic 38, 3) := by decide +kernel
theorem d30 : decode yB 30 = .ok (.ifCond (.eq) 28, 3) := by decide +kernel
theorem d33 : decode yB 33 = .ok (.aload_n 1, 1) := by decide +kernel
theorem d34 : decode yB 34 = .ok (.iload_n 2, 1) := by decide +kernel
theorem d35 : decode yB 35 = .ok (.iload_n 3, 1) := by decide +kernel
theorem d36 : decode yB 36 = .ok (.invokestatic 177, 3) := by decide +kernel
theorem d39 : decode yB 39 = .ok (.astore 5, 2) := by decide +kernel
theorem d41 : decode yB 41 = .ok (.aload_n 0, 1) := by decide +kernel
theorem d42 : decode yB 42 = .ok (.aload 5, 2) := by decide +kernel
theorem d44 : decode yB 44 = .ok (.iload_n 3, 1) := by decide +kernel
theorem d45 : decode yB 45 = .ok (.invokestatic 47, 3) := by decide +kernel
theorem d48 : decode yB 48 = .ok (.putfield 15, 3) := by decide +kernel
theorem d51 : decode yB 51 = .ok (.aload_n 0, 1) := by decide +kernel
theorem d52 : decode yB 52 = .ok (.aload 5, 2) := by decide +kernel
theorem d54 : decode yB 54 = .ok (.putfield 9, 3) := by decide +kernel
theorem d57 : decode yB 57 = .ok (.return_, 1) := by decide +kernel
def site : List Cond := [.fieldLink "java/lang/String" 38 "java/lang/String" "COMPACT_STRINGS" "Z", Cmp3.tab, CodL.tab, .laysFinal "java/lang/String" "java/lang/String" "value" "[B", .fieldLink "java/lang/String" 9 "java/lang/String" "value" "[B", .laysFinal "java/lang/String" "java/lang/String" "coder" "B", .fieldLink "java/lang/String" 15 "java/lang/String" "coder" "B"] ++ objW "java/lang/String" 1 ++ staticW "java/lang/String" 177 Cmp3.yN ++ staticW "java/lang/String" 47 CodL.yN
def tab : Cond := tabOf yN yB 6 none site
def P (a : Addr) (D : Cell) (fV fC : Field) (b : Addr) (A : Cell) (z : Int32) (o len : Nat) (args : Array Value) (s : State) : Prop := args = #[.ref a, .ref b, .int (Int32.ofNat o), .int (Int32.ofNat len), .null] ∧ Blank "java/lang/String" a D s ∧ Found "java/lang/String" "value" "[B" fV s ∧ Found "java/lang/String" "coder" "B" fC s ∧ Ch b A s ∧ StaticIs s "java/lang/String" "COMPACT_STRINGS" "Z" (.int z) ∧ ¬ z = 0 ∧ 0 < len ∧ o + len ≤ A.slots.size ∧ len ≤ 536870912 ∧ ∀ i, i < len → ¬ 255 < cv A (o + i)
def E (a : Addr) (D : Cell) (fV fC : Field) (A : Cell) (o len : Nat) (r : Option Value) (s u : State) : Prop := Got a D fV fC A o len r s u
/-- len > 0, no char of the range above 255: a Latin-1 String of their low bytes -/
theorem law (l : Launch) (a : Addr) (D : Cell) (fV fC : Field) (b : Addr) (A : Cell) (z : Int32) (o len : Nat) : Law l yN 5 4 2 35 yB 6 none site (P a D fV fC b A z o len) (E a D fV fC A o len) [⟨a, fC.slot⟩, ⟨a, fV.slot⟩] 1 len := by
  refine Law.of_walk (plainFor_of_name (by decide +kernel)) (by decide +kernel) (by decide +kernel) (by decide) (fun _ _ h => by rw [h.1]; rfl) (fun _ U U' hal hh h => ⟨h.1, h.2.1.mv hal hh, h.2.2.1.al hal, h.2.2.2.1.al hal, h.2.2.2.2.1.mv hal hh, h.2.2.2.2.2.1.there hal hh, h.2.2.2.2.2.2⟩) (fun r U U' V V' h1 hal h2 h => Got.mv r U U' V V' h1 hal h2 h) ?_
  intro p e s m args below meth c s₁ X0 hexec hbytes hml hret hlk hnm hown hh0 W hP
  obtain ⟨rfl, hB, f1, f2, hA, s1, hz, l0, l1, l2, hp⟩ := hP
  have a31 := hA.1.2.2.2
  have c1 : Steps p.tables e below (s₁.setTop (entryFrame m #[.ref a, .ref b, .int (Int32.ofNat o), .int (Int32.ofNat len), .null] 6)) (s₁.setTop (mkF m 0 #[.val (.ref a), .val (.ref b), .val (.int (Int32.ofNat o)), .val (.int (Int32.ofNat len)), .val .null, .unset] [])) := entry rfl
  have c2 : Steps p.tables e below (s₁.setTop (entryFrame m #[.ref a, .ref b, .int (Int32.ofNat o), .int (Int32.ofNat len), .null] 6)) (s₁.setTop (mkF m 1 #[.val (.ref a), .val (.ref b), .val (.int (Int32.ofNat o)), .val (.int (Int32.ofNat len)), .val .null, .unset] [.ref a])) := c1.trans (by
    refine XS.aloadN X0.here hexec rfl (hb hbytes d0) rfl rfl ?_
    exact Steps.refl _)
  obtain ⟨T3, X3, q3, st3⟩ := X0.oinit hexec hown (wks W (objW "java/lang/String" 1)) (g := (mkF m 1 #[.val (.ref a), .val (.ref b), .val (.int (Int32.ofNat o)), .val (.int (Int32.ofNat len)), .val .null, .unset] [.ref a])) rfl (by rw [hml]; rfl) (rest := []) rfl (hb hbytes d1) (W := 0) (by show 2 * 0 + 0 ≤ _; decide) (Nat.le_of_ble_eq_true rfl) (Nat.le_of_ble_eq_true rfl)
  have hh3 := q3.trans hh0
  have c4 : Steps p.tables e below (s₁.setTop (entryFrame m #[.ref a, .ref b, .int (Int32.ofNat o), .int (Int32.ofNat len), .null] 6)) (T3.setTop (mkF m 27 #[.val (.ref a), .val (.ref b), .val (.int (Int32.ofNat o)), .val (.int (Int32.ofNat len)), .val .null, .unset] [])) := (c2.trans (st3 _ (Steps.refl _))).trans (by
    refine XS.iloadN X3.here hexec rfl (hb hbytes d4) rfl ?_
    refine XS.ifYes X3.here hexec rfl (pc0 := 5) rfl (hb hbytes d5) rfl (i0_ne_t (nz32 (by omega) l0)) (by decide) rfl ?_
    exact Steps.refl _)
  obtain ⟨T5, X5, q5, st5⟩ := X3.sget hexec hown (wk W (.fieldLink "java/lang/String" 38 "java/lang/String" "COMPACT_STRINGS" "Z")) s1 (fun _ _ h => by rw [hh3]; exact h) (g := (mkF m 27 #[.val (.ref a), .val (.ref b), .val (.int (Int32.ofNat o)), .val (.int (Int32.ofNat len)), .val .null, .unset] [])) rfl (hb hbytes d27)
  have hh5 := q5.trans hh3
  have c6 : Steps p.tables e below (s₁.setTop (entryFrame m #[.ref a, .ref b, .int (Int32.ofNat o), .int (Int32.ofNat len), .null] 6)) (T5.setTop (mkF m 30 #[.val (.ref a), .val (.ref b), .val (.int (Int32.ofNat o)), .val (.int (Int32.ofNat len)), .val .null, .unset] [.int z])) := c4.trans (st5 _ (Steps.refl _))
  have c7 : Steps p.tables e below (s₁.setTop (entryFrame m #[.ref a, .ref b, .int (Int32.ofNat o), .int (Int32.ofNat len), .null] 6)) (T5.setTop (mkF m 36 #[.val (.ref a), .val (.ref b), .val (.int (Int32.ofNat o)), .val (.int (Int32.ofNat len)), .val .null, .unset] [.int (Int32.ofNat len), .int (Int32.ofNat o), .ref b])) := c6.trans (by
    refine XS.ifNo X5.here hexec rfl (hb hbytes d30) rfl (i0_eq_f hz) ?_
    refine XS.aloadN X5.here hexec rfl (hb hbytes d33) rfl rfl ?_
    refine XS.iloadN X5.here hexec rfl (hb hbytes d34) rfl ?_
    refine XS.iloadN X5.here hexec rfl (hb hbytes d35) rfl ?_
    exact Steps.refl _)
  obtain ⟨v8, T8, X8, E8, g8⟩ := X5.callS hexec (Cmp3.law l b A o len) hown (wks W (staticW "java/lang/String" 177 Cmp3.yN)) (wk W Cmp3.tab) (W := 0) (Nat.le_of_ble_eq_true rfl) (Nat.le_of_ble_eq_true rfl) (Nat.le_refl _) (by show 0 + len ≤ len; omega) (g := (mkF m 36 #[.val (.ref a), .val (.ref b), .val (.int (Int32.ofNat o)), .val (.int (Int32.ofNat len)), .val .null, .unset] [.int (Int32.ofNat len), .int (Int32.ofNat o), .ref b])) rfl (by rw [hml]; rfl) c7 (argsL := [.ref b, .int (Int32.ofNat o), .int (Int32.ofNat len)]) (rest := []) rfl rfl (by show 2 * 0 + 0 ≤ _; decide) (hb hbytes d36) (⟨rfl, hA.mv X5.warmed.alike hh5, l1, l2, hp⟩)
  obtain ⟨e8, z8⟩ := E8
  obtain ⟨rfl, N, n1, n2, n3, n4, n5, n6⟩ := NewArr.mv _ T5 s _ _ hh5.symm (Vm.Alike.refl _) rfl e8
  rw [hh5] at z8
  have hB1 := hB.keep X8.warmed.alike (n6 _ _ hB.1)
  have hne : s.heap.size ≠ a := (Nat.ne_of_lt (Array.getElem?_eq_some_iff.mp hB.1).1).symm
  have c9 : Steps p.tables e below (s₁.setTop (entryFrame m #[.ref a, .ref b, .int (Int32.ofNat o), .int (Int32.ofNat len), .null] 6)) (T8.setTop (mkF m 39 #[.val (.ref a), .val (.ref b), .val (.int (Int32.ofNat o)), .val (.int (Int32.ofNat len)), .val .null, .unset] [.ref s.heap.size])) := g8
  have c10 : Steps p.tables e below (s₁.setTop (entryFrame m #[.ref a, .ref b, .int (Int32.ofNat o), .int (Int32.ofNat len), .null] 6)) (T8.setTop (mkF m 45 #[.val (.ref a), .val (.ref b), .val (.int (Int32.ofNat o)), .val (.int (Int32.ofNat len)), .val .null, .val (.ref s.heap.size)] [.int (Int32.ofNat N.slots.size), .ref s.heap.size, .ref a])) := by
    have hc : Steps p.tables e below (s₁.setTop (entryFrame m #[.ref a, .ref b, .int (Int32.ofNat o), .int (Int32.ofNat len), .null] 6)) (T8.setTop (mkF m 45 #[.val (.ref a), .val (.ref b), .val (.int (Int32.ofNat o)), .val (.int (Int32.ofNat len)), .val .null, .val (.ref s.heap.size)] [.int (Int32.ofNat len), .ref s.heap.size, .ref a])) := c9.trans (by
      refine XS.astore X8.here hexec rfl (hb hbytes d39) rfl rfl rfl ?_
      refine XS.aloadN X8.here hexec rfl (hb hbytes d41) rfl rfl ?_
      refine XS.aload X8.here hexec rfl (hb hbytes d42) rfl rfl ?_
      refine XS.iloadN X8.here hexec rfl (hb hbytes d44) rfl ?_
      exact Steps.refl _)
    rw [n4]; exact hc
  obtain ⟨v11, T11, X11, E11, g11⟩ := X8.callS hexec (CodL.law l s.heap.size N) hown (wks W (staticW "java/lang/String" 47 CodL.yN)) (wk W CodL.tab) (W := 1) (Nat.le_of_ble_eq_true rfl) (Nat.le_of_ble_eq_true rfl) (Nat.le_refl _) (by show 0 + len + 0 ≤ len; omega) (g := (mkF m 45 #[.val (.ref a), .val (.ref b), .val (.int (Int32.ofNat o)), .val (.int (Int32.ofNat len)), .val .null, .val (.ref s.heap.size)] [.int (Int32.ofNat N.slots.size), .ref s.heap.size, .ref a])) rfl (by rw [hml]; rfl) c10 (argsL := [.ref s.heap.size, .int (Int32.ofNat N.slots.size)]) (rest := [.ref a]) rfl rfl (by show 2 * 0 + (1 + 0) ≤ _; decide) (hb hbytes d45) (⟨rfl, n1⟩)
  obtain ⟨rfl, q11⟩ := E11
  have hB11 := hB1.mv (X8.warmed.alike.symm.trans X11.warmed.alike) q11
  have c12 : Steps p.tables e below (s₁.setTop (entryFrame m #[.ref a, .ref b, .int (Int32.ofNat o), .int (Int32.ofNat len), .null] 6)) (T11.setTop (mkF m 48 #[.val (.ref a), .val (.ref b), .val (.int (Int32.ofNat o)), .val (.int (Int32.ofNat len)), .val .null, .val (.ref s.heap.size)] [.int 0, .ref a])) := g11
  obtain ⟨T13, X13, p13, bl13, sl13, st13⟩ := X11.finit hexec hown (wk W (.fieldLink "java/lang/String" 15 "java/lang/String" "coder" "B")) (Or.inr ⟨_, (wk W (.laysFinal "java/lang/String" "java/lang/String" "coder" "B"))⟩) (Or.inl ⟨rfl, hnm⟩) f2 (Or.inl rfl) hB11 (t := .byte) (by decide +kernel) rfl (g := (mkF m 48 #[.val (.ref a), .val (.ref b), .val (.int (Int32.ofNat o)), .val (.int (Int32.ofNat len)), .val .null, .val (.ref s.heap.size)] [.int 0, .ref a])) rfl (rest := []) rfl (hb hbytes d48)
  have c14 : Steps p.tables e below (s₁.setTop (entryFrame m #[.ref a, .ref b, .int (Int32.ofNat o), .int (Int32.ofNat len), .null] 6)) (T13.setTop (mkF m 54 #[.val (.ref a), .val (.ref b), .val (.int (Int32.ofNat o)), .val (.int (Int32.ofNat len)), .val .null, .val (.ref s.heap.size)] [.ref s.heap.size, .ref a])) := (c12.trans (st13 _ (Steps.refl _))).trans (by
    refine XS.aloadN X13.here hexec rfl (hb hbytes d51) rfl rfl ?_
    refine XS.aload X13.here hexec rfl (hb hbytes d52) rfl rfl ?_
    exact Steps.refl _)
  obtain ⟨T15, X15, p15, bl15, sl15, st15⟩ := X13.finit hexec hown (wk W (.fieldLink "java/lang/String" 9 "java/lang/String" "value" "[B")) (Or.inr ⟨_, (wk W (.laysFinal "java/lang/String" "java/lang/String" "value" "[B"))⟩) (Or.inl ⟨rfl, hnm⟩) f1 (Or.inl rfl) bl13 (t := (.array .byte)) (by decide +kernel) rfl (g := (mkF m 54 #[.val (.ref a), .val (.ref b), .val (.int (Int32.ofNat o)), .val (.int (Int32.ofNat len)), .val .null, .val (.ref s.heap.size)] [.ref s.heap.size, .ref a])) rfl (rest := []) rfl (hb hbytes d54)
  have c16 : Steps p.tables e below (s₁.setTop (entryFrame m #[.ref a, .ref b, .int (Int32.ofNat o), .int (Int32.ofNat len), .null] 6)) (T15.setTop (mkF m 57 #[.val (.ref a), .val (.ref b), .val (.int (Int32.ofNat o)), .val (.int (Int32.ofNat len)), .val .null, .val (.ref s.heap.size)] [])) := c14.trans (st15 _ (Steps.refl _))
  have ap := apart (Or.inr ⟨_, (wk W (.laysFinal "java/lang/String" "java/lang/String" "value" "[B"))⟩) (Or.inr ⟨_, (wk W (.laysFinal "java/lang/String" "java/lang/String" "coder" "B"))⟩) f1 f2 (t₁ := .array .byte) (t₂ := .byte) (by decide +kernel) (by decide +kernel) (by decide)
  have al := X8.warmed.alike.symm.trans X15.warmed.alike
  have n7 : T11.heap[s.heap.size]? = some N := by rw [q11]; exact n1.1
  exact ⟨T15, none, _, _, _, X15, by simp, rfl, by omega, (fun _ => rfl), ⟨rfl, _, N, bl15, ((Same.refl D _).set _ (by simp)).set _ (by simp), sl15, (Cell.slots_setSlot_ne _ ap).trans sl13, n1.keep al (p15.other hne (p13.other hne n7)), n2, by rw [al.findClass]; exact n3, n4, n5, fun y c h1 h2 => p15.other h1 (p13.other h1 (by rw [q11]; exact n6 y c h2)), by rw [p15.2.2, p13.2.2, q11]; exact z8⟩, fun fs hl => c16.trans (X15.returnOut hexec hret (hb hbytes d57) hl)⟩
end New4
namespace New1
def yN : MethodName := ⟨"java/lang/String", "<init>", "([C)V"⟩
abbrev yB : ByteArray := jdk_42_method_3_code
theorem d0 : decode yB 0 = .ok (.aload_n 0, 1) := by decide +kernel
theorem d1 : decode yB 1 = .ok (.aload_n 1, 1) := by decide +kernel
theorem d2 : decode yB 2 = .ok (.iconst 0, 1) := by decide +kernel
theorem d3 : decode yB 3 = .ok (.aload_n 1, 1) := by decide +kernel
theorem d4 : decode yB 4 = .ok (.arraylength, 1) := by decide +kernel
theorem d5 : decode yB 5 = .ok (.aconst_null, 1) := by decide +kernel
theorem d6 : decode yB 6 = .ok (.invokespecial 27, 3) := by decide +kernel
theorem d9 : decode yB 9 = .ok (.return_, 1) := by decide +kernel
def site : List Cond := [New4.tab] ++ initW "java/lang/String" 27 New4.yN
def tab : Cond := tabOf yN yB 2 none site
def P (a : Addr) (D : Cell) (fV fC : Field) (b : Addr) (A : Cell) (z : Int32) (args : Array Value) (s : State) : Prop := args = #[.ref a, .ref b] ∧ Blank "java/lang/String" a D s ∧ Found "java/lang/String" "value" "[B" fV s ∧ Found "java/lang/String" "coder" "B" fC s ∧ Ch b A s ∧ StaticIs s "java/lang/String" "COMPACT_STRINGS" "Z" (.int z) ∧ ¬ z = 0 ∧ 0 < A.slots.size ∧ A.slots.size ≤ 536870912 ∧ ∀ i, i < A.slots.size → ¬ 255 < cv A i
def E (a : Addr) (D : Cell) (fV fC : Field) (A : Cell) (r : Option Value) (s u : State) : Prop := Got a D fV fC A 0 A.slots.size r s u
/-- new String(chars), not empty, no char above 255: a Latin-1 String of their low bytes -/
theorem law (l : Launch) (a : Addr) (D : Cell) (fV fC : Field) (b : Addr) (A : Cell) (z : Int32) : Law l yN 2 1 3 52 yB 2 none site (P a D fV fC b A z) (E a D fV fC A) [⟨a, fC.slot⟩, ⟨a, fV.slot⟩] 1 A.slots.size := by
  refine Law.of_walk (plainFor_of_name (by decide +kernel)) (by decide +kernel) (by decide +kernel) (by decide) (fun _ _ h => by rw [h.1]; rfl) (fun _ U U' hal hh h => ⟨h.1, h.2.1.mv hal hh, h.2.2.1.al hal, h.2.2.2.1.al hal, h.2.2.2.2.1.mv hal hh, h.2.2.2.2.2.1.there hal hh, h.2.2.2.2.2.2⟩) (fun r U U' V V' h1 hal h2 h => Got.mv r U U' V V' h1 hal h2 h) ?_
  intro p e s m args below meth c s₁ X0 hexec hbytes hml hret hlk hnm hown hh0 W hP
  obtain ⟨rfl, hB, f1, f2, hA, s1, hz, l0, l2, hp⟩ := hP
  have c1 : Steps p.tables e below (s₁.setTop (entryFrame m #[.ref a, .ref b] 2)) (s₁.setTop (mkF m 0 #[.val (.ref a), .val (.ref b)] [])) := entry rfl
  have c2 : Steps p.tables e below (s₁.setTop (entryFrame m #[.ref a, .ref b] 2)) (s₁.setTop (mkF m 6 #[.val (.ref a), .val (.ref b)] [.null, .int (Int32.ofNat A.slots.size), .int 0, .ref b, .ref a])) := c1.trans (by
    refine XS.aloadN X0.here hexec rfl (hb hbytes d0) rfl rfl ?_
    refine XS.aloadN X0.here hexec rfl (hb hbytes d1) rfl rfl ?_
    refine iconstV X0.here hexec rfl 0 (hb hbytes d2) (by decide) ?_
    refine XS.aloadN X0.here hexec rfl (hb hbytes d3) rfl rfl ?_
    refine X0.alen hexec (hA.1.mv X0.warmed.alike hh0) rfl rfl (hb hbytes d4) ?_
    refine XS.aconstNull X0.here hexec rfl (hb hbytes d5) ?_
    exact Steps.refl _)
  obtain ⟨v3, T3, X3, E3, g3⟩ := X0.callN hexec (New4.law l a D fV fC b A z 0 A.slots.size) rfl hown (wks W (initW "java/lang/String" 27 New4.yN)) (W New4.tab (by simp only [site, List.mem_cons, List.mem_append, true_or, or_true])) (W := 0) (Nat.le_of_ble_eq_true rfl) (Nat.le_of_ble_eq_true rfl) (Nat.le_refl _) (by show 0 + A.slots.size ≤ A.slots.size; omega) (g := (mkF m 6 #[.val (.ref a), .val (.ref b)] [.null, .int (Int32.ofNat A.slots.size), .int (Int32.ofNat 0), .ref b, .ref a])) rfl (by rw [hml]; rfl) c2 (argsL := [.ref b, .int (Int32.ofNat 0), .int (Int32.ofNat A.slots.size), .null]) (rest := []) rfl rfl (by show 2 * 0 + 0 ≤ _; decide) (hb hbytes d6) (⟨rfl, hB.mv X0.warmed.alike hh0, f1.al X0.warmed.alike, f2.al X0.warmed.alike, hA.mv X0.warmed.alike hh0, s1.there X0.warmed.alike hh0, hz, l0, by omega, l2, fun i hi => by rw [Nat.zero_add]; exact hp i hi⟩)
  have e0 := Got.mv _ s₁ s _ _ hh0.symm (Vm.Alike.refl _) rfl E3
  obtain rfl := e0.1
  have c4 : Steps p.tables e below (s₁.setTop (entryFrame m #[.ref a, .ref b] 2)) (T3.setTop (mkF m 9 #[.val (.ref a), .val (.ref b)] [])) := g3
  exact ⟨T3, none, _, _, _, X3, by simp, rfl, by omega, (fun _ => rfl), e0, fun fs hl => c4.trans (X3.returnOut hexec hret (hb hbytes d9) hl)⟩
theorem pays {l : Launch} {R : Room} {p : Program} {e : Env} {below : List Frame} {s : State} {sargs : Array Value} {len W : Nat} (a : Addr) (D : Cell) (fV fC : Field) (b : Addr) (A : Cell) (z : Int32) (htab : tab.before sargs s = true) (hfr : 4 ≤ R.frames) (hlo : W + 65 ≤ R.locals) :
    Back l R p e below s sargs yN len W (fun A₁ a₁ => A₁.cells + 1 ≤ R.cells ∧ A₁.slots + A.slots.size ≤ R.slots ∧ P a D fV fC b A z a₁ A₁.U) (fun A₁ _ v₁ B₁ => E a D fV fC A v₁ A₁.U B₁.U ∧ B₁.locs = A₁.locs ++ [⟨a, fC.slot⟩, ⟨a, fV.slot⟩] ∧ B₁.cells = A₁.cells + 1 ∧ B₁.slots = A₁.slots + A.slots.size) :=
  (law l a D fV fC b A z).pays htab hfr (by omega)
end New1
/-- the byte, read back as charAt reads it, is the char -/
theorem lo8_mask {x : Int32} (h0 : ¬ x < 0) (h1 : ¬ 255 < x) : lo8 x &&& 255 = x := by
  have t : ∀ k : Fin 256, lo8 (Int32.ofNat k.val) &&& 255 = Int32.ofNat k.val := by decide +kernel
  rw [Int32.lt_iff_toInt_lt] at h0 h1
  have e0 : (0 : Int32).toInt = 0 := rfl
  have e1 : (255 : Int32).toInt = 255 := rfl
  obtain ⟨k, hk⟩ : ∃ k : Nat, x.toInt = k := ⟨x.toInt.toNat, by omega⟩
  have hx : x = Int32.ofNat k := Int32.toInt_inj.mp (by rw [hk, Int32.toInt_ofNat_small (by omega)])
  rw [hx]
  exact t ⟨k, by omega⟩
end StrChars
namespace StrChars.Road
open Jvm Sem ClassFile Op Lib Jvm.Stand Jvm.Free Jvm.Free.XT
open Jvm.Lib.Cold (StaticIs)
abbrev ST : String := "java/lang/String"
/-- every table word that New1's law asks, flat -/
abbrev words : List Jvm.Cond := [.code New1.yN New1.yB 2 none, .initialized ST, .methodLink ST 27 New4.yN, .instanceMethod New4.yN,
  .code New4.yN New4.yB 6 none, .fieldLink ST 38 ST "COMPACT_STRINGS" "Z", .laysFinal ST ST "value" "[B", .fieldLink ST 9 ST "value" "[B", .laysFinal ST ST "coder" "B", .fieldLink ST 15 ST "coder" "B",
  .methodLink ST 1 Lib.objectInit, .instanceMethod Lib.objectInit, .code Lib.objectInit ⟨#[0xb1]⟩ 1 none, .methodLink ST 177 Cmp3.yN, .static Cmp3.yN, .methodLink ST 47 CodL.yN, .static CodL.yN,
  .code Cmp3.yN Cmp3.yB 6 (some (.array .byte)), .initialized U16, .arrayClass .byte, .methodLink U16 115 Cmp5.yN, .static Cmp5.yN, .code Cmp5.yN Cmp5.yB 7 (some .int), .code CodL.yN CodL.yB 2 (some .byte)]
theorem tab_of {a : Array Value} {s : State} (h : ∀ w ∈ words, w.before a s = true) : New1.tab.before a s = true := by
  have h5 : Cmp5.tab.before a s = true := unparts (wk h (.code Cmp5.yN Cmp5.yB 7 (some .int))) (wks h (.initialized Cmp5.yN.cls :: Cmp5.site))
  have hc : CodL.tab.before a s = true := unparts (wk h (.code CodL.yN CodL.yB 2 (some .byte))) (wks h (.initialized CodL.yN.cls :: CodL.site))
  have q5 : ∀ w ∈ Cmp5.tab :: words, w.before a s = true := fun w hw => (List.mem_cons.mp hw).elim (fun e => e ▸ h5) (h w)
  have h3 : Cmp3.tab.before a s = true := unparts (wk q5 (.code Cmp3.yN Cmp3.yB 6 (some (.array .byte)))) (wks q5 (.initialized Cmp3.yN.cls :: Cmp3.site))
  have q3 : ∀ w ∈ Cmp3.tab :: CodL.tab :: words, w.before a s = true := fun w hw => (List.mem_cons.mp hw).elim (fun e => e ▸ h3) fun hw => (List.mem_cons.mp hw).elim (fun e => e ▸ hc) (h w)
  have h4 : New4.tab.before a s = true := unparts (wk q3 (.code New4.yN New4.yB 6 none)) (wks q3 (.initialized New4.yN.cls :: New4.site))
  have q4 : ∀ w ∈ New4.tab :: words, w.before a s = true := fun w hw => (List.mem_cons.mp hw).elim (fun e => e ▸ h4) (h w)
  exact unparts (wk q4 (.code New1.yN New1.yB 2 none)) (wks q4 (.initialized New1.yN.cls :: New1.site))
/-- the words ride from the start Z to the walk's own state -/
theorem moved {Z s : State} {a0 args : Array Value} (hZ : Z.Warmed39 s.vm) (hw : ∀ d ∈ words, d.before a0 Z = true) : ∀ d ∈ words, d.before args s = true := fun d hd => by
  have q := hw d hd
  have t : ∀ d ∈ words, d = .arrayClass .byte ∨ (d.onTables && d.keepsFace) = true := by decide +kernel
  rcases t d hd with rfl | t
  · exact RoadKit.mvA hZ q
  · exact RoadKit.mv hZ q t
/-- WHAT COMES BACK, over the tables of the start Z: h the heap at the call, h' behind it -/
def Q (Z : State) (x : Addr) (A : Cell) (h : Heap) (v : Option Value) (h' : Heap) (L : List Loc) : Prop := v = none ∧ (∀ y ∈ L, y.base = x) ∧ RoadKit.Keep h h' [x] ∧ h'.size = h.size + 1 ∧ RoadKit.Exa Z h' x ST ∧ RoadKit.Fld Z h' x ST "value" "[B" (.ref h.size) ∧ RoadKit.Fld Z h' x ST "coder" "B" (.int 0) ∧
  (∃ V : Cell, RoadKit.Arr Z h' h.size V .byte ∧ V.vm = .none ∧ Z.vm.findClass "[B" = some V.cls ∧ V.slots.size = A.slots.size ∧ ∀ j, j < A.slots.size → V.slots[j]? = some (.int (lo8 (cv A j)))) ∧
  ∀ (O n d : String) (w : Value), RoadKit.Fld Z h x O n d w → RoadKit.slotOf Z O n d ≠ RoadKit.slotOf Z ST "value" "[B" → RoadKit.slotOf Z O n d ≠ RoadKit.slotOf Z ST "coder" "B" → RoadKit.Fld Z h' x O n d w
/-- **new String(chars) AT A CALL, IN THE ROAD'S FORM**: for specialBack behind newO: x the fresh String, b the char[] with the cell A -/
theorem back {p : Program} {l : Launch} {e : Env} {R : Room} {s : State} {args : Array Value} {below : List Frame} {len W : Nat} {Z : State} {a0 : Array Value} {h : Heap} (hZ : Z.Warmed39 s.vm) (hw : ∀ d ∈ words, d.before a0 Z = true) {kI : Nat} (wi : (Jvm.Cond.instantiable ST kI).before a0 Z = true)
    {x b : Addr} {A : Cell} {z : Int32} {v0 c0 : Value} (E : RoadKit.Exa Z h x ST) (V : RoadKit.Fld Z h x ST "value" "[B" v0) (C : RoadKit.Fld Z h x ST "coder" "B" c0) (K : RoadKit.Arr Z h b A .char) (hty : Typed .char A) (S : RoadKit.Sta Z h ST "COMPACT_STRINGS" "Z" (.int z)) (hz : ¬ z = 0)
    (l0 : 0 < A.slots.size) (l2 : A.slots.size ≤ 536870912) (hp : ∀ i, i < A.slots.size → ¬ 255 < cv A i) (hfr : 4 ≤ R.frames) (hlo : W + 65 ≤ R.locals) :
    Back l R p e below s args New1.yN len W (fun P a => a = #[.ref x, .ref b] ∧ P.U.heap = h ∧ P.cells + 1 ≤ R.cells ∧ P.slots + A.slots.size ≤ R.slots)
      (fun P _ v B => ∃ L, Q Z x A h v B.U.heap L ∧ B.locs = P.locs ++ L ∧ B.cells = P.cells + 1 ∧ B.slots = P.slots + A.slots.size) := by
  intro m meth c P g ig mk a X hg hsize hdg hW hn hp'
  obtain ⟨rfl, rfl, r1, r2⟩ := hp'
  have al : Z.vm.Alike P.U.vm := hZ.alike.trans X.warmed.alike
  obtain ⟨D, cfV, kV, iV, fV, hD, gV, stV, knV, obV, asV, slV⟩ := id V
  obtain ⟨D', cfC, kC, iC, fC, hD', gC, stC, -, -, asC, slC⟩ := id C
  cases hD.symm.trans hD'
  obtain ⟨D2, kD, e1, e2, e3, e4, e5⟩ := id E
  cases hD.symm.trans e1
  obtain ⟨c2, k2, i1, i2, i3, -⟩ := Cond.instantiable_spec wi
  cases e2.symm.trans i1
  cases e3.symm.trans i2
  obtain ⟨kU, u1, u2⟩ := al.2.2 _ _ e3
  have hB : Blank ST x D P.U := ⟨hD, ⟨knV, fun q hq => by rw [hq] at obV; cases obV⟩, by rw [al.findClass]; exact e2, kU, u1, by rw [u2]; exact i3, by rw [u2]; exact e5 i3⟩
  have F1 : Found ST "value" "[B" fV P.U := ⟨SBG.found_only al ⟨cfV, kV, iV, gV⟩, stV⟩
  have F2 : Found ST "coder" "B" fC P.U := ⟨SBG.found_only al ⟨cfC, kC, iC, gC⟩, stC⟩
  have hA : Ch b A P.U := ⟨⟨K.1, State.isArrayOf_alike al K.2.1, K.2.2, by omega⟩, hty⟩
  have hS : StaticIs P.U ST "COMPACT_STRINGS" "Z" (.int z) := by
    obtain ⟨cfS, iS, kS, fS, st, cS, t1, t2, t3, t4, t5, t6, t7⟩ := S
    exact StaticIs.there (s := { Z with heap := P.U.heap }) ⟨cfS, iS, kS, fS, st, cS, t1, t2, t3, t4, t5, (fun q => by rw [q] at t6; cases t6), t7⟩ al rfl
  obtain ⟨v, B, X', ⟨⟨hv, E', V', q1, q2, q3, q4, q5, q6, q7, q8, q9, q10, q11⟩, hl, hc, hs⟩, st⟩ := New1.pays x D fV fC b A z (tab_of (moved hZ hw)) hfr hlo m meth c P g ig mk _ X hg hsize hdg hW hn ⟨r1, r2, rfl, hB, F1, F2, hA, hS, hz, l0, l2, hp⟩
  have al' : Z.vm.Alike B.U.vm := hZ.alike.trans X'.warmed.alike
  have hsz : E'.slots.size = D.slots.size := by
    obtain ⟨-, -, -, kB, w1, w2, w3⟩ := q1
    obtain ⟨kB', y1, y2⟩ := al'.2.2 _ _ e3
    rw [q2.2.1] at w1
    cases w1.symm.trans y1
    rw [w3, e5 i3, y2]
  refine ⟨v, B, X', ⟨_, ⟨hv, ?_, ⟨by omega, fun y cy hy hn' => q10 y cy (by simpa using hn') hy, fun y cy hy => ?_⟩, q11, ⟨E', _, q1.1, by rw [q2.2.1]; exact e2, by rw [q2.2.1]; exact e3, by rw [q2.1]; exact obV, fun _ => by rw [hsz]; exact e5 i3⟩,
    ⟨E', cfV, kV, iV, fV, q1.1, gV, stV, by rw [q2.1]; exact knV, by rw [q2.1]; exact obV, by rw [q2.2.1]; exact asV, q3⟩, ⟨E', cfC, kC, iC, fC, q1.1, gC, stC, by rw [q2.1]; exact knV, by rw [q2.1]; exact obV, by rw [q2.2.1]; exact asC, q4⟩,
    ⟨V', ⟨q5.1, State.isArrayOf_alike al'.symm q5.2.1, q5.2.2.1⟩, q6, by rw [← al'.findClass]; exact q7, q8, fun j hj => by have := q9 j hj; rwa [Nat.zero_add] at this⟩, fun O n d w F n1 n2 => ?_⟩, hl, hc, hs⟩, st⟩
  · intro y hy
    simp only [List.mem_cons, List.not_mem_nil, or_false] at hy
    rcases hy with rfl | rfl <;> rfl
  · by_cases q : y = x
    · subst q
      cases hD.symm.trans hy
      exact ⟨E', q1.1, q2.2.1, q2.1, hsz⟩
    · exact ⟨cy, q10 y cy q hy, rfl, rfl, rfl⟩
  · obtain ⟨D3, cf, k, i, f, g1, g2, g3, g4, g5, g6, g7⟩ := F
    cases hD.symm.trans g1
    simp only [RoadKit.slotOf, g2, gV, gC, Option.map_some, Option.getD_some] at n1 n2
    exact ⟨E', cf, k, i, f, q1.1, g2, g3, by rw [q2.1]; exact g4, by rw [q2.1]; exact g5, by rw [q2.2.1]; exact g6, by rw [q2.2.2 f.slot (by simp [n1, n2])]; exact g7⟩
end StrChars.Road
namespace StrChars.Road
open Jvm Sem ClassFile Op Lib Jvm.Stand Jvm.Free Jvm.Free.XT
/-- WHAT COMES BACK, the byte[] as a list of values -/
def QA (Z : State) (x : Addr) (zn : Int32) (cs : List Int32) (h : Heap) (v : Option Value) (h' : Heap) (L : List Loc) : Prop := v = none ∧ (∀ y ∈ L, y.base = x) ∧ RoadKit.Keep h h' [x] ∧ h'.size = h.size + 1 ∧ RoadKit.Exa Z h' x ST ∧ RoadKit.Fld Z h' x ST "value" "[B" (.ref h.size) ∧ RoadKit.Fld Z h' x ST "coder" "B" (.int 0) ∧
  (∃ kb, Z.vm.findClass "[B" = some kb ∧ RoadKit.Arv Z h' h.size kb .byte zn (cs.map fun c => .int (lo8 c)) (.int 0)) ∧
  ∀ (O n d : String) (w : Value), RoadKit.Fld Z h x O n d w → RoadKit.slotOf Z O n d ≠ RoadKit.slotOf Z ST "value" "[B" → RoadKit.slotOf Z O n d ≠ RoadKit.slotOf Z ST "coder" "B" → RoadKit.Fld Z h' x O n d w
/-- **new String(chars) AT A CALL, THE ARRAYS AS LISTS**: the char[] at b holds cs, not empty, no char above 255 -/
theorem backArv {p : Program} {l : Launch} {e : Env} {R : Room} {s : State} {args : Array Value} {below : List Frame} {len W : Nat} {Z : State} {a0 : Array Value} {h : Heap} (hZ : Z.Warmed39 s.vm) (hw : ∀ d ∈ words, d.before a0 Z = true) {kI : Nat} (wi : (Jvm.Cond.instantiable ST kI).before a0 Z = true)
    {x b : Addr} {k : ClassId} {zn z : Int32} {cs : List Int32} {dv v0 c0 : Value} (E : RoadKit.Exa Z h x ST) (V : RoadKit.Fld Z h x ST "value" "[B" v0) (C : RoadKit.Fld Z h x ST "coder" "B" c0) (K : RoadKit.Arv Z h b k .char zn (cs.map Value.int) dv) (S : RoadKit.Sta Z h ST "COMPACT_STRINGS" "Z" (.int z)) (hz : ¬ z = 0)
    (hlen : zn.toNatClampNeg = cs.length) (h0 : 0 < cs.length) (hbig : cs.length ≤ 536870912) (hall : ∀ c ∈ cs, ¬ 255 < c) (hfr : 4 ≤ R.frames) (hlo : W + 65 ≤ R.locals) :
    Back l R p e below s args New1.yN len W (fun P a => a = #[.ref x, .ref b] ∧ P.U.heap = h ∧ P.cells + 1 ≤ R.cells ∧ P.slots + cs.length ≤ R.slots)
      (fun P _ v B => ∃ L, QA Z x zn cs h v B.U.heap L ∧ B.locs = P.locs ++ L ∧ B.cells = P.cells + 1 ∧ B.slots = P.slots + cs.length) := by
  obtain ⟨A, K1, K2, K3, K4, K5, K6⟩ := K
  have e : A.slots.size = cs.length := K3.trans hlen
  have hat : ∀ (i : Nat) (hi : i < cs.length), A.slots[i]? = some (.int cs[i]) := fun i hi => by rw [K5 i (by omega)]; simp [List.getD_eq_getElem?_getD, hi]
  have hcv : ∀ (i : Nat) (hi : i < cs.length), cv A i = cs[i] := fun i hi => by unfold cv; rw [hat i hi]
  have hty : Typed .char A := fun i v hv => by
    have hi : i < A.slots.size := (Array.getElem?_eq_some_iff.mp hv).1
    have q := K5 i hi
    rw [hv] at q
    rw [Option.some.inj q]
    exact K6 i hi
  refine Back.mono (back hZ hw wi E V C K1 hty S hz (by omega) (by omega) (fun i hi => by rw [hcv i (by omega)]; exact hall _ (List.getElem_mem _)) hfr hlo) (fun P a hp => ⟨hp.1, hp.2.1, hp.2.2.1, by rw [e]; exact hp.2.2.2⟩) (fun P a v B hp hq => ?_)
  obtain ⟨L, ⟨q1, q2, q3, q4, q5, q6, q7, ⟨V', v1, v2, v3, v4, v5⟩, q9⟩, hl, hc, hs⟩ := hq
  refine ⟨L, ⟨q1, q2, q3, q4, q5, q6, q7, ⟨V'.cls, v3, V', v1, rfl, by rw [v4, e, hlen], K4, fun i hi => ?_, fun i hi => ?_⟩, q9⟩, hl, hc, by rw [hs, e]⟩
  · have hi' : i < cs.length := by omega
    rw [v5 i (by omega), hcv i hi']; simp [List.getD_eq_getElem?_getD, hi']
  · have hi' : i < cs.length := by omega
    simp only [List.getD_eq_getElem?_getD, List.getElem?_map, List.getElem?_eq_getElem hi', Option.map_some, Option.getD_some]
    exact fits_lo8 _
end StrChars.Road
namespace StrChars.Road
open Jvm Sem ClassFile Op Lib Jvm.Stand Jvm.Free Jvm.Free.XT
/-- WHAT COMES BACK, in the writer's own shape -/
def QV (Z : State) (x : Addr) (N : Int32) (bs : List Int32) (h : Heap) (n0 : Nat) (v : Option Value) (h' : Heap) (L : List Loc) : Prop := v = none ∧ RoadKit.Fr n0 L ∧ RoadKit.Keep h h' [x] ∧ RoadKit.Exa Z h' x ST ∧ RoadKit.Fld Z h' x ST "coder" "B" (.int 0) ∧
  ∃ (t : Addr) (kb : ClassId), n0 ≤ t ∧ h.size ≤ t ∧ ¬ t = x ∧ RoadKit.Fld Z h' x ST "value" "[B" (.ref t) ∧ RoadKit.Arv Z h' t kb .byte N (bs.map Value.int) (.int 0)
/-- **new String(chars) AT A CALL, FOR THE WRITER**: a char[] of n known ints, each 0 to 255 -/
theorem backV {p : Program} {l : Launch} {e : Env} {R : Room} {s : State} {args : Array Value} {below : List Frame} {len W : Nat} {Z : State} {a0 : Array Value} {h : Heap} (hZ : Z.Warmed39 s.vm) (hw : ∀ d ∈ words, d.before a0 Z = true) {kI : Nat} (wi : (Jvm.Cond.instantiable ST kI).before a0 Z = true)
    {x b : Addr} {kC : ClassId} {cs bs : List Int32} {d v0 c0 : Value} {z N : Int32} {n n0 : Nat} (hx0 : n0 ≤ x) (hh0 : n0 ≤ h.size) (E : RoadKit.Exa Z h x ST) (V : RoadKit.Fld Z h x ST "value" "[B" v0) (C : RoadKit.Fld Z h x ST "coder" "B" c0) (K : RoadKit.Arv Z h b kC .char N (cs.map Value.int) d) (S : RoadKit.Sta Z h ST "COMPACT_STRINGS" "Z" (.int z)) (hz : ¬ z = 0)
    (hn : cs.length = n) (hN : N = Int32.ofNat n) (l0 : 0 < n) (l2 : n ≤ 4000) (hp : ∀ c ∈ cs, ¬ c < 0 ∧ ¬ (255 : Int32) < c) (hb : bs = cs.map (fun c => c.toInt8.toInt32)) (hfr : 4 ≤ R.frames) (hlo : W + 65 ≤ R.locals) :
    Back l R p e below s args (⟨"java/lang/String", "<init>", "([C)V"⟩ : MethodName) len W (fun P a => a = #[.ref x, .ref b] ∧ P.U.heap = h ∧ P.cells + 1 ≤ R.cells ∧ P.slots + n ≤ R.slots)
      (fun P _ v B => ∃ L, QV Z x N bs h n0 v B.U.heap L ∧ B.locs = P.locs ++ L ∧ B.cells = P.cells + 1 ∧ B.slots = P.slots + n) := by
  subst hn hN hb
  refine Back.mono (backArv hZ hw wi E V C K S hz (n32 (by omega)) l0 (by omega) (fun c hc => (hp c hc).2) hfr hlo) (fun P a hp => hp) (fun P a v B hp hq => ?_)
  obtain ⟨L, ⟨q1, q2, q3, q4, q5, q6, q7, ⟨kb, v1, v2⟩, q9⟩, hl, hc, hs⟩ := hq
  exact ⟨L, ⟨q1, fun y hy => by rw [q2 y hy]; exact hx0, q3, q5, q7, h.size, kb, hh0, Nat.le_refl _, Nat.ne_of_gt E.lt, q6, by rw [List.map_map]; exact v2⟩, hl, hc, hs⟩
end StrChars.Road
namespace StrChars
open Jvm Sem ClassFile Op Lib Jvm.Stand Jvm.Free.XT Jvm.Free.ALB Jvm.Free.JM Jvm.Free
open Jvm.Lib.Cold (StaticIs)
def hi8 (x : Int32) : Int32 := lo8 (x >>> ((8 : Int32) &&& 31))
/-- what StringUTF16.getChar makes of two bytes -/
def pairCh (u v : Int32) : Int32 := (((u &&& 255) <<< ((0 : Int32) &&& 31)) ||| ((v &&& 255) <<< ((8 : Int32) &&& 31))).toUInt32.toUInt16.toUInt32.toInt32
theorem shr0 (c : Int32) : c >>> ((0 : Int32) &&& 31) = c := by
  have e : ((0 : Int32) &&& 31) = 0 := by decide
  rw [e]
  apply Int32.toBitVec_inj.mp
  rw [Int32.toBitVec_shiftRight]
  have e1 : ((0 : Int32).toBitVec.smod 32) = 0#32 := by decide
  rw [e1, BitVec.sshiftRight_eq']
  exact BitVec.sshiftRight_zero
theorem lo8_and (x : Int32) : (lo8 x &&& 255).toBitVec.toNat = x.toBitVec.toNat % 256 := by
  have h : (lo8 x).toBitVec = (x.toBitVec.signExtend 8).signExtend 32 := by rw [lo8, Int8.toBitVec_toInt32, Int32.toBitVec_toInt8]
  rw [Int32.toBitVec_and, BitVec.toNat_and, h]
  have e : ((x.toBitVec.signExtend 8).signExtend 32).toNat % 256 = x.toBitVec.toNat % 256 := by
    rw [BitVec.toNat_signExtend]
    have hlt := x.toBitVec.isLt
    simp only [BitVec.toNat_setWidth, BitVec.toNat_signExtend]
    split <;> split <;> omega
  rw [← e]
  exact Nat.and_two_pow_sub_one_eq_mod _ 8
theorem pair_says {c : Int32} (h0 : ¬ c < 0) (h1 : ¬ 65535 < c) : pairCh (lo8 c) (hi8 c) = c := by
  rw [Int32.lt_iff_toInt_lt] at h0 h1
  have e0 : (0 : Int32).toInt = 0 := rfl
  have e1 : (65535 : Int32).toInt = 65535 := rfl
  have hc : c.toInt = c.toBitVec.toNat := by
    have := c.toBitVec.isLt
    have e : c.toInt = c.toBitVec.toInt := rfl
    rw [e] at h0 h1
    rw [e]
    rw [BitVec.toInt_eq_toNat_cond] at h0 h1 ⊢
    split at h0 <;> split <;> omega
  have hn : c.toBitVec.toNat < 65536 := by omega
  have a1 := lo8_and c
  have a2 : (hi8 c &&& 255).toBitVec.toNat = c.toBitVec.toNat / 256 := by
    rw [hi8, lo8_and]
    have e : ((8 : Int32) &&& 31) = 8 := by decide
    rw [e, Int32.toBitVec_shiftRight]
    have e2 : ((8 : Int32).toBitVec.smod 32) = 8#32 := by decide
    rw [e2, BitVec.sshiftRight_eq', BitVec.toNat_sshiftRight_of_msb_false (by rw [BitVec.msb_eq_false_iff_two_mul_lt]; omega)]
    show c.toBitVec.toNat >>> 8 % 256 = _
    rw [Nat.shiftRight_eq_div_pow]
    omega
  unfold pairCh
  apply Int32.toBitVec_inj.mp
  apply BitVec.eq_of_toNat_eq
  have f0 : ((0 : Int32) &&& 31) = 0 := by decide
  have f8 : ((8 : Int32) &&& 31) = 8 := by decide
  rw [f0, f8]
  have g : (((lo8 c &&& 255) <<< (0 : Int32)) ||| ((hi8 c &&& 255) <<< (8 : Int32))).toBitVec.toNat = c.toBitVec.toNat := by
    rw [Int32.toBitVec_or, Int32.toBitVec_shiftLeft, Int32.toBitVec_shiftLeft]
    have s0 : ((0 : Int32).toBitVec.smod 32) = 0#32 := by decide
    have s8 : ((8 : Int32).toBitVec.smod 32) = 8#32 := by decide
    rw [s0, s8, BitVec.toNat_or]
    simp only [BitVec.shiftLeft_eq', BitVec.toNat_shiftLeft, a1, a2]
    show (c.toBitVec.toNat % 256) <<< 0 % 2 ^ 32 ||| (c.toBitVec.toNat / 256) <<< 8 % 2 ^ 32 = _
    rw [Nat.shiftLeft_zero, Nat.mod_eq_of_lt (show c.toBitVec.toNat % 256 < 2 ^ 32 by omega), Nat.mod_eq_of_lt (show (c.toBitVec.toNat / 256) <<< 8 < 2 ^ 32 by rw [Nat.shiftLeft_eq]; omega), Nat.or_comm, ← Nat.shiftLeft_add_eq_or_of_lt (by omega), Nat.shiftLeft_eq]
    omega
  show BitVec.toNat (((((lo8 c &&& 255) <<< (0 : Int32)) ||| ((hi8 c &&& 255) <<< (8 : Int32))).toBitVec.setWidth 16).setWidth 32) = _
  rw [BitVec.toNat_setWidth, BitVec.toNat_setWidth, g]
  omega
end StrChars
namespace StrChars
open Jvm Sem ClassFile Op Lib Jvm.Stand Jvm.Free.XT Jvm.Free.ALB Jvm.Free.JM Jvm.Free
open Jvm.Lib.Cold (StaticIs)
theorem shr1 {n : Nat} (h : 2 * n < 2 ^ 31) : Int32.ofNat (2 * n) >>> ((1 : Int32) &&& 31) = Int32.ofNat n := by
  have e : ((1 : Int32) &&& 31) = 1 := by decide
  rw [e]
  apply Int32.toBitVec_inj.mp
  rw [Int32.toBitVec_shiftRight]
  have e1 : ((1 : Int32).toBitVec.smod 32) = 1#32 := by decide
  have hm : (BitVec.ofNat 32 (2 * n)).toNat = 2 * n := by rw [BitVec.toNat_ofNat, Nat.mod_eq_of_lt (by omega)]
  rw [e1, BitVec.sshiftRight_eq']
  apply BitVec.eq_of_toNat_eq
  show ((BitVec.ofNat 32 (2 * n)).sshiftRight 1).toNat = (BitVec.ofNat 32 n).toNat
  rw [BitVec.toNat_sshiftRight_of_msb_false (by rw [BitVec.msb_eq_false_iff_two_mul_lt, hm]; omega), hm, BitVec.toNat_ofNat, Nat.shiftRight_eq_div_pow]
  omega
/-- charAt's cast of a byte read back -/
def chr8 (u : Int32) : Int32 := (u &&& 255).toUInt32.toUInt16.toUInt32.toInt32
theorem chr8_lo8 {c : Int32} (h0 : ¬ c < 0) (h1 : ¬ 255 < c) : chr8 (lo8 c) = c := by
  have t : ∀ k : Fin 256, (Int32.ofNat k.val).toUInt32.toUInt16.toUInt32.toInt32 = Int32.ofNat k.val := by decide +kernel
  unfold chr8
  rw [lo8_mask h0 h1]
  rw [Int32.lt_iff_toInt_lt] at h0 h1
  have e0 : (0 : Int32).toInt = 0 := rfl
  have e1 : (255 : Int32).toInt = 255 := rfl
  obtain ⟨k, hk⟩ : ∃ k : Nat, c.toInt = k := ⟨c.toInt.toNat, by omega⟩
  have hx : c = Int32.ofNat k := Int32.toInt_inj.mp (by rw [hk, Int32.toInt_ofNat_small (by omega)])
  rw [hx]
  exact t ⟨k, by omega⟩
theorem narrow_ch {c : Int32} (h0 : ¬ c < 0) (h1 : ¬ 65535 < c) : narrow .char (.int c) = .int c := by
  have q : narrow .char (.int (pairCh (lo8 c) (hi8 c))) = .int (pairCh (lo8 c) (hi8 c)) := narrow_c _
  rwa [pair_says h0 h1] at q
/-- the array's cell V codes the n chars f 0 .. f (n - 1) by the coder cd, as the JDK does: coder 1 just where some char is above 255 -/
def Cod (cd : Int32) (n : Nat) (f : Nat → Int32) (V : Cell) : Prop := (cd = 0 ∧ V.slots.size = n ∧ ∀ j, j < n → V.slots[j]? = some (.int (lo8 (f j))) ∧ ¬ 255 < f j) ∨ (cd = 1 ∧ V.slots.size = 2 * n ∧ (∀ j, j < n → V.slots[2 * j]? = some (.int (lo8 (f j))) ∧ V.slots[2 * j + 1]? = some (.int (hi8 (f j)))) ∧ ∃ j, j < n ∧ 255 < f j)
theorem Cod.cd {cd : Int32} {n : Nat} {f : Nat → Int32} {V : Cell} (h : Cod cd n f V) : cd = 0 ∨ cd = 1 := h.imp (fun q => q.1) fun q => q.1
theorem Cod.len {cd : Int32} {n : Nat} {f : Nat → Int32} {V : Cell} (h : Cod cd n f V) (hs : V.slots.size < 2 ^ 31) : Int32.ofNat V.slots.size >>> (cd &&& 31) = Int32.ofNat n := by
  rcases h with ⟨rfl, h, -⟩ | ⟨rfl, h, -⟩
  · rw [shr0, h]
  · rw [h, shr1 (by omega)]
/-- **x is a String of the n chars f 0 .. f (n - 1)**, Latin-1 or UTF-16; its array at t has the cell V -/
def Txt (x t : Addr) (V : Cell) (cd : Int32) (n : Nat) (f : Nat → Int32) (U : State) : Prop := Exact "java/lang/String" x U ∧ Has x "java/lang/String" "value" "[B" (.ref t) U ∧ Has x "java/lang/String" "coder" "B" (.int cd) U ∧ XT.Arr .byte t V U ∧ Cod cd n f V ∧ ∀ j, j < n → ¬ f j < 0 ∧ ¬ 65535 < f j
theorem Txt.mv {x t : Addr} {V : Cell} {cd : Int32} {n : Nat} {f : Nat → Int32} {U U' : State} (h : Txt x t V cd n f U) (hal : U.vm.Alike U'.vm) (hh : U'.heap = U.heap) : Txt x t V cd n f U' := ⟨h.1.mv hal hh, h.2.1.mv hal hh, h.2.2.1.mv hal hh, h.2.2.2.1.mv hal hh, h.2.2.2.2⟩
namespace Cdr
def yN : MethodName := ⟨"java/lang/String", "coder", "()B"⟩
abbrev yB : ByteArray := jdk_42_method_152_code
theorem d0 : decode yB 0 = .ok (.getstatic 38, 3) := by decide +kernel
theorem d3 : decode yB 3 = .ok (.ifCond (.eq) 10, 3) := by decide +kernel
theorem d6 : decode yB 6 = .ok (.aload_n 0, 1) := by decide +kernel
theorem d7 : decode yB 7 = .ok (.getfield 15, 3) := by decide +kernel
theorem d10 : decode yB 10 = .ok (.goto 4, 3) := by decide +kernel
theorem d14 : decode yB 14 = .ok (.ireturn, 1) := by decide +kernel
def site : List Cond := [.fieldLink "java/lang/String" 38 "java/lang/String" "COMPACT_STRINGS" "Z", .fieldLink "java/lang/String" 15 "java/lang/String" "coder" "B"]
def tab : Cond := tabOf yN yB 1 (some .byte) site
def P (x : Addr) (cd z : Int32) (args : Array Value) (s : State) : Prop := args = #[.ref x] ∧ Has x "java/lang/String" "coder" "B" (.int cd) s ∧ (cd = 0 ∨ cd = 1) ∧ StaticIs s "java/lang/String" "COMPACT_STRINGS" "Z" (.int z) ∧ ¬ z = 0
def E (cd : Int32) (r : Option Value) (s u : State) : Prop := XT.PureE (some (.int cd)) r s u
theorem law (l : Launch) (x : Addr) (cd z : Int32) : Law l yN 1 0 0 0 yB 1 (some .byte) site (P x cd z) (E cd) [] 0 0 := by
  refine Law.of_walk (plainFor_of_name (by decide +kernel)) (by decide +kernel) (by decide +kernel) (by decide) (fun _ _ h => by rw [h.1]; rfl) (fun _ U U' hal hh h => ⟨h.1, h.2.1.mv hal hh, h.2.2.1, h.2.2.2.1.there hal hh, h.2.2.2.2⟩) (fun r U U' V V' h1 hal h2 h => XT.PureE.mv r U U' V V' h1 hal h2 h) ?_
  intro p e s m args below meth c s₁ X0 hexec hbytes hml hret hlk hnm hown hh0 W hP
  obtain ⟨rfl, hx, hc, s1, hz⟩ := hP
  have c1 : Steps p.tables e below (s₁.setTop (entryFrame m #[.ref x] 1)) (s₁.setTop (mkF m 0 #[.val (.ref x)] [])) := entry rfl
  obtain ⟨T2, X2, q2, st2⟩ := X0.sget hexec hown (wk W (.fieldLink "java/lang/String" 38 "java/lang/String" "COMPACT_STRINGS" "Z")) s1 (fun _ _ h => by rw [hh0]; exact h) (g := (mkF m 0 #[.val (.ref x)] [])) rfl (hb hbytes d0)
  have hh2 := q2.trans hh0
  have c3 : Steps p.tables e below (s₁.setTop (entryFrame m #[.ref x] 1)) (T2.setTop (mkF m 7 #[.val (.ref x)] [.ref x])) := (c1.trans (st2 _ (Steps.refl _))).trans (by
    refine XS.ifNo X2.here hexec rfl (hb hbytes d3) rfl (i0_eq_f hz) ?_
    refine XS.aloadN X2.here hexec rfl (hb hbytes d6) rfl rfl ?_
    exact Steps.refl _)
  obtain ⟨T4, X4, q4, st4⟩ := X2.hget hexec hown (wk W (.fieldLink "java/lang/String" 15 "java/lang/String" "coder" "B")) (hx.mv X2.warmed.alike hh2) (g := (mkF m 7 #[.val (.ref x)] [.ref x])) rfl (rest := []) rfl (hb hbytes d7)
  have c5 : Steps p.tables e below (s₁.setTop (entryFrame m #[.ref x] 1)) (T4.setTop (mkF m 14 #[.val (.ref x)] [.int cd])) := (c3.trans (st4 _ (Steps.refl _))).trans (by
    refine XS.goto X4.here hexec rfl (pc0 := 10) rfl (hb hbytes d10) (by decide) rfl ?_
    exact Steps.refl _)
  exact ⟨T4, some (.int cd), _, _, _, X4, rfl, rfl, rfl, (fun h => by cases h), ⟨rfl, q4.trans hh2⟩, fun fs hl => c5.trans (X4.ireturnOut hexec hret (by rcases hc with rfl | rfl <;> rfl) (Or.inr (Or.inr (Or.inl rfl))) (hb hbytes d14) hl)⟩
end Cdr
namespace Len
def yN : MethodName := ⟨"java/lang/String", "length", "()I"⟩
abbrev yB : ByteArray := jdk_42_method_54_code
theorem d0 : decode yB 0 = .ok (.aload_n 0, 1) := by decide +kernel
theorem d1 : decode yB 1 = .ok (.getfield 9, 3) := by decide +kernel
theorem d4 : decode yB 4 = .ok (.arraylength, 1) := by decide +kernel
theorem d5 : decode yB 5 = .ok (.aload_n 0, 1) := by decide +kernel
theorem d6 : decode yB 6 = .ok (.invokevirtual 335, 3) := by decide +kernel
theorem d9 : decode yB 9 = .ok (.ishr, 1) := by decide +kernel
theorem d10 : decode yB 10 = .ok (.ireturn, 1) := by decide +kernel
def site : List Cond := [.fieldLink "java/lang/String" 9 "java/lang/String" "value" "[B", Cdr.tab] ++ virtW "java/lang/String" 335 "java/lang/String" Cdr.yN Cdr.yN
def tab : Cond := tabOf yN yB 1 (some .int) site
def P (x t : Addr) (V : Cell) (cd : Int32) (n : Nat) (f : Nat → Int32) (z : Int32) (args : Array Value) (s : State) : Prop := args = #[.ref x] ∧ Txt x t V cd n f s ∧ StaticIs s "java/lang/String" "COMPACT_STRINGS" "Z" (.int z) ∧ ¬ z = 0
def E (n : Nat) (r : Option Value) (s u : State) : Prop := XT.PureE (some (.int (Int32.ofNat n))) r s u
/-- length() of a String of n chars, in either coding -/
theorem law (l : Launch) (x t : Addr) (V : Cell) (cd : Int32) (n : Nat) (f : Nat → Int32) (z : Int32) : Law l yN 1 0 1 13 yB 1 (some .int) site (P x t V cd n f z) (E n) [] 0 0 := by
  refine Law.of_walk (plainFor_of_name (by decide +kernel)) (by decide +kernel) (by decide +kernel) (by decide) (fun _ _ h => by rw [h.1]; rfl) (fun _ U U' hal hh h => ⟨h.1, h.2.1.mv hal hh, h.2.2.1.there hal hh, h.2.2.2⟩) (fun r U U' V V' h1 hal h2 h => XT.PureE.mv r U U' V V' h1 hal h2 h) ?_
  intro p e s m args below meth c s₁ X0 hexec hbytes hml hret hlk hnm hown hh0 W hP
  obtain ⟨rfl, hx, s1, hz⟩ := hP
  have v31 := hx.2.2.2.1.2.2.2
  have c1 : Steps p.tables e below (s₁.setTop (entryFrame m #[.ref x] 1)) (s₁.setTop (mkF m 1 #[.val (.ref x)] [.ref x])) := Steps.trans (entry rfl) (by
    show Steps p.tables e below (s₁.setTop (mkF m 0 #[.val (.ref x)] [])) _
    refine XS.aloadN X0.here hexec rfl (hb hbytes d0) rfl rfl ?_
    exact Steps.refl _)
  obtain ⟨T2, X2, q2, st2⟩ := X0.hget hexec hown (wk W (.fieldLink "java/lang/String" 9 "java/lang/String" "value" "[B")) (hx.mv X0.warmed.alike hh0).2.1 (g := (mkF m 1 #[.val (.ref x)] [.ref x])) rfl (rest := []) rfl (hb hbytes d1)
  have hh2 := q2.trans hh0
  have hx2 := hx.mv X2.warmed.alike hh2
  have c3 : Steps p.tables e below (s₁.setTop (entryFrame m #[.ref x] 1)) (T2.setTop (mkF m 6 #[.val (.ref x)] [.ref x, .int (Int32.ofNat V.slots.size)])) := (c1.trans (st2 _ (Steps.refl _))).trans (by
    refine X2.alen hexec hx2.2.2.2.1 rfl rfl (hb hbytes d4) ?_
    refine XS.aloadN X2.here hexec rfl (hb hbytes d5) rfl rfl ?_
    exact Steps.refl _)
  obtain ⟨v4, T4, X4, E4, g4⟩ := X2.callV hexec (Cdr.law l x cd z) hown (wks W (virtW "java/lang/String" 335 "java/lang/String" Cdr.yN Cdr.yN)) rfl (by decide) (wk W Cdr.tab) (W := 1) (Nat.le_of_ble_eq_true rfl) (Nat.le_of_ble_eq_true rfl) (Nat.le_refl _) (Nat.le_refl _) (hx2.1.fc X2.warmed.alike) hx2.1.is (g := (mkF m 6 #[.val (.ref x)] [.ref x, .int (Int32.ofNat V.slots.size)])) rfl (by rw [hml]; rfl) c3 (argsL := []) (rest := [.int (Int32.ofNat V.slots.size)]) rfl rfl (by show 2 * 0 + (1 + 0) ≤ _; decide) (hb hbytes d6) (⟨rfl, hx2.2.2.1, hx.2.2.2.2.1.cd, s1.there X2.warmed.alike hh2, hz⟩)
  obtain ⟨rfl, q4⟩ := E4
  have c5 : Steps p.tables e below (s₁.setTop (entryFrame m #[.ref x] 1)) (T4.setTop (mkF m 10 #[.val (.ref x)] [.int (Int32.ofNat V.slots.size >>> (cd &&& 31))])) := Steps.trans g4 (by
    refine ishr X4.here hexec rfl (hb hbytes d9) rfl ?_
    exact Steps.refl _)
  rw [hx.2.2.2.2.1.len v31] at c5
  exact ⟨T4, some (.int (Int32.ofNat n)), _, _, _, X4, rfl, rfl, rfl, (fun h => by cases h), ⟨rfl, q4.trans hh2⟩, fun fs hl => c5.trans (X4.ireturnOut hexec hret rfl (Or.inl rfl) (hb hbytes d10) hl)⟩
theorem pays {l : Launch} {R : Room} {p : Program} {e : Env} {below : List Frame} {s : State} {sargs : Array Value} {len W : Nat} (x t : Addr) (V : Cell) (cd : Int32) (n : Nat) (f : Nat → Int32) (z : Int32) (htab : tab.before sargs s = true) (hfr : 2 ≤ R.frames) (hlo : W + 25 ≤ R.locals) :
    Back l R p e below s sargs yN len W (fun A₁ a₁ => A₁.cells + 0 ≤ R.cells ∧ A₁.slots + 0 ≤ R.slots ∧ P x t V cd n f z a₁ A₁.U) (fun A₁ _ v₁ B₁ => E n v₁ A₁.U B₁.U ∧ B₁.locs = A₁.locs ++ [] ∧ B₁.cells = A₁.cells + 0 ∧ B₁.slots = A₁.slots + 0) :=
  (law l x t V cd n f z).pays htab hfr (by omega)
end Len
namespace IsL
def yN : MethodName := ⟨"java/lang/String", "isLatin1", "()Z"⟩
abbrev yB : ByteArray := jdk_42_method_154_code
theorem d0 : decode yB 0 = .ok (.getstatic 38, 3) := by decide +kernel
theorem d3 : decode yB 3 = .ok (.ifCond (.eq) 14, 3) := by decide +kernel
theorem d6 : decode yB 6 = .ok (.aload_n 0, 1) := by decide +kernel
theorem d7 : decode yB 7 = .ok (.getfield 15, 3) := by decide +kernel
theorem d10 : decode yB 10 = .ok (.ifCond (.ne) 7, 3) := by decide +kernel
theorem d13 : decode yB 13 = .ok (.iconst 1, 1) := by decide +kernel
theorem d14 : decode yB 14 = .ok (.goto 4, 3) := by decide +kernel
theorem d17 : decode yB 17 = .ok (.iconst 0, 1) := by decide +kernel
theorem d18 : decode yB 18 = .ok (.ireturn, 1) := by decide +kernel
def site : List Cond := [.fieldLink "java/lang/String" 38 "java/lang/String" "COMPACT_STRINGS" "Z", .fieldLink "java/lang/String" 15 "java/lang/String" "coder" "B"]
def tab : Cond := tabOf yN yB 1 (some .boolean) site
def P (x : Addr) (cd z : Int32) (args : Array Value) (s : State) : Prop := args = #[.ref x] ∧ Has x "java/lang/String" "coder" "B" (.int cd) s ∧ (cd = 0 ∨ cd = 1) ∧ StaticIs s "java/lang/String" "COMPACT_STRINGS" "Z" (.int z) ∧ ¬ z = 0
def E (cd : Int32) (r : Option Value) (s u : State) : Prop := XT.PureE (some (.int (1 - cd))) r s u
theorem law (l : Launch) (x : Addr) (cd z : Int32) : Law l yN 1 0 0 0 yB 1 (some .boolean) site (P x cd z) (E cd) [] 0 0 := by
  refine Law.of_walk (plainFor_of_name (by decide +kernel)) (by decide +kernel) (by decide +kernel) (by decide) (fun _ _ h => by rw [h.1]; rfl) (fun _ U U' hal hh h => ⟨h.1, h.2.1.mv hal hh, h.2.2.1, h.2.2.2.1.there hal hh, h.2.2.2.2⟩) (fun r U U' V V' h1 hal h2 h => XT.PureE.mv r U U' V V' h1 hal h2 h) ?_
  intro p e s m args below meth c s₁ X0 hexec hbytes hml hret hlk hnm hown hh0 W hP
  obtain ⟨rfl, hx, hc, s1, hz⟩ := hP
  have c1 : Steps p.tables e below (s₁.setTop (entryFrame m #[.ref x] 1)) (s₁.setTop (mkF m 0 #[.val (.ref x)] [])) := entry rfl
  obtain ⟨T2, X2, q2, st2⟩ := X0.sget hexec hown (wk W (.fieldLink "java/lang/String" 38 "java/lang/String" "COMPACT_STRINGS" "Z")) s1 (fun _ _ h => by rw [hh0]; exact h) (g := (mkF m 0 #[.val (.ref x)] [])) rfl (hb hbytes d0)
  have hh2 := q2.trans hh0
  have c3 : Steps p.tables e below (s₁.setTop (entryFrame m #[.ref x] 1)) (T2.setTop (mkF m 7 #[.val (.ref x)] [.ref x])) := (c1.trans (st2 _ (Steps.refl _))).trans (by
    refine XS.ifNo X2.here hexec rfl (hb hbytes d3) rfl (i0_eq_f hz) ?_
    refine XS.aloadN X2.here hexec rfl (hb hbytes d6) rfl rfl ?_
    exact Steps.refl _)
  obtain ⟨T4, X4, q4, st4⟩ := X2.hget hexec hown (wk W (.fieldLink "java/lang/String" 15 "java/lang/String" "coder" "B")) (hx.mv X2.warmed.alike hh2) (g := (mkF m 7 #[.val (.ref x)] [.ref x])) rfl (rest := []) rfl (hb hbytes d7)
  have c5 : Steps p.tables e below (s₁.setTop (entryFrame m #[.ref x] 1)) (T4.setTop (mkF m 10 #[.val (.ref x)] [.int cd])) := c3.trans (st4 _ (Steps.refl _))
  have c6 : Steps p.tables e below (s₁.setTop (entryFrame m #[.ref x] 1)) (T4.setTop (mkF m 18 #[.val (.ref x)] [.int (1 - cd)])) := by
    rcases hc with rfl | rfl
    · exact c5.trans (by
        refine XS.ifNo X4.here hexec rfl (hb hbytes d10) rfl (i0_ne_f rfl) ?_
        refine iconstV X4.here hexec rfl 1 (hb hbytes d13) (by decide) ?_
        refine XS.goto X4.here hexec rfl (pc0 := 14) rfl (hb hbytes d14) (by decide) rfl ?_
        exact Steps.refl _)
    · exact c5.trans (by
        refine XS.ifYes X4.here hexec rfl (pc0 := 10) rfl (hb hbytes d10) rfl (i0_ne_t (by decide)) (by decide) rfl ?_
        refine iconstV X4.here hexec rfl 0 (hb hbytes d17) (by decide) ?_
        exact Steps.refl _)
  exact ⟨T4, some (.int (1 - cd)), _, _, _, X4, rfl, rfl, rfl, (fun h => by cases h), ⟨rfl, q4.trans hh2⟩, fun fs hl => c6.trans (X4.ireturnOut hexec hret (by rcases hc with rfl | rfl <;> rfl) (Or.inr (Or.inl rfl)) (hb hbytes d18) hl)⟩
end IsL
namespace LChA
def yN : MethodName := ⟨"java/lang/StringLatin1", "charAt", "([BI)C"⟩
abbrev yB : ByteArray := jdk_43_method_2_code
theorem d0 : decode yB 0 = .ok (.iload_n 1, 1) := by decide +kernel
theorem d1 : decode yB 1 = .ok (.aload_n 0, 1) := by decide +kernel
theorem d2 : decode yB 2 = .ok (.arraylength, 1) := by decide +kernel
theorem d3 : decode yB 3 = .ok (.invokestatic 9, 3) := by decide +kernel
theorem d6 : decode yB 6 = .ok (.aload_n 0, 1) := by decide +kernel
theorem d7 : decode yB 7 = .ok (.iload_n 1, 1) := by decide +kernel
theorem d8 : decode yB 8 = .ok (.baload, 1) := by decide +kernel
theorem d9 : decode yB 9 = .ok (.sipush 255, 3) := by decide +kernel
theorem d12 : decode yB 12 = .ok (.iand, 1) := by decide +kernel
theorem d13 : decode yB 13 = .ok (.i2c, 1) := by decide +kernel
theorem d14 : decode yB 14 = .ok (.ireturn, 1) := by decide +kernel
def site : List Cond := [JO.Str_checkIndex.tab] ++ staticW "java/lang/StringLatin1" 9 JO.Str_checkIndex.yN
def tab : Cond := tabOf yN yB 2 (some .char) site
def P (t : Addr) (V : Cell) (i : Nat) (u : Int32) (fm : Value) (args : Array Value) (s : State) : Prop := args = #[.ref t, .int (Int32.ofNat i)] ∧ XT.Arr .byte t V s ∧ V.slots[i]? = some (.int u) ∧ (StaticIs s "jdk/internal/util/Preconditions" "SIOOBE_FORMATTER" "Ljava/util/function/BiFunction;" fm ∧ fm.isRef = true)
def E (u : Int32) (r : Option Value) (s w : State) : Prop := XT.PureE (some (.int (chr8 u))) r s w
theorem law (l : Launch) (t : Addr) (V : Cell) (i : Nat) (u : Int32) (fm : Value) : Law l yN 2 2 2 27 yB 2 (some .char) site (P t V i u fm) (E u) [] 0 0 := by
  refine Law.of_walk (plainFor_of_name (by decide +kernel)) (by decide +kernel) (by decide +kernel) (by decide) (fun _ _ h => by rw [h.1]; rfl) (fun _ U U' hal hh h => ⟨h.1, h.2.1.mv hal hh, h.2.2.1, h.2.2.2.1.there hal hh, h.2.2.2.2⟩) (fun r U U' V V' h1 hal h2 h => XT.PureE.mv r U U' V V' h1 hal h2 h) ?_
  intro p e s m args below meth c s₁ X0 hexec hbytes hml hret hlk hnm hown hh0 W hP
  obtain ⟨rfl, hV, hu, s1, rf⟩ := hP
  have v31 := hV.2.2.2
  have hi : i < V.slots.size := (Array.getElem?_eq_some_iff.mp hu).1
  have c1 : Steps p.tables e below (s₁.setTop (entryFrame m #[.ref t, .int (Int32.ofNat i)] 2)) (s₁.setTop (mkF m 0 #[.val (.ref t), .val (.int (Int32.ofNat i))] [])) := entry rfl
  have c2 : Steps p.tables e below (s₁.setTop (entryFrame m #[.ref t, .int (Int32.ofNat i)] 2)) (s₁.setTop (mkF m 3 #[.val (.ref t), .val (.int (Int32.ofNat i))] [.int (Int32.ofNat V.slots.size), .int (Int32.ofNat i)])) := c1.trans (by
    refine XS.iloadN X0.here hexec rfl (hb hbytes d0) rfl ?_
    refine XS.aloadN X0.here hexec rfl (hb hbytes d1) rfl rfl ?_
    refine X0.alen hexec (hV.mv X0.warmed.alike hh0) rfl rfl (hb hbytes d2) ?_
    exact Steps.refl _)
  obtain ⟨v3, T3, X3, E3, g3⟩ := X0.callS hexec (JO.Str_checkIndex.law l (Int32.ofNat i) (Int32.ofNat V.slots.size) fm) hown (wks W (staticW "java/lang/StringLatin1" 9 JO.Str_checkIndex.yN)) (wk W JO.Str_checkIndex.tab) (W := 0) (Nat.le_of_ble_eq_true rfl) (Nat.le_of_ble_eq_true rfl) (Nat.le_refl _) (Nat.le_refl _) (g := (mkF m 3 #[.val (.ref t), .val (.int (Int32.ofNat i))] [.int (Int32.ofNat V.slots.size), .int (Int32.ofNat i)])) rfl (by rw [hml]; rfl) c2 (argsL := [.int (Int32.ofNat i), .int (Int32.ofNat V.slots.size)]) (rest := []) rfl rfl (by show 2 * 0 + 0 ≤ _; decide) (hb hbytes d3) (⟨rfl, rf, s1.there X0.warmed.alike hh0, Int32.ofNat_not_neg (by omega), lt32 v31 hi⟩)
  obtain ⟨rfl, q3⟩ := E3
  have hh3 := q3.trans hh0
  have c4 : Steps p.tables e below (s₁.setTop (entryFrame m #[.ref t, .int (Int32.ofNat i)] 2)) (T3.setTop (mkF m 14 #[.val (.ref t), .val (.int (Int32.ofNat i))] [.int (chr8 u)])) := Steps.trans g3 (by
    refine XS.aloadN X3.here hexec rfl (hb hbytes d6) rfl rfl ?_
    refine XS.iloadN X3.here hexec rfl (hb hbytes d7) rfl ?_
    refine X3.aget hexec (hV.mv X3.warmed.alike hh3) rfl hu rfl rfl (hb hbytes d8) ?_
    refine sipushV X3.here hexec rfl 255 (hb hbytes d9) (by decide) ?_
    refine XS.iand X3.here hexec rfl (hb hbytes d12) rfl ?_
    refine i2c X3.here hexec rfl (hb hbytes d13) rfl ?_
    exact Steps.refl _)
  exact ⟨T3, some (.int (chr8 u)), _, _, _, X3, rfl, rfl, rfl, (fun h => by cases h), ⟨rfl, hh3⟩, fun fs hl => c4.trans (X3.ireturnOut hexec hret (narrow_c _) (Or.inr (Or.inr (Or.inr (Or.inl rfl)))) (hb hbytes d14) hl)⟩
end LChA
end StrChars
namespace StrChars.Road
open Jvm Sem ClassFile Op Lib Jvm.Stand Jvm.Free Jvm.Free.XT
open Jvm.Lib.Cold (StaticIs)
theorem consq {a : Array Value} {s : State} {c : Jvm.Cond} {L : List Jvm.Cond} (h0 : c.before a s = true) (h : ∀ w ∈ L, w.before a s = true) : ∀ w ∈ c :: L, w.before a s = true := fun w hw => (List.mem_cons.mp hw).elim (fun e => e ▸ h0) (h w)
/-- the words of String.length(), either coding -/
abbrev wordsLen : List Jvm.Cond := [.code Len.yN Len.yB 1 (some .int), .initialized ST, .fieldLink ST 9 ST "value" "[B", .fieldLink ST 38 ST "COMPACT_STRINGS" "Z", .fieldLink ST 15 ST "coder" "B", .code Cdr.yN Cdr.yB 1 (some .byte), .methodLink ST 335 Cdr.yN, .declares Cdr.yN, .selects ST Cdr.yN Cdr.yN, .instanceMethod Cdr.yN]
theorem tabLen_of {a : Array Value} {s : State} (h : ∀ w ∈ wordsLen, w.before a s = true) : Len.tab.before a s = true := by
  have hc : Cdr.tab.before a s = true := unparts (wk h (.code Cdr.yN Cdr.yB 1 (some .byte))) (wks h (.initialized Cdr.yN.cls :: Cdr.site))
  have q := consq hc h
  exact unparts (wk q (.code Len.yN Len.yB 1 (some .int))) (wks q (.initialized Len.yN.cls :: Len.site))
theorem movedLen {Z s : State} {a0 args : Array Value} (hZ : Z.Warmed39 s.vm) (hw : ∀ d ∈ wordsLen, d.before a0 Z = true) : ∀ d ∈ wordsLen, d.before args s = true := fun d hd => by
  have q := hw d hd
  have t : ∀ d ∈ wordsLen, d = .arrayClass .byte ∨ (d.onTables && d.keepsFace) = true := by decide +kernel
  rcases t d hd with rfl | t
  · exact RoadKit.mvA hZ q
  · exact RoadKit.mv hZ q t
/-- the bytes of the chars cs, low before high -/
def wideBytes : List Int32 → List Value
  | [] => []
  | c :: cs => .int (lo8 c) :: .int (hi8 c) :: wideBytes cs
theorem wide_lo (d : Value) : ∀ (cs : List Int32) (j : Nat), j < cs.length → (wideBytes cs).getD (2 * j) d = .int (lo8 (cs.getD j 0))
  | [], j, h => absurd h (Nat.not_lt_zero j)
  | c :: cs, 0, _ => rfl
  | c :: cs, j + 1, h => by
    have q := wide_lo d cs j (by simpa using h)
    rw [show 2 * (j + 1) = 2 * j + 1 + 1 from by omega]
    simpa [wideBytes] using q
theorem wide_hi (d : Value) : ∀ (cs : List Int32) (j : Nat), j < cs.length → (wideBytes cs).getD (2 * j + 1) d = .int (hi8 (cs.getD j 0))
  | [], j, h => absurd h (Nat.not_lt_zero j)
  | c :: cs, 0, _ => rfl
  | c :: cs, j + 1, h => by
    have q := wide_hi d cs j (by simpa using h)
    rw [show 2 * (j + 1) + 1 = 2 * j + 1 + 1 + 1 from by omega]
    simpa [wideBytes] using q
theorem low_at (d : Value) (cs : List Int32) (j : Nat) (h : j < cs.length) : (cs.map fun c => Value.int (lo8 c)).getD j d = .int (lo8 (cs.getD j 0)) := by
  simp [List.getD_eq_getElem?_getD, h]
/-- an array of N2 bytes vs codes the chars cs by the coder cd -/
def CodA (cs : List Int32) (cd N2 : Int32) (vs : List Value) : Prop := (cd = 0 ∧ N2 = Int32.ofNat cs.length ∧ vs = (cs.map fun c => Value.int (lo8 c)) ∧ ∀ c ∈ cs, ¬ 255 < c) ∨ (cd = 1 ∧ N2 = Int32.ofNat (2 * cs.length) ∧ vs = wideBytes cs ∧ ∃ c ∈ cs, 255 < c)
theorem CodA.cod {cs : List Int32} {cd N2 : Int32} {vs : List Value} {V : Cell} (h : CodA cs cd N2 vs) (hn : 2 * cs.length < 2 ^ 31) (hs : V.slots.size = N2.toNatClampNeg) (hv : RoadKit.Has V vs (.int 0)) : Cod cd cs.length (fun j => cs.getD j 0) V := by
  rcases h with ⟨rfl, rfl, rfl, h⟩ | ⟨rfl, rfl, rfl, c, hc, hw⟩
  · rw [n32 (by omega)] at hs
    exact Or.inl ⟨rfl, hs, fun j hj => ⟨by rw [hv j (by omega), low_at _ _ _ hj], by
      have e : cs.getD j 0 = cs[j] := by simp [List.getD_eq_getElem?_getD, hj]
      show ¬ 255 < cs.getD j 0
      rw [e]; exact h _ (List.getElem_mem _)⟩⟩
  · rw [n32 (by omega)] at hs
    obtain ⟨j, hj, rfl⟩ := List.getElem_of_mem hc
    exact Or.inr ⟨rfl, hs, fun j hj => ⟨by rw [hv _ (by omega), wide_lo _ _ _ hj], by rw [hv _ (by omega), wide_hi _ _ _ hj]⟩, j, hj, by
      have e : cs.getD j 0 = cs[j] := by simp [List.getD_eq_getElem?_getD, hj]
      show 255 < cs.getD j 0
      rw [e]; exact hw⟩
/-- an object of exactly java/lang/String, its two fields found: as the laws ask it -/
theorem strObj {Z U : State} {a0 : Array Value} {kI : Nat} (wi : (Jvm.Cond.instantiable ST kI).before a0 Z = true) (al : Z.vm.Alike U.vm) {x : Addr} {v0 c0 : Value} (E : RoadKit.Exa Z U.heap x ST) (V : RoadKit.Fld Z U.heap x ST "value" "[B" v0) (C : RoadKit.Fld Z U.heap x ST "coder" "B" c0) :
    ∃ (D : Cell) (fV fC : Field), Blank ST x D U ∧ Found ST "value" "[B" fV U ∧ Found ST "coder" "B" fC U ∧ D.slots[fV.slot]? = some v0 ∧ D.slots[fC.slot]? = some c0 ∧ RoadKit.slotOf Z ST "value" "[B" = fV.slot ∧ RoadKit.slotOf Z ST "coder" "B" = fC.slot := by
  obtain ⟨D, cfV, kV, iV, fV, hD, gV, stV, knV, obV, asV, slV⟩ := V
  obtain ⟨D', cfC, kC, iC, fC, hD', gC, stC, -, -, asC, slC⟩ := C
  cases hD.symm.trans hD'
  obtain ⟨D2, kD, e1, e2, e3, e4, e5⟩ := E
  cases hD.symm.trans e1
  obtain ⟨c2, k2, i1, i2, i3, -⟩ := Cond.instantiable_spec wi
  cases e2.symm.trans i1
  cases e3.symm.trans i2
  obtain ⟨kU, u1, u2⟩ := al.2.2 _ _ e3
  exact ⟨D, fV, fC, ⟨hD, ⟨knV, fun q hq => by rw [hq] at obV; cases obV⟩, by rw [al.findClass]; exact e2, kU, u1, by rw [u2]; exact i3, by rw [u2]; exact e5 i3⟩, ⟨SBG.found_only al ⟨cfV, kV, iV, gV⟩, stV⟩, ⟨SBG.found_only al ⟨cfC, kC, iC, gC⟩, stC⟩, slV, slC, by simp [RoadKit.slotOf, gV], by simp [RoadKit.slotOf, gC]⟩
theorem sta_is {Z U : State} (al : Z.vm.Alike U.vm) {C n d : String} {v : Value} (S : RoadKit.Sta Z U.heap C n d v) : StaticIs U C n d v := by
  obtain ⟨cfS, iS, kS, fS, st, cS, t1, t2, t3, t4, t5, t6, t7⟩ := S
  exact StaticIs.there (s := { Z with heap := U.heap }) ⟨cfS, iS, kS, fS, st, cS, t1, t2, t3, t4, t5, (fun q => by rw [q] at t6; cases t6), t7⟩ al rfl
/-- **length() OF SUCH A STRING** -/
theorem lenW {p : Program} {l : Launch} {e : Env} {R : Room} {s : State} {args : Array Value} {below : List Frame} {len W : Nat} {Z : State} {a0 : Array Value} {h : Heap} (hZ : Z.Warmed39 s.vm) (hw : ∀ d ∈ wordsLen, d.before a0 Z = true) {kI : Nat} (wi : (Jvm.Cond.instantiable ST kI).before a0 Z = true)
    {x t : Addr} {kb : ClassId} {cs : List Int32} {cd N2 z : Int32} {vs : List Value} (E : RoadKit.Exa Z h x ST) (V : RoadKit.Fld Z h x ST "value" "[B" (.ref t)) (C : RoadKit.Fld Z h x ST "coder" "B" (.int cd)) (K : RoadKit.Arv Z h t kb .byte N2 vs (.int 0)) (hc : CodA cs cd N2 vs) (hb : ∀ c ∈ cs, ¬ c < 0 ∧ ¬ (65535 : Int32) < c)
    (S : RoadKit.Sta Z h ST "COMPACT_STRINGS" "Z" (.int z)) (hz : ¬ z = 0) (l2 : cs.length ≤ 4000) (hfr : 2 ≤ R.frames) (hlo : W + 25 ≤ R.locals) :
    Back l R p e below s args (⟨"java/lang/String", "length", "()I"⟩ : MethodName) len W (fun P a => a = #[.ref x] ∧ P.U.heap = h ∧ P.cells + 0 ≤ R.cells ∧ P.slots + 0 ≤ R.slots)
      (fun P _ v B => ∃ L, (v = some (.int (Int32.ofNat cs.length)) ∧ L = [] ∧ B.U.heap = h) ∧ B.locs = P.locs ++ L ∧ B.cells = P.cells + 0 ∧ B.slots = P.slots + 0) := by
  obtain ⟨A, K1, K2, K3, K4, K5, K6⟩ := K
  have hcod := hc.cod (by omega) K3 K5
  intro m meth c P g ig mk a X hg hsize hdg hW hn hp'
  obtain ⟨rfl, rfl, r1, r2⟩ := hp'
  have al : Z.vm.Alike P.U.vm := hZ.alike.trans X.warmed.alike
  obtain ⟨D, fV, fC, hB, F1, F2, g1, g2, -, -⟩ := strObj wi al E V C
  have hx : Txt x t A cd cs.length (fun j => cs.getD j 0) P.U := ⟨⟨_, hB.2.2.1, D, hB.1, rfl, by cases q : D.vm <;> first | rfl | exact absurd q (hB.2.1.2 _)⟩, Has.of hB F1 g1, Has.of hB F2 g2, ⟨K1.1, State.isArrayOf_alike al K1.2.1, K1.2.2, by rcases hcod with ⟨-, q, -⟩ | ⟨-, q, -⟩ <;> omega⟩, hcod, fun j hj => by
    have e : cs.getD j 0 = cs[j] := by simp [List.getD_eq_getElem?_getD, hj]
    show ¬ cs.getD j 0 < 0 ∧ ¬ 65535 < cs.getD j 0
    rw [e]; exact hb _ (List.getElem_mem _)⟩
  obtain ⟨v, B, X', ⟨⟨hv, hh⟩, hl, hk, hs⟩, st⟩ := Len.pays x t A cd cs.length (fun j => cs.getD j 0) z (tabLen_of (movedLen hZ hw)) hfr hlo m meth c P g ig mk _ X hg hsize hdg hW hn ⟨r1, r2, rfl, hx, sta_is al S, hz⟩
  exact ⟨v, B, X', ⟨[], ⟨hv, rfl, hh⟩, hl, hk, hs⟩, st⟩
end StrChars.Road
namespace StrChars.Road
open Jvm Sem ClassFile Op Lib Jvm.Stand Jvm.Free Jvm.Free.XT
open Jvm.Lib.Cold (StaticIs)
/-- the road's facts of a String, as the laws ask it -/
theorem txt_of {Z U : State} {a0 : Array Value} {kI : Nat} (wi : (Jvm.Cond.instantiable ST kI).before a0 Z = true) (al : Z.vm.Alike U.vm) {x t : Addr} {kb : ClassId} {cs : List Int32} {cd N2 : Int32} {vs : List Value} (E : RoadKit.Exa Z U.heap x ST) (V : RoadKit.Fld Z U.heap x ST "value" "[B" (.ref t)) (C : RoadKit.Fld Z U.heap x ST "coder" "B" (.int cd)) (K : RoadKit.Arv Z U.heap t kb .byte N2 vs (.int 0)) (hc : CodA cs cd N2 vs) (hb : ∀ c ∈ cs, ¬ c < 0 ∧ ¬ (65535 : Int32) < c) (l2 : cs.length ≤ 4000) :
    ∃ A, Txt x t A cd cs.length (fun j => cs.getD j 0) U := by
  obtain ⟨A, K1, K2, K3, K4, K5, K6⟩ := K
  have hcod := hc.cod (by omega) K3 K5
  obtain ⟨D, fV, fC, hB, F1, F2, g1, g2, -, -⟩ := strObj wi al E V C
  exact ⟨A, ⟨_, hB.2.2.1, D, hB.1, rfl, by cases q : D.vm <;> first | rfl | exact absurd q (hB.2.1.2 _)⟩, Has.of hB F1 g1, Has.of hB F2 g2, ⟨K1.1, State.isArrayOf_alike al K1.2.1, K1.2.2, by rcases hcod with ⟨-, q, -⟩ | ⟨-, q, -⟩ <;> omega⟩, hcod, fun j hj => by
    have e : cs.getD j 0 = cs[j] := by simp [List.getD_eq_getElem?_getD, hj]
    show ¬ cs.getD j 0 < 0 ∧ ¬ 65535 < cs.getD j 0
    rw [e]; exact hb _ (List.getElem_mem _)⟩
end StrChars.Road
namespace StrChars
open Jvm Sem ClassFile Op Lib Jvm.Stand Jvm.Free.XT Jvm.Free.ALB Jvm.Free.JM Jvm.Free
open Jvm.Lib.Cold (StaticIs)
namespace ChN
def yN : MethodName := ⟨"java/lang/String", "charAt", "(I)C"⟩
abbrev yB : ByteArray := jdk_42_method_56_code
theorem d0 : decode yB 0 = .ok (.aload_n 0, 1) := by decide +kernel
theorem d1 : decode yB 1 = .ok (.invokevirtual 492, 3) := by decide +kernel
theorem d4 : decode yB 4 = .ok (.ifCond (.eq) 12, 3) := by decide +kernel
theorem d7 : decode yB 7 = .ok (.aload_n 0, 1) := by decide +kernel
theorem d8 : decode yB 8 = .ok (.getfield 9, 3) := by decide +kernel
theorem d11 : decode yB 11 = .ok (.iload_n 1, 1) := by decide +kernel
theorem d12 : decode yB 12 = .ok (.invokestatic 495, 3) := by decide +kernel
theorem d15 : decode yB 15 = .ok (.ireturn, 1) := by decide +kernel
def site : List Cond := [.fieldLink "java/lang/String" 9 "java/lang/String" "value" "[B", IsL.tab, LChA.tab] ++ virtW "java/lang/String" 492 "java/lang/String" IsL.yN IsL.yN ++ staticW "java/lang/String" 495 LChA.yN
def tab : Cond := tabOf yN yB 2 (some .char) site
def P (x t : Addr) (V : Cell) (n : Nat) (f : Nat → Int32) (z : Int32) (fm : Value) (i : Nat) (args : Array Value) (s : State) : Prop := args = #[.ref x, .int (Int32.ofNat i)] ∧ Txt x t V 0 n f s ∧ i < n ∧ StaticIs s "java/lang/String" "COMPACT_STRINGS" "Z" (.int z) ∧ ¬ z = 0 ∧ StaticIs s "jdk/internal/util/Preconditions" "SIOOBE_FORMATTER" "Ljava/util/function/BiFunction;" fm ∧ fm.isRef = true
def E (f : Nat → Int32) (i : Nat) (r : Option Value) (s u : State) : Prop := XT.PureE (some (.int (f i))) r s u
/-- charAt(i) of a Latin-1 String of n chars, i < n: f i -/
theorem law (l : Launch) (x t : Addr) (V : Cell) (n : Nat) (f : Nat → Int32) (z : Int32) (fm : Value) (i : Nat) : Law l yN 2 1 3 40 yB 2 (some .char) site (P x t V n f z fm i) (E f i) [] 0 0 := by
  refine Law.of_walk (plainFor_of_name (by decide +kernel)) (by decide +kernel) (by decide +kernel) (by decide) (fun _ _ h => by rw [h.1]; rfl) (fun _ U U' hal hh h => ⟨h.1, h.2.1.mv hal hh, h.2.2.1, h.2.2.2.1.there hal hh, h.2.2.2.2.1, h.2.2.2.2.2.1.there hal hh, h.2.2.2.2.2.2⟩) (fun r U U' V V' h1 hal h2 h => XT.PureE.mv r U U' V V' h1 hal h2 h) ?_
  intro p e s m args below meth c s₁ X0 hexec hbytes hml hret hlk hnm hown hh0 W hP
  obtain ⟨rfl, hx, hi, s1, hz, s3, rf⟩ := hP
  have v31 := hx.2.2.2.1.2.2.2
  have hr := hx.2.2.2.2.2 i hi
  have hx0 := hx.mv X0.warmed.alike hh0
  have c1 : Steps p.tables e below (s₁.setTop (entryFrame m #[.ref x, .int (Int32.ofNat i)] 2)) (s₁.setTop (mkF m 1 #[.val (.ref x), .val (.int (Int32.ofNat i))] [.ref x])) := Steps.trans (entry rfl) (by
    show Steps p.tables e below (s₁.setTop (mkF m 0 #[.val (.ref x), .val (.int (Int32.ofNat i))] [])) _
    refine XS.aloadN X0.here hexec rfl (hb hbytes d0) rfl rfl ?_
    exact Steps.refl _)
  obtain ⟨v2, T2, X2, E2, g2⟩ := X0.callV hexec (IsL.law l x 0 z) hown (wks W (virtW "java/lang/String" 492 "java/lang/String" IsL.yN IsL.yN)) rfl (by decide) (wk W IsL.tab) (W := 0) (Nat.le_of_ble_eq_true rfl) (Nat.le_of_ble_eq_true rfl) (Nat.le_refl _) (Nat.le_refl _) (hx0.1.fc X0.warmed.alike) hx0.1.is (g := (mkF m 1 #[.val (.ref x), .val (.int (Int32.ofNat i))] [.ref x])) rfl (by rw [hml]; rfl) c1 (argsL := []) (rest := []) rfl rfl (by show 2 * 0 + 0 ≤ _; decide) (hb hbytes d1) (⟨rfl, hx0.2.2.1, hx.2.2.2.2.1.cd, s1.there X0.warmed.alike hh0, hz⟩)
  obtain ⟨rfl, q2⟩ := E2
  have hh2 := q2.trans hh0
  have hx2 := hx.mv X2.warmed.alike hh2
  obtain ⟨-, k1, k2⟩ | ⟨k0, -⟩ := hx.2.2.2.2.1
  · have c3 : Steps p.tables e below (s₁.setTop (entryFrame m #[.ref x, .int (Int32.ofNat i)] 2)) (T2.setTop (mkF m 8 #[.val (.ref x), .val (.int (Int32.ofNat i))] [.ref x])) := Steps.trans g2 (by
      refine XS.ifNo X2.here hexec rfl (hb hbytes d4) rfl (i0_eq_f (by decide)) ?_
      refine XS.aloadN X2.here hexec rfl (hb hbytes d7) rfl rfl ?_
      exact Steps.refl _)
    obtain ⟨T4, X4, q4, st4⟩ := X2.hget hexec hown (wk W (.fieldLink "java/lang/String" 9 "java/lang/String" "value" "[B")) hx2.2.1 (g := (mkF m 8 #[.val (.ref x), .val (.int (Int32.ofNat i))] [.ref x])) rfl (rest := []) rfl (hb hbytes d8)
    have hh4 := q4.trans hh2
    have c5 : Steps p.tables e below (s₁.setTop (entryFrame m #[.ref x, .int (Int32.ofNat i)] 2)) (T4.setTop (mkF m 12 #[.val (.ref x), .val (.int (Int32.ofNat i))] [.int (Int32.ofNat i), .ref t])) := (c3.trans (st4 _ (Steps.refl _))).trans (by
      refine XS.iloadN X4.here hexec rfl (hb hbytes d11) rfl ?_
      exact Steps.refl _)
    obtain ⟨v6, T6, X6, E6, g6⟩ := X4.callS hexec (LChA.law l t V i (lo8 (f i)) fm) hown (wks W (staticW "java/lang/String" 495 LChA.yN)) (wk W LChA.tab) (W := 0) (Nat.le_of_ble_eq_true rfl) (Nat.le_of_ble_eq_true rfl) (Nat.le_refl _) (Nat.le_refl _) (g := (mkF m 12 #[.val (.ref x), .val (.int (Int32.ofNat i))] [.int (Int32.ofNat i), .ref t])) rfl (by rw [hml]; rfl) c5 (argsL := [.ref t, .int (Int32.ofNat i)]) (rest := []) rfl rfl (by show 2 * 0 + 0 ≤ _; decide) (hb hbytes d12) (⟨rfl, hx.2.2.2.1.mv X4.warmed.alike hh4, (k2 i hi).1, s3.there X4.warmed.alike hh4, rf⟩)
    obtain ⟨rfl, q6⟩ := E6
    rw [chr8_lo8 hr.1 (k2 i hi).2] at g6
    exact ⟨T6, some (.int (f i)), _, _, _, X6, rfl, rfl, rfl, (fun h => by cases h), ⟨rfl, q6.trans hh4⟩, fun fs hl => Steps.trans g6 (X6.ireturnOut hexec hret (narrow_ch hr.1 hr.2) (Or.inr (Or.inr (Or.inr (Or.inl rfl)))) (hb hbytes d15) hl)⟩
  · exact absurd k0 (by decide)
theorem pays {l : Launch} {R : Room} {p : Program} {e : Env} {below : List Frame} {s : State} {sargs : Array Value} {len W : Nat} (x t : Addr) (V : Cell) (n : Nat) (f : Nat → Int32) (z : Int32) (fm : Value) (i : Nat) (htab : tab.before sargs s = true) (hfr : 4 ≤ R.frames) (hlo : W + 53 ≤ R.locals) :
    Back l R p e below s sargs yN len W (fun A₁ a₁ => A₁.cells + 0 ≤ R.cells ∧ A₁.slots + 0 ≤ R.slots ∧ P x t V n f z fm i a₁ A₁.U) (fun A₁ _ v₁ B₁ => E f i v₁ A₁.U B₁.U ∧ B₁.locs = A₁.locs ++ [] ∧ B₁.cells = A₁.cells + 0 ∧ B₁.slots = A₁.slots + 0) :=
  (law l x t V n f z fm i).pays htab hfr (by omega)
end ChN
end StrChars
namespace StrChars.Road
open Jvm Sem ClassFile Op Lib Jvm.Stand Jvm.Free Jvm.Free.XT
open Jvm.Lib.Cold (StaticIs)
/-- the words of String.charAt(int), the Latin-1 road alone -/
abbrev wordsChN : List Jvm.Cond := [.code ChN.yN ChN.yB 2 (some .char), .initialized ST, .fieldLink ST 9 ST "value" "[B", .fieldLink ST 38 ST "COMPACT_STRINGS" "Z", .fieldLink ST 15 ST "coder" "B", .code IsL.yN IsL.yB 1 (some .boolean), .methodLink ST 492 IsL.yN, .declares IsL.yN, .selects ST IsL.yN IsL.yN, .instanceMethod IsL.yN,
  .methodLink ST 495 LChA.yN, .static LChA.yN, .code LChA.yN LChA.yB 2 (some .char), .initialized "java/lang/StringLatin1", .methodLink "java/lang/StringLatin1" 9 JO.Str_checkIndex.yN, .static JO.Str_checkIndex.yN, .code JO.Str_checkIndex.yN JO.Str_checkIndex.yB 2 none,
  .fieldLink ST 1053 "jdk/internal/util/Preconditions" "SIOOBE_FORMATTER" "Ljava/util/function/BiFunction;", .methodLink ST 1059 JC.PreCheck.yN, .static JC.PreCheck.yN, .code JC.PreCheck.yN JC.PreCheck.yB 3 (some .int), .initialized "jdk/internal/util/Preconditions"]
theorem tabChN_of {a : Array Value} {s : State} (h : ∀ w ∈ wordsChN, w.before a s = true) : ChN.tab.before a s = true := by
  have hp : JC.PreCheck.tab.before a s = true := unparts (wk h (.code JC.PreCheck.yN JC.PreCheck.yB 3 (some .int))) (wks h (.initialized JC.PreCheck.yN.cls :: JC.PreCheck.site))
  have qk := consq hp h
  have hk : JO.Str_checkIndex.tab.before a s = true := unparts (wk qk (.code JO.Str_checkIndex.yN JO.Str_checkIndex.yB 2 none)) (wks qk (.initialized JO.Str_checkIndex.yN.cls :: JO.Str_checkIndex.site))
  have ql := consq hk h
  have hl : LChA.tab.before a s = true := unparts (wk ql (.code LChA.yN LChA.yB 2 (some .char))) (wks ql (.initialized LChA.yN.cls :: LChA.site))
  have hi : IsL.tab.before a s = true := unparts (wk h (.code IsL.yN IsL.yB 1 (some .boolean))) (wks h (.initialized IsL.yN.cls :: IsL.site))
  have q := consq hi (consq hl h)
  exact unparts (wk q (.code ChN.yN ChN.yB 2 (some .char))) (wks q (.initialized ChN.yN.cls :: ChN.site))
theorem movedChN {Z s : State} {a0 args : Array Value} (hZ : Z.Warmed39 s.vm) (hw : ∀ d ∈ wordsChN, d.before a0 Z = true) : ∀ d ∈ wordsChN, d.before args s = true := fun d hd => by
  have t : ∀ d ∈ wordsChN, (d.onTables && d.keepsFace) = true := by decide +kernel
  exact RoadKit.mv hZ (hw d hd) (t d hd)
/-- **charAt(i) OF A LATIN-1 STRING**, i < n: the char -/
theorem chN {p : Program} {l : Launch} {e : Env} {R : Room} {s : State} {args : Array Value} {below : List Frame} {len W : Nat} {Z : State} {a0 : Array Value} {h : Heap} (hZ : Z.Warmed39 s.vm) (hw : ∀ d ∈ wordsChN, d.before a0 Z = true) {kI : Nat} (wi : (Jvm.Cond.instantiable ST kI).before a0 Z = true)
    {x t : Addr} {kb : ClassId} {cs : List Int32} {N2 z : Int32} {vs : List Value} {fm : Value} {i : Nat} {j : Int32} (E : RoadKit.Exa Z h x ST) (V : RoadKit.Fld Z h x ST "value" "[B" (.ref t)) (C : RoadKit.Fld Z h x ST "coder" "B" (.int 0)) (K : RoadKit.Arv Z h t kb .byte N2 vs (.int 0)) (hc : CodA cs 0 N2 vs) (hb : ∀ c ∈ cs, ¬ c < 0 ∧ ¬ (65535 : Int32) < c)
    (S : RoadKit.Sta Z h ST "COMPACT_STRINGS" "Z" (.int z)) (hz : ¬ z = 0) (F : RoadKit.Sta Z h "jdk/internal/util/Preconditions" "SIOOBE_FORMATTER" "Ljava/util/function/BiFunction;" fm) (rf : fm.isRef = true) (l2 : cs.length ≤ 4000) (hi : i < cs.length) (hj : j = Int32.ofNat i) (hfr : 4 ≤ R.frames) (hlo : W + 53 ≤ R.locals) :
    Back l R p e below s args (⟨"java/lang/String", "charAt", "(I)C"⟩ : MethodName) len W (fun P a => a = #[.ref x, .int j] ∧ P.U.heap = h ∧ P.cells + 0 ≤ R.cells ∧ P.slots + 0 ≤ R.slots)
      (fun P _ v B => ∃ L, (v = some (.int (cs.getD i 0)) ∧ L = [] ∧ B.U.heap = h) ∧ B.locs = P.locs ++ L ∧ B.cells = P.cells + 0 ∧ B.slots = P.slots + 0) := by
  subst hj
  intro m meth c P g ig mk a X hg hsize hdg hW hn hp'
  obtain ⟨rfl, rfl, r1, r2⟩ := hp'
  have al : Z.vm.Alike P.U.vm := hZ.alike.trans X.warmed.alike
  obtain ⟨A, hx⟩ := txt_of wi al E V C K hc hb l2
  obtain ⟨v, B, X', ⟨⟨hv, hh⟩, hl, hk, hs⟩, st⟩ := ChN.pays x t A cs.length (fun j => cs.getD j 0) z fm i (tabChN_of (movedChN hZ hw)) hfr hlo m meth c P g ig mk _ X hg hsize hdg hW hn ⟨r1, r2, rfl, hx, hi, sta_is al S, hz, sta_is al F, rf⟩
  exact ⟨v, B, X', ⟨[], ⟨hv, rfl, hh⟩, hl, hk, hs⟩, st⟩
/-- what backV says of its String, as the contracts of this text ask it: cs's low bytes, coder 0 -/
theorem codOf {cs : List Int32} {n : Nat} (hn : cs.length = n) (hb : ∀ c ∈ cs, ¬ 255 < c) : CodA cs 0 (Int32.ofNat n) ((cs.map lo8).map Value.int) := Or.inl ⟨rfl, by rw [hn], by simp [List.map_map, Function.comp_def], hb⟩
end StrChars.Road
end Jvm.Pilot.@@N@@
namespace Jvm.Pilot.@@N@@
open Jvm Jvm.ClassFile Sem Op Lib Jvm.Free Jvm.Stand Jvm.LawKit Jvm.RoadKit Bundle Jvm.Pilot.@@N@@.Jvm.D
def EL0 : List (String × Nat) := [("com/example/certain_answers/certainanswers/server/MediaType", 48), ("java/lang/String", 7)]
section Own
variable {p : Program} {l : Launch} {e : Env} {R rm : Room} {s : State} {m : MethodId} {args : Array Value} {below : List Frame} {meth : Method} {c : Code} {own nm : String} {bytes : ByteArray} {ml : Nat} {rt : Option FieldType} {Z : State} {a0 : Array Value} {EL : List (String × Nat)} {h0 : Heap} {ws : List Addr} {T : State} {h h' : Heap} {cells slots : Nat} {Q : Outcome → State → Prop} {Qv : Option Value → Heap → Prop} {pc : Nat} {Ls : Array Slot} {rest : List Value}
/-- the run from U comes to an end that says Q -/
def Go (p : Program) (e : Env) (below : List Frame) (Q : Outcome → State → Prop) (U : State) : Prop := ∃ s₂ o, Steps p.tables e below U s₂ ∧ s₂.status = .running ∧ Ended s₂ below o ∧ Q o s₂
theorem Go.of {U V : State} (g : Go p e below Q V) (k : ∀ t, Steps p.tables e below V t → Steps p.tables e below U t) : Go p e below Q U := by
  obtain ⟨s2, o, a, b⟩ := g; exact ⟨s2, o, k _ a, b⟩
/-- where the walk stands: all that does not depend on the road behind; vm0: the tables over which its Stand is -/
abbrev PosV (p : Program) (l : Launch) (e : Env) (R : Room) (s : State) (m : MethodId) (args : Array Value) (below : List Frame) (meth : Method) (c : Code) (own nm : String) (bytes : ByteArray) (ml : Nat) (rt : Option FieldType) (Z : State) (a0 : Array Value) (EL : List (String × Nat)) (h0 : Heap) (ws : List Addr) (T : State) (h : Heap) (cells slots : Nat) (vm0 : Vm) : Prop :=
  ∃ (k0 : Nat) (locs : List Loc), Stand p l e R (s.setVm vm0) m args below meth c T locs cells slots ∧
    (p.tables.exec = Jvm.exec ∧ c.code = bytes ∧ c.maxLocals = ml ∧ meth.sig.returnType = rt ∧ meth.locks = false ∧ meth.name = nm ∧ s.heap = h0 ∧ EW Z a0 EL ∧ Z.Warmed39 s.vm) ∧
    Z.Warmed39 vm0 ∧ vm0.findClass own = some m.cls ∧ s.Since vm0 k0 ∧ k0 ≤ h.size ∧ T.heap = h ∧ CHr Z EL s.vm h0 vm0 h ∧ Fr Z.heap.size locs ∧ Keep h0 h ws ∧ Ext Z.heap h
def Pos (p : Program) (l : Launch) (e : Env) (R : Room) (s : State) (m : MethodId) (args : Array Value) (below : List Frame) (meth : Method) (c : Code) (own nm : String) (bytes : ByteArray) (ml : Nat) (rt : Option FieldType) (Z : State) (a0 : Array Value) (EL : List (String × Nat)) (h0 : Heap) (ws : List Addr) (T : State) (h : Heap) (cells slots : Nat) : Prop :=
  ∃ vm0 : Vm, PosV p l e R s m args below meth c own nm bytes ml rt Z a0 EL h0 ws T h cells slots vm0
/-- how a contract ends -/
def Fini (Z : State) (EL : List (String × Nat)) (h0 : Heap) (ws : List Addr) (rm : Room) (Qv : Option Value → Heap → Prop) (s : State) (o : Outcome) (t : State) : Prop :=
  ∃ v L, o = .returned v ∧ (Fr Z.heap.size L ∧ Keep h0 t.heap ws ∧ Ext Z.heap t.heap ∧ Qv v t.heap) ∧ CHr Z EL s.vm s.heap t.vm t.heap ∧ ReturnedEndW s o t L rm.cells rm.slots
/-- a method's contract: what it leaves where it is called with these arguments over the heap h0 -/
def Con (l : Launch) (Z : State) (EL : List (String × Nat)) (wl : List Jvm.Cond) (y : MethodName) (bytes : ByteArray) (ml : Nat) (rt : Option FieldType) (rm : Room) (as : Array Value) (h0 : Heap) (ws : List Addr) (Qv : Option Value → Heap → Prop) : Prop :=
  MetFree l y (head1 (Jvm.Cond.code y bytes ml rt :: wl) rm) (fun a U => a = as ∧ Z.Warmed39 U.vm ∧ U.heap = h0 ∧ CHv Z EL U.vm h0) (fun _ _ _ _ _ => True) (fun _ U o U' => ∃ v L, o = .returned v ∧ (Fr Z.heap.size L ∧ Keep h0 U'.heap ws ∧ Ext Z.heap U'.heap ∧ Qv v U'.heap) ∧ CHr Z EL U.vm U.heap U'.vm U'.heap ∧ ReturnedEndW U o U' L rm.cells rm.slots)
theorem Con.of {wl : List Jvm.Cond} {y : MethodName} {as : Array Value} {f0 : MethodId → JFrame} (hpn : plainFor y = true) (hEL : EW Z a0 EL) (hO : Ext Z.heap h0) (hf0 : ∀ m, entryFrame m as ml = f0 m)
    (body : ∀ p e s m below meth c s₁, Pos p l e rm s m as below meth c y.cls y.name bytes ml rt Z a0 EL h0 ws s₁ h0 0 0 → Go p e below (Fini Z EL h0 ws rm Qv s) (s₁.setTop (f0 m))) : Con l Z EL wl y bytes ml rt rm as h0 ws Qv := by
  refine MetFree.of_bodySF (code := bytes) (maxLocals := ml) (ret := rt) hpn hisR ?_
  intro p e s m args below meth c s₁ Bd hml0 hP hK
  obtain ⟨rfl, hZ, hh, hC⟩ := hP
  have hown : s.vm.findClass y.cls = some m.cls := findClass_of_methodNamed Bd.named
  have hnm := (name_of_methodNamed Bd.named Bd.method).1
  have X0 : Stand p l e rm s m args below meth c s₁ [] 0 0 := Stand.of_body Bd
  have e0 : s₁.heap = h0 := by rw [← hh, Bd.state]; rfl
  have hP : Pos p l e rm s m args below meth c y.cls y.name bytes ml rt Z a0 EL h0 ws s₁ h0 0 0 :=
    ⟨s.vm, h0.size, [], X0, ⟨Bd.exec, Bd.bytes, hml0, Bd.returns, Bd.notSynchronized, hnm, hh, hEL, hZ⟩, hZ, hown, State.WarmedH.since (State.WarmedH.refl s) _, Nat.le_refl _, e0, CHr.refl hC, Fr.nil _, Keep.refl _ _, hO⟩
  obtain ⟨s2, o, a, b, c', d⟩ := body p e s m below meth c s₁ hP
  rw [hf0]
  exact ⟨s2, o, a, b, c', d⟩
/-- the same for a walk that needs its literals no more at its end -/
def ConL (l : Launch) (Z : State) (EL EL' : List (String × Nat)) (wl : List Jvm.Cond) (y : MethodName) (bytes : ByteArray) (ml : Nat) (rt : Option FieldType) (rm : Room) (as : Array Value) (h0 : Heap) (ws : List Addr) (Qv : Option Value → Heap → Prop) : Prop :=
  MetFree l y (head1 (Jvm.Cond.code y bytes ml rt :: wl) rm) (fun a U => a = as ∧ Z.Warmed39 U.vm ∧ U.heap = h0 ∧ CHv Z EL U.vm h0) (fun _ _ _ _ _ => True) (fun _ U o U' => Fini Z EL' h0 ws rm Qv U o U')
theorem ConL.of {EL' : List (String × Nat)} {wl : List Jvm.Cond} {y : MethodName} {as : Array Value} {f0 : MethodId → JFrame} (hpn : plainFor y = true) (hEL : EW Z a0 EL) (hO : Ext Z.heap h0) (hf0 : ∀ m, entryFrame m as ml = f0 m)
    (body : ∀ p e s m below meth c s₁, Pos p l e rm s m as below meth c y.cls y.name bytes ml rt Z a0 EL h0 ws s₁ h0 0 0 → Go p e below (Fini Z EL' h0 ws rm Qv s) (s₁.setTop (f0 m))) : ConL l Z EL EL' wl y bytes ml rt rm as h0 ws Qv := by
  refine MetFree.of_bodySF (code := bytes) (maxLocals := ml) (ret := rt) hpn hisR ?_
  intro p e s m args below meth c s₁ Bd hml0 hP hK
  obtain ⟨rfl, hZ, hh, hC⟩ := hP
  have hown : s.vm.findClass y.cls = some m.cls := findClass_of_methodNamed Bd.named
  have hnm := (name_of_methodNamed Bd.named Bd.method).1
  have X0 : Stand p l e rm s m args below meth c s₁ [] 0 0 := Stand.of_body Bd
  have e0 : s₁.heap = h0 := by rw [← hh, Bd.state]; rfl
  have hP : Pos p l e rm s m args below meth c y.cls y.name bytes ml rt Z a0 EL h0 ws s₁ h0 0 0 :=
    ⟨s.vm, h0.size, [], X0, ⟨Bd.exec, Bd.bytes, hml0, Bd.returns, Bd.notSynchronized, hnm, hh, hEL, hZ⟩, hZ, hown, State.WarmedH.since (State.WarmedH.refl s) _, Nat.le_refl _, e0, CHr.refl hC, Fr.nil _, Keep.refl _ _, hO⟩
  obtain ⟨s2, o, a, b, c', d⟩ := body p e s m below meth c s₁ hP
  rw [hf0]
  exact ⟨s2, o, a, b, c', d⟩
/-- the literals are looked after no more -/
theorem Pos.forget (P : Pos p l e R s m args below meth c own nm bytes ml rt Z a0 EL h0 ws T h cells slots) : Pos p l e R s m args below meth c own nm bytes ml rt Z a0 [] h0 ws T h cells slots := by
  obtain ⟨vm0, k0, locs, X, ⟨hx, hby, hml, hret, hlk, hnm, hh, hEL, hZs⟩, hZ, hown, hS, hk, eT, hC, N, K, O⟩ := P
  exact ⟨vm0, k0, locs, X, ⟨hx, hby, hml, hret, hlk, hnm, hh, EW.nil, hZs⟩, hZ, hown, hS, hk, eT, ⟨fun p hp => (nomatch hp), K.1, fun y B => by obtain ⟨p, hp, -⟩ := B; exact (nomatch hp)⟩, N, K, O⟩
theorem safeNil {Z : State} {vm : Vm} {h : Heap} {x : Addr} : Safe Z [] vm h x := fun B => by obtain ⟨p, hp, -⟩ := B; exact (nomatch hp)
theorem Pos.xs {U V : State} (P : Pos p l e R s m args below meth c own nm bytes ml rt Z a0 EL h0 ws T h cells slots)
    (f : At T m c below → p.tables.exec = Jvm.exec → c.code = bytes → ∀ t, Steps p.tables e below V t → Steps p.tables e below U t) (g : Go p e below Q V) : Go p e below Q U := by
  obtain ⟨vm0, k0, locs, X, ⟨hx, hby, -⟩, -⟩ := P
  exact g.of (f X.here hx hby)
theorem Pos.st {U V : State} (P : Pos p l e R s m args below meth c own nm bytes ml rt Z a0 EL h0 ws T h cells slots)
    (f : ∀ (vm0 : Vm) (locs : List Loc), Stand p l e R (s.setVm vm0) m args below meth c T locs cells slots → p.tables.exec = Jvm.exec → c.code = bytes → ∀ t, Steps p.tables e below V t → Steps p.tables e below U t) (g : Go p e below Q V) : Go p e below Q U := by
  obtain ⟨vm0, k0, locs, X, ⟨hx, hby, -⟩, -⟩ := P
  exact g.of (f vm0 locs X hx hby)
theorem Pos.old (P : Pos p l e R s m args below meth c own nm bytes ml rt Z a0 EL h0 ws T h cells slots) : Ext Z.heap h := by
  obtain ⟨vm0, k0, locs, X, -, -, -, -, -, -, -, -, -, O⟩ := P; exact O
theorem Pos.kept (P : Pos p l e R s m args below meth c own nm bytes ml rt Z a0 EL h0 ws T h cells slots) : Keep h0 h ws := by
  obtain ⟨vm0, k0, locs, X, -, -, -, -, -, -, -, -, K, -⟩ := P; exact K
theorem Pos.wider (P : Pos p l e R s m args below meth c own nm bytes ml rt Z a0 EL h0 ws T h cells slots) {cells' slots' : Nat} (hc : cells ≤ cells') (hs : slots ≤ slots') : Pos p l e R s m args below meth c own nm bytes ml rt Z a0 EL h0 ws T h cells' slots' := by
  obtain ⟨vm0, k0, locs, X, r⟩ := P
  exact ⟨vm0, k0, locs, { X with same := X.same.mono hc hs }, r⟩
/-- nothing old was written at the end: every way to leave -/
theorem Pos.ret {w : Option Value} {i : Instr} (P : Pos p l e R s m args below meth c own nm bytes ml rt Z a0 EL h0 ws T h cells slots) {stk : List Value}
    (hv : rt = none → w = none)
    (hst : ∀ (vm0 : Vm) (locs : List Loc) (fs : List Frame), Stand p l e R (s.setVm vm0) m args below meth c T locs cells slots → p.tables.exec = Jvm.exec → c.code = bytes → meth.sig.returnType = rt → (∀ (f : JFrame) (acts : List Action), f.method = m → f.locked = none → f.entered = [] → (doReturn e (T.setTop f) acts w).1 = T.setFrames fs) → Steps p.tables e below (T.setTop (mkF m pc Ls stk)) (T.setFrames fs))
    (hc : cells ≤ rm.cells) (hs : slots ≤ rm.slots) (q : Qv w h) : Go p e below (Fini Z EL h0 ws rm Qv s) (T.setTop (mkF m pc Ls stk)) := by
  obtain ⟨vm0, k0, locs, X, ⟨hx, hby, hml, hret, hlk, hnm, hh, hEL, hZs⟩, hZ, hown, hS, hk, eT, hC, N, K, O⟩ := P
  obtain ⟨fs, hr, hrun, hended, r1, r2, r3, r4⟩ := X.leaveW hS (by rw [eT]; exact hk) (v := w) (fun q => hv (hret.symm.trans q)) hlk
  refine ⟨_, _, hst vm0 locs fs X hx hby hret hr, hrun, hended, w, locs, rfl, ⟨N, ?_, ?_, ?_⟩, ?_, r1, r2, r3, r4.mono hc hs⟩
  · show Keep h0 T.heap ws; rw [eT]; exact K
  · show Ext Z.heap T.heap; rw [eT]; exact O
  · show Qv w T.heap; rw [eT]; exact q
  · show CHr Z EL s.vm s.heap T.vm T.heap
    rw [eT, hh]; exact hC.trans (CHv.at X hZ hEL hC.1)
theorem Pos.retR {w : Value} {t : FieldType} (P : Pos p l e R s m args below meth c own nm bytes ml rt Z a0 EL h0 ws T h cells slots) (hret : rt = some t) (ht : t.isReference = true) (hw : w.isRef = true) (hd : decode bytes pc = .ok (.areturn, 1)) (hc : cells ≤ rm.cells) (hs : slots ≤ rm.slots) (q : Qv (some w) h) :
    Go p e below (Fini Z EL h0 ws rm Qv s) (T.setTop (mkF m pc Ls (w :: rest))) :=
  P.ret (i := .areturn) (fun q => by rw [hret] at q; cases q) (fun vm0 locs fs X hx hby hr hl => retOut X hx (i := .areturn) (hr.trans hret) (by cases w <;> first | (cases t <;> rfl) | (simp [Value.isRef] at hw)) (Or.inr (Or.inr (Or.inr (Or.inr ⟨rfl, ht, hw⟩)))) (hb hby hd) hl) hc hs q
theorem Pos.retN {z : Int32} {t : FieldType} (P : Pos p l e R s m args below meth c own nm bytes ml rt Z a0 EL h0 ws T h cells slots) (hret : rt = some t) (ht : t = .boolean ∨ t = .byte ∨ t = .char ∨ t = .short) (hd : decode bytes pc = .ok (.ireturn, 1)) (hc : cells ≤ rm.cells) (hs : slots ≤ rm.slots) (q : Qv (some (.int (nar t z))) h) :
    Go p e below (Fini Z EL h0 ws rm Qv s) (T.setTop (mkF m pc Ls (.int z :: rest))) :=
  P.ret (i := .ireturn) (fun q => by rw [hret] at q; cases q) (fun vm0 locs fs X hx hby hr hl => Jvm.RoadKit.retN X hx (hr.trans hret) ht (hb hby hd) hl) hc hs q
theorem Pos.retI {z : Int32} (P : Pos p l e R s m args below meth c own nm bytes ml rt Z a0 EL h0 ws T h cells slots) (hret : rt = some .int) (hd : decode bytes pc = .ok (.ireturn, 1)) (hc : cells ≤ rm.cells) (hs : slots ≤ rm.slots) (q : Qv (some (.int z)) h) :
    Go p e below (Fini Z EL h0 ws rm Qv s) (T.setTop (mkF m pc Ls (.int z :: rest))) :=
  P.ret (i := .ireturn) (fun q => by rw [hret] at q; cases q) (fun vm0 locs fs X hx hby hr hl => retOut X hx (i := .ireturn) (hr.trans hret) rfl (Or.inl ⟨rfl, Or.inl rfl, z, rfl⟩) (hb hby hd) hl) hc hs q
theorem Pos.retV (P : Pos p l e R s m args below meth c own nm bytes ml rt Z a0 EL h0 ws T h cells slots) (hret : rt = none) (hd : decode bytes pc = .ok (.return_, 1)) (hc : cells ≤ rm.cells) (hs : slots ≤ rm.slots) (q : Qv none h) :
    Go p e below (Fini Z EL h0 ws rm Qv s) (T.setTop (mkF m pc Ls [])) :=
  P.ret (i := .return_) (fun _ => rfl) (fun vm0 locs fs X hx hby hr hl => X.returnOut hx (hr.trans hret) (hb hby hd) hl) hc hs q
/-- a step that leaves the heap, given in the library's shape -/
theorem Pos.same {U : State} (P : Pos p l e R s m args below meth c own nm bytes ml rt Z a0 EL h0 ws T h cells slots) {V : State → State}
    (f : ∀ (vm0 : Vm) (locs : List Loc), Stand p l e R (s.setVm vm0) m args below meth c T locs cells slots → p.tables.exec = Jvm.exec → c.code = bytes → c.maxLocals = ml → Z.Warmed39 vm0 → vm0.findClass own = some m.cls → T.heap = h →
      ∃ T', Stand p l e R (s.setVm vm0) m args below meth c T' locs cells slots ∧ T'.heap = h ∧ ∀ t, Steps p.tables e below (V T') t → Steps p.tables e below U t)
    (k : ∀ T', Pos p l e R s m args below meth c own nm bytes ml rt Z a0 EL h0 ws T' h cells slots → Go p e below Q (V T')) : Go p e below Q U := by
  obtain ⟨vm0, k0, locs, X, ⟨hx, hby, hml, hret, hlk, hnm, hh, hEL, hZs⟩, hZ, hown, hS, hk, eT, r⟩ := P
  obtain ⟨T', X', e', st⟩ := f vm0 locs X hx hby hml hZ hown eT
  exact (k T' ⟨vm0, k0, locs, X', ⟨hx, hby, hml, hret, hlk, hnm, hh, hEL, hZs⟩, hZ, hown, hS, hk, e', r⟩).of st
theorem Pos.getF (P : Pos p l e R s m args below meth c own nm bytes ml rt Z a0 EL h0 ws T h cells slots) {R0 O n d host : String} {index : Nat} (w : (Jvm.Cond.fieldLink own index R0 n d).before a0 Z = true ∨ (Jvm.Cond.fieldLinkNest own index R0 n d host).before a0 Z = true) (via : Via Z R0 O n d) {a : Addr} {v : Value} (F : Fld Z h a O n d v) (hd : decode bytes pc = .ok (.getfield index, 3))
    (k : ∀ T', Pos p l e R s m args below meth c own nm bytes ml rt Z a0 EL h0 ws T' h cells slots → Go p e below Q (T'.setTop (mkF m (pc + 3) Ls (v :: rest)))) : Go p e below Q (T.setTop (mkF m pc Ls (.ref a :: rest))) :=
  P.same (V := fun T' => T'.setTop (mkF m (pc + 3) Ls (v :: rest))) (fun vm0 locs X hx hby hml hZ hown eT => Jvm.RoadKit.getF X hx hZ hown w via eT F (g := mkF m pc Ls (.ref a :: rest)) rfl rfl (hb hby hd)) k
theorem Pos.getS (P : Pos p l e R s m args below meth c own nm bytes ml rt Z a0 EL h0 ws T h cells slots) {R0 O n d host : String} {index : Nat} (w : (Jvm.Cond.fieldLink own index R0 n d).before a0 Z = true ∨ (Jvm.Cond.fieldLinkNest own index R0 n d host).before a0 Z = true) (via : Via Z R0 O n d) {v : Value} (F : Sta Z Z.heap O n d v) (hd : decode bytes pc = .ok (.getstatic index, 3))
    (k : ∀ T', Pos p l e R s m args below meth c own nm bytes ml rt Z a0 EL h0 ws T' h cells slots → Go p e below Q (T'.setTop (mkF m (pc + 3) Ls (v :: rest)))) : Go p e below Q (T.setTop (mkF m pc Ls rest)) :=
  have O := P.old
  P.same (V := fun T' => T'.setTop (mkF m (pc + 3) Ls (v :: rest))) (fun vm0 locs X hx hby hml hZ hown eT => getS2 X hx hZ hown w via eT (F.ext O) (g := mkF m pc Ls rest) rfl (hb hby hd)) k
theorem Pos.cast (P : Pos p l e R s m args below meth c own nm bytes ml rt Z a0 EL h0 ws T h cells slots) {K : String} {index : Nat} (w : (Jvm.Cond.classLink own index K).before a0 Z = true) {a : Addr} (F : Ins Z h a K true) (hd : decode bytes pc = .ok (.checkcast index, 3))
    (k : ∀ T', Pos p l e R s m args below meth c own nm bytes ml rt Z a0 EL h0 ws T' h cells slots → Go p e below Q (T'.setTop (mkF m (pc + 3) Ls (.ref a :: rest)))) : Go p e below Q (T.setTop (mkF m pc Ls (.ref a :: rest))) :=
  P.same (V := fun T' => T'.setTop (mkF m (pc + 3) Ls (.ref a :: rest))) (fun vm0 locs X hx hby hml hZ hown eT => castY X hx hZ hown w eT F (g := mkF m pc Ls (.ref a :: rest)) rfl rfl (hb hby hd)) k
theorem Pos.inst (P : Pos p l e R s m args below meth c own nm bytes ml rt Z a0 EL h0 ws T h cells slots) {K : String} {index : Nat} (w : (Jvm.Cond.classLink own index K).before a0 Z = true) {a : Addr} (F : Ins Z h a K true) (hd : decode bytes pc = .ok (.instanceof index, 3))
    (k : ∀ T', Pos p l e R s m args below meth c own nm bytes ml rt Z a0 EL h0 ws T' h cells slots → Go p e below Q (T'.setTop (mkF m (pc + 3) Ls (.int 1 :: rest)))) : Go p e below Q (T.setTop (mkF m pc Ls (.ref a :: rest))) :=
  P.same (V := fun T' => T'.setTop (mkF m (pc + 3) Ls (.int 1 :: rest))) (fun vm0 locs X hx hby hml hZ hown eT => instY X hx hZ hown w eT F (g := mkF m pc Ls (.ref a :: rest)) rfl rfl (hb hby hd)) k
theorem Pos.init0 (P : Pos p l e R s m args below meth c own nm bytes ml rt Z a0 EL h0 ws T h cells slots) {index W : Nat} (w1 : (Jvm.Cond.methodLink own index Lib.objectInit).before a0 Z = true) (w2 : (Jvm.Cond.instanceMethod Lib.objectInit).before a0 Z = true) (w3 : (Jvm.Cond.code Lib.objectInit ⟨#[0xb1]⟩ 1 none).before a0 Z = true) {a : Addr} (hd : decode bytes pc = .ok (.invokespecial index, 3)) (hsz : Ls.size = ml) (hf : 1 ≤ R.frames) (hW : (rest.map fun v => v.category).sum ≤ W) (hl : W + 12 ≤ R.locals)
    (k : ∀ T', Pos p l e R s m args below meth c own nm bytes ml rt Z a0 EL h0 ws T' h cells slots → Go p e below Q (T'.setTop (mkF m (pc + 3) Ls rest))) : Go p e below Q (T.setTop (mkF m pc Ls (.ref a :: rest))) :=
  P.same (V := fun T' => T'.setTop (mkF m (pc + 3) Ls rest)) (fun vm0 locs X hx hby hml hZ hown eT => initO X hx hZ hown w1 w2 w3 eT (g := mkF m pc Ls (.ref a :: rest)) rfl (by rw [hml]; exact hsz) rfl (hb hby hd) hf (W := W) (by show 2 * 0 + _ ≤ _; rw [Nat.mul_zero, Nat.zero_add]; exact hW) hl) k
/-- a step that makes new cells alone -/
theorem Pos.grow {U : State} {dc dn : Nat} {A : State → Heap → Prop} {V : State → State} (P : Pos p l e R s m args below meth c own nm bytes ml rt Z a0 EL h0 ws T h cells slots)
    (f : ∀ (vm0 : Vm) (locs : List Loc), Stand p l e R (s.setVm vm0) m args below meth c T locs cells slots → p.tables.exec = Jvm.exec → c.code = bytes → Z.Warmed39 vm0 → vm0.findClass own = some m.cls → T.heap = h →
      ∃ T' h', Stand p l e R (s.setVm vm0) m args below meth c T' locs (cells + dc) (slots + dn) ∧ T'.heap = h' ∧ Ext h h' ∧ A T' h' ∧ ∀ t, Steps p.tables e below (V T') t → Steps p.tables e below U t)
    (k : ∀ T' h', Pos p l e R s m args below meth c own nm bytes ml rt Z a0 EL h0 ws T' h' (cells + dc) (slots + dn) → Ext h h' → A T' h' → Go p e below Q (V T')) : Go p e below Q U := by
  obtain ⟨vm0, k0, locs, X, ⟨hx, hby, hml, hret, hlk, hnm, hh, hEL, hZs⟩, hZ, hown, hS, hk, eT, hC, N, K, O⟩ := P
  obtain ⟨T', h', X', e', E, hA, st⟩ := f vm0 locs X hx hby hZ hown eT
  exact (k T' h' ⟨vm0, k0, locs, X', ⟨hx, hby, hml, hret, hlk, hnm, hh, hEL, hZs⟩, hZ, hown, hS, Nat.le_trans hk E.1, e', hC.trans (CHr.ext E hC.1), N, K.ext E, ⟨Nat.le_trans O.1 E.1, fun a c q => E.2 _ _ (O.2 _ _ q)⟩⟩ E hA).of st
theorem Pos.newO (P : Pos p l e R s m args below meth c own nm bytes ml rt Z a0 EL h0 ws T h cells slots) {C : String} {index n : Nat} (w : (Jvm.Cond.classLink own index C).before a0 Z = true) (wi : (Jvm.Cond.instantiable C n).before a0 Z = true) (wz : (Jvm.Cond.initialized C).before a0 Z = true) (hd : decode bytes pc = .ok (.new index, 3)) (hc : cells + 1 ≤ R.cells) (hl : slots + n ≤ R.slots)
    (k : ∀ T' h' x, x = h.size → Pos p l e R s m args below meth c own nm bytes ml rt Z a0 EL h0 ws T' h' (cells + 1) (slots + n) → Ext h h' → Exa Z h' x C → (∀ {O nm d : String} {ty : FieldType}, Laid Z a0 C O nm d → parseFieldDescriptor d = some ty → Fld Z h' x O nm d (defaultValue ty)) → Go p e below Q (T'.setTop (mkF m (pc + 3) Ls (.ref x :: rest)))) : Go p e below Q (T.setTop (mkF m pc Ls rest)) :=
  P.grow (V := fun T' => T'.setTop (mkF m (pc + 3) Ls (.ref h.size :: rest))) (A := fun T' h' => Exa Z h' h.size C ∧ ∀ {O nm d : String} {ty : FieldType}, Laid Z a0 C O nm d → parseFieldDescriptor d = some ty → Fld Z h' h.size O nm d (defaultValue ty))
    (fun vm0 locs X hx hby hZ hown eT => by
      obtain ⟨T', h', X', e', E, A, D, -, st⟩ := Jvm.RoadKit.newO X hx hZ hown w wi wz eT (g := mkF m pc Ls rest) rfl (hb hby hd) hc hl
      exact ⟨T', h', X', e', E, ⟨A, D⟩, st⟩)
    (fun T' h' P' E A => k T' h' _ rfl P' E A.1 A.2)
theorem Pos.newP (P : Pos p l e R s m args below meth c own nm bytes ml rt Z a0 EL h0 ws T h cells slots) {aty : ArrayType} {n : Int32} {cap : Nat} (w : (Jvm.Cond.arrayClass (newarray.typeOf aty)).before a0 Z = true) (hd : decode bytes pc = .ok (.newarray aty, 2)) (hn : ¬ n < 0) (hcap : n.toNatClampNeg ≤ cap) (hb8 : cap * 8 ≤ 536870912) (hc : cells + 1 ≤ R.cells) (hl : slots + cap ≤ R.slots)
    (k : ∀ T' h' x cA, x = h.size → Pos p l e R s m args below meth c own nm bytes ml rt Z a0 EL h0 ws T' h' (cells + 1) (slots + cap) → Ext h h' → Arv Z h' x cA (newarray.typeOf aty) n [] (defaultValue (newarray.typeOf aty)) → Go p e below Q (T'.setTop (mkF m (pc + 2) Ls (.ref x :: rest)))) : Go p e below Q (T.setTop (mkF m pc Ls (.int n :: rest))) :=
  P.grow (V := fun T' => T'.setTop (mkF m (pc + 2) Ls (.ref h.size :: rest))) (A := fun T' h' => ∃ cA, Arv Z h' h.size cA (newarray.typeOf aty) n [] (defaultValue (newarray.typeOf aty)))
    (fun vm0 locs X hx hby hZ hown eT => by
      obtain ⟨T', h', cA, X', e', E, A, st⟩ := Jvm.RoadKit.newP X hx hZ w eT (g := mkF m pc Ls (.int n :: rest)) rfl (hb hby hd) rfl hn hcap hb8 hc hl
      exact ⟨T', h', X', e', E, ⟨cA, Arv.new A hn⟩, st⟩)
    (fun T' h' P' E A => by obtain ⟨cA, A⟩ := A; exact k T' h' _ cA rfl P' E A)
theorem Pos.newR (P : Pos p l e R s m args below meth c own nm bytes ml rt Z a0 EL h0 ws T h cells slots) {C : String} {index : Nat} {n : Int32} {cap : Nat} (w1 : (Jvm.Cond.classLink own index C).before a0 Z = true) (w2 : (Jvm.Cond.arrayOver (.object C)).before a0 Z = true) (hd : decode bytes pc = .ok (.anewarray index, 3)) (hn : ¬ n < 0) (hcap : n.toNatClampNeg ≤ cap) (hb8 : cap * 8 ≤ 536870912) (hc : cells + 1 ≤ R.cells) (hl : slots + cap ≤ R.slots)
    (k : ∀ T' h' x cA, x = h.size → Pos p l e R s m args below meth c own nm bytes ml rt Z a0 EL h0 ws T' h' (cells + 1) (slots + cap) → Ext h h' → Arv Z h' x cA (.object C) n [] .null → Ovr Z cA C → Go p e below Q (T'.setTop (mkF m (pc + 3) Ls (.ref x :: rest)))) : Go p e below Q (T.setTop (mkF m pc Ls (.int n :: rest))) :=
  P.grow (V := fun T' => T'.setTop (mkF m (pc + 3) Ls (.ref h.size :: rest))) (A := fun T' h' => ∃ cA, Arv Z h' h.size cA (.object C) n [] .null ∧ Ovr Z cA C)
    (fun vm0 locs X hx hby hZ hown eT => by
      obtain ⟨T', h', cA, X', e', E, A, O, st⟩ := Jvm.RoadKit.newR X hx hZ hown w1 w2 eT (g := mkF m pc Ls (.int n :: rest)) rfl (hb hby hd) rfl hn hcap hb8 hc hl
      exact ⟨T', h', X', e', E, ⟨cA, Arv.new A hn, O⟩, st⟩)
    (fun T' h' P' E A => by obtain ⟨cA, A, O⟩ := A; exact k T' h' _ cA rfl P' E A O)
/-- a step that writes one place of a -/
theorem Pos.wr {U : State} {a : Addr} {sl : Nat} {v : Value} {V : State → State} (P : Pos p l e R s m args below meth c own nm bytes ml rt Z a0 EL h0 ws T h cells slots)
    (hsafe : ∀ vm, Z.vm.Alike s.vm → Z.vm.Alike vm → CHr Z EL s.vm h0 vm h → Safe Z EL vm h a) (hz : Z.heap.size ≤ a) (hws : a ∈ ws ∨ h0.size ≤ a)
    (f : ∀ (vm0 : Vm) (locs : List Loc), Stand p l e R (s.setVm vm0) m args below meth c T locs cells slots → p.tables.exec = Jvm.exec → c.code = bytes → Z.Warmed39 vm0 → vm0.findClass own = some m.cls → T.heap = h → meth.name = nm →
      ∃ T' h', Stand p l e R (s.setVm vm0) m args below meth c T' (locs ++ [⟨a, sl⟩]) cells slots ∧ T'.heap = h' ∧ Wr h h' a sl v ∧ ∀ t, Steps p.tables e below (V T') t → Steps p.tables e below U t)
    (k : ∀ T' h', Pos p l e R s m args below meth c own nm bytes ml rt Z a0 EL h0 ws T' h' cells slots → Wr h h' a sl v → Go p e below Q (V T')) : Go p e below Q U := by
  obtain ⟨vm0, k0, locs, X, ⟨hx, hby, hml, hret, hlk, hnm, hh, hEL, hZs⟩, hZ, hown, hS, hk, eT, hC, N, K, O⟩ := P
  obtain ⟨T', h', X', e', W, st⟩ := f vm0 locs X hx hby hZ hown eT hnm
  exact (k T' h' ⟨vm0, k0, _, X', ⟨hx, hby, hml, hret, hlk, hnm, hh, hEL, hZs⟩, hZ, hown, hS, Nat.le_trans hk (Nat.le_of_eq W.size.symm), e', hC.trans (CHr.wr W (hsafe vm0 hZs.alike hZ.alike hC) hC.1), Fr.snoc X' N hz, K.wr W hws,
    (Old.wr (n0 := Z.heap.size) ⟨rfl, O⟩ W hz).2⟩ W).of st
theorem Pos.putF (P : Pos p l e R s m args below meth c own nm bytes ml rt Z a0 EL h0 ws T h cells slots) {R0 O n d C : String} {index kk : Nat} {ty : FieldType} {a : Addr} {v v' old : Value}
    (w : (Jvm.Cond.fieldLink own index R0 n d).before a0 Z = true) (via : Via Z R0 O n d) (F : Fld Z h a O n d old) (E : Exa Z h a C) (L : (Jvm.Cond.lays C O n d).before a0 Z = true ∨ ((Jvm.Cond.laysFinal C O n d).before a0 Z = true ∧ own = O ∧ nm = "<init>")) (wi : (Jvm.Cond.instantiable C kk).before a0 Z = true)
    (hty : parseFieldDescriptor d = some ty) (hn : narrow ty v = v') (hf : fits ty v' = true) (hd : decode bytes pc = .ok (.putfield index, 3))
    (hsafe : ∀ vm, Z.vm.Alike s.vm → Z.vm.Alike vm → CHr Z EL s.vm h0 vm h → Safe Z EL vm h a) (hz : Z.heap.size ≤ a) (hws : a ∈ ws ∨ h0.size ≤ a)
    (k : ∀ T' h', Pos p l e R s m args below meth c own nm bytes ml rt Z a0 EL h0 ws T' h' cells slots → Wr h h' a (Jvm.RoadKit.slotOf Z O n d) v' → Go p e below Q (T'.setTop (mkF m (pc + 3) Ls rest))) : Go p e below Q (T.setTop (mkF m pc Ls (v :: .ref a :: rest))) :=
  P.wr hsafe hz hws (V := fun T' => T'.setTop (mkF m (pc + 3) Ls rest)) (fun vm0 locs X hx hby hZ hown eT hnm => putFN X hx hZ hown w via eT F E (L.imp id fun q => ⟨q.1, q.2.1, hnm.trans q.2.2⟩) wi hty hn hf (g := mkF m pc Ls (v :: .ref a :: rest)) rfl rfl (hb hby hd)) k
theorem inb {j : Int32} {i : Nat} {cl : Cell} {z : Int32} (hj : j.toNatClampNeg = i) (hj0 : ¬ j < 0) (hS : cl.slots.size = z.toNatClampNeg) (hlt : i < z.toNatClampNeg) : ¬ (j < 0 ∨ cl.slots.size ≤ j.toNatClampNeg) := by
  rintro (q | q)
  · exact hj0 q
  · rw [hS, hj] at q; omega
theorem Pos.stC (P : Pos p l e R s m args below meth c own nm bytes ml rt Z a0 EL h0 ws T h cells slots) {a : Addr} {kc : ClassId} {z j x x' : Int32} {vs : List Value} {dv : Value} (A : Arv Z h a kc .char z vs dv) (i : Nat) (hj : j.toNatClampNeg = i) (hj0 : ¬ j < 0) (hlt : i < z.toNatClampNeg) (hi : i < vs.length) (hx' : nar .char x = x') (hd : decode bytes pc = .ok (.castore, 1)) (hz : Z.heap.size ≤ a) (hws : a ∈ ws ∨ h0.size ≤ a)
    (k : ∀ T' h', Pos p l e R s m args below meth c own nm bytes ml rt Z a0 EL h0 ws T' h' cells slots → Wr h h' a j.toNatClampNeg (.int x') → Arv Z h' a kc .char z (vs.set i (.int x')) dv → Go p e below Q (T'.setTop (mkF m (pc + 1) Ls rest))) : Go p e below Q (T.setTop (mkF m pc Ls (.int x :: .int j :: .ref a :: rest))) := by
  obtain ⟨cl, Ar, q1, S, N, H, G⟩ := A
  subst hx'
  refine P.wr (fun vm _ hal _ => Safe.arr hal Ar (by decide)) hz hws (V := fun T' => T'.setTop (mkF m (pc + 1) Ls rest)) (fun vm0 locs X hx hby hZ hown eT hnm => Jvm.RoadKit.stC X hx hZ eT Ar (inb hj hj0 S hlt) (g := mkF m pc Ls (.int x :: .int j :: .ref a :: rest)) rfl rfl (hb hby hd)) (fun T' h' P' W => k T' h' P' W (Arv.set Ar q1 S N H G (fits_nar_char x) W i hj hi))
theorem Pos.stR (P : Pos p l e R s m args below meth c own nm bytes ml rt Z a0 EL h0 ws T h cells slots) {a : Addr} {kc : ClassId} {C : String} {z j : Int32} {y : Addr} {vs : List Value} {dv : Value} (A : Arv Z h a kc (.object C) z vs dv) (O : Ovr Z kc C) (I : Ins Z h y C true) (i : Nat) (hj : j.toNatClampNeg = i) (hj0 : ¬ j < 0) (hlt : i < z.toNatClampNeg) (hi : i < vs.length) (hd : decode bytes pc = .ok (.aastore, 1)) (hz : Z.heap.size ≤ a) (hws : a ∈ ws ∨ h0.size ≤ a)
    (k : ∀ T' h', Pos p l e R s m args below meth c own nm bytes ml rt Z a0 EL h0 ws T' h' cells slots → Wr h h' a j.toNatClampNeg (.ref y) → Arv Z h' a kc (.object C) z (vs.set i (.ref y)) dv → Go p e below Q (T'.setTop (mkF m (pc + 1) Ls rest))) : Go p e below Q (T.setTop (mkF m pc Ls (.ref y :: .int j :: .ref a :: rest))) := by
  obtain ⟨cl, Ar, q1, S, N, H, G⟩ := A
  refine P.wr (fun vm _ hal _ => Safe.arr hal Ar nofun) hz hws (V := fun T' => T'.setTop (mkF m (pc + 1) Ls rest)) (fun vm0 locs X hx hby hZ hown eT hnm => Jvm.RoadKit.stR X hx hZ eT Ar (inb hj hj0 S hlt) rfl (Sto.ofV Ar q1 O I) (g := mkF m pc Ls (.ref y :: .int j :: .ref a :: rest)) rfl rfl (hb hby hd)) (fun T' h' P' W => k T' h' P' W (Arv.set Ar q1 S N H G rfl W i hj hi))
/-- a String constant, opaque -/
theorem Pos.ldcO (P : Pos p l e R s m args below meth c own nm bytes ml rt Z a0 EL h0 ws T h cells slots) {text : String} {index n : Nat} (w : (Jvm.Cond.stringLink own index text).before a0 Z = true) (wS : ∀ a ∈ Bundle.stringAtoms, a.before a0 Z = true) (hd : decode bytes pc = .ok (.ldc index, 2)) (hn : 4 * text.toList.length ≤ n) (hbig : n ≤ 536870912) (hc : cells + 2 ≤ R.cells) (hl : slots + (n + 4) ≤ R.slots)
    (k : ∀ T' h' x, Pos p l e R s m args below meth c own nm bytes ml rt Z a0 EL h0 ws T' h' (cells + 2) (slots + (n + 4)) → Ext h h' → Go p e below Q (T'.setTop (mkF m (pc + 2) Ls (.ref x :: rest)))) : Go p e below Q (T.setTop (mkF m pc Ls rest)) := by
  obtain ⟨vm0, k0, locs, X, ⟨hx, hby, hml, hret, hlk, hnm, hh, hEL, hZs⟩, hZ, hown, hS, hk, eT, hC, N, K, O⟩ := P
  obtain ⟨a, T', h', k1, X', e', E, hS', hk', hZ', hown', hC', -, st⟩ := ldcOH X hx hZ hown w wS eT hS hk hEL hC.1 (g := mkF m pc Ls rest) rfl (hb hby hd) hn hbig hc hl
  exact (k T' h' a ⟨T'.vm, k1, locs, X', ⟨hx, hby, hml, hret, hlk, hnm, hh, hEL, hZs⟩, hZ', hown', hS', hk', e', hC.trans hC', N, K.ext E, ⟨Nat.le_trans O.1 E.1, fun a c q => E.2 _ _ (O.2 _ _ q)⟩⟩ E).of st
/-- a String constant, read -/
theorem Pos.ldcR (P : Pos p l e R s m args below meth c own nm bytes ml rt Z a0 EL h0 ws T h cells slots) {text : String} {index n : Nat} {vs : List Value} {z : Int32} (w : (Jvm.Cond.stringLink own index text).before a0 Z = true) (wS : ∀ a ∈ Bundle.stringAtoms, a.before a0 Z = true) (hmem : (own, index) ∈ EL) (ht : (∀ c ∈ text.toList, c.toNat < 256) ∧ text.toList.map (fun c => Value.int (Jvm.Lit.byteI c.toNat.toUInt16)) = vs) (hz : ¬ z < 0) (hl0 : z.toNatClampNeg = vs.length) (hd : decode bytes pc = .ok (.ldc index, 2)) (hn : 4 * text.toList.length ≤ n) (hbig : n ≤ 536870912) (hc : cells + 2 ≤ R.cells) (hl : slots + (n + 4) ≤ R.slots)
    (k : ∀ T' h' x b kb, Pos p l e R s m args below meth c own nm bytes ml rt Z a0 EL h0 ws T' h' (cells + 2) (slots + (n + 4)) → Ext h h' → Exa Z h' x "java/lang/String" → Fld Z h' x "java/lang/String" "coder" "B" (.int 0) → Fld Z h' x "java/lang/String" "value" "[B" (.ref b) → Arv Z h' b kb .byte z vs (.int 0) → Go p e below Q (T'.setTop (mkF m (pc + 2) Ls (.ref x :: rest)))) : Go p e below Q (T.setTop (mkF m pc Ls rest)) := by
  obtain ⟨vm0, k0, locs, X, ⟨hx, hby, hml, hret, hlk, hnm, hh, hEL, hZs⟩, hZ, hown, hS, hk, eT, hC, N, K, O⟩ := P
  obtain ⟨a, T', h', k1, b, kb, X', e', E, hS', hk', hZ', hown', f1, f2, f3, f4, -, -, hC', -, -, st⟩ := ldcCH X hx hZ hown w wS eT hS hk hEL hmem hC.1 ht hz hl0 (g := mkF m pc Ls rest) rfl (hb hby hd) hn hbig hc hl
  exact (k T' h' a b kb ⟨T'.vm, k1, locs, X', ⟨hx, hby, hml, hret, hlk, hnm, hh, hEL, hZs⟩, hZ', hown', hS', hk', e', hC.trans hC', N, K.ext E, ⟨Nat.le_trans O.1 E.1, fun a c q => E.2 _ _ (O.2 _ _ q)⟩⟩ E f1 f2 f3 f4).of st
/-- behind a call by contract: the point, all its facts -/
theorem Pos.after {vm0 : Vm} {k0 : Nat} {locs L : List Loc} {dc dn cc nn : Nat} {ws' : List Addr} {U : State} {LL : List Loc}
    (hR : p.tables.exec = Jvm.exec ∧ c.code = bytes ∧ c.maxLocals = ml ∧ meth.sig.returnType = rt ∧ meth.locks = false ∧ meth.name = nm ∧ s.heap = h0 ∧ EW Z a0 EL ∧ Z.Warmed39 s.vm) (hZ : Z.Warmed39 vm0) (hown : vm0.findClass own = some m.cls) (hS : s.Since vm0 k0) (hk : k0 ≤ h.size) (eT : T.heap = h) (hC : CHr Z EL s.vm h0 vm0 h) (N : Fr Z.heap.size locs) (K : Keep h0 h ws)
    (X' : Stand p l e R ((s.setVm vm0).setVm U.vm) m args below meth c U LL cc nn) (hS2 : (s.setVm vm0).Since U.vm U.heap.size) (g : T.heap.size ≤ U.heap.size) (hLL : LL = locs ++ L) (hcc : cc = cells + dc) (hnn : nn = slots + dn) (hC' : CHr Z EL vm0 h U.vm U.heap) (N' : Fr Z.heap.size L) (K' : Keep h U.heap ws') (O' : Ext Z.heap U.heap) (hws : ∀ x ∈ ws', x ∈ ws ∨ h0.size ≤ x) :
    Pos p l e R s m args below meth c own nm bytes ml rt Z a0 EL h0 ws U U.heap (cells + dc) (slots + dn) := by
  subst hLL hcc hnn
  rw [eT] at g
  obtain ⟨Y, hS3, hZ3, ho3⟩ := rebS hS hk X' hS2 g hZ hown
  exact ⟨U.vm, _, _, Y, hR, hZ3, ho3, hS3, Nat.le_refl _, rfl, hC.trans hC', N.app N', K.trans K' hws, O'⟩
theorem Pos.callS (P : Pos p l e R s m args below meth c own nm bytes ml rt Z a0 EL h0 ws T h cells slots) {index : Nat} {y : MethodName} {bytes' : ByteArray} {ml' W : Nat} {rt' : Option FieldType} {argsL stk : List Value} {ws' : List Addr} {ps : List FieldType} {r : Option FieldType}
    (w1 : (Jvm.Cond.methodLink own index y).before a0 Z = true) (w2 : (Jvm.Cond.static y).before a0 Z = true) (w3 : (Jvm.Cond.initialized y.cls).before a0 Z = true) (w4 : (Jvm.Cond.code y bytes' ml' rt').before a0 Z = true) (hy : y.cls ≠ "java/lang/invoke/MethodHandle" ∧ y.cls ≠ "java/lang/invoke/VarHandle")
    (C : Con l Z EL [] y bytes' ml' rt' rm argsL.toArray h ws' Qv) (hf : rm.frames + 1 ≤ R.frames) (hl : W + (ml' + 11) + rm.locals ≤ R.locals) (hc : cells + rm.cells ≤ R.cells) (hs : slots + rm.slots ≤ R.slots) (hws : ∀ x ∈ ws', x ∈ ws ∨ h0.size ≤ x)
    (pd : parseMethodDescriptor y.desc = some ⟨ps, r⟩) (hlen : argsL.length = ps.length) (hst : stk = argsL.reverse ++ rest) (hsz : Ls.size = ml) (hW : (rest.map fun v => v.category).sum ≤ W) (hd : decode bytes pc = .ok (.invokestatic index, 3))
    (k : ∀ v T' h', Pos p l e R s m args below meth c own nm bytes ml rt Z a0 EL h0 ws T' h' (cells + rm.cells) (slots + rm.slots) → Keep h h' ws' → Qv v h' → Go p e below Q (T'.setTop (mkF m (pc + 3) Ls (v.toList ++ rest)))) : Go p e below Q (T.setTop (mkF m pc Ls stk)) := by
  obtain ⟨vm0, k0, locs, X, hR, hZ, hown, hS, hk, eT, hC, N, K, O⟩ := P
  have hR' := hR
  obtain ⟨hx, hby, hml, hret, hlk, hnm, hh, hEL, hZs⟩ := hR'
  obtain ⟨v, _, ⟨U, LL, cc, nn⟩, -, X', hS2, hg, ⟨L, ⟨N', K', O', hQ⟩, hLL, hcc, hnn, hC'⟩, st⟩ := callSS X hx (y := y) hown (mvT (s := s.setVm vm0) hZ w1) (mvT (s := s.setVm vm0) hZ w2) (mvT (s := s.setVm vm0) hZ w3) (mvT (s := s.setVm vm0) hZ w4) hy (backOfSH (W := W) (vm0 := vm0) (Q := fun v h' L => Fr Z.heap.size L ∧ Keep h h' ws' ∧ Ext Z.heap h' ∧ Qv v h') C hZ w4 w3 hf hl hEL hC.1) (g := mkF m pc Ls stk) rfl (by rw [hml]; exact hsz) (argsL := argsL) (rest := rest) (lenOf pd hlen) hst (by show 2 * 0 + _ ≤ _; rw [Nat.mul_zero, Nat.zero_add]; exact hW) (hb hby hd) (fun _ _ => ⟨rfl, eT, hc, hs⟩)
  dsimp only at X' hS2 hg hLL hcc hnn hC' st N' K' O' hQ
  exact (k v U U.heap (Pos.after hR hZ hown hS hk eT hC N K X' hS2 hg hLL hcc hnn hC' N' K' O' hws) K' hQ).of (fun t q => st.trans q)
theorem Pos.callI (P : Pos p l e R s m args below meth c own nm bytes ml rt Z a0 EL h0 ws T h cells slots) {index : Nat} {y : MethodName} {bytes' : ByteArray} {ml' W : Nat} {a : Addr} {argsL stk : List Value} {ws' : List Addr} {ps : List FieldType} {r : Option FieldType} (hy1 : y.name = "<init>")
    (w1 : (Jvm.Cond.methodLink own index y).before a0 Z = true) (w2 : (Jvm.Cond.instanceMethod y).before a0 Z = true) (w3 : (Jvm.Cond.initialized y.cls).before a0 Z = true) (w4 : (Jvm.Cond.code y bytes' ml' none).before a0 Z = true) (hy : y.cls ≠ "java/lang/invoke/MethodHandle" ∧ y.cls ≠ "java/lang/invoke/VarHandle")
    (C : Con l Z EL [] y bytes' ml' none rm (.ref a :: argsL).toArray h ws' Qv) (hf : rm.frames + 1 ≤ R.frames) (hl : W + (ml' + 11) + rm.locals ≤ R.locals) (hc : cells + rm.cells ≤ R.cells) (hs : slots + rm.slots ≤ R.slots) (hws : ∀ x ∈ ws', x ∈ ws ∨ h0.size ≤ x)
    (pd : parseMethodDescriptor y.desc = some ⟨ps, r⟩) (hlen : argsL.length = ps.length) (hst : stk = argsL.reverse ++ .ref a :: rest) (hsz : Ls.size = ml) (hW : (rest.map fun v => v.category).sum ≤ W) (hd : decode bytes pc = .ok (.invokespecial index, 3))
    (k : ∀ v T' h', Pos p l e R s m args below meth c own nm bytes ml rt Z a0 EL h0 ws T' h' (cells + rm.cells) (slots + rm.slots) → Keep h h' ws' → Qv v h' → Go p e below Q (T'.setTop (mkF m (pc + 3) Ls (v.toList ++ rest)))) : Go p e below Q (T.setTop (mkF m pc Ls stk)) := by
  obtain ⟨vm0, k0, locs, X, hR, hZ, hown, hS, hk, eT, hC, N, K, O⟩ := P
  have hR' := hR
  obtain ⟨hx, hby, hml, hret, hlk, hnm, hh, hEL, hZs⟩ := hR'
  obtain ⟨v, _, ⟨U, LL, cc, nn⟩, -, X', hS2, hg, ⟨L, ⟨N', K', O', hQ⟩, hLL, hcc, hnn, hC'⟩, st⟩ := X.specialBackS hx (y := y) hy1 hown (mvT (s := s.setVm vm0) hZ w1) (mvT (s := s.setVm vm0) hZ w2) (mvT (s := s.setVm vm0) hZ w4) hy (backOfSH (W := W) (vm0 := vm0) (Q := fun v h' L => Fr Z.heap.size L ∧ Keep h h' ws' ∧ Ext Z.heap h' ∧ Qv v h') C hZ w4 w3 hf hl hEL hC.1) (g := mkF m pc Ls stk) rfl (by rw [hml]; exact hsz) (Steps.refl _) (a := a) (argsL := argsL) (rest := rest) (lenOf pd hlen) hst (by show 2 * 0 + _ ≤ _; rw [Nat.mul_zero, Nat.zero_add]; exact hW) (hb hby hd) (fun _ _ => ⟨rfl, eT, hc, hs⟩)
  dsimp only at X' hS2 hg hLL hcc hnn hC' st N' K' O' hQ
  exact (k v U U.heap (Pos.after hR hZ hown hS hk eT hC N K X' hS2 hg hLL hcc hnn hC' N' K' O' hws) K' hQ).of (fun t q => st.trans q)
theorem Pos.callV (P : Pos p l e R s m args below meth c own nm bytes ml rt Z a0 EL h0 ws T h cells slots) {index : Nat} {y z : MethodName} {bytes' : ByteArray} {ml' W : Nat} {rt' : Option FieldType} {C : String} {a : Addr} {argsL stk : List Value} {ws' : List Addr} {ps : List FieldType} {r : Option FieldType}
    (w1 : (Jvm.Cond.methodLink own index y).before a0 Z = true) (w2 : (Jvm.Cond.declares y).before a0 Z = true) (w5 : (Jvm.Cond.selects C y z).before a0 Z = true) (hnf : ∀ vm0, Z.Warmed39 vm0 → NotFace (s.setVm vm0) y) (w6 : (Jvm.Cond.instanceMethod z).before a0 Z = true) (w3 : (Jvm.Cond.initialized z.cls).before a0 Z = true) (w4 : (Jvm.Cond.code z bytes' ml' rt').before a0 Z = true) (hy : y.cls ≠ "java/lang/invoke/MethodHandle" ∧ y.cls ≠ "java/lang/invoke/VarHandle") (E : Exa Z h a C)
    (Cn : Con l Z EL [] z bytes' ml' rt' rm (.ref a :: argsL).toArray h ws' Qv) (hf : rm.frames + 1 ≤ R.frames) (hl : W + (ml' + 11) + rm.locals ≤ R.locals) (hc : cells + rm.cells ≤ R.cells) (hs : slots + rm.slots ≤ R.slots) (hws : ∀ x ∈ ws', x ∈ ws ∨ h0.size ≤ x)
    (pd : parseMethodDescriptor y.desc = some ⟨ps, r⟩) (hlen : argsL.length = ps.length) (hst : stk = argsL.reverse ++ .ref a :: rest) (hsz : Ls.size = ml) (hW : (rest.map fun v => v.category).sum ≤ W) (hd : decode bytes pc = .ok (.invokevirtual index, 3))
    (k : ∀ v T' h', Pos p l e R s m args below meth c own nm bytes ml rt Z a0 EL h0 ws T' h' (cells + rm.cells) (slots + rm.slots) → Keep h h' ws' → Qv v h' → Go p e below Q (T'.setTop (mkF m (pc + 3) Ls (v.toList ++ rest)))) : Go p e below Q (T.setTop (mkF m pc Ls stk)) := by
  obtain ⟨vm0, k0, locs, X, hR, hZ, hown, hS, hk, eT, hC, N, K, O⟩ := P
  have hR' := hR
  obtain ⟨hx, hby, hml, hret, hlk, hnm, hh, hEL, hZs⟩ := hR'
  obtain ⟨cq, kq, qa, qb, qc⟩ := isOf (s := s.setVm vm0) (T := T) hZ eT E
  obtain ⟨v, _, ⟨U, LL, cc, nn⟩, -, X', hS2, hg, ⟨L, ⟨N', K', O', hQ⟩, hLL, hcc, hnn, hC'⟩, st⟩ := X.virtualBackS hx (y := y) (z := z) hown (mvT (s := s.setVm vm0) hZ w1) (mvT (s := s.setVm vm0) hZ w2) (hnf vm0 hZ) (mvT (s := s.setVm vm0) hZ w5) (mvT (s := s.setVm vm0) hZ w6) hy (backOfSH (W := W) (vm0 := vm0) (Q := fun v h' L => Fr Z.heap.size L ∧ Keep h h' ws' ∧ Ext Z.heap h' ∧ Qv v h') Cn hZ w4 w3 hf hl hEL hC.1) qa qc (g := mkF m pc Ls stk) rfl (by rw [hml]; exact hsz) (Steps.refl _) (argsL := argsL) (rest := rest) (lenOf pd hlen) hst (by show 2 * 0 + _ ≤ _; rw [Nat.mul_zero, Nat.zero_add]; exact hW) (hb hby hd) (fun _ _ => ⟨rfl, eT, hc, hs⟩)
  dsimp only at X' hS2 hg hLL hcc hnn hC' st N' K' O' hQ
  exact (k v U U.heap (Pos.after hR hZ hown hS hk eT hC N K X' hS2 hg hLL hcc hnn hC' N' K' O' hws) K' hQ).of (fun t q => st.trans q)
theorem nfOf {y : MethodName} {C : String} (w5 : (Jvm.Cond.selects C y y).before a0 Z = true) : ∀ vm0, Z.Warmed39 vm0 → NotFace (s.setVm vm0) y := fun vm0 hZ => notFace_of_selects (args := #[]) (mvT (s := s.setVm vm0) hZ w5)
/-- behind a call by one of the library's payers (it interns nothing) -/
theorem Pos.afterB {vm0 : Vm} {k0 : Nat} {locs L : List Loc} {dc dn cc nn : Nat} {ws' : List Addr} {U : State} {LL : List Loc}
    (hR : p.tables.exec = Jvm.exec ∧ c.code = bytes ∧ c.maxLocals = ml ∧ meth.sig.returnType = rt ∧ meth.locks = false ∧ meth.name = nm ∧ s.heap = h0 ∧ EW Z a0 EL ∧ Z.Warmed39 s.vm) (hZ : Z.Warmed39 vm0) (hown : vm0.findClass own = some m.cls) (hS : s.Since vm0 k0) (hk : k0 ≤ h.size) (hC : CHr Z EL s.vm h0 vm0 h) (N : Fr Z.heap.size locs) (K : Keep h0 h ws) (O : Ext Z.heap h)
    (X' : Stand p l e R (s.setVm vm0) m args below meth c U LL cc nn) (hLL : LL = locs ++ L) (hcc : cc = cells + dc) (hnn : nn = slots + dn) (N' : Fr Z.heap.size L) (K' : Keep h U.heap ws') (hws : ∀ x ∈ ws', (x ∈ ws ∨ h0.size ≤ x) ∧ Z.heap.size ≤ x) (hsafe : ∀ vm, Z.vm.Alike s.vm → Z.vm.Alike vm → CHr Z EL s.vm h0 vm h → ∀ x ∈ ws', Safe Z EL vm h x) :
    Pos p l e R s m args below meth c own nm bytes ml rt Z a0 EL h0 ws U U.heap (cells + dc) (slots + dn) := by
  subst hLL hcc hnn
  exact ⟨vm0, k0, _, X', hR, hZ, hown, hS, Nat.le_trans hk K'.1, rfl, hC.trans (CHr.keep K' (hsafe vm0 hR.2.2.2.2.2.2.2.2.alike hZ.alike hC) hC.1), N.app N', K.trans K' (fun x hx => (hws x hx).1), (Old.keep (n0 := Z.heap.size) ⟨rfl, O⟩ K' (fun x hx => (hws x hx).2)).2⟩
theorem Pos.specB (P : Pos p l e R s m args below meth c own nm bytes ml rt Z a0 EL h0 ws T h cells slots) {index : Nat} {y : MethodName} {bytes' : ByteArray} {ml' W dc dn : Nat} {a : Addr} {argsL stk : List Value} {as' : Array Value} {ws' : List Addr} {ps : List FieldType} {r : Option FieldType} {Qx : Option Value → Heap → List Loc → Prop} (hy1 : y.name = "<init>")
    (w1 : (Jvm.Cond.methodLink own index y).before a0 Z = true) (w2 : (Jvm.Cond.instanceMethod y).before a0 Z = true) (w4 : (Jvm.Cond.code y bytes' ml' none).before a0 Z = true) (hy : y.cls ≠ "java/lang/invoke/MethodHandle" ∧ y.cls ≠ "java/lang/invoke/VarHandle")
    (B : ∀ vm0 : Vm, Z.Warmed39 (s.setVm vm0).vm → Back l R p e below (s.setVm vm0) args y 3 W (fun P a => a = as' ∧ P.U.heap = h ∧ P.cells + dc ≤ R.cells ∧ P.slots + dn ≤ R.slots) (fun P _ v B => ∃ L, Qx v B.U.heap L ∧ B.locs = P.locs ++ L ∧ B.cells = P.cells + dc ∧ B.slots = P.slots + dn)) (has : (.ref a :: argsL).toArray = as')
    (hQ : ∀ v h' L, Qx v h' L → Fr Z.heap.size L ∧ Keep h h' ws') (hc : cells + dc ≤ R.cells) (hs : slots + dn ≤ R.slots) (hws : ∀ x ∈ ws', (x ∈ ws ∨ h0.size ≤ x) ∧ Z.heap.size ≤ x) (hsafe : ∀ vm, Z.vm.Alike s.vm → Z.vm.Alike vm → CHr Z EL s.vm h0 vm h → ∀ x ∈ ws', Safe Z EL vm h x)
    (pd : parseMethodDescriptor y.desc = some ⟨ps, r⟩) (hlen : argsL.length = ps.length) (hst : stk = argsL.reverse ++ .ref a :: rest) (hsz : Ls.size = ml) (hW : (rest.map fun v => v.category).sum ≤ W) (hd : decode bytes pc = .ok (.invokespecial index, 3))
    (k : ∀ v T' h' L, Pos p l e R s m args below meth c own nm bytes ml rt Z a0 EL h0 ws T' h' (cells + dc) (slots + dn) → Qx v h' L → Go p e below Q (T'.setTop (mkF m (pc + 3) Ls (v.toList ++ rest)))) : Go p e below Q (T.setTop (mkF m pc Ls stk)) := by
  obtain ⟨vm0, k0, locs, X, hR, hZ, hown, hS, hk, eT, hC, N, K, O⟩ := P
  have hR' := hR
  obtain ⟨hx, hby, hml, hret, hlk, hnm, hh, hEL, hZs⟩ := hR'
  obtain ⟨v, _, ⟨U, LL, cc, nn⟩, -, X', ⟨L, hq, hLL, hcc, hnn⟩, st⟩ := X.specialBack hx (y := y) hy1 hown (mvT (s := s.setVm vm0) hZ w1) (mvT (s := s.setVm vm0) hZ w2) (mvT (s := s.setVm vm0) hZ w4) hy (B vm0 hZ) (g := mkF m pc Ls stk) rfl (by rw [hml]; exact hsz) (Steps.refl _) (a := a) (argsL := argsL) (rest := rest) (lenOf pd hlen) hst (by show 2 * 0 + _ ≤ _; rw [Nat.mul_zero, Nat.zero_add]; exact hW) (hb hby hd) (fun _ _ => ⟨has, eT, hc, hs⟩)
  dsimp only at X' hLL hcc hnn st hq
  obtain ⟨N', K'⟩ := hQ _ _ _ hq
  exact (k v U U.heap L (Pos.afterB hR hZ hown hS hk hC N K O X' hLL hcc hnn N' K' hws hsafe) hq).of (fun t q => st.trans q)
theorem Pos.virtB (P : Pos p l e R s m args below meth c own nm bytes ml rt Z a0 EL h0 ws T h cells slots) {index : Nat} {y z : MethodName} {W dc dn : Nat} {C : String} {a : Addr} {argsL stk : List Value} {as' : Array Value} {ws' : List Addr} {ps : List FieldType} {r : Option FieldType} {Qx : Option Value → Heap → List Loc → Prop}
    (w1 : (Jvm.Cond.methodLink own index y).before a0 Z = true) (w2 : (Jvm.Cond.declares y).before a0 Z = true) (w5 : (Jvm.Cond.selects C y z).before a0 Z = true) (hnf : ∀ vm0, Z.Warmed39 vm0 → NotFace (s.setVm vm0) y) (w6 : (Jvm.Cond.instanceMethod z).before a0 Z = true) (hy : y.cls ≠ "java/lang/invoke/MethodHandle" ∧ y.cls ≠ "java/lang/invoke/VarHandle") (E : Exa Z h a C)
    (B : ∀ vm0 : Vm, Z.Warmed39 (s.setVm vm0).vm → Back l R p e below (s.setVm vm0) args z 3 W (fun P a => a = as' ∧ P.U.heap = h ∧ P.cells + dc ≤ R.cells ∧ P.slots + dn ≤ R.slots) (fun P _ v B => ∃ L, Qx v B.U.heap L ∧ B.locs = P.locs ++ L ∧ B.cells = P.cells + dc ∧ B.slots = P.slots + dn)) (has : (.ref a :: argsL).toArray = as')
    (hQ : ∀ v h' L, Qx v h' L → Fr Z.heap.size L ∧ Keep h h' ws') (hc : cells + dc ≤ R.cells) (hs : slots + dn ≤ R.slots) (hws : ∀ x ∈ ws', (x ∈ ws ∨ h0.size ≤ x) ∧ Z.heap.size ≤ x) (hsafe : ∀ vm, Z.vm.Alike s.vm → Z.vm.Alike vm → CHr Z EL s.vm h0 vm h → ∀ x ∈ ws', Safe Z EL vm h x)
    (pd : parseMethodDescriptor y.desc = some ⟨ps, r⟩) (hlen : argsL.length = ps.length) (hst : stk = argsL.reverse ++ .ref a :: rest) (hsz : Ls.size = ml) (hW : (rest.map fun v => v.category).sum ≤ W) (hd : decode bytes pc = .ok (.invokevirtual index, 3))
    (k : ∀ v T' h' L, Pos p l e R s m args below meth c own nm bytes ml rt Z a0 EL h0 ws T' h' (cells + dc) (slots + dn) → Qx v h' L → Go p e below Q (T'.setTop (mkF m (pc + 3) Ls (v.toList ++ rest)))) : Go p e below Q (T.setTop (mkF m pc Ls stk)) := by
  obtain ⟨vm0, k0, locs, X, hR, hZ, hown, hS, hk, eT, hC, N, K, O⟩ := P
  have hR' := hR
  obtain ⟨hx, hby, hml, hret, hlk, hnm, hh, hEL, hZs⟩ := hR'
  obtain ⟨cq, kq, qa, qb, qc⟩ := isOf (s := s.setVm vm0) (T := T) hZ eT E
  obtain ⟨v, _, ⟨U, LL, cc, nn⟩, -, X', ⟨L, hq, hLL, hcc, hnn⟩, st⟩ := X.virtualBack hx (y := y) (z := z) hown (mvT (s := s.setVm vm0) hZ w1) (mvT (s := s.setVm vm0) hZ w2) (hnf vm0 hZ) (mvT (s := s.setVm vm0) hZ w5) (mvT (s := s.setVm vm0) hZ w6) hy (B vm0 hZ) qa qc (g := mkF m pc Ls stk) rfl (by rw [hml]; exact hsz) (Steps.refl _) (argsL := argsL) (rest := rest) (lenOf pd hlen) hst (by show 2 * 0 + _ ≤ _; rw [Nat.mul_zero, Nat.zero_add]; exact hW) (hb hby hd) (fun _ _ => ⟨has, eT, hc, hs⟩)
  dsimp only at X' hLL hcc hnn st hq
  obtain ⟨N', K'⟩ := hQ _ _ _ hq
  exact (k v U U.heap L (Pos.afterB hR hZ hown hS hk hC N K O X' hLL hcc hnn N' K' hws hsafe) hq).of (fun t q => st.trans q)
theorem Pos.alen (P : Pos p l e R s m args below meth c own nm bytes ml rt Z a0 EL h0 ws T h cells slots) {a : Addr} {kc : ClassId} {ty : FieldType} {z : Int32} {vs : List Value} {dv : Value} (A : Arv Z h a kc ty z vs dv) (hd : decode bytes pc = .ok (.arraylength, 1))
    (g : Go p e below Q (T.setTop (mkF m (pc + 1) Ls (.int z :: rest)))) : Go p e below Q (T.setTop (mkF m pc Ls (.ref a :: rest))) := by
  obtain ⟨vm0, k0, locs, X, ⟨hx, hby, hml, hret, hlk, hnm, hh, hEL, hZs⟩, hZ, hown, hS, hk, eT, -⟩ := P
  obtain ⟨cl, Ar, q1, S, N, -, -⟩ := A
  exact g.of fun t k => X.arraylength hx (by rw [eT]; exact Ar.1) (State.isArrayOf_alike (T := s.setVm vm0) hZ.alike Ar.2.1) (g := mkF m pc Ls (.ref a :: rest)) rfl rfl (hb hby hd) _ (by rw [len_of S N]; exact k)
theorem Pos.ldc2 (P : Pos p l e R s m args below meth c own nm bytes ml rt Z a0 EL h0 ws T h cells slots) {index : Nat} {v : Int64} (w : (Jvm.Cond.constantLong own index v).before a0 Z = true) (hd : decode bytes pc = .ok (.ldc2_w index, 3))
    (g : Go p e below Q (T.setTop (mkF m (pc + 3) Ls (.long v :: rest)))) : Go p e below Q (T.setTop (mkF m pc Ls rest)) := by
  obtain ⟨vm0, k0, locs, X, ⟨hx, hby, hml, hret, hlk, hnm, hh, hEL, hZs⟩, hZ, hown, -⟩ := P
  exact g.of fun t k => X.ldc2Long hx hown (mvT (s := s.setVm vm0) hZ w) (g := mkF m pc Ls rest) rfl (hb hby hd) _ k
theorem Pos.ldcI (P : Pos p l e R s m args below meth c own nm bytes ml rt Z a0 EL h0 ws T h cells slots) {index : Nat} {v : Int32} (w : (Jvm.Cond.constant own index v).before a0 Z = true) (hd : decode bytes pc = .ok (.ldc index, 2))
    (g : Go p e below Q (T.setTop (mkF m (pc + 2) Ls (.int v :: rest)))) : Go p e below Q (T.setTop (mkF m pc Ls rest)) := by
  obtain ⟨vm0, k0, locs, X, ⟨hx, hby, hml, hret, hlk, hnm, hh, hEL, hZs⟩, hZ, hown, -⟩ := P
  exact g.of fun t k => X.ldcInt hx hown (mvT (s := s.setVm vm0) hZ w) (g := mkF m pc Ls rest) rfl (hb hby hd) _ k
theorem Pos.aald (P : Pos p l e R s m args below meth c own nm bytes ml rt Z a0 EL h0 ws T h cells slots) {a : Addr} {kc : ClassId} {ty : FieldType} {z j : Int32} {vs : List Value} {dv v : Value} (A : Arv Z h a kc ty z vs dv) (hty : ty.isReference = true) (hj0 : ¬ j < 0) (hlt : j.toNatClampNeg < z.toNatClampNeg) (hv : vs.getD j.toNatClampNeg dv = v) (hd : decode bytes pc = .ok (.aaload, 1))
    (g : Go p e below Q (T.setTop (mkF m (pc + 1) Ls (v :: rest)))) : Go p e below Q (T.setTop (mkF m pc Ls (.int j :: .ref a :: rest))) := by
  obtain ⟨vm0, k0, locs, X, ⟨hx, hby, hml, hret, hlk, hnm, hh, hEL, hZs⟩, hZ, hown, hS, hk, eT, -⟩ := P
  obtain ⟨cl, Ar, q1, S, N, H, -⟩ := A
  have hin : ¬ (j < 0 ∨ cl.slots.size ≤ j.toNatClampNeg) := inb rfl hj0 S hlt
  exact g.of fun t k => X.aaload hx (by rw [eT]; exact Ar.1) (State.isArrayOf_alike (T := s.setVm vm0) hZ.alike Ar.2.1) hty Ar.2.2 hin (H.at hin hv) (g := mkF m pc Ls (.int j :: .ref a :: rest)) rfl rfl (hb hby hd) _ k
theorem Pos.cald (P : Pos p l e R s m args below meth c own nm bytes ml rt Z a0 EL h0 ws T h cells slots) {a : Addr} {kc : ClassId} {z j : Int32} {vs : List Value} {dv v : Value} (A : Arv Z h a kc .char z vs dv) (hj0 : ¬ j < 0) (hlt : j.toNatClampNeg < z.toNatClampNeg) (hv : vs.getD j.toNatClampNeg dv = v) (hd : decode bytes pc = .ok (.caload, 1))
    (g : Go p e below Q (T.setTop (mkF m (pc + 1) Ls (v :: rest)))) : Go p e below Q (T.setTop (mkF m pc Ls (.int j :: .ref a :: rest))) := by
  obtain ⟨vm0, k0, locs, X, ⟨hx, hby, hml, hret, hlk, hnm, hh, hEL, hZs⟩, hZ, hown, hS, hk, eT, -⟩ := P
  obtain ⟨cl, Ar, q1, S, N, H, -⟩ := A
  have hin : ¬ (j < 0 ∨ cl.slots.size ≤ j.toNatClampNeg) := inb rfl hj0 S hlt
  exact g.of fun t k => X.caload hx (by rw [eT]; exact Ar.1) (State.isArrayOf_alike (T := s.setVm vm0) hZ.alike Ar.2.1) Ar.2.2 hin (H.at hin hv) (g := mkF m pc Ls (.int j :: .ref a :: rest)) rfl rfl (hb hby hd) _ k
/-- a new byte array: it is no literal's -/
theorem Pos.newPB (P : Pos p l e R s m args below meth c own nm bytes ml rt Z a0 EL h0 ws T h cells slots) {n : Int32} {cap : Nat} (w : (Jvm.Cond.arrayClass .byte).before a0 Z = true) (hd : decode bytes pc = .ok (.newarray .byte, 2)) (hn : ¬ n < 0) (hcap : n.toNatClampNeg ≤ cap) (hb8 : cap * 8 ≤ 536870912) (hc : cells + 1 ≤ R.cells) (hl : slots + cap ≤ R.slots)
    (k : ∀ T' h' x cA vm, x = h.size → PosV p l e R s m args below meth c own nm bytes ml rt Z a0 EL h0 ws T' h' (cells + 1) (slots + cap) vm → Safe Z EL vm h' x → Ext h h' → Arv Z h' x cA .byte n [] (.int 0) → Go p e below Q (T'.setTop (mkF m (pc + 2) Ls (.ref x :: rest)))) : Go p e below Q (T.setTop (mkF m pc Ls (.int n :: rest))) := by
  obtain ⟨vm0, k0, locs, X, ⟨hx, hby, hml, hret, hlk, hnm, hh, hEL, hZs⟩, hZ, hown, hS, hk, eT, hC, N, K, O⟩ := P
  obtain ⟨T', h', cA, X', e', E, A, st⟩ := Jvm.RoadKit.newP (aty := .byte) X hx hZ w eT (g := mkF m pc Ls (.int n :: rest)) rfl (hb hby hd) rfl hn hcap hb8 hc hl
  exact (k T' h' _ cA vm0 rfl ⟨k0, locs, X', ⟨hx, hby, hml, hret, hlk, hnm, hh, hEL, hZs⟩, hZ, hown, hS, Nat.le_trans hk E.1, e', hC.trans (CHr.ext E hC.1), N, K.ext E, ⟨Nat.le_trans O.1 E.1, fun a c q => E.2 _ _ (O.2 _ _ q)⟩⟩ (Safe.ext E hC.1 (Safe.new (Nat.le_refl _))) E (Arv.new A hn)).of st
theorem posStB {vm : Vm} (P : PosV p l e R s m args below meth c own nm bytes ml rt Z a0 EL h0 ws T h cells slots vm) {a : Addr} {kc : ClassId} {z j x x' : Int32} {vs : List Value} {dv : Value} (hsf : Safe Z EL vm h a) (A : Arv Z h a kc .byte z vs dv) (i : Nat) (hj : j.toNatClampNeg = i) (hj0 : ¬ j < 0) (hlt : i < z.toNatClampNeg) (hi : i < vs.length) (hx' : nar .byte x = x') (hd : decode bytes pc = .ok (.bastore, 1)) (hz : Z.heap.size ≤ a) (hws : a ∈ ws ∨ h0.size ≤ a)
    (k : ∀ T' h', Pos p l e R s m args below meth c own nm bytes ml rt Z a0 EL h0 ws T' h' cells slots → Wr h h' a j.toNatClampNeg (.int x') → Arv Z h' a kc .byte z (vs.set i (.int x')) dv → Go p e below Q (T'.setTop (mkF m (pc + 1) Ls rest))) : Go p e below Q (T.setTop (mkF m pc Ls (.int x :: .int j :: .ref a :: rest))) := by
  obtain ⟨cl, Ar, q1, S, N', H, G⟩ := A
  subst hx'
  obtain ⟨k0, locs, X, ⟨hx, hby, hml, hret, hlk, hnm, hh, hEL, hZs⟩, hZ, hown, hS, hk, eT, hC, N, K, O⟩ := P
  obtain ⟨T', h', X', e', W, st⟩ := Jvm.RoadKit.stB X hx hZ eT Ar (inb hj hj0 S hlt) (g := mkF m pc Ls (.int x :: .int j :: .ref a :: rest)) rfl rfl (hb hby hd)
  exact (k T' h' ⟨vm, k0, _, X', ⟨hx, hby, hml, hret, hlk, hnm, hh, hEL, hZs⟩, hZ, hown, hS, Nat.le_trans hk (Nat.le_of_eq W.size.symm), e', hC.trans (CHr.wr W hsf hC.1), Fr.snoc X' N hz, K.wr W hws, (Old.wr (n0 := Z.heap.size) ⟨rfl, O⟩ W hz).2⟩ W (Arv.set Ar q1 S N' H G (fits_nar_byte x) W i hj hi)).of st
end Own
section Own2
theorem nin0 {x : Addr} : x ∉ ([] : List Addr) := fun q => nomatch q
theorem ninS {x a : Addr} {ws : List Addr} (h : x ≠ a) (r : x ∉ ws) : x ∉ a :: ws := fun q => (List.mem_cons.mp q).elim h r
theorem narR {t : FieldType} {v : Value} (h : v.isRef = true) : narrow t v = v := by cases v <;> first | (simp [Value.isRef] at h; done) | (cases t <;> rfl)
theorem fitR {C : String} {v : Value} (h : v.isRef = true) : fits (.object C) v = true := by cases v <;> first | (simp [Value.isRef] at h; done) | rfl
theorem mask255 (x : Int32) : ∃ k : Fin 256, (x &&& 255) = Int32.ofNat k.val := by
  have h : (x &&& 255).toBitVec.toNat < 256 := by
    simp only [Int32.toBitVec_and, BitVec.toNat_and]
    exact Nat.lt_succ_of_le Nat.and_le_right
  refine ⟨⟨_, h⟩, ?_⟩
  apply Int32.toBitVec_inj.mp
  show _ = BitVec.ofNat 32 _
  rw [BitVec.ofNat_toNat]; simp
/-- (char) (x & 255): from 0 to 255, and a char -/
theorem chr255 {x y : Int32} (h : ((x &&& (255 : Int32)).toUInt32.toUInt16.toUInt32.toInt32) = y) : (¬ y < 0 ∧ ¬ (255 : Int32) < y) ∧ nar .char y = y := by
  subst h
  have t : ∀ k : Fin 256, (¬ ((Int32.ofNat k.val).toUInt32.toUInt16.toUInt32.toInt32) < 0 ∧ ¬ (255 : Int32) < ((Int32.ofNat k.val).toUInt32.toUInt16.toUInt32.toInt32)) ∧ nar .char ((Int32.ofNat k.val).toUInt32.toUInt16.toUInt32.toInt32) = ((Int32.ofNat k.val).toUInt32.toUInt16.toUInt32.toInt32) := by decide +kernel
  obtain ⟨k, e⟩ := mask255 x
  rw [e]; exact t k
theorem upC (cs : List Int32) (h : ∀ c ∈ cs, ¬ c < 0 ∧ ¬ (255 : Int32) < c) : ∀ c ∈ cs, ¬ c < 0 ∧ ¬ (65535 : Int32) < c := fun c hc => ⟨(h c hc).1, fun q => (h c hc).2 (by rw [Int32.lt_iff_toInt_lt] at q ⊢; have e1 : (65535 : Int32).toInt = 65535 := rfl; have e2 : (255 : Int32).toInt = 255 := rfl; omega)⟩
theorem lat0 : ∀ c ∈ ([] : List Int32), ¬ c < 0 ∧ ¬ (255 : Int32) < c := fun _ q => nomatch q
theorem latS {x : Int32} {cs : List Int32} (h : ¬ x < 0 ∧ ¬ (255 : Int32) < x) (r : ∀ c ∈ cs, ¬ c < 0 ∧ ¬ (255 : Int32) < c) : ∀ c ∈ x :: cs, ¬ c < 0 ∧ ¬ (255 : Int32) < c := fun c q => (List.mem_cons.mp q).elim (fun e => e ▸ h) (r c)
/-- a String whose value is not laid yet is no literal -/
theorem safeNull {Z : State} {EL : List (String × Nat)} {vm : Vm} {h : Heap} {x : Addr} (hal : Z.vm.Alike vm) (E : Exa Z h x "java/lang/String") (F : Fld Z h x "java/lang/String" "value" "[B" .null) : Safe Z EL vm h x := fun B => by
  obtain ⟨cell, k, e1, e2, e3, -, -⟩ := E
  obtain ⟨cell', cf, kf, i, f, f1, f2, f3, f4, f5, f6, f7⟩ := F
  cases e1.symm.trans f1
  obtain ⟨p, -, u, a, -, q, -, G, rfl | rfl⟩ := B
  · cases (show h[q.sa]? = some q.sC from G.ha).symm.trans e1
    obtain ⟨cS, ⟨⟨-, -, -, ⟨c1, k1, i1, g1, -⟩, -, -, -, v1, -⟩, -⟩, -⟩ := G
    obtain ⟨k', z⟩ := ff_back (U := Wst Z vm h) hal g1
    have e4 := z.symm.trans f2
    simp only [Option.some.injEq, Prod.mk.injEq] at e4
    rw [e4.2.2.2, f7] at v1
    cases v1
  · cases (show h[q.sd]? = some q.SA from G.hd).symm.trans e1
    obtain ⟨cS, -, -, g, -⟩ := G
    have g' : vm.findClass "[B" = some q.SA.cls := g
    rw [hal.findClass] at g'
    obtain ⟨k1, q1, q2⟩ := Vm.findClass_spec g'
    obtain ⟨k2, q3, q4⟩ := Vm.findClass_spec e2
    cases q1.symm.trans q3
    exact absurd (q2.symm.trans q4) (by decide)
theorem safe1 {Z : State} {EL : List (String × Nat)} {vm : Vm} {h : Heap} {x : Addr} (S : Safe Z EL vm h x) : ∀ y ∈ [x], Safe Z EL vm h y := fun y q => by cases List.mem_singleton.mp q; exact S
theorem ieq {x y : Int32} (h : x.toInt = y.toInt) : x = y := Int32.toInt_inj.mp h
theorem narB (x : Int32) : nar .byte (x.toInt8.toInt32) = x.toInt8.toInt32 := by simp [nar]
end Own2
section Own3
/-- x is a String of the chars cs -/
def Str (Z : State) (h : Heap) (x : Addr) (cs : List Int32) : Prop := Exa Z h x "java/lang/String" ∧ (∀ c ∈ cs, ¬ c < 0 ∧ ¬ (65535 : Int32) < c) ∧ cs.length ≤ 4000 ∧ ∃ (t : Addr) (kb : ClassId) (cd N2 : Int32) (vs : List Value), Fld Z h x "java/lang/String" "value" "[B" (.ref t) ∧ Fld Z h x "java/lang/String" "coder" "B" (.int cd) ∧ Arv Z h t kb .byte N2 vs (.int 0) ∧ StrChars.Road.CodA cs cd N2 vs
/-- a is no byte array -/
def NB (Z : State) (h : Heap) (a : Addr) : Prop := (∃ (C : String) (n : Nat) (a0 : Array Value), Exa Z h a C ∧ (Jvm.Cond.instantiable C n).before a0 Z = true) ∨ ∃ (cl : Cell) (ty : FieldType), Arr Z h a cl ty ∧ ty ≠ .byte
theorem NB.ne {Z : State} {h : Heap} {a t : Addr} {k : ClassId} {z : Int32} {vs : List Value} {d : Value} (N : NB Z h a) (A : Arv Z h t k .byte z vs d) : t ≠ a := by
  rcases N with ⟨C, n, a0, E, w⟩ | ⟨cl, ty, B, hty⟩
  · exact Ne.symm (Exa.neArv E A w)
  · rintro rfl
    obtain ⟨cl', ⟨A1, ⟨-, kA, hkA, compA, hkindA⟩, -⟩, -⟩ := A
    obtain ⟨B1, ⟨-, kB, hkB, compB, hkindB⟩, -⟩ := B
    cases A1.symm.trans B1
    cases hkA.symm.trans hkB
    have := hkindA.symm.trans hkindB
    injection this with _ e
    exact hty e.symm
theorem nbE {Z : State} {h : Heap} {a : Addr} {C : String} {n : Nat} {a0 : Array Value} (E : Exa Z h a C) (w : (Jvm.Cond.instantiable C n).before a0 Z = true) : NB Z h a := Or.inl ⟨C, n, a0, E, w⟩
theorem nbA {Z : State} {h : Heap} {a : Addr} {k : ClassId} {ty : FieldType} {z : Int32} {vs : List Value} {d : Value} (A : Arv Z h a k ty z vs d) (q : ty ≠ .byte) : NB Z h a := by obtain ⟨cl, B, -⟩ := A; exact Or.inr ⟨cl, ty, B, q⟩
theorem Str.lt {Z : State} {h : Heap} {x : Addr} {cs : List Int32} (S : Str Z h x cs) : x < h.size := S.1.lt
theorem Str.ext {Z : State} {h h' : Heap} {x : Addr} {cs : List Int32} (S : Str Z h x cs) (E : Ext h h') : Str Z h' x cs := by
  obtain ⟨s1, s2, s3, t, kb, cd, N2, vs, s4, s5, s6, s7⟩ := S
  exact ⟨s1.ext E, s2, s3, t, kb, cd, N2, vs, s4.ext E, s5.ext E, s6.ext E, s7⟩
theorem Str.keep {Z : State} {h h' : Heap} {x : Addr} {cs : List Int32} {ws : List Addr} (S : Str Z h x cs) (K : Keep h h' ws) (q : ∀ a ∈ ws, x ≠ a ∧ NB Z h a) : Str Z h' x cs := by
  obtain ⟨s1, s2, s3, t, kb, cd, N2, vs, s4, s5, s6, s7⟩ := S
  have n1 : x ∉ ws := fun m => (q x m).1 rfl
  have n2 : t ∉ ws := fun m => (q t m).2.ne s6 rfl
  exact ⟨s1.keep K, s2, s3, t, kb, cd, N2, vs, s4.keep K n1, s5.keep K n1, s6.keep K n2, s7⟩
theorem Str.wr {Z : State} {h h' : Heap} {x a : Addr} {cs : List Int32} {sl : Nat} {v : Value} (S : Str Z h x cs) (W : Wr h h' a sl v) (q1 : x ≠ a) (q2 : NB Z h a) : Str Z h' x cs := S.keep (Keep.of_wr W) (allS ⟨q1, q2⟩ all0)
theorem strOf {Z : State} {h : Heap} {x t : Addr} {kb : ClassId} {cs : List Int32} {n : Nat} (hn : cs.length = n) (hb : ∀ c ∈ cs, ¬ c < 0 ∧ ¬ (255 : Int32) < c) (h4 : n ≤ 4000) (E : Exa Z h x "java/lang/String") (C : Fld Z h x "java/lang/String" "coder" "B" (.int 0)) (V : Fld Z h x "java/lang/String" "value" "[B" (.ref t)) (B : Arv Z h t kb .byte (Int32.ofNat n) ((cs.map (fun c => c.toInt8.toInt32)).map Value.int) (.int 0)) : Str Z h x cs :=
  ⟨E, upC cs hb, by rw [hn]; exact h4, t, kb, 0, _, _, V, C, B, StrChars.Road.codOf hn (fun c hc => (hb c hc).2)⟩
theorem strE {Z : State} {h : Heap} {x t : Addr} {kb : ClassId} (E : Exa Z h x "java/lang/String") (C : Fld Z h x "java/lang/String" "coder" "B" (.int 0)) (V : Fld Z h x "java/lang/String" "value" "[B" (.ref t)) (B : Arv Z h t kb .byte (0 : Int32) [] (.int 0)) : Str Z h x [] :=
  strOf (n := 0) rfl lat0 (by decide) E C V B
end Own3
section Own5
variable {p : Program} {l : Launch} {e : Env} {R rm : Room} {s : State} {m : MethodId} {args : Array Value} {below : List Frame} {meth : Method} {c : Code} {own nm : String} {bytes : ByteArray} {ml : Nat} {rt : Option FieldType} {Z : State} {a0 : Array Value} {EL : List (String × Nat)} {h0 : Heap} {ws : List Addr} {T : State} {h h' : Heap} {cells slots : Nat} {Q : Outcome → State → Prop} {pc : Nat} {Ls : Array Slot} {rest : List Value}
theorem noAsg {C S K : String} {n : Nat} (w : (Jvm.Cond.superclass C S).before a0 Z = true) (wr : (Jvm.Cond.noSuperclass S).before a0 Z = true) (wi : (Jvm.Cond.instantiable K n).before a0 Z = true) (h1 : C ≠ K) (h2 : S ≠ K) : ∃ c t, Z.vm.findClass C = some c ∧ Z.vm.findClass K = some t ∧ Z.vm.assignable c t = false := by
  obtain ⟨t, kt, g1, g2, g3, g4, -, -⟩ := Cond.instantiable_spec wi
  obtain ⟨c, f0⟩ := found_sup w
  obtain ⟨p, k, kp, f1, f2, f3, f4, f5, f6, f7⟩ := Cond.superclass_spec f0 w
  obtain ⟨o, ko, r1, r2, r3, r4, r5⟩ := Cond.noSuperclass_spec wr
  obtain rfl : o = p := Option.some.inj (r1.symm.trans f1)
  have n1 := ids_ne f0 g1 h1
  have n2 := ids_ne f1 g1 h2
  have hi : kt.isInterface = false := by
    cases hq : kt.isInterface with
    | false => rfl
    | true => rw [hq] at g4; simp at g4
  have n4 : ∀ fuel, Z.vm.isSubclassAux fuel o t = false := fun fuel => by
    cases fuel with
    | zero => rfl
    | succ f => simp [Vm.isSubclassAux, n2, r2, r3]
  have n3 : ∀ fuel, Z.vm.isSubclassAux fuel c t = false := fun fuel => by
    cases fuel with
    | zero => rfl
    | succ f => simp [Vm.isSubclassAux, n1, f2, f4, n4]
  refine ⟨c, t, f0, g1, ?_⟩
  show Z.vm.assignableAux (255 + 1) c t = false
  simp [Vm.assignableAux, n1, f2, g2, f5, g3, hi, Vm.isSubclass, n3]
theorem Pos.instN (P : Pos p l e R s m args below meth c own nm bytes ml rt Z a0 EL h0 ws T h cells slots) {K C : String} {index : Nat} (w : (Jvm.Cond.classLink own index K).before a0 Z = true) {a : Addr} (E : Exa Z h a C) (F : ∃ c t, Z.vm.findClass C = some c ∧ Z.vm.findClass K = some t ∧ Z.vm.assignable c t = false) (hd : decode bytes pc = .ok (.instanceof index, 3))
    (k : ∀ T', Pos p l e R s m args below meth c own nm bytes ml rt Z a0 EL h0 ws T' h cells slots → Go p e below Q (T'.setTop (mkF m (pc + 3) Ls (.int 0 :: rest)))) : Go p e below Q (T.setTop (mkF m pc Ls (.ref a :: rest))) :=
  P.same (V := fun T' => T'.setTop (mkF m (pc + 3) Ls (.int 0 :: rest))) (fun vm0 locs X hx hby hml hZ hown eT => instNo X hx hZ hown w eT E F (g := mkF m pc Ls (.ref a :: rest)) rfl rfl (hb hby hd)) k
theorem Pos.inst0 (P : Pos p l e R s m args below meth c own nm bytes ml rt Z a0 EL h0 ws T h cells slots) {index : Nat} (hd : decode bytes pc = .ok (.instanceof index, 3))
    (g : Go p e below Q (T.setTop (mkF m (pc + 3) Ls (.int 0 :: rest)))) : Go p e below Q (T.setTop (mkF m pc Ls (.null :: rest))) :=
  P.st (fun vm0 locs X hx hy t k => X.instanceofNull hx (g := mkF m pc Ls (.null :: rest)) rfl rfl (hb hy hd) _ k) g
end Own5
section Own8
variable {p : Program} {l : Launch} {e : Env} {R rm : Room} {s : State} {m : MethodId} {args : Array Value} {below : List Frame} {meth : Method} {c : Code} {own nm : String} {bytes : ByteArray} {ml : Nat} {rt : Option FieldType} {Z : State} {a0 : Array Value} {EL : List (String × Nat)} {h0 : Heap} {ws : List Addr} {T : State} {h h' : Heap} {cells slots : Nat} {Q : Outcome → State → Prop} {pc : Nat} {Ls : Array Slot} {rest : List Value}
/-- an array of the start: its cell, its length -/
theorem arrAt {args : Array Value} {t : Term} {a : Addr} {ty : FieldType} {n : Int32} (ev : t.eval args Z none [] Z = some (.ref a)) (hA : (Jvm.Cond.arrayOf t ty).value args Z none Z [] = some true) (hL : (Jvm.Cond.eq (.length t) (.int n)).value args Z none Z [] = some true) : ∃ cl, Arr Z Z.heap a cl ty ∧ cl.slots.size < 2 ^ 31 ∧ cl.slots.size.toInt32 = n := by
  obtain ⟨cl, A⟩ := Arr.start ev hA
  have e := eqv_i (Term.int_eval n) hL
  have f := A.fin (U := Z) (Vm.Alike.refl _)
  simp only [Term.eval, ev, Option.bind_eq_bind, Option.bind_some, f] at e
  split at e
  · rename_i hlt; exact ⟨cl, A, hlt, by simpa using e⟩
  · cases e
theorem eqv_r {args : Array Value} {X F : Term} {y : Addr} (hF : F.eval args Z none [] Z = some (.ref y)) (h : (Jvm.Cond.eq X F).value args Z none Z [] = some true) : X.eval args Z none [] Z = some (.ref y) := by
  obtain ⟨x, y', e1, e2, k1, k2⟩ := cmp_v (Or.inl h)
  cases hF.symm.trans e2
  have hx : x.isRef = true := by
    cases x <;> first | rfl | exact k1.1 | (obtain ⟨z, q⟩ := k1; cases q)
  have q := gotT (eq_R e1 hF hx rfl) h
  exact e1.trans (congrArg some q)
theorem slotAt {args : Array Value} {t : Term} {a : Addr} {cl : Cell} {j : Int32} {v : Value} (ev : t.eval args Z none [] Z = some (.ref a)) (hc : Z.heap[a]? = some cl) (h : (Term.elem t (.int j)).eval args Z none [] Z = some v) : cl.slots[j.toNatClampNeg]? = some v := (elem_in h ev (Term.int_eval j) hc).2
/-- a String of the start, by its words -/
theorem strAt {args : Array Value} {t : Term} {x : Addr} {n : Int32} {cs : List Int32} (hf : Fit Z) (ev : t.eval args Z none [] Z = some (.ref x)) (hE : (Jvm.Cond.exactly t "java/lang/String").value args Z none Z [] = some true) (hC : (Jvm.Cond.eq (.field t "java/lang/String" "coder" "B") (.int 0)).value args Z none Z [] = some true) (hA : (Jvm.Cond.arrayOf (.field t "java/lang/String" "value" "[B") .byte).value args Z none Z [] = some true) (hL : (Jvm.Cond.eq (.length (.field t "java/lang/String" "value" "[B")) (.int n)).value args Z none Z [] = some true)
    (hn : n = Int32.ofNat cs.length) (h0 : ¬ n < 0) (hl : n.toNatClampNeg = cs.length) (h4 : cs.length ≤ 4000) (hb : ∀ c ∈ cs, ¬ c < 0 ∧ ¬ (255 : Int32) < c)
    (hS : ∀ (a : Addr) (cl : Cell), (Term.field t "java/lang/String" "value" "[B").eval args Z none [] Z = some (.ref a) → Z.heap[a]? = some cl → HasL cl 0 ((cs.map (fun c => c.toInt8.toInt32)).map Value.int)) : Str Z Z.heap x cs := by
  obtain ⟨a, ea⟩ := arr_v hA
  obtain ⟨cl, Ar, q1, q2⟩ := arrAt ea hA hL
  have E := Exa.start ev hE
  have C : Fld Z Z.heap x "java/lang/String" "coder" "B" (.int 0) := Fld.start ((fld_at ev).symm.trans (eqv_i (Term.int_eval 0) hC))
  have Vf : Fld Z Z.heap x "java/lang/String" "value" "[B" (.ref a) := Fld.start ((fld_at ev).symm.trans ea)
  have B : Arv Z Z.heap a cl.cls .byte n ((cs.map (fun c => c.toInt8.toInt32)).map Value.int) (.int 0) := Arv.start hf Ar q1 q2 h0 (by simp [hl]) (hS a cl ea Ar.1)
  subst hn
  exact strOf rfl hb h4 E C Vf B
theorem Pos.clone (P : Pos p l e R s m args below meth c own nm bytes ml rt Z a0 EL h0 ws T h cells slots) {ad : String} {index W cap : Nat} {a : Addr} {k : ClassId} {ty : FieldType} {z : Int32} {vs : List Value} {dv : Value}
    (w1 : (Jvm.Cond.methodLink own index ⟨ad, "clone", "()Ljava/lang/Object;"⟩).before a0 Z = true) (w2 : (Jvm.Cond.sameMethod ad "java/lang/Object" "clone" "()Ljava/lang/Object;").before a0 Z = true) (w3 : (Jvm.Cond.native ⟨"java/lang/Object", "clone", "()Ljava/lang/Object;"⟩).before a0 Z = true) (w4 : (Jvm.Cond.instanceMethod ⟨"java/lang/Object", "clone", "()Ljava/lang/Object;"⟩).before a0 Z = true) (w5 : (Jvm.Cond.selects ad ⟨ad, "clone", "()Ljava/lang/Object;"⟩ ⟨"java/lang/Object", "clone", "()Ljava/lang/Object;"⟩).before a0 Z = true) (w6 : (Jvm.Cond.castable ad "java/lang/Cloneable").before a0 Z = true)
    (A : Arv Z h a k ty z vs dv) (E : Exa Z h a ad) (hd : decode bytes pc = .ok (.invokevirtual index, 3)) (hsz : Ls.size = ml) (hf : 1 ≤ R.frames) (hW : (rest.map fun v => v.category).sum ≤ W) (hl : W + 14 ≤ R.locals) (hcap : z.toNatClampNeg ≤ cap) (hc : cells + 1 ≤ R.cells) (hsl : slots + cap ≤ R.slots)
    (kk : ∀ T' h' x, x = h.size → Pos p l e R s m args below meth c own nm bytes ml rt Z a0 EL h0 ws T' h' (cells + 1) (slots + cap) → Ext h h' → Arv Z h' x k ty z vs dv → Exa Z h' x ad → Go p e below Q (T'.setTop (mkF m (pc + 3) Ls (.ref x :: rest)))) : Go p e below Q (T.setTop (mkF m pc Ls (.ref a :: rest))) := by
  have hml : c.maxLocals = ml := by obtain ⟨vm0, k0, locs, X, ⟨hx, hby, hml, -⟩, -⟩ := P; exact hml
  exact P.grow (V := fun T' => T'.setTop (mkF m (pc + 3) Ls (.ref h.size :: rest))) (A := fun T' h' => Arv Z h' h.size k ty z vs dv ∧ Exa Z h' h.size ad)
    (fun vm0 locs X hx hby hZ hown eT => by
      obtain ⟨T', h', X', e', E', A', F', st⟩ := cloneH X hx hZ hown w1 w2 w3 w4 w5 w6 eT A.arh E (g := mkF m pc Ls (.ref a :: rest)) rfl (by rw [hml]; exact hsz) rfl (hb hby hd) hf (W := W) (by show 2 * 0 + _ ≤ _; rw [Nat.mul_zero, Nat.zero_add]; exact hW) hl hcap hc hsl
      exact ⟨T', h', X', e', E', ⟨A', F'⟩, st⟩)
    (fun T' h' P' E' A' => kk T' h' _ rfl P' E' A'.1 A'.2)
theorem finOf {r : Int32} {n : Nat} (h : ¬ r < 0 ∧ r.toNatClampNeg < n) : ∃ k : Fin n, r = Int32.ofNat k.val := by
  obtain ⟨h1, h2⟩ := h
  rw [Int32.lt_iff_toInt_lt] at h1
  have e0 : (0 : Int32).toInt = 0 := rfl
  have h3 : r.toInt.toNat < n := h2
  have hb := r.toInt_lt
  exact ⟨⟨r.toInt.toNat, h3⟩, Int32.toInt_inj.mp (by show r.toInt = (Int32.ofNat r.toInt.toNat).toInt; rw [Int32.toInt_ofNat_small (by omega)]; omega)⟩
/-- (char) (int) (x & 255L): from 0 to 255, and a char -/
theorem chr255L {x : Int64} {y : Int32} (h : (((x &&& (255 : Int64)).toInt32).toUInt32.toUInt16.toUInt32.toInt32) = y) : (¬ y < 0 ∧ ¬ (255 : Int32) < y) ∧ nar .char y = y := by
  have e : (x &&& (255 : Int64)).toInt32 = x.toInt32 &&& (255 : Int32) := by
    apply Int32.toBitVec_inj.mp
    simp only [Int32.toBitVec_and, Int64.toBitVec_toInt32, Int64.toBitVec_and]
    ext i hi
    simp [BitVec.getElem_signExtend]
  rw [e] at h
  exact chr255 h
end Own8
theorem wSt {Z : State} {a0 : Array Value} (hw : ∀ d ∈ tables_1, d.before a0 Z = true) : ∀ d ∈ Bundle.stringAtoms, d.before a0 Z = true := fun d hd => hw d ((by decide +kernel : ∀ d ∈ Bundle.stringAtoms, d ∈ tables_1) d hd)
theorem wStr {Z : State} {a0 : Array Value} (hw : ∀ d ∈ tables_1, d.before a0 Z = true) : ∀ d ∈ StrChars.Road.words, d.before a0 Z = true := fun d hd => hw d ((by decide +kernel : ∀ d ∈ StrChars.Road.words, d ∈ tables_1) d hd)
theorem wLen {Z : State} {a0 : Array Value} (hw : ∀ d ∈ tables_1, d.before a0 Z = true) : ∀ d ∈ StrChars.Road.wordsLen, d.before a0 Z = true := fun d hd => hw d ((by decide +kernel : ∀ d ∈ StrChars.Road.wordsLen, d ∈ tables_1) d hd)
theorem wChN {Z : State} {a0 : Array Value} (hw : ∀ d ∈ tables_1, d.before a0 Z = true) : ∀ d ∈ StrChars.Road.wordsChN, d.before a0 Z = true := fun d hd => hw d ((by decide +kernel : ∀ d ∈ StrChars.Road.wordsChN, d ∈ tables_1) d hd)
theorem d1_0 : decode method_2_code 0 = .ok (.iload_n 0, 1) := by decide +kernel
theorem d1_1 : decode method_2_code 1 = .ok (.bipush 16, 2) := by decide +kernel
theorem d1_3 : decode method_2_code 3 = .ok (.iushr, 1) := by decide +kernel
theorem d1_4 : decode method_2_code 4 = .ok (.sipush 255, 3) := by decide +kernel
theorem d1_7 : decode method_2_code 7 = .ok (.iand, 1) := by decide +kernel
theorem d1_8 : decode method_2_code 8 = .ok (.iconst 3, 1) := by decide +kernel
theorem d1_9 : decode method_2_code 9 = .ok (.irem, 1) := by decide +kernel
theorem d1_10 : decode method_2_code 10 = .ok (.istore_n 1, 1) := by decide +kernel
theorem d1_11 : decode method_2_code 11 = .ok (.iload_n 0, 1) := by decide +kernel
theorem d1_12 : decode method_2_code 12 = .ok (.sipush 255, 3) := by decide +kernel
theorem d1_15 : decode method_2_code 15 = .ok (.iand, 1) := by decide +kernel
theorem d1_16 : decode method_2_code 16 = .ok (.i2c, 1) := by decide +kernel
theorem d1_17 : decode method_2_code 17 = .ok (.istore_n 2, 1) := by decide +kernel
theorem d1_18 : decode method_2_code 18 = .ok (.iload_n 0, 1) := by decide +kernel
theorem d1_19 : decode method_2_code 19 = .ok (.bipush 8, 2) := by decide +kernel
theorem d1_21 : decode method_2_code 21 = .ok (.iushr, 1) := by decide +kernel
theorem d1_22 : decode method_2_code 22 = .ok (.sipush 255, 3) := by decide +kernel
theorem d1_25 : decode method_2_code 25 = .ok (.iand, 1) := by decide +kernel
theorem d1_26 : decode method_2_code 26 = .ok (.i2c, 1) := by decide +kernel
theorem d1_27 : decode method_2_code 27 = .ok (.istore_n 3, 1) := by decide +kernel
theorem d1_28 : decode method_2_code 28 = .ok (.iload_n 1, 1) := by decide +kernel
theorem d1_29 : decode method_2_code 29 = .ok (.ifCond .ne 14, 3) := by decide +kernel
theorem d1_32 : decode method_2_code 32 = .ok (.new 7, 3) := by decide +kernel
theorem d1_35 : decode method_2_code 35 = .ok (.dup, 1) := by decide +kernel
theorem d1_36 : decode method_2_code 36 = .ok (.iconst 0, 1) := by decide +kernel
theorem d1_37 : decode method_2_code 37 = .ok (.newarray .char, 2) := by decide +kernel
theorem d1_39 : decode method_2_code 39 = .ok (.invokespecial 9, 3) := by decide +kernel
theorem d1_42 : decode method_2_code 42 = .ok (.areturn, 1) := by decide +kernel
theorem d1_43 : decode method_2_code 43 = .ok (.iload_n 1, 1) := by decide +kernel
theorem d1_44 : decode method_2_code 44 = .ok (.iconst 1, 1) := by decide +kernel
theorem d1_45 : decode method_2_code 45 = .ok (.if_icmp .ne 18, 3) := by decide +kernel
theorem d1_48 : decode method_2_code 48 = .ok (.new 7, 3) := by decide +kernel
theorem d1_51 : decode method_2_code 51 = .ok (.dup, 1) := by decide +kernel
theorem d1_52 : decode method_2_code 52 = .ok (.iconst 1, 1) := by decide +kernel
theorem d1_53 : decode method_2_code 53 = .ok (.newarray .char, 2) := by decide +kernel
theorem d1_55 : decode method_2_code 55 = .ok (.dup, 1) := by decide +kernel
theorem d1_56 : decode method_2_code 56 = .ok (.iconst 0, 1) := by decide +kernel
theorem d1_57 : decode method_2_code 57 = .ok (.iload_n 2, 1) := by decide +kernel
theorem d1_58 : decode method_2_code 58 = .ok (.castore, 1) := by decide +kernel
theorem d1_59 : decode method_2_code 59 = .ok (.invokespecial 9, 3) := by decide +kernel
theorem d1_62 : decode method_2_code 62 = .ok (.areturn, 1) := by decide +kernel
theorem d1_63 : decode method_2_code 63 = .ok (.new 7, 3) := by decide +kernel
theorem d1_66 : decode method_2_code 66 = .ok (.dup, 1) := by decide +kernel
theorem d1_67 : decode method_2_code 67 = .ok (.iconst 2, 1) := by decide +kernel
theorem d1_68 : decode method_2_code 68 = .ok (.newarray .char, 2) := by decide +kernel
theorem d1_70 : decode method_2_code 70 = .ok (.dup, 1) := by decide +kernel
theorem d1_71 : decode method_2_code 71 = .ok (.iconst 0, 1) := by decide +kernel
theorem d1_72 : decode method_2_code 72 = .ok (.iload_n 2, 1) := by decide +kernel
theorem d1_73 : decode method_2_code 73 = .ok (.castore, 1) := by decide +kernel
theorem d1_74 : decode method_2_code 74 = .ok (.dup, 1) := by decide +kernel
theorem d1_75 : decode method_2_code 75 = .ok (.iconst 1, 1) := by decide +kernel
theorem d1_76 : decode method_2_code 76 = .ok (.iload_n 3, 1) := by decide +kernel
theorem d1_77 : decode method_2_code 77 = .ok (.castore, 1) := by decide +kernel
theorem d1_78 : decode method_2_code 78 = .ok (.invokespecial 9, 3) := by decide +kernel
theorem d1_81 : decode method_2_code 81 = .ok (.areturn, 1) := by decide +kernel
theorem d2_0 : decode jdk_42_method_3_code 0 = .ok (.aload_n 0, 1) := by decide +kernel
theorem d2_1 : decode jdk_42_method_3_code 1 = .ok (.aload_n 1, 1) := by decide +kernel
theorem d2_2 : decode jdk_42_method_3_code 2 = .ok (.iconst 0, 1) := by decide +kernel
theorem d2_3 : decode jdk_42_method_3_code 3 = .ok (.aload_n 1, 1) := by decide +kernel
theorem d2_4 : decode jdk_42_method_3_code 4 = .ok (.arraylength, 1) := by decide +kernel
theorem d2_5 : decode jdk_42_method_3_code 5 = .ok (.aconst_null, 1) := by decide +kernel
theorem d2_6 : decode jdk_42_method_3_code 6 = .ok (.invokespecial 27, 3) := by decide +kernel
theorem d2_9 : decode jdk_42_method_3_code 9 = .ok (.return_, 1) := by decide +kernel
theorem d3_0 : decode jdk_42_method_149_code 0 = .ok (.aload_n 0, 1) := by decide +kernel
theorem d3_1 : decode jdk_42_method_149_code 1 = .ok (.invokespecial 1, 3) := by decide +kernel
theorem d3_4 : decode jdk_42_method_149_code 4 = .ok (.iload_n 3, 1) := by decide +kernel
theorem d3_5 : decode jdk_42_method_149_code 5 = .ok (.ifCond .ne 22, 3) := by decide +kernel
theorem d3_8 : decode jdk_42_method_149_code 8 = .ok (.aload_n 0, 1) := by decide +kernel
theorem d3_9 : decode jdk_42_method_149_code 9 = .ok (.ldc 7, 2) := by decide +kernel
theorem d3_11 : decode jdk_42_method_149_code 11 = .ok (.getfield 9, 3) := by decide +kernel
theorem d3_14 : decode jdk_42_method_149_code 14 = .ok (.putfield 9, 3) := by decide +kernel
theorem d3_17 : decode jdk_42_method_149_code 17 = .ok (.aload_n 0, 1) := by decide +kernel
theorem d3_18 : decode jdk_42_method_149_code 18 = .ok (.ldc 7, 2) := by decide +kernel
theorem d3_20 : decode jdk_42_method_149_code 20 = .ok (.getfield 15, 3) := by decide +kernel
theorem d3_23 : decode jdk_42_method_149_code 23 = .ok (.putfield 15, 3) := by decide +kernel
theorem d3_26 : decode jdk_42_method_149_code 26 = .ok (.return_, 1) := by decide +kernel
theorem d5_0 : decode jdk_72_method_26_code 0 = .ok (.getstatic 81, 3) := by decide +kernel
theorem d5_3 : decode jdk_72_method_26_code 3 = .ok (.areturn, 1) := by decide +kernel
theorem d6_0 : decode prog_8_method_1_code 0 = .ok (.aload_n 0, 1) := by decide +kernel
theorem d6_1 : decode prog_8_method_1_code 1 = .ok (.invokespecial 1, 3) := by decide +kernel
theorem d6_4 : decode prog_8_method_1_code 4 = .ok (.aload_n 3, 1) := by decide +kernel
theorem d6_5 : decode prog_8_method_1_code 5 = .ok (.invokestatic 7, 3) := by decide +kernel
theorem d6_8 : decode prog_8_method_1_code 8 = .ok (.astore_n 3, 1) := by decide +kernel
theorem d6_9 : decode prog_8_method_1_code 9 = .ok (.aload_n 0, 1) := by decide +kernel
theorem d6_10 : decode prog_8_method_1_code 10 = .ok (.aload_n 1, 1) := by decide +kernel
theorem d6_11 : decode prog_8_method_1_code 11 = .ok (.putfield 13, 3) := by decide +kernel
theorem d6_14 : decode prog_8_method_1_code 14 = .ok (.aload_n 0, 1) := by decide +kernel
theorem d6_15 : decode prog_8_method_1_code 15 = .ok (.aload_n 2, 1) := by decide +kernel
theorem d6_16 : decode prog_8_method_1_code 16 = .ok (.putfield 19, 3) := by decide +kernel
theorem d6_19 : decode prog_8_method_1_code 19 = .ok (.aload_n 0, 1) := by decide +kernel
theorem d6_20 : decode prog_8_method_1_code 20 = .ok (.aload_n 3, 1) := by decide +kernel
theorem d6_21 : decode prog_8_method_1_code 21 = .ok (.putfield 22, 3) := by decide +kernel
theorem d6_24 : decode prog_8_method_1_code 24 = .ok (.return_, 1) := by decide +kernel
theorem d7_0 : decode jdk_30_method_1_code 0 = .ok (.aload_n 0, 1) := by decide +kernel
theorem d7_1 : decode jdk_30_method_1_code 1 = .ok (.invokespecial 1, 3) := by decide +kernel
theorem d7_4 : decode jdk_30_method_1_code 4 = .ok (.return_, 1) := by decide +kernel
theorem d8_0 : decode jdk_72_method_39_code 0 = .ok (.aload_n 0, 1) := by decide +kernel
theorem d8_1 : decode jdk_72_method_39_code 1 = .ok (.instanceof 101, 3) := by decide +kernel
theorem d8_4 : decode jdk_72_method_39_code 4 = .ok (.ifCond .eq 5, 3) := by decide +kernel
theorem d8_7 : decode jdk_72_method_39_code 7 = .ok (.aload_n 0, 1) := by decide +kernel
theorem d8_8 : decode jdk_72_method_39_code 8 = .ok (.areturn, 1) := by decide +kernel
theorem d9_0 : decode prog_8_method_3_code 0 = .ok (.new 101, 3) := by decide +kernel
theorem d9_3 : decode prog_8_method_3_code 3 = .ok (.dup, 1) := by decide +kernel
theorem d9_4 : decode prog_8_method_3_code 4 = .ok (.invokespecial 103, 3) := by decide +kernel
theorem d9_7 : decode prog_8_method_3_code 7 = .ok (.aload_n 0, 1) := by decide +kernel
theorem d9_8 : decode prog_8_method_3_code 8 = .ok (.getfield 13, 3) := by decide +kernel
theorem d9_11 : decode prog_8_method_3_code 11 = .ok (.invokevirtual 104, 3) := by decide +kernel
theorem d9_14 : decode prog_8_method_3_code 14 = .ok (.ldc 48, 2) := by decide +kernel
theorem d9_16 : decode prog_8_method_3_code 16 = .ok (.invokevirtual 104, 3) := by decide +kernel
theorem d9_19 : decode prog_8_method_3_code 19 = .ok (.aload_n 0, 1) := by decide +kernel
theorem d9_20 : decode prog_8_method_3_code 20 = .ok (.getfield 19, 3) := by decide +kernel
theorem d9_23 : decode prog_8_method_3_code 23 = .ok (.invokevirtual 104, 3) := by decide +kernel
theorem d9_26 : decode prog_8_method_3_code 26 = .ok (.invokevirtual 108, 3) := by decide +kernel
theorem d9_29 : decode prog_8_method_3_code 29 = .ok (.areturn, 1) := by decide +kernel
theorem d10_0 : decode jdk_67_method_1_code 0 = .ok (.aload_n 0, 1) := by decide +kernel
theorem d10_1 : decode jdk_67_method_1_code 1 = .ok (.bipush 16, 2) := by decide +kernel
theorem d10_3 : decode jdk_67_method_1_code 3 = .ok (.invokespecial 1, 3) := by decide +kernel
theorem d10_6 : decode jdk_67_method_1_code 6 = .ok (.return_, 1) := by decide +kernel
theorem d11_0 : decode jdk_68_method_2_code 0 = .ok (.aload_n 0, 1) := by decide +kernel
theorem d11_1 : decode jdk_68_method_2_code 1 = .ok (.invokespecial 3, 3) := by decide +kernel
theorem d11_4 : decode jdk_68_method_2_code 4 = .ok (.getstatic 18, 3) := by decide +kernel
theorem d11_7 : decode jdk_68_method_2_code 7 = .ok (.ifCond .eq 18, 3) := by decide +kernel
theorem d11_10 : decode jdk_68_method_2_code 10 = .ok (.aload_n 0, 1) := by decide +kernel
theorem d11_11 : decode jdk_68_method_2_code 11 = .ok (.iload_n 1, 1) := by decide +kernel
theorem d11_12 : decode jdk_68_method_2_code 12 = .ok (.newarray .byte, 2) := by decide +kernel
theorem d11_14 : decode jdk_68_method_2_code 14 = .ok (.putfield 15, 3) := by decide +kernel
theorem d11_17 : decode jdk_68_method_2_code 17 = .ok (.aload_n 0, 1) := by decide +kernel
theorem d11_18 : decode jdk_68_method_2_code 18 = .ok (.iconst 0, 1) := by decide +kernel
theorem d11_19 : decode jdk_68_method_2_code 19 = .ok (.putfield 22, 3) := by decide +kernel
theorem d11_22 : decode jdk_68_method_2_code 22 = .ok (.goto 16, 3) := by decide +kernel
theorem d11_38 : decode jdk_68_method_2_code 38 = .ok (.return_, 1) := by decide +kernel
theorem d12_0 : decode jdk_67_method_7_code 0 = .ok (.aload_n 0, 1) := by decide +kernel
theorem d12_1 : decode jdk_67_method_7_code 1 = .ok (.aload_n 1, 1) := by decide +kernel
theorem d12_2 : decode jdk_67_method_7_code 2 = .ok (.invokespecial 29, 3) := by decide +kernel
theorem d12_5 : decode jdk_67_method_7_code 5 = .ok (.pop, 1) := by decide +kernel
theorem d12_6 : decode jdk_67_method_7_code 6 = .ok (.aload_n 0, 1) := by decide +kernel
theorem d12_7 : decode jdk_67_method_7_code 7 = .ok (.areturn, 1) := by decide +kernel
theorem d13_0 : decode jdk_68_method_22_code 0 = .ok (.aload_n 1, 1) := by decide +kernel
theorem d13_1 : decode jdk_68_method_22_code 1 = .ok (.ifnonnull 8, 3) := by decide +kernel
theorem d13_9 : decode jdk_68_method_22_code 9 = .ok (.aload_n 1, 1) := by decide +kernel
theorem d13_10 : decode jdk_68_method_22_code 10 = .ok (.invokevirtual 32, 3) := by decide +kernel
theorem d13_13 : decode jdk_68_method_22_code 13 = .ok (.istore_n 2, 1) := by decide +kernel
theorem d13_14 : decode jdk_68_method_22_code 14 = .ok (.aload_n 0, 1) := by decide +kernel
theorem d13_15 : decode jdk_68_method_22_code 15 = .ok (.aload_n 0, 1) := by decide +kernel
theorem d13_16 : decode jdk_68_method_22_code 16 = .ok (.getfield 79, 3) := by decide +kernel
theorem d13_19 : decode jdk_68_method_22_code 19 = .ok (.iload_n 2, 1) := by decide +kernel
theorem d13_20 : decode jdk_68_method_22_code 20 = .ok (.iadd, 1) := by decide +kernel
theorem d13_21 : decode jdk_68_method_22_code 21 = .ok (.invokevirtual 100, 3) := by decide +kernel
theorem d13_24 : decode jdk_68_method_22_code 24 = .ok (.aload_n 0, 1) := by decide +kernel
theorem d13_25 : decode jdk_68_method_22_code 25 = .ok (.aload_n 0, 1) := by decide +kernel
theorem d13_26 : decode jdk_68_method_22_code 26 = .ok (.getfield 79, 3) := by decide +kernel
theorem d13_29 : decode jdk_68_method_22_code 29 = .ok (.aload_n 1, 1) := by decide +kernel
theorem d13_30 : decode jdk_68_method_22_code 30 = .ok (.invokevirtual 208, 3) := by decide +kernel
theorem d13_33 : decode jdk_68_method_22_code 33 = .ok (.aload_n 0, 1) := by decide +kernel
theorem d13_34 : decode jdk_68_method_22_code 34 = .ok (.dup, 1) := by decide +kernel
theorem d13_35 : decode jdk_68_method_22_code 35 = .ok (.getfield 79, 3) := by decide +kernel
theorem d13_38 : decode jdk_68_method_22_code 38 = .ok (.iload_n 2, 1) := by decide +kernel
theorem d13_39 : decode jdk_68_method_22_code 39 = .ok (.iadd, 1) := by decide +kernel
theorem d13_40 : decode jdk_68_method_22_code 40 = .ok (.putfield 79, 3) := by decide +kernel
theorem d13_43 : decode jdk_68_method_22_code 43 = .ok (.aload_n 0, 1) := by decide +kernel
theorem d13_44 : decode jdk_68_method_22_code 44 = .ok (.areturn, 1) := by decide +kernel
theorem d14_0 : decode jdk_42_method_54_code 0 = .ok (.aload_n 0, 1) := by decide +kernel
theorem d14_1 : decode jdk_42_method_54_code 1 = .ok (.getfield 9, 3) := by decide +kernel
theorem d14_4 : decode jdk_42_method_54_code 4 = .ok (.arraylength, 1) := by decide +kernel
theorem d14_5 : decode jdk_42_method_54_code 5 = .ok (.aload_n 0, 1) := by decide +kernel
theorem d14_6 : decode jdk_42_method_54_code 6 = .ok (.invokevirtual 335, 3) := by decide +kernel
theorem d14_9 : decode jdk_42_method_54_code 9 = .ok (.ishr, 1) := by decide +kernel
theorem d14_10 : decode jdk_42_method_54_code 10 = .ok (.ireturn, 1) := by decide +kernel
theorem d15_0 : decode jdk_42_method_152_code 0 = .ok (.getstatic 38, 3) := by decide +kernel
theorem d15_3 : decode jdk_42_method_152_code 3 = .ok (.ifCond .eq 10, 3) := by decide +kernel
theorem d15_6 : decode jdk_42_method_152_code 6 = .ok (.aload_n 0, 1) := by decide +kernel
theorem d15_7 : decode jdk_42_method_152_code 7 = .ok (.getfield 15, 3) := by decide +kernel
theorem d15_10 : decode jdk_42_method_152_code 10 = .ok (.goto 4, 3) := by decide +kernel
theorem d15_14 : decode jdk_42_method_152_code 14 = .ok (.ireturn, 1) := by decide +kernel
theorem d16_0 : decode jdk_68_method_9_code 0 = .ok (.aload_n 0, 1) := by decide +kernel
theorem d16_1 : decode jdk_68_method_9_code 1 = .ok (.getfield 15, 3) := by decide +kernel
theorem d16_4 : decode jdk_68_method_9_code 4 = .ok (.arraylength, 1) := by decide +kernel
theorem d16_5 : decode jdk_68_method_9_code 5 = .ok (.aload_n 0, 1) := by decide +kernel
theorem d16_6 : decode jdk_68_method_9_code 6 = .ok (.getfield 22, 3) := by decide +kernel
theorem d16_9 : decode jdk_68_method_9_code 9 = .ok (.ishr, 1) := by decide +kernel
theorem d16_10 : decode jdk_68_method_9_code 10 = .ok (.istore_n 2, 1) := by decide +kernel
theorem d16_11 : decode jdk_68_method_9_code 11 = .ok (.iload_n 1, 1) := by decide +kernel
theorem d16_12 : decode jdk_68_method_9_code 12 = .ok (.iload_n 2, 1) := by decide +kernel
theorem d16_13 : decode jdk_68_method_9_code 13 = .ok (.isub, 1) := by decide +kernel
theorem d16_14 : decode jdk_68_method_9_code 14 = .ok (.ifCond .le 24, 3) := by decide +kernel
theorem d16_38 : decode jdk_68_method_9_code 38 = .ok (.return_, 1) := by decide +kernel
theorem d17_0 : decode jdk_68_method_73_code 0 = .ok (.aload_n 0, 1) := by decide +kernel
theorem d17_1 : decode jdk_68_method_73_code 1 = .ok (.aload_n 2, 1) := by decide +kernel
theorem d17_2 : decode jdk_68_method_73_code 2 = .ok (.invokevirtual 397, 3) := by decide +kernel
theorem d17_5 : decode jdk_68_method_73_code 5 = .ok (.aload_n 2, 1) := by decide +kernel
theorem d17_6 : decode jdk_68_method_73_code 6 = .ok (.aload_n 0, 1) := by decide +kernel
theorem d17_7 : decode jdk_68_method_73_code 7 = .ok (.getfield 15, 3) := by decide +kernel
theorem d17_10 : decode jdk_68_method_73_code 10 = .ok (.iload_n 1, 1) := by decide +kernel
theorem d17_11 : decode jdk_68_method_73_code 11 = .ok (.aload_n 0, 1) := by decide +kernel
theorem d17_12 : decode jdk_68_method_73_code 12 = .ok (.getfield 22, 3) := by decide +kernel
theorem d17_15 : decode jdk_68_method_73_code 15 = .ok (.invokevirtual 399, 3) := by decide +kernel
theorem d17_18 : decode jdk_68_method_73_code 18 = .ok (.return_, 1) := by decide +kernel
theorem d18_0 : decode jdk_68_method_71_code 0 = .ok (.getstatic 18, 3) := by decide +kernel
theorem d18_3 : decode jdk_68_method_71_code 3 = .ok (.ifCond .eq 18, 3) := by decide +kernel
theorem d18_6 : decode jdk_68_method_71_code 6 = .ok (.aload_n 0, 1) := by decide +kernel
theorem d18_7 : decode jdk_68_method_71_code 7 = .ok (.getfield 22, 3) := by decide +kernel
theorem d18_10 : decode jdk_68_method_71_code 10 = .ok (.aload_n 1, 1) := by decide +kernel
theorem d18_11 : decode jdk_68_method_71_code 11 = .ok (.invokevirtual 40, 3) := by decide +kernel
theorem d18_14 : decode jdk_68_method_71_code 14 = .ok (.if_icmp .eq 7, 3) := by decide +kernel
theorem d18_21 : decode jdk_68_method_71_code 21 = .ok (.return_, 1) := by decide +kernel
theorem d19_0 : decode jdk_42_method_147_code 0 = .ok (.aload_n 0, 1) := by decide +kernel
theorem d19_1 : decode jdk_42_method_147_code 1 = .ok (.invokevirtual 335, 3) := by decide +kernel
theorem d19_4 : decode jdk_42_method_147_code 4 = .ok (.iload_n 3, 1) := by decide +kernel
theorem d19_5 : decode jdk_42_method_147_code 5 = .ok (.if_icmp .ne 23, 3) := by decide +kernel
theorem d19_8 : decode jdk_42_method_147_code 8 = .ok (.aload_n 0, 1) := by decide +kernel
theorem d19_9 : decode jdk_42_method_147_code 9 = .ok (.getfield 9, 3) := by decide +kernel
theorem d19_12 : decode jdk_42_method_147_code 12 = .ok (.iconst 0, 1) := by decide +kernel
theorem d19_13 : decode jdk_42_method_147_code 13 = .ok (.aload_n 1, 1) := by decide +kernel
theorem d19_14 : decode jdk_42_method_147_code 14 = .ok (.iload_n 2, 1) := by decide +kernel
theorem d19_15 : decode jdk_42_method_147_code 15 = .ok (.iload_n 3, 1) := by decide +kernel
theorem d19_16 : decode jdk_42_method_147_code 16 = .ok (.ishl, 1) := by decide +kernel
theorem d19_17 : decode jdk_42_method_147_code 17 = .ok (.aload_n 0, 1) := by decide +kernel
theorem d19_18 : decode jdk_42_method_147_code 18 = .ok (.getfield 9, 3) := by decide +kernel
theorem d19_21 : decode jdk_42_method_147_code 21 = .ok (.arraylength, 1) := by decide +kernel
theorem d19_22 : decode jdk_42_method_147_code 22 = .ok (.invokestatic 212, 3) := by decide +kernel
theorem d19_25 : decode jdk_42_method_147_code 25 = .ok (.goto 18, 3) := by decide +kernel
theorem d19_43 : decode jdk_42_method_147_code 43 = .ok (.return_, 1) := by decide +kernel
theorem d20_0 : decode jdk_67_method_42_code 0 = .ok (.new 18, 3) := by decide +kernel
theorem d20_3 : decode jdk_67_method_42_code 3 = .ok (.dup, 1) := by decide +kernel
theorem d20_4 : decode jdk_67_method_42_code 4 = .ok (.aload_n 0, 1) := by decide +kernel
theorem d20_5 : decode jdk_67_method_42_code 5 = .ok (.invokespecial 137, 3) := by decide +kernel
theorem d20_8 : decode jdk_67_method_42_code 8 = .ok (.areturn, 1) := by decide +kernel
theorem d21_0 : decode jdk_42_method_53_code 0 = .ok (.aload_n 0, 1) := by decide +kernel
theorem d21_1 : decode jdk_42_method_53_code 1 = .ok (.aload_n 1, 1) := by decide +kernel
theorem d21_2 : decode jdk_42_method_53_code 2 = .ok (.aconst_null, 1) := by decide +kernel
theorem d21_3 : decode jdk_42_method_53_code 3 = .ok (.invokespecial 489, 3) := by decide +kernel
theorem d21_6 : decode jdk_42_method_53_code 6 = .ok (.return_, 1) := by decide +kernel
theorem d22_0 : decode jdk_42_method_150_code 0 = .ok (.aload_n 0, 1) := by decide +kernel
theorem d22_1 : decode jdk_42_method_150_code 1 = .ok (.invokespecial 1, 3) := by decide +kernel
theorem d22_4 : decode jdk_42_method_150_code 4 = .ok (.aload_n 1, 1) := by decide +kernel
theorem d22_5 : decode jdk_42_method_150_code 5 = .ok (.invokevirtual 552, 3) := by decide +kernel
theorem d22_8 : decode jdk_42_method_150_code 8 = .ok (.astore_n 3, 1) := by decide +kernel
theorem d22_9 : decode jdk_42_method_150_code 9 = .ok (.aload_n 1, 1) := by decide +kernel
theorem d22_10 : decode jdk_42_method_150_code 10 = .ok (.invokevirtual 549, 3) := by decide +kernel
theorem d22_13 : decode jdk_42_method_150_code 13 = .ok (.istore 4, 2) := by decide +kernel
theorem d22_15 : decode jdk_42_method_150_code 15 = .ok (.aload_n 1, 1) := by decide +kernel
theorem d22_16 : decode jdk_42_method_150_code 16 = .ok (.invokevirtual 1047, 3) := by decide +kernel
theorem d22_19 : decode jdk_42_method_150_code 19 = .ok (.ifCond .eq 22, 3) := by decide +kernel
theorem d22_22 : decode jdk_42_method_150_code 22 = .ok (.aload_n 0, 1) := by decide +kernel
theorem d22_23 : decode jdk_42_method_150_code 23 = .ok (.iconst 0, 1) := by decide +kernel
theorem d22_24 : decode jdk_42_method_150_code 24 = .ok (.putfield 15, 3) := by decide +kernel
theorem d22_27 : decode jdk_42_method_150_code 27 = .ok (.aload_n 0, 1) := by decide +kernel
theorem d22_28 : decode jdk_42_method_150_code 28 = .ok (.aload_n 3, 1) := by decide +kernel
theorem d22_29 : decode jdk_42_method_150_code 29 = .ok (.iconst 0, 1) := by decide +kernel
theorem d22_30 : decode jdk_42_method_150_code 30 = .ok (.iload 4, 2) := by decide +kernel
theorem d22_32 : decode jdk_42_method_150_code 32 = .ok (.invokestatic 54, 3) := by decide +kernel
theorem d22_35 : decode jdk_42_method_150_code 35 = .ok (.putfield 9, 3) := by decide +kernel
theorem d22_38 : decode jdk_42_method_150_code 38 = .ok (.goto 59, 3) := by decide +kernel
theorem d22_97 : decode jdk_42_method_150_code 97 = .ok (.return_, 1) := by decide +kernel
theorem d23_0 : decode jdk_68_method_64_code 0 = .ok (.aload_n 0, 1) := by decide +kernel
theorem d23_1 : decode jdk_68_method_64_code 1 = .ok (.getfield 15, 3) := by decide +kernel
theorem d23_4 : decode jdk_68_method_64_code 4 = .ok (.areturn, 1) := by decide +kernel
theorem d24_0 : decode jdk_67_method_93_code 0 = .ok (.aload_n 0, 1) := by decide +kernel
theorem d24_1 : decode jdk_67_method_93_code 1 = .ok (.invokespecial 343, 3) := by decide +kernel
theorem d24_4 : decode jdk_67_method_93_code 4 = .ok (.ireturn, 1) := by decide +kernel
theorem d25_0 : decode jdk_68_method_6_code 0 = .ok (.aload_n 0, 1) := by decide +kernel
theorem d25_1 : decode jdk_68_method_6_code 1 = .ok (.getfield 79, 3) := by decide +kernel
theorem d25_4 : decode jdk_68_method_6_code 4 = .ok (.ireturn, 1) := by decide +kernel
theorem d26_0 : decode jdk_68_method_68_code 0 = .ok (.getstatic 18, 3) := by decide +kernel
theorem d26_3 : decode jdk_68_method_68_code 3 = .ok (.ifCond .eq 14, 3) := by decide +kernel
theorem d26_6 : decode jdk_68_method_68_code 6 = .ok (.aload_n 0, 1) := by decide +kernel
theorem d26_7 : decode jdk_68_method_68_code 7 = .ok (.getfield 22, 3) := by decide +kernel
theorem d26_10 : decode jdk_68_method_68_code 10 = .ok (.ifCond .ne 7, 3) := by decide +kernel
theorem d26_13 : decode jdk_68_method_68_code 13 = .ok (.iconst 1, 1) := by decide +kernel
theorem d26_14 : decode jdk_68_method_68_code 14 = .ok (.goto 4, 3) := by decide +kernel
theorem d26_18 : decode jdk_68_method_68_code 18 = .ok (.ireturn, 1) := by decide +kernel
theorem d27_0 : decode jdk_65_method_132_code 0 = .ok (.iload_n 1, 1) := by decide +kernel
theorem d27_1 : decode jdk_65_method_132_code 1 = .ok (.ifCond .ne 9, 3) := by decide +kernel
theorem d27_4 : decode jdk_65_method_132_code 4 = .ok (.iload_n 2, 1) := by decide +kernel
theorem d27_5 : decode jdk_65_method_132_code 5 = .ok (.aload_n 0, 1) := by decide +kernel
theorem d27_6 : decode jdk_65_method_132_code 6 = .ok (.arraylength, 1) := by decide +kernel
theorem d27_7 : decode jdk_65_method_132_code 7 = .ok (.if_icmp .eq 10, 3) := by decide +kernel
theorem d27_10 : decode jdk_65_method_132_code 10 = .ok (.aload_n 0, 1) := by decide +kernel
theorem d27_11 : decode jdk_65_method_132_code 11 = .ok (.iload_n 1, 1) := by decide +kernel
theorem d27_12 : decode jdk_65_method_132_code 12 = .ok (.iload_n 2, 1) := by decide +kernel
theorem d27_13 : decode jdk_65_method_132_code 13 = .ok (.invokestatic 339, 3) := by decide +kernel
theorem d27_16 : decode jdk_65_method_132_code 16 = .ok (.areturn, 1) := by decide +kernel
theorem d28_0 : decode jdk_65_method_133_code 0 = .ok (.iload_n 1, 1) := by decide +kernel
theorem d28_1 : decode jdk_65_method_133_code 1 = .ok (.iload_n 2, 1) := by decide +kernel
theorem d28_2 : decode jdk_65_method_133_code 2 = .ok (.invokestatic 343, 3) := by decide +kernel
theorem d28_5 : decode jdk_65_method_133_code 5 = .ok (.iload_n 2, 1) := by decide +kernel
theorem d28_6 : decode jdk_65_method_133_code 6 = .ok (.iload_n 1, 1) := by decide +kernel
theorem d28_7 : decode jdk_65_method_133_code 7 = .ok (.isub, 1) := by decide +kernel
theorem d28_8 : decode jdk_65_method_133_code 8 = .ok (.istore_n 3, 1) := by decide +kernel
theorem d28_9 : decode jdk_65_method_133_code 9 = .ok (.iload_n 3, 1) := by decide +kernel
theorem d28_10 : decode jdk_65_method_133_code 10 = .ok (.newarray .byte, 2) := by decide +kernel
theorem d28_12 : decode jdk_65_method_133_code 12 = .ok (.astore 4, 2) := by decide +kernel
theorem d28_14 : decode jdk_65_method_133_code 14 = .ok (.aload_n 0, 1) := by decide +kernel
theorem d28_15 : decode jdk_65_method_133_code 15 = .ok (.iload_n 1, 1) := by decide +kernel
theorem d28_16 : decode jdk_65_method_133_code 16 = .ok (.aload 4, 2) := by decide +kernel
theorem d28_18 : decode jdk_65_method_133_code 18 = .ok (.iconst 0, 1) := by decide +kernel
theorem d28_19 : decode jdk_65_method_133_code 19 = .ok (.aload_n 0, 1) := by decide +kernel
theorem d28_20 : decode jdk_65_method_133_code 20 = .ok (.arraylength, 1) := by decide +kernel
theorem d28_21 : decode jdk_65_method_133_code 21 = .ok (.iload_n 1, 1) := by decide +kernel
theorem d28_22 : decode jdk_65_method_133_code 22 = .ok (.isub, 1) := by decide +kernel
theorem d28_23 : decode jdk_65_method_133_code 23 = .ok (.iload_n 3, 1) := by decide +kernel
theorem d28_24 : decode jdk_65_method_133_code 24 = .ok (.invokestatic 304, 3) := by decide +kernel
theorem d28_27 : decode jdk_65_method_133_code 27 = .ok (.invokestatic 150, 3) := by decide +kernel
theorem d28_30 : decode jdk_65_method_133_code 30 = .ok (.aload 4, 2) := by decide +kernel
theorem d28_32 : decode jdk_65_method_133_code 32 = .ok (.areturn, 1) := by decide +kernel
theorem d29_0 : decode jdk_65_method_131_code 0 = .ok (.iload_n 1, 1) := by decide +kernel
theorem d29_1 : decode jdk_65_method_131_code 1 = .ok (.iload_n 0, 1) := by decide +kernel
theorem d29_2 : decode jdk_65_method_131_code 2 = .ok (.if_icmp .ge 35, 3) := by decide +kernel
theorem d29_37 : decode jdk_65_method_131_code 37 = .ok (.return_, 1) := by decide +kernel
theorem d30_0 : decode jdk_29_method_69_code 0 = .ok (.iload_n 0, 1) := by decide +kernel
theorem d30_1 : decode jdk_29_method_69_code 1 = .ok (.iload_n 1, 1) := by decide +kernel
theorem d30_2 : decode jdk_29_method_69_code 2 = .ok (.if_icmp .gt 7, 3) := by decide +kernel
theorem d30_9 : decode jdk_29_method_69_code 9 = .ok (.iload_n 1, 1) := by decide +kernel
theorem d30_10 : decode jdk_29_method_69_code 10 = .ok (.ireturn, 1) := by decide +kernel
theorem pd_0 : parseMethodDescriptor "([CIILjava/lang/Void;)V" = some ⟨[(.array .char), .int, .int, (.object "java/lang/Void")], none⟩ := by decide +kernel
theorem pd_1 : parseMethodDescriptor "()B" = some ⟨[], some .byte⟩ := by decide +kernel
theorem pd_2 : parseMethodDescriptor "(Ljava/lang/String;)V" = some ⟨[(.object "java/lang/String")], none⟩ := by decide +kernel
theorem pd_3 : parseMethodDescriptor "([BIB)V" = some ⟨[(.array .byte), .int, .byte], none⟩ := by decide +kernel
theorem pd_4 : parseMethodDescriptor "()I" = some ⟨[], some .int⟩ := by decide +kernel
theorem pd_5 : parseMethodDescriptor "(I)V" = some ⟨[.int], none⟩ := by decide +kernel
theorem pd_6 : parseMethodDescriptor "(ILjava/lang/String;)V" = some ⟨[.int, (.object "java/lang/String")], none⟩ := by decide +kernel
theorem pd_7 : parseMethodDescriptor "(Ljava/lang/String;)Ljava/lang/AbstractStringBuilder;" = some ⟨[(.object "java/lang/String")], some (.object "java/lang/AbstractStringBuilder")⟩ := by decide +kernel
theorem pd_8 : parseMethodDescriptor "(II)V" = some ⟨[.int, .int], none⟩ := by decide +kernel
theorem pd_9 : parseMethodDescriptor "(II)I" = some ⟨[.int, .int], some .int⟩ := by decide +kernel
theorem pd_10 : parseMethodDescriptor "([BII)[B" = some ⟨[(.array .byte), .int, .int], some (.array .byte)⟩ := by decide +kernel
theorem pd_11 : parseMethodDescriptor "()[B" = some ⟨[], some (.array .byte)⟩ := by decide +kernel
theorem pd_12 : parseMethodDescriptor "()Z" = some ⟨[], some .boolean⟩ := by decide +kernel
theorem pd_13 : parseMethodDescriptor "(Ljava/lang/AbstractStringBuilder;Ljava/lang/Void;)V" = some ⟨[(.object "java/lang/AbstractStringBuilder"), (.object "java/lang/Void")], none⟩ := by decide +kernel
theorem pd_14 : parseMethodDescriptor "(Ljava/lang/StringBuilder;)V" = some ⟨[(.object "java/lang/StringBuilder")], none⟩ := by decide +kernel
theorem pd_15 : parseMethodDescriptor "()V" = some ⟨[], none⟩ := by decide +kernel
theorem pd_16 : parseMethodDescriptor "(Ljava/util/Map;)Ljava/util/Map;" = some ⟨[(.object "java/util/Map")], some (.object "java/util/Map")⟩ := by decide +kernel
theorem pd_17 : parseMethodDescriptor "(Ljava/lang/String;)Ljava/lang/StringBuilder;" = some ⟨[(.object "java/lang/String")], some (.object "java/lang/StringBuilder")⟩ := by decide +kernel
theorem pd_18 : parseMethodDescriptor "()Ljava/lang/String;" = some ⟨[], some (.object "java/lang/String")⟩ := by decide +kernel
theorem pd_19 : parseMethodDescriptor "([C)V" = some ⟨[(.array .char)], none⟩ := by decide +kernel
theorem pd_20 : parseMethodDescriptor "(I)Ljava/lang/String;" = some ⟨[.int], some (.object "java/lang/String")⟩ := by decide +kernel
theorem pd_21 : parseMethodDescriptor "()Ljava/util/Map;" = some ⟨[], some (.object "java/util/Map")⟩ := by decide +kernel
theorem pd_22 : parseMethodDescriptor "(Ljava/lang/String;Ljava/lang/String;Ljava/util/Map;)V" = some ⟨[(.object "java/lang/String"), (.object "java/lang/String"), (.object "java/util/Map")], none⟩ := by decide +kernel
theorem pd_23 : parseMethodDescriptor "(I)C" = some ⟨[.int], some .char⟩ := by decide +kernel
theorem pn_6 : plainName "com/example/certain_answers/certainanswers/server/MediaType" = true := by first | (simp [plainName, overriddenIn]; done) | decide +kernel
theorem pn_7 : plainName "com/example/certain_answers/certainanswers/server/MediaTypeEssencePinLaw" = true := by first | (simp [plainName, overriddenIn]; done) | decide +kernel
theorem pn_1 : plainName "java/lang/AbstractStringBuilder" = true := by first | (simp [plainName, overriddenIn]; done) | decide +kernel
theorem pn_5 : plainName "java/lang/Record" = true := by first | (simp [plainName, overriddenIn]; done) | decide +kernel
theorem pn_0 : plainName "java/lang/String" = true := by first | (simp [plainName, overriddenIn]; done) | decide +kernel
theorem pn_2 : plainName "java/lang/StringBuilder" = true := by first | (simp [plainName, overriddenIn]; done) | decide +kernel
theorem pn_3 : plainName "java/util/Arrays" = true := by first | (simp [plainName, overriddenIn]; done) | decide +kernel
theorem pn_4 : plainName "java/util/Map" = true := by first | (simp [plainName, overriddenIn]; done) | decide +kernel
/-- the first n of these chars (all three from 3 on) -/
def cs3 (n a b c : Int32) : List Int32 := if n = 0 then [] else if n = 1 then [a] else if n = 2 then [a, b] else [a, b, c]
theorem cs3_0 {n a b c : Int32} (h : n = 0) : cs3 n a b c = [] := if_pos h
theorem cs3_1 {n a b c : Int32} (h : ¬ n = 0) (h1 : n = 1) : cs3 n a b c = [a] := by unfold cs3; rw [if_neg h, if_pos h1]
theorem cs3_2 {n a b c : Int32} (h : ¬ n = 0) (h1 : ¬ n = 1) (h2 : n = 2) : cs3 n a b c = [a, b] := by unfold cs3; rw [if_neg h, if_neg h1, if_pos h2]
theorem cs3_3 {n a b c : Int32} (h : ¬ n = 0) (h1 : ¬ n = 1) (h2 : ¬ n = 2) : cs3 n a b c = [a, b, c] := by unfold cs3; rw [if_neg h, if_neg h1, if_neg h2]

section Own6
theorem mask3 (x : Int32) : (x &&& 3) = 0 ∨ (x &&& 3) = 1 ∨ (x &&& 3) = 2 ∨ (x &&& 3) = 3 := by
  have h : (x &&& 3).toBitVec.toNat < 4 := by
    simp only [Int32.toBitVec_and, BitVec.toNat_and]
    exact Nat.lt_succ_of_le Nat.and_le_right
  have e : (x &&& 3) = Int32.ofNat (x &&& 3).toBitVec.toNat := by
    apply Int32.toBitVec_inj.mp
    show _ = BitVec.ofNat 32 _
    rw [BitVec.ofNat_toNat]; simp
  have t : ∀ k : Fin 4, Int32.ofNat k.val = 0 ∨ Int32.ofNat k.val = 1 ∨ Int32.ofNat k.val = 2 ∨ Int32.ofNat k.val = 3 := by decide
  rw [e]; exact t ⟨_, h⟩
/-- one char for one low byte -/
theorem chrI (x y : Int32) : ((x &&& (255 : Int32)).toUInt32.toUInt16.toUInt32.toInt32) = ((y &&& (255 : Int32)).toUInt32.toUInt16.toUInt32.toInt32) ↔ (x &&& (255 : Int32)) = (y &&& (255 : Int32)) := by
  refine ⟨fun h => ?_, fun h => by rw [h]⟩
  have t : ∀ k : Fin 256, (Int32.ofNat k.val).toUInt32.toUInt16.toUInt32.toInt32 = Int32.ofNat k.val := by decide +kernel
  obtain ⟨k, e⟩ := mask255 x
  obtain ⟨k', e'⟩ := mask255 y
  rw [e, e'] at h ⊢
  rwa [t k, t k'] at h
theorem cs3_ne {n m a b c a' b' c' : Int32} (hn : n = 0 ∨ n = 1 ∨ n = 2 ∨ n = 3) (hm : m = 0 ∨ m = 1 ∨ m = 2 ∨ m = 3) (h : ¬ n = m) : ¬ cs3 n a b c = cs3 m a' b' c' := by
  rcases hn with rfl | rfl | rfl | rfl <;> rcases hm with rfl | rfl | rfl | rfl <;> first | exact absurd rfl h | (simp [cs3])
theorem cs3_e1 {a b c a' b' c' : Int32} : cs3 1 a b c = cs3 1 a' b' c' ↔ a = a' := by simp [cs3]
theorem cs3_e2 {a b c a' b' c' : Int32} : cs3 2 a b c = cs3 2 a' b' c' ↔ a = a' ∧ b = b' := by simp [cs3]
theorem cs3_e3 {a b c a' b' c' : Int32} : cs3 3 a b c = cs3 3 a' b' c' ↔ a = a' ∧ b = b' ∧ c = c' := by simp [cs3]
end Own6
section Own7
/-- the rest by 19 of what isn't negative -/
theorem rem_lt {x : Int32} {k : Int32} {n : Nat} (hx : ¬ x < 0) (hk : k.toInt = n) (hn : 0 < n) : ¬ x % k < 0 ∧ (x % k).toNatClampNeg < n := by
  rw [Int32.lt_iff_toInt_lt] at hx
  have e0 : (0 : Int32).toInt = 0 := rfl
  have e : (x % k).toInt = x.toInt.tmod k.toInt := Int32.toInt_mod _ _
  rw [hk] at e
  have p : x.toInt.tmod (n : Int) = x.toInt % (n : Int) := Int.tmod_eq_emod_of_nonneg (by omega)
  have p1 : 0 ≤ x.toInt % (n : Int) := Int.emod_nonneg _ (by omega)
  have p2 : x.toInt % (n : Int) < (n : Int) := Int.emod_lt_of_pos _ (by omega)
  refine ⟨by rw [Int32.lt_iff_toInt_lt, e0]; omega, ?_⟩
  show (x % k).toInt.toNat < n
  omega
theorem mask31 (x : Int32) : ¬ (x &&& (2147483647 : Int32)) < 0 := by
  rw [Int32.lt_iff_toInt_lt]
  have e : (x &&& (2147483647 : Int32)).toInt = (x &&& (2147483647 : Int32)).toBitVec.toInt := rfl
  have h : (x &&& (2147483647 : Int32)).toBitVec.toNat < 2147483648 := by
    simp only [Int32.toBitVec_and, BitVec.toNat_and]
    exact Nat.lt_succ_of_le Nat.and_le_right
  rw [e, BitVec.toInt_eq_toNat_of_lt (by omega)]
  have e0 : (0 : Int32).toInt = 0 := rfl
  omega
/-- a logical shift by one place or more isn't negative -/
theorem ushr_nn (x : Int32) (k : Nat) (hk : 0 < k) (h32 : k < 32) {y : Int32} (hy : (y &&& 31).toUInt32 = UInt32.ofNat k) : ¬ ((x.toUInt32 >>> (y &&& 31).toUInt32).toInt32) < 0 := by
  rw [hy, Int32.lt_iff_toInt_lt]
  have e0 : (0 : Int32).toInt = 0 := rfl
  have h1 : (x.toUInt32 >>> UInt32.ofNat k).toNat < 2147483648 := by
    rw [UInt32.toNat_shiftRight]
    have : (UInt32.ofNat k).toNat = k := by rw [UInt32.toNat_ofNat']; omega
    rw [this, Nat.mod_eq_of_lt h32, Nat.shiftRight_eq_div_pow]
    have hx := x.toUInt32.toNat_lt
    have : 2 ^ 1 ≤ 2 ^ k := Nat.pow_le_pow_right (by decide) hk
    have h2 : x.toUInt32.toNat / 2 ^ k ≤ x.toUInt32.toNat / 2 ^ 1 := Nat.div_le_div_left this (by decide)
    omega
  have e1 : ((x.toUInt32 >>> UInt32.ofNat k).toInt32).toInt = ((x.toUInt32 >>> UInt32.ofNat k).toBitVec).toInt := rfl
  rw [e1, BitVec.toInt_eq_toNat_of_lt (by show 2 * (x.toUInt32 >>> UInt32.ofNat k).toNat < _; omega)]
  omega
/-- a Latin-1 char changed in its low byte -/
theorem xorChr {x y z : Int32} (hx : ¬ x < 0 ∧ ¬ (255 : Int32) < x) (hy : ¬ y < 0 ∧ ¬ (255 : Int32) < y) (h : ((x ^^^ y).toUInt32.toUInt16.toUInt32.toInt32) = z) : (¬ z < 0 ∧ ¬ (255 : Int32) < z) ∧ nar .char z = z := by
  have r : ∀ x : Int32, (¬ x < 0 ∧ ¬ (255 : Int32) < x) → x &&& 255 = x := fun x hx => by
    rw [Int32.lt_iff_toInt_lt, Int32.lt_iff_toInt_lt] at hx
    have e0 : (0 : Int32).toInt = 0 := rfl
    have e1 : (255 : Int32).toInt = 255 := rfl
    obtain ⟨k, hk⟩ : ∃ k : Nat, x.toInt = k := ⟨x.toInt.toNat, by omega⟩
    have t : ∀ k : Fin 256, Int32.ofNat k.val &&& 255 = Int32.ofNat k.val := by decide +kernel
    have hx' : x = Int32.ofNat k := Int32.toInt_inj.mp (by rw [hk, Int32.toInt_ofNat_small (by omega)])
    rw [hx']; exact t ⟨k, by omega⟩
  have e : (x ^^^ y) = (x ^^^ y) &&& 255 := by
    rw [← r x hx, ← r y hy]
    apply Int32.toBitVec_inj.mp
    simp only [Int32.toBitVec_and, Int32.toBitVec_xor]
    ext i
    simp
    cases x.toBitVec[i] <;> cases y.toBitVec[i] <;> simp
  rw [e] at h
  exact chr255 h
theorem lat255 (x : Int32) : ¬ (x &&& (255 : Int32)) < 0 ∧ ¬ (255 : Int32) < (x &&& (255 : Int32)) := by
  have t : ∀ k : Fin 256, ¬ Int32.ofNat k.val < 0 ∧ ¬ (255 : Int32) < Int32.ofNat k.val := by decide +kernel
  obtain ⟨k, e⟩ := mask255 x
  rw [e]; exact t k
end Own7

section Own9
variable {p : Program} {l : Launch} {e : Env} {R rm : Room} {s : State} {m : MethodId} {args : Array Value} {below : List Frame} {meth : Method} {c : Code} {own nm : String} {bytes : ByteArray} {ml : Nat} {rt : Option FieldType} {Z : State} {a0 : Array Value} {EL : List (String × Nat)} {h0 : Heap} {ws : List Addr} {T : State} {h h' : Heap} {cells slots : Nat} {Q : Outcome → State → Prop} {pc : Nat} {Ls : Array Slot} {rest : List Value}
theorem nfTop {y : MethodName} (w : (Jvm.Cond.noSuperclass y.cls).before a0 Z = true) : ∀ vm0, Z.Warmed39 vm0 → NotFace (s.setVm vm0) y := fun vm0 hZ => nf_top (args := #[]) (mvT (s := s.setVm vm0) hZ w)
theorem Pos.bald (P : Pos p l e R s m args below meth c own nm bytes ml rt Z a0 EL h0 ws T h cells slots) {a : Addr} {kc : ClassId} {z j : Int32} {vs : List Value} {dv v : Value} (A : Arv Z h a kc .byte z vs dv) (hj0 : ¬ j < 0) (hlt : j.toNatClampNeg < z.toNatClampNeg) (hv : vs.getD j.toNatClampNeg dv = v) (hd : decode bytes pc = .ok (.baload, 1))
    (g : Go p e below Q (T.setTop (mkF m (pc + 1) Ls (v :: rest)))) : Go p e below Q (T.setTop (mkF m pc Ls (.int j :: .ref a :: rest))) := by
  obtain ⟨vm0, k0, locs, X, ⟨hx, hby, hml, hret, hlk, hnm, hh, hEL, hZs⟩, hZ, hown, hS, hk, eT, -⟩ := P
  obtain ⟨cl, Ar, q1, S, N, H, -⟩ := A
  have hin : ¬ (j < 0 ∨ cl.slots.size ≤ j.toNatClampNeg) := inb rfl hj0 S hlt
  exact g.of fun t k => X.baloadBytes hx (by rw [eT]; exact Ar.1) (State.isArrayOf_alike (T := s.setVm vm0) hZ.alike Ar.2.1) Ar.2.2 hin (H.at hin hv) (g := mkF m pc Ls (.int j :: .ref a :: rest)) rfl rfl (hb hby hd) _ k
/-- an element of a table of boxes that stood before the law -/
theorem Pos.bxld (P : Pos p l e R s m args below meth c own nm bytes ml rt Z a0 EL h0 ws T h cells slots) {a : Addr} {cc : Cell} {K d : String} {z j : Int32} {val : Int32 → Value} (B : Bxs Z a cc K d z val) (hj0 : ¬ j < 0) (hlt : j.toNatClampNeg < z.toNatClampNeg) (hd : decode bytes pc = .ok (.aaload, 1))
    (g : ∀ b : Addr, Exa Z h b K → Fld Z h b K "value" d (val j) → Go p e below Q (T.setTop (mkF m (pc + 1) Ls (.ref b :: rest)))) : Go p e below Q (T.setTop (mkF m pc Ls (.int j :: .ref a :: rest))) := by
  have O := P.old
  obtain ⟨vm0, k0, locs, X, ⟨hx, hby, hml, hret, hlk, hnm, hh, hEL, hZs⟩, hZ, hown, hS, hk, eT, -⟩ := P
  obtain ⟨Ar, S, N, H⟩ := B
  have hin : ¬ (j < 0 ∨ cc.slots.size ≤ j.toNatClampNeg) := inb rfl hj0 S hlt
  obtain ⟨b, hb1, hb2, hb3⟩ := H j hin
  have Ar' := Ar.ext O
  exact (g b (hb2.ext O) (hb3.ext O)).of fun t k => X.aaload hx (by rw [eT]; exact Ar'.1) (State.isArrayOf_alike (T := s.setVm vm0) hZ.alike Ar'.2.1) rfl Ar'.2.2 hin hb1 (g := mkF m pc Ls (.int j :: .ref a :: rest)) rfl rfl (hb hby hd) _ k
theorem insArv {t : Addr} {kb : ClassId} {ty : FieldType} {z : Int32} {vs : List Value} {d : Value} {K : String} (A : Arv Z h t kb ty z vs d) (hf : Z.vm.findClass K = some kb) : Ins Z h t K true := by
  obtain ⟨cl, ⟨h1, ⟨hs, -⟩, -⟩, rfl, -⟩ := A
  have : cl.vm.isStatics = false := by cases hv : cl.vm <;> simp_all [VmData.isStatics]
  exact ⟨cl, _, h1, hf, by simp [this, Vm.assignable_self]⟩
/-- a String of at most two chars whose hash isn't reckoned yet -/
def Sh (Z : State) (h : Heap) (x : Addr) (cs : List Int32) : Prop := Exa Z h x "java/lang/String" ∧ (∀ c ∈ cs, ¬ c < 0 ∧ ¬ (255 : Int32) < c) ∧ cs.length ≤ 2 ∧ Fld Z h x "java/lang/String" "coder" "B" (.int (0 : Int32)) ∧ Fld Z h x "java/lang/String" "hash" "I" (.int (0 : Int32)) ∧ Fld Z h x "java/lang/String" "hashIsZero" "Z" (.int (0 : Int32)) ∧
  ∃ (t : Addr) (kb : ClassId) (nz : Int32) (vs : List Value), Fld Z h x "java/lang/String" "value" "[B" (.ref t) ∧ Arv Z h t kb .byte nz vs (.int 0) ∧ nz = Int32.ofNat cs.length ∧ vs = (cs.map (fun c => c.toInt8.toInt32)).map Value.int ∧ (cs.length = 2 → Z.vm.findClass "[B" = some kb)
theorem Sh.lt {x : Addr} {cs : List Int32} (S : Sh Z h x cs) : x < h.size := S.1.lt
theorem Sh.ext {x : Addr} {cs : List Int32} (S : Sh Z h x cs) (E : Ext h h') : Sh Z h' x cs := by
  obtain ⟨s1, s2, s3, s4, s5, s6, t, kb, nz, vs, s7, s8, r⟩ := S
  exact ⟨s1.ext E, s2, s3, s4.ext E, s5.ext E, s6.ext E, t, kb, nz, vs, s7.ext E, s8.ext E, r⟩
theorem Sh.keep {x : Addr} {cs : List Int32} {ws : List Addr} (S : Sh Z h x cs) (K : Keep h h' ws) (q : ∀ a ∈ ws, x ≠ a ∧ NB Z h a) : Sh Z h' x cs := by
  obtain ⟨s1, s2, s3, s4, s5, s6, t, kb, nz, vs, s7, s8, r⟩ := S
  have n1 : x ∉ ws := fun m => (q x m).1 rfl
  have n2 : t ∉ ws := fun m => (q t m).2.ne s8 rfl
  exact ⟨s1.keep K, s2, s3, s4.keep K n1, s5.keep K n1, s6.keep K n1, t, kb, nz, vs, s7.keep K n1, s8.keep K n2, r⟩
theorem Sh.wr {x a : Addr} {cs : List Int32} {sl : Nat} {v : Value} (S : Sh Z h x cs) (W : Wr h h' a sl v) (q1 : x ≠ a) (q2 : NB Z h a) : Sh Z h' x cs := S.keep (Keep.of_wr W) (allS ⟨q1, q2⟩ all0)
theorem latFin {x : Int32} (hx : ¬ x < 0 ∧ ¬ (255 : Int32) < x) : ∃ k : Fin 256, x = Int32.ofNat k.val := by
  rw [Int32.lt_iff_toInt_lt, Int32.lt_iff_toInt_lt] at hx
  have e0 : (0 : Int32).toInt = 0 := rfl
  have e1 : (255 : Int32).toInt = 255 := rfl
  obtain ⟨k, hk⟩ : ∃ k : Nat, x.toInt = k := ⟨x.toInt.toNat, by omega⟩
  exact ⟨⟨k, by omega⟩, Int32.toInt_inj.mp (by rw [hk, Int32.toInt_ofNat_small (by show k < _; omega)])⟩
theorem chrLat {x : Int32} (hx : ¬ x < 0 ∧ ¬ (255 : Int32) < x) : x.toUInt32.toUInt16.toUInt32.toInt32 = x := by
  have t : ∀ k : Fin 256, (Int32.ofNat k.val).toUInt32.toUInt16.toUInt32.toInt32 = Int32.ofNat k.val := by decide +kernel
  obtain ⟨k, rfl⟩ := latFin hx
  exact t k
theorem narLat {x : Int32} (hx : ¬ x < 0 ∧ ¬ (255 : Int32) < x) : nar .char x = x := by
  have t : ∀ k : Fin 256, nar .char (Int32.ofNat k.val) = Int32.ofNat k.val := by decide +kernel
  obtain ⟨k, rfl⟩ := latFin hx
  exact t k
theorem rem33 (x : Int32) : ((x &&& (3 : Int32)) % (3 : Int32)) = 0 ∨ ((x &&& (3 : Int32)) % (3 : Int32)) = 1 ∨ ((x &&& (3 : Int32)) % (3 : Int32)) = 2 := by
  rcases mask3 x with q | q | q | q <;> rw [q] <;> decide
theorem up3 {x : Int32} (q : x = 0 ∨ x = 1 ∨ x = 2) : x = 0 ∨ x = 1 ∨ x = 2 ∨ x = 3 := by rcases q with q | q | q <;> simp [q]
end Own9

section Own10
variable {p : Program} {l : Launch} {e : Env} {R rm : Room} {s : State} {m : MethodId} {args : Array Value} {below : List Frame} {meth : Method} {c : Code} {own nm : String} {bytes : ByteArray} {ml : Nat} {rt : Option FieldType} {Z : State} {a0 : Array Value} {EL : List (String × Nat)} {h0 : Heap} {ws : List Addr} {T : State} {h h' : Heap} {cells slots : Nat} {Q : Outcome → State → Prop} {pc : Nat} {Ls : Array Slot} {rest : List Value}
/-- a byte written where no literal is looked after -/
theorem Pos.stB0 (P : Pos p l e R s m args below meth c own nm bytes ml rt Z a0 [] h0 ws T h cells slots) {a : Addr} {kc : ClassId} {z j x x' : Int32} {vs : List Value} {dv : Value} (A : Arv Z h a kc .byte z vs dv) (i : Nat) (hj : j.toNatClampNeg = i) (hj0 : ¬ j < 0) (hlt : i < z.toNatClampNeg) (hi : i < vs.length) (hx' : nar .byte x = x') (hd : decode bytes pc = .ok (.bastore, 1)) (hz : Z.heap.size ≤ a) (hws : a ∈ ws ∨ h0.size ≤ a)
    (k : ∀ T' h', Pos p l e R s m args below meth c own nm bytes ml rt Z a0 [] h0 ws T' h' cells slots → Wr h h' a j.toNatClampNeg (.int x') → Arv Z h' a kc .byte z (vs.set i (.int x')) dv → Go p e below Q (T'.setTop (mkF m (pc + 1) Ls rest))) : Go p e below Q (T.setTop (mkF m pc Ls (.int x :: .int j :: .ref a :: rest))) := by
  obtain ⟨cl, Ar, q1, S, N, H, G⟩ := A
  subst hx'
  refine P.wr (fun vm _ hal _ => safeNil) hz hws (V := fun T' => T'.setTop (mkF m (pc + 1) Ls rest)) (fun vm0 locs X hx hby hZ hown eT hnm => Jvm.RoadKit.stB X hx hZ eT Ar (inb hj hj0 S hlt) (g := mkF m pc Ls (.int x :: .int j :: .ref a :: rest)) rfl rfl (hb hby hd)) (fun T' h' P' W => k T' h' P' W (Arv.set Ar q1 S N H G (fits_nar_byte x) W i hj hi))
theorem shrZ (c : Int32) : c >>> ((0 : Int32) &&& 31) = c := by
  have e : ((0 : Int32) &&& 31) = 0 := by decide
  rw [e]
  apply Int32.toBitVec_inj.mp
  rw [Int32.toBitVec_shiftRight]
  have e1 : ((0 : Int32).toBitVec.smod 32) = 0#32 := by decide
  rw [e1, BitVec.sshiftRight_eq']
  exact BitVec.sshiftRight_zero
theorem narCC (y : Int32) : nar .char (y.toUInt32.toUInt16.toUInt32.toInt32) = y.toUInt32.toUInt16.toUInt32.toInt32 := by
  have e : ∀ w : UInt16, w.toUInt32.toInt32.toUInt32.toUInt16 = w := fun w => by simp
  show (y.toUInt32.toUInt16.toUInt32.toInt32).toUInt32.toUInt16.toUInt32.toInt32 = _
  rw [e]
theorem gch {c : Int32} (hc : ¬ c < 0 ∧ ¬ (65535 : Int32) < c) : nar .char (StrChars.pairCh (StrChars.lo8 c) (StrChars.hi8 c)) = c := by
  have e : nar .char (StrChars.pairCh (StrChars.lo8 c) (StrChars.hi8 c)) = StrChars.pairCh (StrChars.lo8 c) (StrChars.hi8 c) := narCC _
  rw [e, StrChars.pair_says hc.1 hc.2]
theorem c16 {y z : Int32} (hz : y.toUInt32.toUInt16.toUInt32.toInt32 = z) : (¬ z < 0 ∧ ¬ (65535 : Int32) < z) ∧ nar .char z = z := by
  subst hz
  refine ⟨?_, narCC y⟩
  generalize y.toUInt32.toUInt16 = w
  have hw := w.toNat_lt
  have e1 : (w.toUInt32.toInt32).toInt = (w.toUInt32.toBitVec).toInt := rfl
  have e2 : (w.toUInt32.toInt32).toInt = w.toNat := by
    rw [e1, BitVec.toInt_eq_toNat_of_lt (by show 2 * w.toUInt32.toNat < _; rw [UInt16.toNat_toUInt32]; omega)]
    show ((w.toUInt32.toNat : Nat) : Int) = _
    rw [UInt16.toNat_toUInt32]
  rw [Int32.lt_iff_toInt_lt, Int32.lt_iff_toInt_lt, e2]
  have e3 : (0 : Int32).toInt = 0 := rfl
  have e4 : (65535 : Int32).toInt = 65535 := rfl
  omega
theorem nw0 : ∀ c ∈ ([] : List Int32), ¬ (255 : Int32) < c := fun _ q => nomatch q
theorem nwS {x : Int32} {cs : List Int32} (h : ¬ (255 : Int32) < x) (r : ∀ c ∈ cs, ¬ (255 : Int32) < c) : ∀ c ∈ x :: cs, ¬ (255 : Int32) < c := fun c q => (List.mem_cons.mp q).elim (fun e => e ▸ h) (r c)
theorem exW {cs : List Int32} (h16 : ∀ c ∈ cs, ¬ c < 0 ∧ ¬ (65535 : Int32) < c) (hnl : ¬ ∀ c ∈ cs, ¬ c < 0 ∧ ¬ (255 : Int32) < c) : ∃ c ∈ cs, (255 : Int32) < c := Classical.byContradiction fun q => hnl fun c hc => ⟨(h16 c hc).1, fun g => q ⟨c, hc, g⟩⟩
theorem ofN6 {n : Nat} (hn : n ≤ 6) : (Int32.ofNat n).toInt = n := Int32.toInt_ofNat_small (by show n < _; omega)
theorem ofN6c {n : Nat} (hn : n ≤ 6) : (Int32.ofNat n).toNatClampNeg = n := by show (Int32.ofNat n).toInt.toNat = n; rw [ofN6 hn]; rfl
theorem remIx {x : Int32} {n : Nat} (hx : ¬ x < 0) (hn : n ≤ 6) (h0 : (0 : Int32) < Int32.ofNat n) : ¬ (x % Int32.ofNat n) < 0 ∧ (x % Int32.ofNat n).toNatClampNeg < n := by
  rw [Int32.lt_iff_toInt_lt, ofN6 hn] at h0
  have e3 : (0 : Int32).toInt = 0 := rfl
  exact rem_lt hx (ofN6 hn) (by omega)
theorem set16 {cs : List Int32} {i : Nat} {ch : Int32} (h16 : ∀ c ∈ cs, ¬ c < 0 ∧ ¬ (65535 : Int32) < c) (hc : ¬ ch < 0 ∧ ¬ (65535 : Int32) < ch) : ∀ c ∈ cs.set i ch, ¬ c < 0 ∧ ¬ (65535 : Int32) < c := fun c q => (List.mem_or_eq_of_mem_set q).elim (h16 c) (fun e => e ▸ hc)
theorem setA {a : Addr} {kc : ClassId} {cs : List Int32} {i : Nat} {ch : Int32} {dv : Value} (A : Arv Z h a kc .char (Int32.ofNat cs.length) ((cs.map Value.int).set i (.int ch)) dv) : Arv Z h a kc .char (Int32.ofNat (cs.set i ch).length) ((cs.set i ch).map Value.int) dv := by
  rw [List.length_set, List.map_set]; exact A
end Own10

section Own11
variable {p : Program} {l : Launch} {e : Env} {R rm : Room} {s : State} {m : MethodId} {args : Array Value} {below : List Frame} {meth : Method} {c : Code} {own nm : String} {bytes : ByteArray} {ml : Nat} {rt : Option FieldType} {Z : State} {a0 : Array Value} {EL : List (String × Nat)} {h0 : Heap} {ws : List Addr} {T : State} {h h' : Heap} {cells slots : Nat} {Q : Outcome → State → Prop} {pc : Nat} {Ls : Array Slot} {rest : List Value}
/-- each literal's text has fewer than n signs, half as many at most -/
def ELn (Z : State) (a0 : Array Value) (EL : List (String × Nat)) (n : Nat) : Prop := ∀ q ∈ EL, ∃ text : String, (Jvm.Cond.stringLink q.1 q.2 text).before a0 Z = true ∧ (∀ c ∈ text.toList, c.toNat < 256) ∧ 2 * text.toList.length < n
theorem ELn.nil {n : Nat} : ELn Z a0 [] n := fun _ hp => by cases hp
theorem ELn.cons {own text : String} {index n : Nat} (w : (Jvm.Cond.stringLink own index text).before a0 Z = true) (ht : ∀ c ∈ text.toList, c.toNat < 256) (hn : 2 * text.toList.length < n) (E : ELn Z a0 EL n) : ELn Z a0 ((own, index) :: EL) n := fun q hq => by
  rcases List.mem_cons.mp hq with rfl | hq
  · exact ⟨text, w, ht, hn⟩
  · exact E q hq
/-- a byte array longer than every literal is no literal's -/
theorem safeLen {vm : Vm} {x : Addr} {k : ClassId} {z : Int32} {vs : List Value} {dv : Value} {n : Nat} (hal : Z.vm.Alike vm) (E : ELn Z a0 EL n) (A : Arv Z h x k .byte z vs dv) (hz : z.toNatClampNeg = n) : Safe Z EL vm h x := fun B => by
  obtain ⟨cl, ⟨A1, ⟨-, kA, hkA, compA, hkindA⟩, -⟩, -, hsz, -⟩ := A
  obtain ⟨kA', hkA', ekA⟩ := hal.2.2 _ _ hkA
  obtain ⟨p, hp, u, a, hb, q, -, F, rfl | rfl⟩ := B
  · cases (show h[q.sa]? = some q.sC from F.ha).symm.trans A1
    obtain ⟨cS, ⟨-, -, e⟩, ⟨kS, g1, g2, -⟩, -⟩ := F
    subst e
    cases (show vm.classes[q.sC.cls]? = some kS from g1).symm.trans hkA'
    rw [ekA] at g2
    have := hkindA.symm.trans g2
    cases this
  · cases (show h[q.sd]? = some q.SA from F.hd).symm.trans A1
    obtain ⟨cS, -, -, -, hbyt⟩ := F
    obtain ⟨text, w, ht, hn⟩ := E p hp
    obtain ⟨c, k', cf, i, b1, b2, b3, b4, b5, -⟩ := hb
    rw [hal.findClass] at b1
    obtain ⟨kz, cf0, i0, units0, c1, c2, c3, c4, -, htext, -⟩ := Cond.stringLink_spec (s := Z) b1 w
    obtain ⟨k'', hk'', ek⟩ := hal.2.2 _ _ c1
    cases b2.symm.trans hk''
    have hcf : k'.cf = kz.cf := by rw [ek]
    cases (hcf ▸ b3).symm.trans c2
    cases b4.symm.trans c3
    cases b5.symm.trans c4
    have eu := Jvm.ClassFile.units_of_text htext ht
    have es : u.size = text.toList.length := by rw [← Array.length_toList, eu]; simp
    have le := stringBytes_size_le u
    rw [hbyt] at hsz
    omega
/-- the class of one selected method is no interface: so none of its methods' -/
theorem nfSib {C : String} {y z w : MethodName} (w5 : (Jvm.Cond.selects C w z).before a0 Z = true) (hc : z.cls = y.cls) : ∀ vm0, Z.Warmed39 vm0 → NotFace (s.setVm vm0) y := fun vm0 hZ r0 e0 => by
  obtain ⟨c2, r2, m2, q1, q2, q3, q4, kP, hkP, hkPi⟩ := Cond.selects_spec (mvT (args := #[]) (s := s.setVm vm0) hZ w5)
  have f1 := findClass_of_methodNamed e0
  have f2 := findClass_of_methodNamed q3
  rw [hc] at f2
  have e : r0.cls = m2.cls := Option.some.inj (f1.symm.trans f2)
  exact ⟨kP, by rw [e]; exact hkP, hkPi⟩
/-- System.arraycopy of bytes -/
theorem Pos.cpB (P : Pos p l e R s m args below meth c own nm bytes ml rt Z a0 EL h0 ws T h cells slots) {index W : Nat} {a b : Addr} {k k' : ClassId} {z z' sp dp nn : Int32} {vs vd us vr : List Value} {dv dd : Value}
    (w1 : (Jvm.Cond.methodLink own index Jvm.Stand.acN).before a0 Z = true) (w2 : (Jvm.Cond.native Jvm.Stand.acN).before a0 Z = true) (w3 : (Jvm.Cond.static Jvm.Stand.acN).before a0 Z = true) (w4 : (Jvm.Cond.initialized "java/lang/System").before a0 Z = true)
    (A : Arv Z h a k .byte z vs dv) (B : Arv Z h b k' .byte z' vd dd) (h1 : ¬ sp < 0) (h2 : ¬ dp < 0) (h3 : ¬ nn < 0) (h4 : sp.toNatClampNeg + nn.toNatClampNeg ≤ z.toNatClampNeg) (h5 : dp.toNatClampNeg + nn.toNatClampNeg ≤ z'.toNatClampNeg)
    (hus : us = (List.range nn.toNatClampNeg).map fun i => vs.getD (sp.toNatClampNeg + i) dv) (hl : dp.toNatClampNeg + nn.toNatClampNeg ≤ vd.length) (hvr : vd.take dp.toNatClampNeg ++ us ++ vd.drop (dp.toNatClampNeg + nn.toNatClampNeg) = vr)
    (hsafe : ∀ vm, Z.vm.Alike s.vm → Z.vm.Alike vm → CHr Z EL s.vm h0 vm h → Safe Z EL vm h b) (hz : Z.heap.size ≤ b) (hws : b ∈ ws ∨ h0.size ≤ b) (hsz : Ls.size = ml) (hf : 1 ≤ R.frames) (hW : (rest.map fun v => v.category).sum ≤ W) (hlo : W + (nativeFrameWords "java/lang/System" "arraycopy" 5 + 11) ≤ R.locals) (hd : decode bytes pc = .ok (.invokestatic index, 3))
    (g : ∀ T' h', Pos p l e R s m args below meth c own nm bytes ml rt Z a0 EL h0 ws T' h' cells slots → Keep h h' [b] → Arv Z h' b k' .byte z' vr dd → Go p e below Q (T'.setTop (mkF m (pc + 3) Ls rest))) : Go p e below Q (T.setTop (mkF m pc Ls (.int nn :: .int dp :: .ref b :: .int sp :: .ref a :: rest))) := by
  subst hvr
  obtain ⟨vm0, k0, locs, X, ⟨hx, hby, hml, hret, hlk, hnm, hh, hEL, hZs⟩, hZ, hown, hS, hk, eT, hC, N, K, O⟩ := P
  obtain ⟨T', h', L, X', e', N', K', A', st⟩ := cpA X hx hZ hown w1 w2 w3 w4 eT A B (Or.inl ⟨rfl, rfl⟩) h1 h2 h3 h4 h5 hus hl N hz (g := mkF m pc Ls (.int nn :: .int dp :: .ref b :: .int sp :: .ref a :: rest)) rfl (by rw [hml]; exact hsz) rfl (hb hby hd) hf (W := W) (by show 2 * 0 + _ ≤ _; rw [Nat.mul_zero, Nat.zero_add]; exact hW) hlo
  exact (g T' h' ⟨vm0, k0, L, X', ⟨hx, hby, hml, hret, hlk, hnm, hh, hEL, hZs⟩, hZ, hown, hS, Nat.le_trans hk K'.1, e', hC.trans (CHr.keep K' (safe1 (hsafe vm0 hZs.alike hZ.alike hC)) hC.1), N', K.trans K' (fun x hx => by cases List.mem_singleton.mp hx; exact hws), (Old.keep (n0 := Z.heap.size) ⟨rfl, O⟩ K' (fun x hx => by cases List.mem_singleton.mp hx; exact hz)).2⟩ K' A').of st
theorem declOf {y : MethodName} {b : ByteArray} {ml' : Nat} {rt' : Option FieldType} (wi : (Jvm.Cond.instanceMethod y).before a0 Z = true) (wc : (Jvm.Cond.code y b ml' rt').before a0 Z = true) : (Jvm.Cond.declares y).before a0 Z = true := by
  obtain ⟨mk, methM, hn, hm, hst, -⟩ := Cond.instanceMethod_spec wi
  obtain ⟨m2, cM, q1, -, -, -, -, -, -, hsig⟩ := Cond.code_spec hn wc
  cases hm.symm.trans q1
  simp [Cond.before, Cond.holds, Cond.value, hn, hm, hst, hsig]
theorem sameOf {y u z : MethodName} {C : String} (w5 : (Jvm.Cond.selects C u z).before a0 Z = true) (hc : z.cls = y.cls) (wi : (Jvm.Cond.instanceMethod y).before a0 Z = true) (hy : y.cls ≠ "java/lang/invoke/MethodHandle" ∧ y.cls ≠ "java/lang/invoke/VarHandle") : (Jvm.Cond.sameMethod y.cls y.cls y.name y.desc).before a0 Z = true := by
  obtain ⟨mk, methM, hn, hm, hst, -⟩ := Cond.instanceMethod_spec wi
  have f := findClass_of_methodNamed hn
  have g := State.methodFound?_of_named hn hy
  have n : Z.methodNamed? ⟨y.cls, y.name, y.desc⟩ = some mk := hn
  obtain ⟨c2, r2, m2, q1, q2, q3, q4, kP, hkP, hkPi⟩ := Cond.selects_spec w5
  have f2 := findClass_of_methodNamed q3
  rw [hc] at f2
  have ek : mk.cls = m2.cls := Option.some.inj (f.symm.trans f2)
  rw [← ek] at hkP
  simp [Cond.before, Cond.holds, Cond.value, f, g, n, hkP, hkPi]
/-- a call of the superclass's method -/
theorem Pos.callU {Qv : Option Value → Heap → Prop} (P : Pos p l e R s m args below meth c own nm bytes ml rt Z a0 EL h0 ws T h cells slots) {index : Nat} {y u z : MethodName} {C : String} {bytes' : ByteArray} {ml' W : Nat} {rt' : Option FieldType} {a : Addr} {K0 : String} {argsL stk : List Value} {ws' : List Addr} {ps : List FieldType} {r : Option FieldType}
    (hn : y.name ≠ "<init>") (w1 : (Jvm.Cond.methodLink own index y).before a0 Z = true) (w2 : (Jvm.Cond.instanceMethod y).before a0 Z = true) (w5 : (Jvm.Cond.superclass own y.cls).before a0 Z = true) (w6 : (Jvm.Cond.selects C u z).before a0 Z = true) (hzc : z.cls = y.cls) (w3 : (Jvm.Cond.initialized y.cls).before a0 Z = true) (w4 : (Jvm.Cond.code y bytes' ml' rt').before a0 Z = true) (hy : y.cls ≠ "java/lang/invoke/MethodHandle" ∧ y.cls ≠ "java/lang/invoke/VarHandle") (F : Ins Z h a K0 true)
    (Cn : Con l Z EL [] y bytes' ml' rt' rm (.ref a :: argsL).toArray h ws' Qv) (hf : rm.frames + 1 ≤ R.frames) (hl : W + (ml' + 11) + rm.locals ≤ R.locals) (hc : cells + rm.cells ≤ R.cells) (hs : slots + rm.slots ≤ R.slots) (hws : ∀ x ∈ ws', x ∈ ws ∨ h0.size ≤ x)
    (pd : parseMethodDescriptor y.desc = some ⟨ps, r⟩) (hlen : argsL.length = ps.length) (hst : stk = argsL.reverse ++ .ref a :: rest) (hsz : Ls.size = ml) (hW : (rest.map fun v => v.category).sum ≤ W) (hd : decode bytes pc = .ok (.invokespecial index, 3))
    (k : ∀ v T' h', Pos p l e R s m args below meth c own nm bytes ml rt Z a0 EL h0 ws T' h' (cells + rm.cells) (slots + rm.slots) → Keep h h' ws' → Qv v h' → Go p e below Q (T'.setTop (mkF m (pc + 3) Ls (v.toList ++ rest)))) : Go p e below Q (T.setTop (mkF m pc Ls stk)) := by
  obtain ⟨vm0, k0, locs, X, hR, hZ, hown, hS, hk, eT, hC, N, K, O⟩ := P
  have hR' := hR
  obtain ⟨hx, hby, hml, hret, hlk, hnm, hh, hEL, hZs⟩ := hR'
  obtain ⟨v, _, ⟨U, LL, cc, nn⟩, -, X', hS2, hg, ⟨L, ⟨N', K', O', hQ⟩, hLL, hcc, hnn, hC'⟩, st⟩ := superBackS (Z := Z) (s := s.setVm vm0) X hx hZ (y := y) hown w1 (sameOf w6 hzc w2 hy) w2 w5 hn (backOfSH (W := W) (vm0 := vm0) (Q := fun v h' L => Fr Z.heap.size L ∧ Keep h h' ws' ∧ Ext Z.heap h' ∧ Qv v h') Cn hZ w4 w3 hf hl hEL hC.1) eT F (g := mkF m pc Ls stk) rfl (by rw [hml]; exact hsz) w4 (argsL := argsL) (rest := rest) (lenOf pd hlen) hst (by show 2 * 0 + _ ≤ _; rw [Nat.mul_zero, Nat.zero_add]; exact hW) (hb hby hd) (fun _ _ => ⟨rfl, eT, hc, hs⟩)
  dsimp only at X' hS2 hg hLL hcc hnn hC' st N' K' O' hQ
  exact (k v U U.heap (Pos.after hR hZ hown hS hk eT hC N K X' hS2 hg hLL hcc hnn hC' N' K' O' hws) K' hQ).of (fun t q => st.trans q)
/-- a Latin-1 String's fields -/
theorem strLat {x : Addr} {cs : List Int32} (S : Str Z h x cs) (hl : ∀ c ∈ cs, ¬ c < 0 ∧ ¬ (255 : Int32) < c) : ∃ (t : Addr) (kb : ClassId), Fld Z h x "java/lang/String" "value" "[B" (.ref t) ∧ Fld Z h x "java/lang/String" "coder" "B" (.int (0 : Int32)) ∧ Arv Z h t kb .byte (Int32.ofNat cs.length) ((cs.map StrChars.lo8).map Value.int) (.int 0) := by
  obtain ⟨E, b, l4, t, kb, cd, N2, vs, V, C, A, D⟩ := S
  rcases D with ⟨rfl, rfl, rfl, -⟩ | ⟨-, -, -, c, hc, g⟩
  · exact ⟨t, kb, V, C, by rw [List.map_map]; exact A⟩
  · exact absurd g (hl c hc).2
/-- each literal's first byte isn't 0 (or it has none) -/
def ELh (Z : State) (a0 : Array Value) (EL : List (String × Nat)) : Prop := ∀ q ∈ EL, ∃ text : String, (Jvm.Cond.stringLink q.1 q.2 text).before a0 Z = true ∧ (∀ c ∈ text.toList, c.toNat < 256) ∧ (stringBytes (text.toList.map (fun c => c.toNat.toUInt16)).toArray)[0]? ≠ some (.int 0)
theorem ELh.nil : ELh Z a0 [] := fun _ hp => by cases hp
theorem ELh.cons {own text : String} {index : Nat} (w : (Jvm.Cond.stringLink own index text).before a0 Z = true) (ht : ∀ c ∈ text.toList, c.toNat < 256) (hn : (stringBytes (text.toList.map (fun c => c.toNat.toUInt16)).toArray)[0]? ≠ some (.int 0)) (E : ELh Z a0 EL) : ELh Z a0 ((own, index) :: EL) := fun q hq => by
  rcases List.mem_cons.mp hq with rfl | hq
  · exact ⟨text, w, ht, hn⟩
  · exact E q hq
/-- a byte array that opens with 0 is no literal's -/
theorem safeHd {vm : Vm} {x : Addr} {k : ClassId} {z : Int32} {vs : List Value} {dv : Value} (hal : Z.vm.Alike vm) (E : ELh Z a0 EL) (A : Arv Z h x k .byte z vs dv) (hz : 0 < z.toNatClampNeg) (h00 : vs.getD 0 dv = .int 0) : Safe Z EL vm h x := fun B => by
  obtain ⟨cl, ⟨A1, ⟨-, kA, hkA, compA, hkindA⟩, -⟩, -, hsz, -, H, -⟩ := A
  obtain ⟨kA', hkA', ekA⟩ := hal.2.2 _ _ hkA
  obtain ⟨p, hp, u, a, hb, q, -, F, rfl | rfl⟩ := B
  · cases (show h[q.sa]? = some q.sC from F.ha).symm.trans A1
    obtain ⟨cS, ⟨-, -, e⟩, ⟨kS, g1, g2, -⟩, -⟩ := F
    subst e
    cases (show vm.classes[q.sC.cls]? = some kS from g1).symm.trans hkA'
    rw [ekA] at g2
    have := hkindA.symm.trans g2
    cases this
  · cases (show h[q.sd]? = some q.SA from F.hd).symm.trans A1
    obtain ⟨cS, -, -, -, hbyt⟩ := F
    obtain ⟨text, w, ht, hn⟩ := E p hp
    obtain ⟨c, k', cf, i, b1, b2, b3, b4, b5, -⟩ := hb
    rw [hal.findClass] at b1
    obtain ⟨kz, cf0, i0, units0, c1, c2, c3, c4, -, htext, -⟩ := Cond.stringLink_spec (s := Z) b1 w
    obtain ⟨k'', hk'', ek⟩ := hal.2.2 _ _ c1
    cases b2.symm.trans hk''
    have hcf : k'.cf = kz.cf := by rw [ek]
    cases (hcf ▸ b3).symm.trans c2
    cases b4.symm.trans c3
    cases b5.symm.trans c4
    have eu := Jvm.ClassFile.units_of_text htext ht
    have e2 : u = (text.toList.map (fun c => c.toNat.toUInt16)).toArray := by rw [← eu]
    rw [← e2, ← hbyt] at hn
    have q0 := H 0 (by omega)
    exact hn (q0.trans (congrArg some h00))
/-- the bytes of the builder's array: the chars' first, zeros behind -/
def fill (n : Nat) (cs : List Int32) : List Value := (cs.map StrChars.lo8).map Value.int ++ List.replicate (n - cs.length) (.int 0)
theorem fill_len {n : Nat} {cs : List Int32} (h : cs.length ≤ n) : (fill n cs).length = n := by simp [fill]; omega
theorem fill_app {n : Nat} {cs ds : List Int32} (h : cs.length + ds.length ≤ n) : (fill n cs).take cs.length ++ (ds.map StrChars.lo8).map Value.int ++ (fill n cs).drop (cs.length + ds.length) = fill n (cs ++ ds) := by
  have e1 : (fill n cs).take cs.length = (cs.map StrChars.lo8).map Value.int := by
    unfold fill; rw [List.take_append_of_le_length (by simp)]; exact List.take_of_length_le (by simp)
  have e2 : (fill n cs).drop (cs.length + ds.length) = List.replicate (n - (cs.length + ds.length)) (.int 0) := by
    unfold fill
    rw [List.drop_append, List.drop_of_length_le (by simp), List.nil_append, List.drop_replicate]
    congr 1
    simp
    omega
  rw [e1, e2]; unfold fill
  simp [List.map_append, List.append_assoc]
theorem range_get {vs : List Value} {n : Nat} {dv : Value} (h : n ≤ vs.length) : (List.range n).map (fun i => vs.getD (0 + i) dv) = vs.take n := by
  apply List.ext_getElem
  · simp; omega
  · intro i h1 h2
    simp at h1 h2
    simp [List.getD_eq_getElem?_getD, List.getElem?_eq_getElem (show i < vs.length by omega)]
theorem ofNat_small {n : Nat} (h : n < 2 ^ 31) : (Int32.ofNat n).toNatClampNeg = n := by show (Int32.ofNat n).toInt.toNat = n; rw [Int32.toInt_ofNat_small h]; rfl
theorem ofNat_nn {n : Nat} (h : n < 2 ^ 31) : ¬ Int32.ofNat n < 0 := by rw [Int32.lt_iff_toInt_lt, Int32.toInt_ofNat_small h]; have : (0 : Int32).toInt = 0 := rfl; omega
theorem ofNat_add' (a b : Nat) : Int32.ofNat a + Int32.ofNat b = Int32.ofNat (a + b) := by
  apply Int32.toBitVec_inj.mp
  show BitVec.ofNat 32 a + BitVec.ofNat 32 b = BitVec.ofNat 32 (a + b)
  rw [BitVec.ofNat_add]
theorem cap_ok {n : Nat} (h : n ≤ 16) : ¬ (0 : Int32) < (Int32.ofNat n - (16 : Int32)) := by
  have t : ∀ k : Fin 17, ¬ (0 : Int32) < (Int32.ofNat k.val - (16 : Int32)) := by decide
  exact t ⟨n, by omega⟩
theorem fill_take {n : Nat} {cs : List Int32} : (fill n cs).take cs.length = (cs.map StrChars.lo8).map Value.int := by
  unfold fill; rw [List.take_append_of_le_length (by simp)]; exact List.take_of_length_le (by simp)
theorem rep0 (n : Nat) (d : Value) : (List.replicate n d).getD 0 d = d := by cases n <;> rfl
theorem lt16 {n : Nat} (h : n ≤ 5) : Int32.ofNat n < (16 : Int32) := by
  have t : ∀ k : Fin 6, Int32.ofNat k.val < (16 : Int32) := by decide
  exact t ⟨n, by omega⟩
theorem ne16 {n : Nat} (h : n ≤ 5) : ¬ Int32.ofNat n = (16 : Int32) := by
  have t : ∀ k : Fin 6, ¬ Int32.ofNat k.val = (16 : Int32) := by decide
  exact t ⟨n, by omega⟩
theorem arvNe {a b : Addr} {k k' : ClassId} {ty ty' : FieldType} {z z' : Int32} {vs vs' : List Value} {d d' : Value} (A : Arv Z h a k ty z vs d) (B : Arv Z h b k' ty' z' vs' d') (hn : z.toNatClampNeg ≠ z'.toNatClampNeg) : a ≠ b := fun e => by
  subst e
  obtain ⟨c1, A1, -, s1, -⟩ := A
  obtain ⟨c2, B1, -, s2, -⟩ := B
  cases A1.1.symm.trans B1.1
  exact hn (s1.symm.trans s2)
/-- charAt on a Latin-1 String of known chars -/
theorem Pos.strCh (P : Pos p l e R s m args below meth c own nm bytes ml rt Z a0 EL h0 ws T h cells slots) {index W i : Nat} {x t : Addr} {kb : ClassId} {cs : List Int32} {zc j ch : Int32} {fm : Value} {ps : List FieldType} {r : Option FieldType}
    (w1 : (Jvm.Cond.methodLink own index (⟨"java/lang/String", "charAt", "(I)C"⟩ : MethodName)).before a0 Z = true) (w2 : (Jvm.Cond.declares (⟨"java/lang/String", "charAt", "(I)C"⟩ : MethodName)).before a0 Z = true) (w5 : (Jvm.Cond.selects "java/lang/String" (⟨"java/lang/String", "charAt", "(I)C"⟩ : MethodName) (⟨"java/lang/String", "charAt", "(I)C"⟩ : MethodName)).before a0 Z = true) (w6 : (Jvm.Cond.instanceMethod (⟨"java/lang/String", "charAt", "(I)C"⟩ : MethodName)).before a0 Z = true)
    (wq : ∀ d ∈ StrChars.Road.wordsChN, d.before a0 Z = true) (wi : (Jvm.Cond.instantiable "java/lang/String" 4).before a0 Z = true) (S0 : Sta Z Z.heap "java/lang/String" "COMPACT_STRINGS" "Z" (.int zc)) (Pz : ¬ zc = 0) (S1 : Sta Z Z.heap "jdk/internal/util/Preconditions" "SIOOBE_FORMATTER" "Ljava/util/function/BiFunction;" fm) (rf : fm.isRef = true)
    (E : Exa Z h x "java/lang/String") (V : Fld Z h x "java/lang/String" "value" "[B" (.ref t)) (C : Fld Z h x "java/lang/String" "coder" "B" (.int (0 : Int32))) (A : Arv Z h t kb .byte (Int32.ofNat cs.length) ((cs.map StrChars.lo8).map Value.int) (.int 0)) (hl : ∀ c ∈ cs, ¬ c < 0 ∧ ¬ (255 : Int32) < c) (l4 : cs.length ≤ 4000) (hi : i < cs.length) (hj : j = Int32.ofNat i) (hch : cs.getD i 0 = ch)
    (hf : 4 ≤ R.frames) (hlo : W + 53 ≤ R.locals) (hc : cells + 0 ≤ R.cells) (hs : slots + 0 ≤ R.slots) (pd : parseMethodDescriptor "(I)C" = some ⟨ps, r⟩) (hlen : 1 = ps.length) (hsz : Ls.size = ml) (hW : (rest.map fun v => v.category).sum ≤ W) (hd : decode bytes pc = .ok (.invokevirtual index, 3))
    (k : ∀ T', Pos p l e R s m args below meth c own nm bytes ml rt Z a0 EL h0 ws T' h cells slots → Go p e below Q (T'.setTop (mkF m (pc + 3) Ls (.int ch :: rest)))) : Go p e below Q (T.setTop (mkF m pc Ls (.int j :: .ref x :: rest))) := by
  have O := P.old
  subst hch
  refine P.virtB (W := W) (ws' := []) (Qx := fun v h' L => v = some (.int (cs.getD i 0)) ∧ L = [] ∧ h' = h) w1 w2 w5 (nfOf w5) w6 (by decide) E (fun vm0 hZ => StrChars.Road.chN (W := W) hZ wq (kI := 4) wi E V C A (StrChars.Road.codOf rfl (fun c hc => (hl c hc).2)) (upC cs hl) (S0.ext O) Pz (S1.ext O) rf l4 hi hj hf hlo) (argsL := [.int j]) rfl (fun v h' L q => ⟨by rw [q.2.1]; exact Fr.nil _, by rw [q.2.2]; exact Keep.refl _ _⟩) hc hs all0 (fun _ _ _ _ => all0) pd hlen rfl hsz hW hd ?_
  intro v T' h' L P' q
  obtain ⟨rfl, -, hh⟩ := q
  rw [hh] at P'
  exact k T' P'
theorem latApp {cs ds : List Int32} (h1 : ∀ c ∈ cs, ¬ c < 0 ∧ ¬ (255 : Int32) < c) (h2 : ∀ c ∈ ds, ¬ c < 0 ∧ ¬ (255 : Int32) < c) : ∀ c ∈ cs ++ ds, ¬ c < 0 ∧ ¬ (255 : Int32) < c := fun c q => (List.mem_append.mp q).elim (h1 c) (h2 c)
theorem rem255 (x : Int32) : ((x &&& (255 : Int32)) % (3 : Int32)) = 0 ∨ ((x &&& (255 : Int32)) % (3 : Int32)) = 1 ∨ ((x &&& (255 : Int32)) % (3 : Int32)) = 2 := by
  obtain ⟨k, e⟩ := finOf (rem_lt (n := 3) (k := 3) (lat255 x).1 rfl (by decide))
  have t : ∀ k : Fin 3, Int32.ofNat k.val = 0 ∨ Int32.ofNat k.val = 1 ∨ Int32.ofNat k.val = 2 := by decide
  rw [e]; exact t k
end Own11

theorem hLn {Z : State} {a0 : Array Value} (hw : ∀ d ∈ tables_1, d.before a0 Z = true) : ELn Z a0 EL0 16 := (ELn.cons (hw _ (List.mem_of_getElem? (i := 126) rfl)) (by decide) (by decide +kernel) (ELn.cons (hw _ (List.mem_of_getElem? (i := 18) rfl)) (by decide) (by decide +kernel) ELn.nil))
theorem hLh {Z : State} {a0 : Array Value} (hw : ∀ d ∈ tables_1, d.before a0 Z = true) : ELh Z a0 EL0 := (ELh.cons (hw _ (List.mem_of_getElem? (i := 126) rfl)) (by decide) (by decide +kernel) (ELh.cons (hw _ (List.mem_of_getElem? (i := 18) rfl)) (by decide) (by decide +kernel) ELh.nil))
theorem shlZ (c : Int32) : c <<< ((0 : Int32) &&& 31) = c := by
  have e : ((0 : Int32) &&& 31) = 0 := by decide
  rw [e]
  apply Int32.toBitVec_inj.mp
  rw [Int32.toBitVec_shiftLeft]
  have e1 : ((0 : Int32).toBitVec.smod 32) = 0#32 := by decide
  rw [e1]
  simp
theorem subZ (c : Int32) : c - (0 : Int32) = c := by simp

def R_initE4 : Room := { frames := 1, cells := 4, slots := 8, locals := 12 }
def Q_initE4 (Z : State) (x : Addr) (h0 : Heap) (v : Option Value) (h : Heap) : Prop := v = none ∧ Exa Z h x "java/lang/String" ∧ Fld Z h x "java/lang/String" "coder" "B" (.int (0 : Int32)) ∧ ∃ (t : Addr) (kb : ClassId), Fld Z h x "java/lang/String" "value" "[B" (.ref t) ∧ Arv Z h t kb .byte (0 : Int32) [] (.int 0)
set_option maxRecDepth 65536 in
set_option maxHeartbeats 40000000 in
theorem initE4 (l : Launch) (Z : State) (a0 : Array Value) (hw : ∀ d ∈ tables_1, d.before a0 Z = true) (hEL : EW Z a0 EL0) (zc : Int32) (S0 : Sta Z Z.heap "java/lang/String" "COMPACT_STRINGS" "Z" (.int zc)) (Pz : ¬ zc = 0) (w_M : Addr) (S_M : Sta Z Z.heap "java/util/ImmutableCollections" "EMPTY_MAP" "Ljava/util/ImmutableCollections$MapN;" (.ref w_M)) (E_M : Exa Z Z.heap w_M "java/util/ImmutableCollections$MapN") (fm : Value) (S_f : Sta Z Z.heap "jdk/internal/util/Preconditions" "SIOOBE_FORMATTER" "Ljava/util/function/BiFunction;" fm) (rf : fm.isRef = true) (x b : Addr) (h0 : Heap) (hO : Ext Z.heap h0) (E : Exa Z h0 x "java/lang/String") (V : Fld Z h0 x "java/lang/String" "value" "[B" .null) (C : Fld Z h0 x "java/lang/String" "coder" "B" (.int (0 : Int32))) (gx : Z.heap.size ≤ x) (hmem : ("java/lang/String", 7) ∈ EL0) :
    Con l Z EL0 [] (⟨"java/lang/String", "<init>", "([CIILjava/lang/Void;)V"⟩ : MethodName) jdk_42_method_149_code 6 none R_initE4 #[(.ref x), (.ref b), (.int (0 : Int32)), (.int (0 : Int32)), .null] h0 [x] (Q_initE4 Z x h0) := by
  refine Con.of (y := (⟨"java/lang/String", "<init>", "([CIILjava/lang/Void;)V"⟩ : MethodName)) (f0 := fun m => mkF m 0 #[.val (.ref x), .val (.ref b), .val (.int (0 : Int32)), .val (.int (0 : Int32)), .val .null, .unset] []) (plainFor_of_name pn_0) hEL hO (fun m => by skip <;> first | (simp [entryFrame, mkF, argsToLocals, Value.category, maxLocals]; done) | rfl) ?_
  intro p e s m below meth c s₁ P0
  show Go p e below _ (s₁.setTop (mkF m 0 #[.val (.ref x), .val (.ref b), .val (.int (0 : Int32)), .val (.int (0 : Int32)), .val .null, .unset] []))
  refine P0.xs (fun hA hx hy t k => XS.aloadN hA hx rfl (hb hy d3_0) rfl rfl  k) ?_
  show Go p e below _ (s₁.setTop (mkF m 1 #[.val (.ref x), .val (.ref b), .val (.int (0 : Int32)), .val (.int (0 : Int32)), .val .null, .unset] [(.ref x)]))
  refine P0.init0 (W := 0) (hw _ (List.mem_of_getElem? (i := 15) rfl)) (hw _ (List.mem_of_getElem? (i := 16) rfl)) (hw _ (List.mem_of_getElem? (i := 17) rfl)) d3_1 rfl (by decide) (Nat.le_of_eq rfl) (by decide) fun T1 P1 => ?_
  show Go p e below _ (T1.setTop (mkF m 4 #[.val (.ref x), .val (.ref b), .val (.int (0 : Int32)), .val (.int (0 : Int32)), .val .null, .unset] []))
  refine P1.xs (fun hA hx hy t k => XS.iloadN hA hx rfl (hb hy d3_4) rfl  k) ?_
  show Go p e below _ (T1.setTop (mkF m 5 #[.val (.ref x), .val (.ref b), .val (.int (0 : Int32)), .val (.int (0 : Int32)), .val .null, .unset] [(.int (0 : Int32))]))
  refine P1.xs (fun hA hx hy t k => XS.ifNo hA hx rfl (hb hy d3_5) rfl ((if0 _ _).trans (teq rfl).2) k) ?_
  show Go p e below _ (T1.setTop (mkF m 8 #[.val (.ref x), .val (.ref b), .val (.int (0 : Int32)), .val (.int (0 : Int32)), .val .null, .unset] []))
  refine P1.xs (fun hA hx hy t k => XS.aloadN hA hx rfl (hb hy d3_8) rfl rfl  k) ?_
  show Go p e below _ (T1.setTop (mkF m 9 #[.val (.ref x), .val (.ref b), .val (.int (0 : Int32)), .val (.int (0 : Int32)), .val .null, .unset] [(.ref x)]))
  refine P1.ldcR (hw _ (List.mem_of_getElem? (i := 18) rfl)) (wSt hw) hmem (vs := []) (z := (0 : Int32)) ⟨by decide, by decide⟩ (by decide) (by decide) d3_9 (n := 0) (by decide) (by decide) (by decide) (by decide) fun T2 h2 o2 b2 k2 P2 E2 A2 C2 V2 B2 => ?_
  show Go p e below _ (T2.setTop (mkF m 11 #[.val (.ref x), .val (.ref b), .val (.int (0 : Int32)), .val (.int (0 : Int32)), .val .null, .unset] [(.ref o2), (.ref x)]))
  refine P2.getF (host := "") (Or.inl (hw _ (List.mem_of_getElem? (i := 24) rfl))) Via.refl V2 d3_11 fun T3 P3 => ?_
  show Go p e below _ (T3.setTop (mkF m 14 #[.val (.ref x), .val (.ref b), .val (.int (0 : Int32)), .val (.int (0 : Int32)), .val .null, .unset] [(.ref b2), (.ref x)]))
  have Ec5 : Exa Z h2 x "java/lang/String" := (E.ext E2)
  have Fc6 : Fld Z h2 x "java/lang/String" "coder" "B" (.int (0 : Int32)) := (C.ext E2)
  have Fc7 : Fld Z h2 x "java/lang/String" "value" "[B" .null := (V.ext E2)
  refine P3.putF (hw _ (List.mem_of_getElem? (i := 24) rfl)) Via.refl Fc7 Ec5 (Or.inr ⟨(hw _ (List.mem_of_getElem? (i := 20) rfl)), rfl, rfl⟩) (hw _ (List.mem_of_getElem? (i := 5) rfl)) (ty := (.array .byte)) (v' := (.ref b2)) (by decide) rfl rfl d3_14 (fun vm hs hal hr => hr.safe E.lt (safeNull hs E V)) gx (Or.inl (List.mem_of_getElem? (i := 0) rfl)) fun T4 h4 P4 W4 => ?_
  show Go p e below _ (T4.setTop (mkF m 17 #[.val (.ref x), .val (.ref b), .val (.int (0 : Int32)), .val (.int (0 : Int32)), .val .null, .unset] []))
  refine P4.xs (fun hA hx hy t k => XS.aloadN hA hx rfl (hb hy d3_17) rfl rfl  k) ?_
  show Go p e below _ (T4.setTop (mkF m 18 #[.val (.ref x), .val (.ref b), .val (.int (0 : Int32)), .val (.int (0 : Int32)), .val .null, .unset] [(.ref x)]))
  refine P4.ldcR (hw _ (List.mem_of_getElem? (i := 18) rfl)) (wSt hw) hmem (vs := []) (z := (0 : Int32)) ⟨by decide, by decide⟩ (by decide) (by decide) d3_18 (n := 0) (by decide) (by decide) (by decide) (by decide) fun T8 h8 o8 b8 k8 P8 E8 A8 C8 V8 B8 => ?_
  show Go p e below _ (T8.setTop (mkF m 20 #[.val (.ref x), .val (.ref b), .val (.int (0 : Int32)), .val (.int (0 : Int32)), .val .null, .unset] [(.ref o8), (.ref x)]))
  refine P8.getF (host := "") (Or.inl (hw _ (List.mem_of_getElem? (i := 25) rfl))) Via.refl C8 d3_20 fun T9 P9 => ?_
  show Go p e below _ (T9.setTop (mkF m 23 #[.val (.ref x), .val (.ref b), .val (.int (0 : Int32)), .val (.int (0 : Int32)), .val .null, .unset] [(.int (0 : Int32)), (.ref x)]))
  have Ec11 : Exa Z h8 x "java/lang/String" := ((Ec5.wr W4).ext E8)
  have Fc12 : Fld Z h8 x "java/lang/String" "coder" "B" (.int (0 : Int32)) := ((Fc6.other W4 (Or.inr (slot_ne (Or.inr (hw _ (List.mem_of_getElem? (i := 21) rfl))) (Or.inr (hw _ (List.mem_of_getElem? (i := 20) rfl))) (by decide) (t := .byte) (t' := (.array .byte)) (by decide) (by decide)))).ext E8)
  have Fc13 : Fld Z h8 x "java/lang/String" "value" "[B" (.ref b2) := ((Fc7.same W4).ext E8)
  have Ac14 : Arv Z h8 b2 k2 .byte (0 : Int32) [] (.int 0) := ((B2.other W4 (Ne.symm (Exa.neArv (E.ext E2) B2 (hw _ (List.mem_of_getElem? (i := 5) rfl))))).ext E8)
  refine P9.putF (hw _ (List.mem_of_getElem? (i := 25) rfl)) Via.refl Fc12 Ec11 (Or.inr ⟨(hw _ (List.mem_of_getElem? (i := 21) rfl)), rfl, rfl⟩) (hw _ (List.mem_of_getElem? (i := 5) rfl)) (ty := .byte) (v' := (.int (0 : Int32))) (by decide) rfl rfl d3_23 (fun vm hs hal hr => hr.safe E.lt (safeNull hs E V)) gx (Or.inl (List.mem_of_getElem? (i := 0) rfl)) fun T10 h10 P10 W10 => ?_
  show Go p e below _ (T10.setTop (mkF m 26 #[.val (.ref x), .val (.ref b), .val (.int (0 : Int32)), .val (.int (0 : Int32)), .val .null, .unset] []))
  have Ec15 : Exa Z h10 x "java/lang/String" := (Ec11.wr W10)
  have Fc16 : Fld Z h10 x "java/lang/String" "coder" "B" (.int (0 : Int32)) := (Fc12.same W10)
  have Fc17 : Fld Z h10 x "java/lang/String" "value" "[B" (.ref b2) := (Fc13.other W10 (Or.inr (slot_ne (Or.inr (hw _ (List.mem_of_getElem? (i := 20) rfl))) (Or.inr (hw _ (List.mem_of_getElem? (i := 21) rfl))) (by decide) (t := (.array .byte)) (t' := .byte) (by decide) (by decide))))
  have Ac18 : Arv Z h10 b2 k2 .byte (0 : Int32) [] (.int 0) := (Ac14.other W10 (Ne.symm (Exa.neArv ((Ec5.wr W4).ext E8) ((B2.other W4 (Ne.symm (Exa.neArv (E.ext E2) B2 (hw _ (List.mem_of_getElem? (i := 5) rfl))))).ext E8) (hw _ (List.mem_of_getElem? (i := 5) rfl)))))
  exact P10.retV rfl d3_26 (by decide) (by decide) ⟨rfl, Ec15, Fc16, b2, _, Fc17, Ac18⟩

def R_initE1 : Room := { frames := 2, cells := 4, slots := 8, locals := 29 }
def Q_initE1 (Z : State) (x : Addr) (h0 : Heap) (v : Option Value) (h : Heap) : Prop := v = none ∧ Exa Z h x "java/lang/String" ∧ Fld Z h x "java/lang/String" "coder" "B" (.int (0 : Int32)) ∧ ∃ (t : Addr) (kb : ClassId), Fld Z h x "java/lang/String" "value" "[B" (.ref t) ∧ Arv Z h t kb .byte (0 : Int32) [] (.int 0)
set_option maxRecDepth 65536 in
set_option maxHeartbeats 40000000 in
theorem initE1 (l : Launch) (Z : State) (a0 : Array Value) (hw : ∀ d ∈ tables_1, d.before a0 Z = true) (hEL : EW Z a0 EL0) (zc : Int32) (S0 : Sta Z Z.heap "java/lang/String" "COMPACT_STRINGS" "Z" (.int zc)) (Pz : ¬ zc = 0) (w_M : Addr) (S_M : Sta Z Z.heap "java/util/ImmutableCollections" "EMPTY_MAP" "Ljava/util/ImmutableCollections$MapN;" (.ref w_M)) (E_M : Exa Z Z.heap w_M "java/util/ImmutableCollections$MapN") (fm : Value) (S_f : Sta Z Z.heap "jdk/internal/util/Preconditions" "SIOOBE_FORMATTER" "Ljava/util/function/BiFunction;" fm) (rf : fm.isRef = true) (x b : Addr) (kc : ClassId) (h0 : Heap) (hO : Ext Z.heap h0) (E : Exa Z h0 x "java/lang/String") (V : Fld Z h0 x "java/lang/String" "value" "[B" .null) (C : Fld Z h0 x "java/lang/String" "coder" "B" (.int (0 : Int32))) (gx : Z.heap.size ≤ x) (hmem : ("java/lang/String", 7) ∈ EL0) (A : Arv Z h0 b kc .char (0 : Int32) [] (.int (0 : Int32))) :
    Con l Z EL0 [] (⟨"java/lang/String", "<init>", "([C)V"⟩ : MethodName) jdk_42_method_3_code 2 none R_initE1 #[(.ref x), (.ref b)] h0 [x] (Q_initE1 Z x h0) := by
  refine Con.of (y := (⟨"java/lang/String", "<init>", "([C)V"⟩ : MethodName)) (f0 := fun m => mkF m 0 #[.val (.ref x), .val (.ref b)] []) (plainFor_of_name pn_0) hEL hO (fun m => by skip <;> first | (simp [entryFrame, mkF, argsToLocals, Value.category, maxLocals]; done) | rfl) ?_
  intro p e s m below meth c s₁ P0
  show Go p e below _ (s₁.setTop (mkF m 0 #[.val (.ref x), .val (.ref b)] []))
  refine P0.xs (fun hA hx hy t k => XS.aloadN hA hx rfl (hb hy d2_0) rfl rfl  k) ?_
  show Go p e below _ (s₁.setTop (mkF m 1 #[.val (.ref x), .val (.ref b)] [(.ref x)]))
  refine P0.xs (fun hA hx hy t k => XS.aloadN hA hx rfl (hb hy d2_1) rfl rfl  k) ?_
  show Go p e below _ (s₁.setTop (mkF m 2 #[.val (.ref x), .val (.ref b)] [(.ref b), (.ref x)]))
  refine P0.xs (fun hA hx hy t k => XS.iconst hA hx rfl (hb hy d2_2) k) ?_
  show Go p e below _ (s₁.setTop (mkF m 3 #[.val (.ref x), .val (.ref b)] [(.int (0 : Int32)), (.ref b), (.ref x)]))
  refine P0.xs (fun hA hx hy t k => XS.aloadN hA hx rfl (hb hy d2_3) rfl rfl  k) ?_
  show Go p e below _ (s₁.setTop (mkF m 4 #[.val (.ref x), .val (.ref b)] [(.ref b), (.int (0 : Int32)), (.ref b), (.ref x)]))
  refine P0.alen A d2_4 ?_
  show Go p e below _ (s₁.setTop (mkF m 5 #[.val (.ref x), .val (.ref b)] [(.int (0 : Int32)), (.int (0 : Int32)), (.ref b), (.ref x)]))
  refine P0.xs (fun hA hx hy t k => XS.aconstNull hA hx rfl (hb hy d2_5) k) ?_
  show Go p e below _ (s₁.setTop (mkF m 6 #[.val (.ref x), .val (.ref b)] [.null, (.int (0 : Int32)), (.int (0 : Int32)), (.ref b), (.ref x)]))
  refine P0.callI rfl (hw _ (List.mem_of_getElem? (i := 11) rfl)) (hw _ (List.mem_of_getElem? (i := 12) rfl)) (hw _ (List.mem_of_getElem? (i := 6) rfl)) (hw _ (List.mem_of_getElem? (i := 14) rfl)) (by decide) (initE4 l Z a0 hw hEL zc S0 Pz w_M S_M E_M fm S_f rf x b h0 P0.old E V C gx hmem) (W := 0) (by decide) (by decide) (by decide) (by decide) (allS (Or.inl (List.mem_of_getElem? (i := 0) rfl)) all0) pd_0 (argsL := [(.ref b), (.int (0 : Int32)), (.int (0 : Int32)), .null]) rfl rfl rfl (Nat.le_of_eq rfl) d2_6 fun v19 T19 h19 P19 K19 Q19 => ?_
  obtain ⟨rfl, E19, C19, b19, k19, V19, B19⟩ := Q19
  show Go p e below _ (T19.setTop (mkF m 9 #[.val (.ref x), .val (.ref b)] []))
  exact P19.retV rfl d2_9 (by decide) (by decide) ⟨rfl, E19, C19, b19, _, V19, B19⟩

def R_mCod : Room := { frames := 0, cells := 0, slots := 0, locals := 0 }
def Q_mCod (Z : State)  (h0 : Heap) (v : Option Value) (h : Heap) : Prop := v = some (.int (0 : Int32)) ∧ h = h0
set_option maxRecDepth 65536 in
set_option maxHeartbeats 40000000 in
theorem mCod (l : Launch) (Z : State) (a0 : Array Value) (hw : ∀ d ∈ tables_1, d.before a0 Z = true) (hEL : EW Z a0 EL0) (zc : Int32) (S0 : Sta Z Z.heap "java/lang/String" "COMPACT_STRINGS" "Z" (.int zc)) (Pz : ¬ zc = 0) (w_M : Addr) (S_M : Sta Z Z.heap "java/util/ImmutableCollections" "EMPTY_MAP" "Ljava/util/ImmutableCollections$MapN;" (.ref w_M)) (E_M : Exa Z Z.heap w_M "java/util/ImmutableCollections$MapN") (fm : Value) (S_f : Sta Z Z.heap "jdk/internal/util/Preconditions" "SIOOBE_FORMATTER" "Ljava/util/function/BiFunction;" fm) (rf : fm.isRef = true) (x : Addr) (h0 : Heap) (hO : Ext Z.heap h0) (C : Fld Z h0 x "java/lang/String" "coder" "B" (.int (0 : Int32))) :
    Con l Z EL0 [] (⟨"java/lang/String", "coder", "()B"⟩ : MethodName) jdk_42_method_152_code 1 (some .byte) R_mCod #[(.ref x)] h0 [] (Q_mCod Z  h0) := by
  refine Con.of (y := (⟨"java/lang/String", "coder", "()B"⟩ : MethodName)) (f0 := fun m => mkF m 0 #[.val (.ref x)] []) (plainFor_of_name pn_0) hEL hO (fun m => by skip <;> first | (simp [entryFrame, mkF, argsToLocals, Value.category, maxLocals]; done) | rfl) ?_
  intro p e s m below meth c s₁ P0
  show Go p e below _ (s₁.setTop (mkF m 0 #[.val (.ref x)] []))
  refine P0.getS (host := "") (Or.inl (hw _ (List.mem_of_getElem? (i := 98) rfl))) Via.refl S0 d15_0 fun T20 P20 => ?_
  show Go p e below _ (T20.setTop (mkF m 3 #[.val (.ref x)] [(.int zc)]))
  refine P20.xs (fun hA hx hy t k => XS.ifNo hA hx rfl (hb hy d15_3) rfl ((if0 _ _).trans (feq Pz).1) k) ?_
  show Go p e below _ (T20.setTop (mkF m 6 #[.val (.ref x)] []))
  refine P20.xs (fun hA hx hy t k => XS.aloadN hA hx rfl (hb hy d15_6) rfl rfl  k) ?_
  show Go p e below _ (T20.setTop (mkF m 7 #[.val (.ref x)] [(.ref x)]))
  refine P20.getF (host := "") (Or.inl (hw _ (List.mem_of_getElem? (i := 25) rfl))) Via.refl C d15_7 fun T21 P21 => ?_
  show Go p e below _ (T21.setTop (mkF m 10 #[.val (.ref x)] [(.int (0 : Int32))]))
  refine P21.xs (fun hA hx hy t k => XS.goto hA hx rfl (pc0 := 10) (pc' := 14) rfl (hb hy d15_10) (by decide) (by decide) k) ?_
  show Go p e below _ (T21.setTop (mkF m 14 #[.val (.ref x)] [(.int (0 : Int32))]))
  exact P21.retN (t := .byte) rfl (by simp) d15_14 (by decide) (by decide) ⟨rfl, rfl⟩

def R_mLen : Room := { frames := 1, cells := 0, slots := 0, locals := 13 }
def Q_mLen (Z : State) (ds : List Int32) (h0 : Heap) (v : Option Value) (h : Heap) : Prop := v = some (.int (Int32.ofNat ds.length)) ∧ h = h0
set_option maxRecDepth 65536 in
set_option maxHeartbeats 40000000 in
theorem mLen (l : Launch) (Z : State) (a0 : Array Value) (hw : ∀ d ∈ tables_1, d.before a0 Z = true) (hEL : EW Z a0 EL0) (zc : Int32) (S0 : Sta Z Z.heap "java/lang/String" "COMPACT_STRINGS" "Z" (.int zc)) (Pz : ¬ zc = 0) (w_M : Addr) (S_M : Sta Z Z.heap "java/util/ImmutableCollections" "EMPTY_MAP" "Ljava/util/ImmutableCollections$MapN;" (.ref w_M)) (E_M : Exa Z Z.heap w_M "java/util/ImmutableCollections$MapN") (fm : Value) (S_f : Sta Z Z.heap "jdk/internal/util/Preconditions" "SIOOBE_FORMATTER" "Ljava/util/function/BiFunction;" fm) (rf : fm.isRef = true) (x tt : Addr) (kt : ClassId) (ds : List Int32) (h0 : Heap) (hO : Ext Z.heap h0) (Ex : Exa Z h0 x "java/lang/String") (V : Fld Z h0 x "java/lang/String" "value" "[B" (.ref tt)) (C : Fld Z h0 x "java/lang/String" "coder" "B" (.int (0 : Int32))) (A : Arv Z h0 tt kt .byte (Int32.ofNat ds.length) ((ds.map StrChars.lo8).map Value.int) (.int 0)) :
    Con l Z EL0 [] (⟨"java/lang/String", "length", "()I"⟩ : MethodName) jdk_42_method_54_code 1 (some .int) R_mLen #[(.ref x)] h0 [] (Q_mLen Z ds h0) := by
  refine Con.of (y := (⟨"java/lang/String", "length", "()I"⟩ : MethodName)) (f0 := fun m => mkF m 0 #[.val (.ref x)] []) (plainFor_of_name pn_0) hEL hO (fun m => by skip <;> first | (simp [entryFrame, mkF, argsToLocals, Value.category, maxLocals]; done) | rfl) ?_
  intro p e s m below meth c s₁ P0
  show Go p e below _ (s₁.setTop (mkF m 0 #[.val (.ref x)] []))
  refine P0.xs (fun hA hx hy t k => XS.aloadN hA hx rfl (hb hy d14_0) rfl rfl  k) ?_
  show Go p e below _ (s₁.setTop (mkF m 1 #[.val (.ref x)] [(.ref x)]))
  refine P0.getF (host := "") (Or.inl (hw _ (List.mem_of_getElem? (i := 24) rfl))) Via.refl V d14_1 fun T22 P22 => ?_
  show Go p e below _ (T22.setTop (mkF m 4 #[.val (.ref x)] [(.ref tt)]))
  refine P22.alen A d14_4 ?_
  show Go p e below _ (T22.setTop (mkF m 5 #[.val (.ref x)] [(.int (Int32.ofNat ds.length))]))
  refine P22.xs (fun hA hx hy t k => XS.aloadN hA hx rfl (hb hy d14_5) rfl rfl  k) ?_
  show Go p e below _ (T22.setTop (mkF m 6 #[.val (.ref x)] [(.ref x), (.int (Int32.ofNat ds.length))]))
  refine P22.callV (hw _ (List.mem_of_getElem? (i := 93) rfl)) (hw _ (List.mem_of_getElem? (i := 94) rfl)) (hw _ (List.mem_of_getElem? (i := 96) rfl)) (nfOf (hw _ (List.mem_of_getElem? (i := 96) rfl))) (hw _ (List.mem_of_getElem? (i := 95) rfl)) (hw _ (List.mem_of_getElem? (i := 6) rfl)) (hw _ (List.mem_of_getElem? (i := 97) rfl)) (by decide) Ex (mCod l Z a0 hw hEL zc S0 Pz w_M S_M E_M fm S_f rf x h0 P22.old C) (W := 1) (by decide) (by decide) (by decide) (by decide) all0 pd_1 (argsL := []) rfl rfl rfl (Nat.le_of_eq rfl) d14_6 fun v23 T23 h23 P23 K23 Q23 => ?_
  obtain ⟨hv23, hh23⟩ := Q23
  subst hv23
  rw [hh23] at P23
  show Go p e below _ (T23.setTop (mkF m 9 #[.val (.ref x)] [(.int (0 : Int32)), (.int (Int32.ofNat ds.length))]))
  refine P23.xs (fun hA hx hy t k => XS.ishr hA hx rfl (hb hy d14_9) rfl k) ?_
  show Go p e below _ (T23.setTop (mkF m 10 #[.val (.ref x)] [(.int ((Int32.ofNat ds.length) >>> ((0 : Int32) &&& 31)))]))
  rw [shrZ]
  show Go p e below _ (T23.setTop (mkF m 10 #[.val (.ref x)] [(.int (Int32.ofNat ds.length))]))
  exact P23.retI rfl d14_10 (by decide) (by decide) ⟨rfl, rfl⟩

def R_mEns : Room := { frames := 0, cells := 0, slots := 0, locals := 0 }
def Q_mEns (Z : State)  (h0 : Heap) (v : Option Value) (h : Heap) : Prop := v = none ∧ h = h0
set_option maxRecDepth 65536 in
set_option maxHeartbeats 40000000 in
theorem mEns (l : Launch) (Z : State) (a0 : Array Value) (hw : ∀ d ∈ tables_1, d.before a0 Z = true) (hEL : EW Z a0 EL0) (zc : Int32) (S0 : Sta Z Z.heap "java/lang/String" "COMPACT_STRINGS" "Z" (.int zc)) (Pz : ¬ zc = 0) (w_M : Addr) (S_M : Sta Z Z.heap "java/util/ImmutableCollections" "EMPTY_MAP" "Ljava/util/ImmutableCollections$MapN;" (.ref w_M)) (E_M : Exa Z Z.heap w_M "java/util/ImmutableCollections$MapN") (fm : Value) (S_f : Sta Z Z.heap "jdk/internal/util/Preconditions" "SIOOBE_FORMATTER" "Ljava/util/function/BiFunction;" fm) (rf : fm.isRef = true) (o bb : Addr) (kd : ClassId) (mc : Int32) (vs : List Value) (h0 : Heap) (hO : Ext Z.heap h0) (Fv : Fld Z h0 o "java/lang/AbstractStringBuilder" "value" "[B" (.ref bb)) (Fc : Fld Z h0 o "java/lang/AbstractStringBuilder" "coder" "B" (.int (0 : Int32))) (B : Arv Z h0 bb kd .byte (16 : Int32) vs (.int 0)) (hcap : ¬ (0 : Int32) < mc - (16 : Int32)) :
    Con l Z EL0 [] (⟨"java/lang/AbstractStringBuilder", "ensureCapacityInternal", "(I)V"⟩ : MethodName) jdk_68_method_9_code 3 none R_mEns #[(.ref o), (.int mc)] h0 [] (Q_mEns Z  h0) := by
  refine Con.of (y := (⟨"java/lang/AbstractStringBuilder", "ensureCapacityInternal", "(I)V"⟩ : MethodName)) (f0 := fun m => mkF m 0 #[.val (.ref o), .val (.int mc), .unset] []) (plainFor_of_name pn_1) hEL hO (fun m => by skip <;> first | (simp [entryFrame, mkF, argsToLocals, Value.category, maxLocals]; done) | rfl) ?_
  intro p e s m below meth c s₁ P0
  show Go p e below _ (s₁.setTop (mkF m 0 #[.val (.ref o), .val (.int mc), .unset] []))
  refine P0.xs (fun hA hx hy t k => XS.aloadN hA hx rfl (hb hy d16_0) rfl rfl  k) ?_
  show Go p e below _ (s₁.setTop (mkF m 1 #[.val (.ref o), .val (.int mc), .unset] [(.ref o)]))
  refine P0.getF (host := "") (Or.inl (hw _ (List.mem_of_getElem? (i := 74) rfl))) Via.refl Fv d16_1 fun T24 P24 => ?_
  show Go p e below _ (T24.setTop (mkF m 4 #[.val (.ref o), .val (.int mc), .unset] [(.ref bb)]))
  refine P24.alen B d16_4 ?_
  show Go p e below _ (T24.setTop (mkF m 5 #[.val (.ref o), .val (.int mc), .unset] [(.int (16 : Int32))]))
  refine P24.xs (fun hA hx hy t k => XS.aloadN hA hx rfl (hb hy d16_5) rfl rfl  k) ?_
  show Go p e below _ (T24.setTop (mkF m 6 #[.val (.ref o), .val (.int mc), .unset] [(.ref o), (.int (16 : Int32))]))
  refine P24.getF (host := "") (Or.inl (hw _ (List.mem_of_getElem? (i := 76) rfl))) Via.refl Fc d16_6 fun T25 P25 => ?_
  show Go p e below _ (T25.setTop (mkF m 9 #[.val (.ref o), .val (.int mc), .unset] [(.int (0 : Int32)), (.int (16 : Int32))]))
  refine P25.xs (fun hA hx hy t k => XS.ishr hA hx rfl (hb hy d16_9) rfl k) ?_
  show Go p e below _ (T25.setTop (mkF m 10 #[.val (.ref o), .val (.int mc), .unset] [(.int ((16 : Int32) >>> ((0 : Int32) &&& 31)))]))
  rw [shrZ]
  show Go p e below _ (T25.setTop (mkF m 10 #[.val (.ref o), .val (.int mc), .unset] [(.int (16 : Int32))]))
  refine P25.xs (fun hA hx hy t k => XS.istoreN hA hx rfl (hb hy d16_10) rfl (l' := #[.val (.ref o), .val (.int mc), .val (.int (16 : Int32))]) rfl k) ?_
  show Go p e below _ (T25.setTop (mkF m 11 #[.val (.ref o), .val (.int mc), .val (.int (16 : Int32))] []))
  refine P25.xs (fun hA hx hy t k => XS.iloadN hA hx rfl (hb hy d16_11) rfl  k) ?_
  show Go p e below _ (T25.setTop (mkF m 12 #[.val (.ref o), .val (.int mc), .val (.int (16 : Int32))] [(.int mc)]))
  refine P25.xs (fun hA hx hy t k => XS.iloadN hA hx rfl (hb hy d16_12) rfl  k) ?_
  show Go p e below _ (T25.setTop (mkF m 13 #[.val (.ref o), .val (.int mc), .val (.int (16 : Int32))] [(.int (16 : Int32)), (.int mc)]))
  refine P25.xs (fun hA hx hy t k => XS.isub hA hx rfl (hb hy d16_13) rfl k) ?_
  show Go p e below _ (T25.setTop (mkF m 14 #[.val (.ref o), .val (.int mc), .val (.int (16 : Int32))] [(.int (mc - (16 : Int32)))]))
  refine P25.xs (fun hA hx hy t k => XS.ifYes hA hx rfl (pc0 := 14) (pc' := 38) rfl (hb hy d16_14) rfl ((if0 _ _).trans (flt hcap).2.2.2) (by decide) (by decide) k) ?_
  show Go p e below _ (T25.setTop (mkF m 38 #[.val (.ref o), .val (.int mc), .val (.int (16 : Int32))] []))
  exact P25.retV rfl d16_38 (by decide) (by decide) ⟨rfl, rfl⟩

def R_mInf : Room := { frames := 1, cells := 0, slots := 0, locals := 13 }
def Q_mInf (Z : State)  (h0 : Heap) (v : Option Value) (h : Heap) : Prop := v = none ∧ h = h0
set_option maxRecDepth 65536 in
set_option maxHeartbeats 40000000 in
theorem mInf (l : Launch) (Z : State) (a0 : Array Value) (hw : ∀ d ∈ tables_1, d.before a0 Z = true) (hEL : EW Z a0 EL0) (zc : Int32) (S0 : Sta Z Z.heap "java/lang/String" "COMPACT_STRINGS" "Z" (.int zc)) (Pz : ¬ zc = 0) (w_M : Addr) (S_M : Sta Z Z.heap "java/util/ImmutableCollections" "EMPTY_MAP" "Ljava/util/ImmutableCollections$MapN;" (.ref w_M)) (E_M : Exa Z Z.heap w_M "java/util/ImmutableCollections$MapN") (fm : Value) (S_f : Sta Z Z.heap "jdk/internal/util/Preconditions" "SIOOBE_FORMATTER" "Ljava/util/function/BiFunction;" fm) (rf : fm.isRef = true) (o x : Addr) (h0 : Heap) (hO : Ext Z.heap h0) (Ex : Exa Z h0 x "java/lang/String") (Fc : Fld Z h0 o "java/lang/AbstractStringBuilder" "coder" "B" (.int (0 : Int32))) (C : Fld Z h0 x "java/lang/String" "coder" "B" (.int (0 : Int32))) :
    Con l Z EL0 [] (⟨"java/lang/AbstractStringBuilder", "inflateIfNeededFor", "(Ljava/lang/String;)V"⟩ : MethodName) jdk_68_method_71_code 2 none R_mInf #[(.ref o), (.ref x)] h0 [] (Q_mInf Z  h0) := by
  refine Con.of (y := (⟨"java/lang/AbstractStringBuilder", "inflateIfNeededFor", "(Ljava/lang/String;)V"⟩ : MethodName)) (f0 := fun m => mkF m 0 #[.val (.ref o), .val (.ref x)] []) (plainFor_of_name pn_1) hEL hO (fun m => by skip <;> first | (simp [entryFrame, mkF, argsToLocals, Value.category, maxLocals]; done) | rfl) ?_
  intro p e s m below meth c s₁ P0
  show Go p e below _ (s₁.setTop (mkF m 0 #[.val (.ref o), .val (.ref x)] []))
  refine P0.getS (host := "") (Or.inl (hw _ (List.mem_of_getElem? (i := 73) rfl))) Via.refl S0 d18_0 fun T26 P26 => ?_
  show Go p e below _ (T26.setTop (mkF m 3 #[.val (.ref o), .val (.ref x)] [(.int zc)]))
  refine P26.xs (fun hA hx hy t k => XS.ifNo hA hx rfl (hb hy d18_3) rfl ((if0 _ _).trans (feq Pz).1) k) ?_
  show Go p e below _ (T26.setTop (mkF m 6 #[.val (.ref o), .val (.ref x)] []))
  refine P26.xs (fun hA hx hy t k => XS.aloadN hA hx rfl (hb hy d18_6) rfl rfl  k) ?_
  show Go p e below _ (T26.setTop (mkF m 7 #[.val (.ref o), .val (.ref x)] [(.ref o)]))
  refine P26.getF (host := "") (Or.inl (hw _ (List.mem_of_getElem? (i := 76) rfl))) Via.refl Fc d18_7 fun T27 P27 => ?_
  show Go p e below _ (T27.setTop (mkF m 10 #[.val (.ref o), .val (.ref x)] [(.int (0 : Int32))]))
  refine P27.xs (fun hA hx hy t k => XS.aloadN hA hx rfl (hb hy d18_10) rfl rfl  k) ?_
  show Go p e below _ (T27.setTop (mkF m 11 #[.val (.ref o), .val (.ref x)] [(.ref x), (.int (0 : Int32))]))
  refine P27.callV (hw _ (List.mem_of_getElem? (i := 116) rfl)) (hw _ (List.mem_of_getElem? (i := 94) rfl)) (hw _ (List.mem_of_getElem? (i := 96) rfl)) (nfOf (hw _ (List.mem_of_getElem? (i := 96) rfl))) (hw _ (List.mem_of_getElem? (i := 95) rfl)) (hw _ (List.mem_of_getElem? (i := 6) rfl)) (hw _ (List.mem_of_getElem? (i := 97) rfl)) (by decide) Ex (mCod l Z a0 hw hEL zc S0 Pz w_M S_M E_M fm S_f rf x h0 P27.old C) (W := 1) (by decide) (by decide) (by decide) (by decide) all0 pd_1 (argsL := []) rfl rfl rfl (Nat.le_of_eq rfl) d18_11 fun v28 T28 h28 P28 K28 Q28 => ?_
  obtain ⟨hv28, hh28⟩ := Q28
  subst hv28
  rw [hh28] at P28
  show Go p e below _ (T28.setTop (mkF m 14 #[.val (.ref o), .val (.ref x)] [(.int (0 : Int32)), (.int (0 : Int32))]))
  refine P28.xs (fun hA hx hy t k => XS.icmpYes hA hx rfl (pc0 := 14) (pc' := 21) rfl (hb hy d18_14) rfl (teq rfl).1 (by decide) (by decide) k) ?_
  show Go p e below _ (T28.setTop (mkF m 21 #[.val (.ref o), .val (.ref x)] []))
  exact P28.retV rfl d18_21 (by decide) (by decide) ⟨rfl, rfl⟩

def R_mGB : Room := { frames := 1, cells := 0, slots := 0, locals := 18 }
def Q_mGB (Z : State) (bb : Addr) (kd : ClassId) (cs ds : List Int32) (h0 : Heap) (v : Option Value) (h : Heap) : Prop := v = none ∧ Arv Z h bb kd .byte (16 : Int32) (fill 16 (cs ++ ds)) (.int 0)
set_option maxRecDepth 65536 in
set_option maxHeartbeats 40000000 in
theorem mGB (l : Launch) (Z : State) (a0 : Array Value) (hw : ∀ d ∈ tables_1, d.before a0 Z = true) (hEL : EW Z a0 EL0) (zc : Int32) (S0 : Sta Z Z.heap "java/lang/String" "COMPACT_STRINGS" "Z" (.int zc)) (Pz : ¬ zc = 0) (w_M : Addr) (S_M : Sta Z Z.heap "java/util/ImmutableCollections" "EMPTY_MAP" "Ljava/util/ImmutableCollections$MapN;" (.ref w_M)) (E_M : Exa Z Z.heap w_M "java/util/ImmutableCollections$MapN") (fm : Value) (S_f : Sta Z Z.heap "jdk/internal/util/Preconditions" "SIOOBE_FORMATTER" "Ljava/util/function/BiFunction;" fm) (rf : fm.isRef = true) (x tt : Addr) (kt : ClassId) (ds : List Int32) (bb : Addr) (kd : ClassId) (cs : List Int32) (h0 : Heap) (hO : Ext Z.heap h0) (Ex : Exa Z h0 x "java/lang/String") (V : Fld Z h0 x "java/lang/String" "value" "[B" (.ref tt)) (C : Fld Z h0 x "java/lang/String" "coder" "B" (.int (0 : Int32))) (A : Arv Z h0 tt kt .byte (Int32.ofNat ds.length) ((ds.map StrChars.lo8).map Value.int) (.int 0)) (B : Arv Z h0 bb kd .byte (16 : Int32) (fill 16 cs) (.int 0)) (hfit : cs.length + ds.length ≤ 16) (gb : Z.heap.size ≤ bb) (hne : tt ≠ bb) :
    Con l Z EL0 [] (⟨"java/lang/String", "getBytes", "([BIB)V"⟩ : MethodName) jdk_42_method_147_code 4 none R_mGB #[(.ref x), (.ref bb), (.int (Int32.ofNat cs.length)), (.int (0 : Int32))] h0 [bb] (Q_mGB Z bb kd cs ds h0) := by
  refine Con.of (y := (⟨"java/lang/String", "getBytes", "([BIB)V"⟩ : MethodName)) (f0 := fun m => mkF m 0 #[.val (.ref x), .val (.ref bb), .val (.int (Int32.ofNat cs.length)), .val (.int (0 : Int32))] []) (plainFor_of_name pn_0) hEL hO (fun m => by skip <;> first | (simp [entryFrame, mkF, argsToLocals, Value.category, maxLocals]; done) | rfl) ?_
  intro p e s m below meth c s₁ P0
  show Go p e below _ (s₁.setTop (mkF m 0 #[.val (.ref x), .val (.ref bb), .val (.int (Int32.ofNat cs.length)), .val (.int (0 : Int32))] []))
  refine P0.xs (fun hA hx hy t k => XS.aloadN hA hx rfl (hb hy d19_0) rfl rfl  k) ?_
  show Go p e below _ (s₁.setTop (mkF m 1 #[.val (.ref x), .val (.ref bb), .val (.int (Int32.ofNat cs.length)), .val (.int (0 : Int32))] [(.ref x)]))
  refine P0.callV (hw _ (List.mem_of_getElem? (i := 93) rfl)) (hw _ (List.mem_of_getElem? (i := 94) rfl)) (hw _ (List.mem_of_getElem? (i := 96) rfl)) (nfOf (hw _ (List.mem_of_getElem? (i := 96) rfl))) (hw _ (List.mem_of_getElem? (i := 95) rfl)) (hw _ (List.mem_of_getElem? (i := 6) rfl)) (hw _ (List.mem_of_getElem? (i := 97) rfl)) (by decide) Ex (mCod l Z a0 hw hEL zc S0 Pz w_M S_M E_M fm S_f rf x h0 P0.old C) (W := 0) (by decide) (by decide) (by decide) (by decide) all0 pd_1 (argsL := []) rfl rfl rfl (Nat.le_of_eq rfl) d19_1 fun v29 T29 h29 P29 K29 Q29 => ?_
  obtain ⟨hv29, hh29⟩ := Q29
  subst hv29
  rw [hh29] at P29
  show Go p e below _ (T29.setTop (mkF m 4 #[.val (.ref x), .val (.ref bb), .val (.int (Int32.ofNat cs.length)), .val (.int (0 : Int32))] [(.int (0 : Int32))]))
  refine P29.xs (fun hA hx hy t k => XS.iloadN hA hx rfl (hb hy d19_4) rfl  k) ?_
  show Go p e below _ (T29.setTop (mkF m 5 #[.val (.ref x), .val (.ref bb), .val (.int (Int32.ofNat cs.length)), .val (.int (0 : Int32))] [(.int (0 : Int32)), (.int (0 : Int32))]))
  refine P29.xs (fun hA hx hy t k => XS.icmpNo hA hx rfl (hb hy d19_5) rfl (teq rfl).2 k) ?_
  show Go p e below _ (T29.setTop (mkF m 8 #[.val (.ref x), .val (.ref bb), .val (.int (Int32.ofNat cs.length)), .val (.int (0 : Int32))] []))
  refine P29.xs (fun hA hx hy t k => XS.aloadN hA hx rfl (hb hy d19_8) rfl rfl  k) ?_
  show Go p e below _ (T29.setTop (mkF m 9 #[.val (.ref x), .val (.ref bb), .val (.int (Int32.ofNat cs.length)), .val (.int (0 : Int32))] [(.ref x)]))
  refine P29.getF (host := "") (Or.inl (hw _ (List.mem_of_getElem? (i := 24) rfl))) Via.refl V d19_9 fun T30 P30 => ?_
  show Go p e below _ (T30.setTop (mkF m 12 #[.val (.ref x), .val (.ref bb), .val (.int (Int32.ofNat cs.length)), .val (.int (0 : Int32))] [(.ref tt)]))
  refine P30.xs (fun hA hx hy t k => XS.iconst hA hx rfl (hb hy d19_12) k) ?_
  show Go p e below _ (T30.setTop (mkF m 13 #[.val (.ref x), .val (.ref bb), .val (.int (Int32.ofNat cs.length)), .val (.int (0 : Int32))] [(.int (0 : Int32)), (.ref tt)]))
  refine P30.xs (fun hA hx hy t k => XS.aloadN hA hx rfl (hb hy d19_13) rfl rfl  k) ?_
  show Go p e below _ (T30.setTop (mkF m 14 #[.val (.ref x), .val (.ref bb), .val (.int (Int32.ofNat cs.length)), .val (.int (0 : Int32))] [(.ref bb), (.int (0 : Int32)), (.ref tt)]))
  refine P30.xs (fun hA hx hy t k => XS.iloadN hA hx rfl (hb hy d19_14) rfl  k) ?_
  show Go p e below _ (T30.setTop (mkF m 15 #[.val (.ref x), .val (.ref bb), .val (.int (Int32.ofNat cs.length)), .val (.int (0 : Int32))] [(.int (Int32.ofNat cs.length)), (.ref bb), (.int (0 : Int32)), (.ref tt)]))
  refine P30.xs (fun hA hx hy t k => XS.iloadN hA hx rfl (hb hy d19_15) rfl  k) ?_
  show Go p e below _ (T30.setTop (mkF m 16 #[.val (.ref x), .val (.ref bb), .val (.int (Int32.ofNat cs.length)), .val (.int (0 : Int32))] [(.int (0 : Int32)), (.int (Int32.ofNat cs.length)), (.ref bb), (.int (0 : Int32)), (.ref tt)]))
  refine P30.xs (fun hA hx hy t k => XS.ishl hA hx rfl (hb hy d19_16) rfl k) ?_
  show Go p e below _ (T30.setTop (mkF m 17 #[.val (.ref x), .val (.ref bb), .val (.int (Int32.ofNat cs.length)), .val (.int (0 : Int32))] [(.int ((Int32.ofNat cs.length) <<< ((0 : Int32) &&& 31))), (.ref bb), (.int (0 : Int32)), (.ref tt)]))
  rw [shlZ]
  show Go p e below _ (T30.setTop (mkF m 17 #[.val (.ref x), .val (.ref bb), .val (.int (Int32.ofNat cs.length)), .val (.int (0 : Int32))] [(.int (Int32.ofNat cs.length)), (.ref bb), (.int (0 : Int32)), (.ref tt)]))
  refine P30.xs (fun hA hx hy t k => XS.aloadN hA hx rfl (hb hy d19_17) rfl rfl  k) ?_
  show Go p e below _ (T30.setTop (mkF m 18 #[.val (.ref x), .val (.ref bb), .val (.int (Int32.ofNat cs.length)), .val (.int (0 : Int32))] [(.ref x), (.int (Int32.ofNat cs.length)), (.ref bb), (.int (0 : Int32)), (.ref tt)]))
  refine P30.getF (host := "") (Or.inl (hw _ (List.mem_of_getElem? (i := 24) rfl))) Via.refl V d19_18 fun T31 P31 => ?_
  show Go p e below _ (T31.setTop (mkF m 21 #[.val (.ref x), .val (.ref bb), .val (.int (Int32.ofNat cs.length)), .val (.int (0 : Int32))] [(.ref tt), (.int (Int32.ofNat cs.length)), (.ref bb), (.int (0 : Int32)), (.ref tt)]))
  refine P31.alen A d19_21 ?_
  show Go p e below _ (T31.setTop (mkF m 22 #[.val (.ref x), .val (.ref bb), .val (.int (Int32.ofNat cs.length)), .val (.int (0 : Int32))] [(.int (Int32.ofNat ds.length)), (.int (Int32.ofNat cs.length)), (.ref bb), (.int (0 : Int32)), (.ref tt)]))
  refine P31.cpB (W := 0) (hw _ (List.mem_of_getElem? (i := 122) rfl)) (hw _ (List.mem_of_getElem? (i := 125) rfl)) (hw _ (List.mem_of_getElem? (i := 123) rfl)) (hw _ (List.mem_of_getElem? (i := 124) rfl)) A B (by decide) (ofNat_nn (by omega)) (ofNat_nn (by omega)) (by rw [ofNat_small (n := ds.length) (by omega), show (0 : Int32).toNatClampNeg = 0 from rfl]; omega) (by rw [ofNat_small (n := cs.length) (by omega), ofNat_small (n := ds.length) (by omega)]; exact hfit) (us := ((ds.map StrChars.lo8).map Value.int)) (by rw [ofNat_small (n := ds.length) (by omega)]; exact ((range_get (by simp)).trans (List.take_of_length_le (by simp))).symm) (by rw [ofNat_small (n := cs.length) (by omega), ofNat_small (n := ds.length) (by omega), fill_len (by omega)]; exact hfit) (vr := (fill 16 (cs ++ ds))) (by rw [ofNat_small (n := cs.length) (by omega), ofNat_small (n := ds.length) (by omega)]; exact fill_app hfit) (fun vm _ hal _ => safeLen hal (hLn hw) B rfl) gb (Or.inl (List.mem_of_getElem? (i := 0) rfl)) rfl (by decide) (Nat.le_of_eq rfl) (by decide) d19_22 fun T32 h32 P32 K32 V32 => ?_
  show Go p e below _ (T32.setTop (mkF m 25 #[.val (.ref x), .val (.ref bb), .val (.int (Int32.ofNat cs.length)), .val (.int (0 : Int32))] []))
  refine P32.xs (fun hA hx hy t k => XS.goto hA hx rfl (pc0 := 25) (pc' := 43) rfl (hb hy d19_25) (by decide) (by decide) k) ?_
  show Go p e below _ (T32.setTop (mkF m 43 #[.val (.ref x), .val (.ref bb), .val (.int (Int32.ofNat cs.length)), .val (.int (0 : Int32))] []))
  exact P32.retV rfl d19_43 (by decide) (by decide) ⟨rfl, V32⟩

def R_mPut : Room := { frames := 2, cells := 0, slots := 0, locals := 33 }
def Q_mPut (Z : State) (bb : Addr) (kd : ClassId) (cs ds : List Int32) (h0 : Heap) (v : Option Value) (h : Heap) : Prop := v = none ∧ Arv Z h bb kd .byte (16 : Int32) (fill 16 (cs ++ ds)) (.int 0)
set_option maxRecDepth 65536 in
set_option maxHeartbeats 40000000 in
theorem mPut (l : Launch) (Z : State) (a0 : Array Value) (hw : ∀ d ∈ tables_1, d.before a0 Z = true) (hEL : EW Z a0 EL0) (zc : Int32) (S0 : Sta Z Z.heap "java/lang/String" "COMPACT_STRINGS" "Z" (.int zc)) (Pz : ¬ zc = 0) (w_M : Addr) (S_M : Sta Z Z.heap "java/util/ImmutableCollections" "EMPTY_MAP" "Ljava/util/ImmutableCollections$MapN;" (.ref w_M)) (E_M : Exa Z Z.heap w_M "java/util/ImmutableCollections$MapN") (fm : Value) (S_f : Sta Z Z.heap "jdk/internal/util/Preconditions" "SIOOBE_FORMATTER" "Ljava/util/function/BiFunction;" fm) (rf : fm.isRef = true) (x tt : Addr) (kt : ClassId) (ds : List Int32) (o bb : Addr) (kd : ClassId) (cs : List Int32) (h0 : Heap) (hO : Ext Z.heap h0) (Ex : Exa Z h0 x "java/lang/String") (V : Fld Z h0 x "java/lang/String" "value" "[B" (.ref tt)) (C : Fld Z h0 x "java/lang/String" "coder" "B" (.int (0 : Int32))) (A : Arv Z h0 tt kt .byte (Int32.ofNat ds.length) ((ds.map StrChars.lo8).map Value.int) (.int 0)) (E : Exa Z h0 o "java/lang/StringBuilder") (Fv : Fld Z h0 o "java/lang/AbstractStringBuilder" "value" "[B" (.ref bb)) (Fc : Fld Z h0 o "java/lang/AbstractStringBuilder" "coder" "B" (.int (0 : Int32))) (Fn : Fld Z h0 o "java/lang/AbstractStringBuilder" "count" "I" (.int (Int32.ofNat cs.length))) (B : Arv Z h0 bb kd .byte (16 : Int32) (fill 16 cs) (.int 0)) (hfit : cs.length + ds.length ≤ 16) (gb : Z.heap.size ≤ bb) (hne : tt ≠ bb) :
    Con l Z EL0 [] (⟨"java/lang/AbstractStringBuilder", "putStringAt", "(ILjava/lang/String;)V"⟩ : MethodName) jdk_68_method_73_code 3 none R_mPut #[(.ref o), (.int (Int32.ofNat cs.length)), (.ref x)] h0 [bb] (Q_mPut Z bb kd cs ds h0) := by
  refine Con.of (y := (⟨"java/lang/AbstractStringBuilder", "putStringAt", "(ILjava/lang/String;)V"⟩ : MethodName)) (f0 := fun m => mkF m 0 #[.val (.ref o), .val (.int (Int32.ofNat cs.length)), .val (.ref x)] []) (plainFor_of_name pn_1) hEL hO (fun m => by skip <;> first | (simp [entryFrame, mkF, argsToLocals, Value.category, maxLocals]; done) | rfl) ?_
  intro p e s m below meth c s₁ P0
  show Go p e below _ (s₁.setTop (mkF m 0 #[.val (.ref o), .val (.int (Int32.ofNat cs.length)), .val (.ref x)] []))
  refine P0.xs (fun hA hx hy t k => XS.aloadN hA hx rfl (hb hy d17_0) rfl rfl  k) ?_
  show Go p e below _ (s₁.setTop (mkF m 1 #[.val (.ref o), .val (.int (Int32.ofNat cs.length)), .val (.ref x)] [(.ref o)]))
  refine P0.xs (fun hA hx hy t k => XS.aloadN hA hx rfl (hb hy d17_1) rfl rfl  k) ?_
  show Go p e below _ (s₁.setTop (mkF m 2 #[.val (.ref o), .val (.int (Int32.ofNat cs.length)), .val (.ref x)] [(.ref x), (.ref o)]))
  refine P0.callV (hw _ (List.mem_of_getElem? (i := 111) rfl)) (declOf (hw _ (List.mem_of_getElem? (i := 112) rfl)) (hw _ (List.mem_of_getElem? (i := 115) rfl))) (hw _ (List.mem_of_getElem? (i := 114) rfl)) (nfOf (hw _ (List.mem_of_getElem? (i := 114) rfl))) (hw _ (List.mem_of_getElem? (i := 112) rfl)) (hw _ (List.mem_of_getElem? (i := 70) rfl)) (hw _ (List.mem_of_getElem? (i := 115) rfl)) (by decide) E (mInf l Z a0 hw hEL zc S0 Pz w_M S_M E_M fm S_f rf o x h0 P0.old Ex Fc C) (W := 0) (by decide) (by decide) (by decide) (by decide) all0 pd_2 (argsL := [(.ref x)]) rfl rfl rfl (Nat.le_of_eq rfl) d17_2 fun v33 T33 h33 P33 K33 Q33 => ?_
  obtain ⟨hv33, hh33⟩ := Q33
  subst hv33
  rw [hh33] at P33
  show Go p e below _ (T33.setTop (mkF m 5 #[.val (.ref o), .val (.int (Int32.ofNat cs.length)), .val (.ref x)] []))
  refine P33.xs (fun hA hx hy t k => XS.aloadN hA hx rfl (hb hy d17_5) rfl rfl  k) ?_
  show Go p e below _ (T33.setTop (mkF m 6 #[.val (.ref o), .val (.int (Int32.ofNat cs.length)), .val (.ref x)] [(.ref x)]))
  refine P33.xs (fun hA hx hy t k => XS.aloadN hA hx rfl (hb hy d17_6) rfl rfl  k) ?_
  show Go p e below _ (T33.setTop (mkF m 7 #[.val (.ref o), .val (.int (Int32.ofNat cs.length)), .val (.ref x)] [(.ref o), (.ref x)]))
  refine P33.getF (host := "") (Or.inl (hw _ (List.mem_of_getElem? (i := 74) rfl))) Via.refl Fv d17_7 fun T34 P34 => ?_
  show Go p e below _ (T34.setTop (mkF m 10 #[.val (.ref o), .val (.int (Int32.ofNat cs.length)), .val (.ref x)] [(.ref bb), (.ref x)]))
  refine P34.xs (fun hA hx hy t k => XS.iloadN hA hx rfl (hb hy d17_10) rfl  k) ?_
  show Go p e below _ (T34.setTop (mkF m 11 #[.val (.ref o), .val (.int (Int32.ofNat cs.length)), .val (.ref x)] [(.int (Int32.ofNat cs.length)), (.ref bb), (.ref x)]))
  refine P34.xs (fun hA hx hy t k => XS.aloadN hA hx rfl (hb hy d17_11) rfl rfl  k) ?_
  show Go p e below _ (T34.setTop (mkF m 12 #[.val (.ref o), .val (.int (Int32.ofNat cs.length)), .val (.ref x)] [(.ref o), (.int (Int32.ofNat cs.length)), (.ref bb), (.ref x)]))
  refine P34.getF (host := "") (Or.inl (hw _ (List.mem_of_getElem? (i := 76) rfl))) Via.refl Fc d17_12 fun T35 P35 => ?_
  show Go p e below _ (T35.setTop (mkF m 15 #[.val (.ref o), .val (.int (Int32.ofNat cs.length)), .val (.ref x)] [(.int (0 : Int32)), (.int (Int32.ofNat cs.length)), (.ref bb), (.ref x)]))
  refine P35.callV (hw _ (List.mem_of_getElem? (i := 117) rfl)) (hw _ (List.mem_of_getElem? (i := 118) rfl)) (hw _ (List.mem_of_getElem? (i := 120) rfl)) (nfOf (hw _ (List.mem_of_getElem? (i := 120) rfl))) (hw _ (List.mem_of_getElem? (i := 119) rfl)) (hw _ (List.mem_of_getElem? (i := 6) rfl)) (hw _ (List.mem_of_getElem? (i := 121) rfl)) (by decide) Ex (mGB l Z a0 hw hEL zc S0 Pz w_M S_M E_M fm S_f rf x tt kt ds bb kd cs h0 P35.old Ex V C A B hfit gb hne) (W := 0) (by decide) (by decide) (by decide) (by decide) (allS (Or.inl (List.mem_of_getElem? (i := 0) rfl)) all0) pd_3 (argsL := [(.ref bb), (.int (Int32.ofNat cs.length)), (.int (0 : Int32))]) rfl rfl rfl (Nat.le_of_eq rfl) d17_15 fun v36 T36 h36 P36 K36 Q36 => ?_
  obtain ⟨rfl, B36⟩ := Q36
  show Go p e below _ (T36.setTop (mkF m 18 #[.val (.ref o), .val (.int (Int32.ofNat cs.length)), .val (.ref x)] []))
  exact P36.retV rfl d17_18 (by decide) (by decide) ⟨rfl, B36⟩

def R_mAp : Room := { frames := 3, cells := 0, slots := 0, locals := 47 }
def Q_mAp (Z : State) (o bb : Addr) (kd : ClassId) (cs ds : List Int32) (h0 : Heap) (v : Option Value) (h : Heap) : Prop := v = some (.ref o) ∧ Exa Z h o "java/lang/StringBuilder" ∧ Fld Z h o "java/lang/AbstractStringBuilder" "value" "[B" (.ref bb) ∧ Fld Z h o "java/lang/AbstractStringBuilder" "coder" "B" (.int (0 : Int32)) ∧ Fld Z h o "java/lang/AbstractStringBuilder" "count" "I" (.int (Int32.ofNat (cs ++ ds).length)) ∧ Arv Z h bb kd .byte (16 : Int32) (fill 16 (cs ++ ds)) (.int 0)
set_option maxRecDepth 65536 in
set_option maxHeartbeats 40000000 in
theorem mAp (l : Launch) (Z : State) (a0 : Array Value) (hw : ∀ d ∈ tables_1, d.before a0 Z = true) (hEL : EW Z a0 EL0) (zc : Int32) (S0 : Sta Z Z.heap "java/lang/String" "COMPACT_STRINGS" "Z" (.int zc)) (Pz : ¬ zc = 0) (w_M : Addr) (S_M : Sta Z Z.heap "java/util/ImmutableCollections" "EMPTY_MAP" "Ljava/util/ImmutableCollections$MapN;" (.ref w_M)) (E_M : Exa Z Z.heap w_M "java/util/ImmutableCollections$MapN") (fm : Value) (S_f : Sta Z Z.heap "jdk/internal/util/Preconditions" "SIOOBE_FORMATTER" "Ljava/util/function/BiFunction;" fm) (rf : fm.isRef = true) (x tt : Addr) (kt : ClassId) (ds : List Int32) (o bb : Addr) (kd : ClassId) (cs : List Int32) (h0 : Heap) (hO : Ext Z.heap h0) (Ex : Exa Z h0 x "java/lang/String") (V : Fld Z h0 x "java/lang/String" "value" "[B" (.ref tt)) (C : Fld Z h0 x "java/lang/String" "coder" "B" (.int (0 : Int32))) (A : Arv Z h0 tt kt .byte (Int32.ofNat ds.length) ((ds.map StrChars.lo8).map Value.int) (.int 0)) (E : Exa Z h0 o "java/lang/StringBuilder") (Fv : Fld Z h0 o "java/lang/AbstractStringBuilder" "value" "[B" (.ref bb)) (Fc : Fld Z h0 o "java/lang/AbstractStringBuilder" "coder" "B" (.int (0 : Int32))) (Fn : Fld Z h0 o "java/lang/AbstractStringBuilder" "count" "I" (.int (Int32.ofNat cs.length))) (B : Arv Z h0 bb kd .byte (16 : Int32) (fill 16 cs) (.int 0)) (hfit : cs.length + ds.length ≤ 16) (gb : Z.heap.size ≤ bb) (hne : tt ≠ bb) (go : Z.heap.size ≤ o) :
    Con l Z EL0 [] (⟨"java/lang/AbstractStringBuilder", "append", "(Ljava/lang/String;)Ljava/lang/AbstractStringBuilder;"⟩ : MethodName) jdk_68_method_22_code 3 (some (.object "java/lang/AbstractStringBuilder")) R_mAp #[(.ref o), (.ref x)] h0 [o, bb] (Q_mAp Z o bb kd cs ds h0) := by
  refine Con.of (y := (⟨"java/lang/AbstractStringBuilder", "append", "(Ljava/lang/String;)Ljava/lang/AbstractStringBuilder;"⟩ : MethodName)) (f0 := fun m => mkF m 0 #[.val (.ref o), .val (.ref x), .unset] []) (plainFor_of_name pn_1) hEL hO (fun m => by skip <;> first | (simp [entryFrame, mkF, argsToLocals, Value.category, maxLocals]; done) | rfl) ?_
  intro p e s m below meth c s₁ P0
  show Go p e below _ (s₁.setTop (mkF m 0 #[.val (.ref o), .val (.ref x), .unset] []))
  refine P0.xs (fun hA hx hy t k => XS.aloadN hA hx rfl (hb hy d13_0) rfl rfl  k) ?_
  show Go p e below _ (s₁.setTop (mkF m 1 #[.val (.ref o), .val (.ref x), .unset] [(.ref x)]))
  refine P0.xs (fun hA hx hy t k => XS.ifnonnullYes hA hx rfl (pc0 := 1) (pc' := 9) rfl (hb hy d13_1) rfl (by decide) (by decide) k) ?_
  show Go p e below _ (s₁.setTop (mkF m 9 #[.val (.ref o), .val (.ref x), .unset] []))
  refine P0.xs (fun hA hx hy t k => XS.aloadN hA hx rfl (hb hy d13_9) rfl rfl  k) ?_
  show Go p e below _ (s₁.setTop (mkF m 10 #[.val (.ref o), .val (.ref x), .unset] [(.ref x)]))
  refine P0.callV (hw _ (List.mem_of_getElem? (i := 88) rfl)) (hw _ (List.mem_of_getElem? (i := 89) rfl)) (hw _ (List.mem_of_getElem? (i := 91) rfl)) (nfOf (hw _ (List.mem_of_getElem? (i := 91) rfl))) (hw _ (List.mem_of_getElem? (i := 90) rfl)) (hw _ (List.mem_of_getElem? (i := 6) rfl)) (hw _ (List.mem_of_getElem? (i := 92) rfl)) (by decide) Ex (mLen l Z a0 hw hEL zc S0 Pz w_M S_M E_M fm S_f rf x tt kt ds h0 P0.old Ex V C A) (W := 0) (by decide) (by decide) (by decide) (by decide) all0 pd_4 (argsL := []) rfl rfl rfl (Nat.le_of_eq rfl) d13_10 fun v37 T37 h37 P37 K37 Q37 => ?_
  obtain ⟨hv37, hh37⟩ := Q37
  subst hv37
  rw [hh37] at P37
  show Go p e below _ (T37.setTop (mkF m 13 #[.val (.ref o), .val (.ref x), .unset] [(.int (Int32.ofNat ds.length))]))
  refine P37.xs (fun hA hx hy t k => XS.istoreN hA hx rfl (hb hy d13_13) rfl (l' := #[.val (.ref o), .val (.ref x), .val (.int (Int32.ofNat ds.length))]) rfl k) ?_
  show Go p e below _ (T37.setTop (mkF m 14 #[.val (.ref o), .val (.ref x), .val (.int (Int32.ofNat ds.length))] []))
  refine P37.xs (fun hA hx hy t k => XS.aloadN hA hx rfl (hb hy d13_14) rfl rfl  k) ?_
  show Go p e below _ (T37.setTop (mkF m 15 #[.val (.ref o), .val (.ref x), .val (.int (Int32.ofNat ds.length))] [(.ref o)]))
  refine P37.xs (fun hA hx hy t k => XS.aloadN hA hx rfl (hb hy d13_15) rfl rfl  k) ?_
  show Go p e below _ (T37.setTop (mkF m 16 #[.val (.ref o), .val (.ref x), .val (.int (Int32.ofNat ds.length))] [(.ref o), (.ref o)]))
  refine P37.getF (host := "") (Or.inl (hw _ (List.mem_of_getElem? (i := 99) rfl))) Via.refl Fn d13_16 fun T38 P38 => ?_
  show Go p e below _ (T38.setTop (mkF m 19 #[.val (.ref o), .val (.ref x), .val (.int (Int32.ofNat ds.length))] [(.int (Int32.ofNat cs.length)), (.ref o)]))
  refine P38.xs (fun hA hx hy t k => XS.iloadN hA hx rfl (hb hy d13_19) rfl  k) ?_
  show Go p e below _ (T38.setTop (mkF m 20 #[.val (.ref o), .val (.ref x), .val (.int (Int32.ofNat ds.length))] [(.int (Int32.ofNat ds.length)), (.int (Int32.ofNat cs.length)), (.ref o)]))
  refine P38.xs (fun hA hx hy t k => XS.iadd hA hx rfl (hb hy d13_20) rfl k) ?_
  show Go p e below _ (T38.setTop (mkF m 21 #[.val (.ref o), .val (.ref x), .val (.int (Int32.ofNat ds.length))] [(.int ((Int32.ofNat cs.length) + (Int32.ofNat ds.length))), (.ref o)]))
  rw [ofNat_add']
  show Go p e below _ (T38.setTop (mkF m 21 #[.val (.ref o), .val (.ref x), .val (.int (Int32.ofNat ds.length))] [(.int (Int32.ofNat (cs.length + ds.length))), (.ref o)]))
  have hcap := cap_ok hfit
  refine P38.callV (hw _ (List.mem_of_getElem? (i := 101) rfl)) (declOf (hw _ (List.mem_of_getElem? (i := 102) rfl)) (hw _ (List.mem_of_getElem? (i := 105) rfl))) (hw _ (List.mem_of_getElem? (i := 104) rfl)) (nfOf (hw _ (List.mem_of_getElem? (i := 104) rfl))) (hw _ (List.mem_of_getElem? (i := 102) rfl)) (hw _ (List.mem_of_getElem? (i := 70) rfl)) (hw _ (List.mem_of_getElem? (i := 105) rfl)) (by decide) E (mEns l Z a0 hw hEL zc S0 Pz w_M S_M E_M fm S_f rf o bb kd (Int32.ofNat (cs.length + ds.length)) (fill 16 cs) h0 P38.old Fv Fc B hcap) (W := 0) (by decide) (by decide) (by decide) (by decide) all0 pd_5 (argsL := [(.int (Int32.ofNat (cs.length + ds.length)))]) rfl rfl rfl (Nat.le_of_eq rfl) d13_21 fun v39 T39 h39 P39 K39 Q39 => ?_
  obtain ⟨hv39, hh39⟩ := Q39
  subst hv39
  rw [hh39] at P39
  show Go p e below _ (T39.setTop (mkF m 24 #[.val (.ref o), .val (.ref x), .val (.int (Int32.ofNat ds.length))] []))
  refine P39.xs (fun hA hx hy t k => XS.aloadN hA hx rfl (hb hy d13_24) rfl rfl  k) ?_
  show Go p e below _ (T39.setTop (mkF m 25 #[.val (.ref o), .val (.ref x), .val (.int (Int32.ofNat ds.length))] [(.ref o)]))
  refine P39.xs (fun hA hx hy t k => XS.aloadN hA hx rfl (hb hy d13_25) rfl rfl  k) ?_
  show Go p e below _ (T39.setTop (mkF m 26 #[.val (.ref o), .val (.ref x), .val (.int (Int32.ofNat ds.length))] [(.ref o), (.ref o)]))
  refine P39.getF (host := "") (Or.inl (hw _ (List.mem_of_getElem? (i := 99) rfl))) Via.refl Fn d13_26 fun T40 P40 => ?_
  show Go p e below _ (T40.setTop (mkF m 29 #[.val (.ref o), .val (.ref x), .val (.int (Int32.ofNat ds.length))] [(.int (Int32.ofNat cs.length)), (.ref o)]))
  refine P40.xs (fun hA hx hy t k => XS.aloadN hA hx rfl (hb hy d13_29) rfl rfl  k) ?_
  show Go p e below _ (T40.setTop (mkF m 30 #[.val (.ref o), .val (.ref x), .val (.int (Int32.ofNat ds.length))] [(.ref x), (.int (Int32.ofNat cs.length)), (.ref o)]))
  refine P40.callV (hw _ (List.mem_of_getElem? (i := 106) rfl)) (declOf (hw _ (List.mem_of_getElem? (i := 107) rfl)) (hw _ (List.mem_of_getElem? (i := 110) rfl))) (hw _ (List.mem_of_getElem? (i := 109) rfl)) (nfOf (hw _ (List.mem_of_getElem? (i := 109) rfl))) (hw _ (List.mem_of_getElem? (i := 107) rfl)) (hw _ (List.mem_of_getElem? (i := 70) rfl)) (hw _ (List.mem_of_getElem? (i := 110) rfl)) (by decide) E (mPut l Z a0 hw hEL zc S0 Pz w_M S_M E_M fm S_f rf x tt kt ds o bb kd cs h0 P40.old Ex V C A E Fv Fc Fn B hfit gb hne) (W := 0) (by decide) (by decide) (by decide) (by decide) (allS (Or.inl (List.mem_of_getElem? (i := 1) rfl)) all0) pd_6 (argsL := [(.int (Int32.ofNat cs.length)), (.ref x)]) rfl rfl rfl (Nat.le_of_eq rfl) d13_30 fun v41 T41 h41 P41 K41 Q41 => ?_
  obtain ⟨rfl, B41⟩ := Q41
  show Go p e below _ (T41.setTop (mkF m 33 #[.val (.ref o), .val (.ref x), .val (.int (Int32.ofNat ds.length))] []))
  refine P41.xs (fun hA hx hy t k => XS.aloadN hA hx rfl (hb hy d13_33) rfl rfl  k) ?_
  show Go p e below _ (T41.setTop (mkF m 34 #[.val (.ref o), .val (.ref x), .val (.int (Int32.ofNat ds.length))] [(.ref o)]))
  refine P41.xs (fun hA hx hy t k => XS.dup hA hx rfl (hb hy d13_34) rfl rfl k) ?_
  show Go p e below _ (T41.setTop (mkF m 35 #[.val (.ref o), .val (.ref x), .val (.int (Int32.ofNat ds.length))] [(.ref o), (.ref o)]))
  refine P41.getF (host := "") (Or.inl (hw _ (List.mem_of_getElem? (i := 99) rfl))) Via.refl (Fn.keep K41 (ninS (Ne.symm (Ne.symm (Exa.neArv E B (hw _ (List.mem_of_getElem? (i := 61) rfl))))) nin0)) d13_35 fun T42 P42 => ?_
  show Go p e below _ (T42.setTop (mkF m 38 #[.val (.ref o), .val (.ref x), .val (.int (Int32.ofNat ds.length))] [(.int (Int32.ofNat cs.length)), (.ref o)]))
  refine P42.xs (fun hA hx hy t k => XS.iloadN hA hx rfl (hb hy d13_38) rfl  k) ?_
  show Go p e below _ (T42.setTop (mkF m 39 #[.val (.ref o), .val (.ref x), .val (.int (Int32.ofNat ds.length))] [(.int (Int32.ofNat ds.length)), (.int (Int32.ofNat cs.length)), (.ref o)]))
  refine P42.xs (fun hA hx hy t k => XS.iadd hA hx rfl (hb hy d13_39) rfl k) ?_
  show Go p e below _ (T42.setTop (mkF m 40 #[.val (.ref o), .val (.ref x), .val (.int (Int32.ofNat ds.length))] [(.int ((Int32.ofNat cs.length) + (Int32.ofNat ds.length))), (.ref o)]))
  rw [ofNat_add']
  show Go p e below _ (T42.setTop (mkF m 40 #[.val (.ref o), .val (.ref x), .val (.int (Int32.ofNat ds.length))] [(.int (Int32.ofNat (cs.length + ds.length))), (.ref o)]))
  have Ec44 : Exa Z h41 x "java/lang/String" := (Ex.keep K41)
  have Ec45 : Exa Z h41 o "java/lang/StringBuilder" := (E.keep K41)
  have Fc46 : Fld Z h41 x "java/lang/String" "value" "[B" (.ref tt) := (V.keep K41 (ninS (Exa.neArv Ex B (hw _ (List.mem_of_getElem? (i := 5) rfl))) nin0))
  have Fc47 : Fld Z h41 x "java/lang/String" "coder" "B" (.int (0 : Int32)) := (C.keep K41 (ninS (Exa.neArv Ex B (hw _ (List.mem_of_getElem? (i := 5) rfl))) nin0))
  have Fc48 : Fld Z h41 o "java/lang/AbstractStringBuilder" "value" "[B" (.ref bb) := (Fv.keep K41 (ninS (Ne.symm (Ne.symm (Exa.neArv E B (hw _ (List.mem_of_getElem? (i := 61) rfl))))) nin0))
  have Fc49 : Fld Z h41 o "java/lang/AbstractStringBuilder" "coder" "B" (.int (0 : Int32)) := (Fc.keep K41 (ninS (Ne.symm (Ne.symm (Exa.neArv E B (hw _ (List.mem_of_getElem? (i := 61) rfl))))) nin0))
  have Fc50 : Fld Z h41 o "java/lang/AbstractStringBuilder" "count" "I" (.int (Int32.ofNat cs.length)) := (Fn.keep K41 (ninS (Ne.symm (Ne.symm (Exa.neArv E B (hw _ (List.mem_of_getElem? (i := 61) rfl))))) nin0))
  have Ac51 : Arv Z h41 tt kt .byte (Int32.ofNat ds.length) ((ds.map StrChars.lo8).map Value.int) (.int 0) := (A.keep K41 (ninS hne nin0))
  refine P42.putF (hw _ (List.mem_of_getElem? (i := 99) rfl)) Via.refl Fc50 Ec45 (Or.inl (hw _ (List.mem_of_getElem? (i := 100) rfl))) (hw _ (List.mem_of_getElem? (i := 61) rfl)) (ty := .int) (v' := (.int (Int32.ofNat (cs.length + ds.length)))) (by decide) rfl rfl d13_40 (fun vm _ hal _ => Safe.exa hal Ec45 (by decide) (by decide)) go (Or.inl (List.mem_of_getElem? (i := 0) rfl)) fun T43 h43 P43 W43 => ?_
  show Go p e below _ (T43.setTop (mkF m 43 #[.val (.ref o), .val (.ref x), .val (.int (Int32.ofNat ds.length))] []))
  refine P43.xs (fun hA hx hy t k => XS.aloadN hA hx rfl (hb hy d13_43) rfl rfl  k) ?_
  show Go p e below _ (T43.setTop (mkF m 44 #[.val (.ref o), .val (.ref x), .val (.int (Int32.ofNat ds.length))] [(.ref o)]))
  have Ec52 : Exa Z h43 x "java/lang/String" := (Ec44.wr W43)
  have Ec53 : Exa Z h43 o "java/lang/StringBuilder" := (Ec45.wr W43)
  have Fc54 : Fld Z h43 x "java/lang/String" "value" "[B" (.ref tt) := (Fc46.other W43 (Or.inl (Exa.ne Ex E (by decide))))
  have Fc55 : Fld Z h43 x "java/lang/String" "coder" "B" (.int (0 : Int32)) := (Fc47.other W43 (Or.inl (Exa.ne Ex E (by decide))))
  have Fc56 : Fld Z h43 o "java/lang/AbstractStringBuilder" "value" "[B" (.ref bb) := (Fc48.other W43 (Or.inr (slot_ne (Or.inl (hw _ (List.mem_of_getElem? (i := 75) rfl))) (Or.inl (hw _ (List.mem_of_getElem? (i := 100) rfl))) (by decide) (t := (.array .byte)) (t' := .int) (by decide) (by decide))))
  have Fc57 : Fld Z h43 o "java/lang/AbstractStringBuilder" "coder" "B" (.int (0 : Int32)) := (Fc49.other W43 (Or.inr (slot_ne (Or.inl (hw _ (List.mem_of_getElem? (i := 77) rfl))) (Or.inl (hw _ (List.mem_of_getElem? (i := 100) rfl))) (by decide) (t := .byte) (t' := .int) (by decide) (by decide))))
  have Fc58 : Fld Z h43 o "java/lang/AbstractStringBuilder" "count" "I" (.int (Int32.ofNat (cs.length + ds.length))) := (Fc50.same W43)
  have Ac59 : Arv Z h43 tt kt .byte (Int32.ofNat ds.length) ((ds.map StrChars.lo8).map Value.int) (.int 0) := (Ac51.other W43 (Ne.symm (Exa.neArv E A (hw _ (List.mem_of_getElem? (i := 61) rfl)))))
  have Ac60 : Arv Z h43 bb kd .byte (16 : Int32) (fill 16 (cs ++ ds)) (.int 0) := (B41.other W43 (Ne.symm (Exa.neArv E B (hw _ (List.mem_of_getElem? (i := 61) rfl)))))
  exact P43.retR rfl rfl rfl d13_44 (by decide) (by decide) ⟨rfl, Ec53, Fc56, Fc57, by rw [List.length_append]; exact Fc58, Ac60⟩

def R_mSAp : Room := { frames := 4, cells := 0, slots := 0, locals := 61 }
def Q_mSAp (Z : State) (o bb : Addr) (kd : ClassId) (cs ds : List Int32) (h0 : Heap) (v : Option Value) (h : Heap) : Prop := v = some (.ref o) ∧ Exa Z h o "java/lang/StringBuilder" ∧ Fld Z h o "java/lang/AbstractStringBuilder" "value" "[B" (.ref bb) ∧ Fld Z h o "java/lang/AbstractStringBuilder" "coder" "B" (.int (0 : Int32)) ∧ Fld Z h o "java/lang/AbstractStringBuilder" "count" "I" (.int (Int32.ofNat (cs ++ ds).length)) ∧ Arv Z h bb kd .byte (16 : Int32) (fill 16 (cs ++ ds)) (.int 0)
set_option maxRecDepth 65536 in
set_option maxHeartbeats 40000000 in
theorem mSAp (l : Launch) (Z : State) (a0 : Array Value) (hw : ∀ d ∈ tables_1, d.before a0 Z = true) (hEL : EW Z a0 EL0) (zc : Int32) (S0 : Sta Z Z.heap "java/lang/String" "COMPACT_STRINGS" "Z" (.int zc)) (Pz : ¬ zc = 0) (w_M : Addr) (S_M : Sta Z Z.heap "java/util/ImmutableCollections" "EMPTY_MAP" "Ljava/util/ImmutableCollections$MapN;" (.ref w_M)) (E_M : Exa Z Z.heap w_M "java/util/ImmutableCollections$MapN") (fm : Value) (S_f : Sta Z Z.heap "jdk/internal/util/Preconditions" "SIOOBE_FORMATTER" "Ljava/util/function/BiFunction;" fm) (rf : fm.isRef = true) (x tt : Addr) (kt : ClassId) (ds : List Int32) (o bb : Addr) (kd : ClassId) (cs : List Int32) (h0 : Heap) (hO : Ext Z.heap h0) (Ex : Exa Z h0 x "java/lang/String") (V : Fld Z h0 x "java/lang/String" "value" "[B" (.ref tt)) (C : Fld Z h0 x "java/lang/String" "coder" "B" (.int (0 : Int32))) (A : Arv Z h0 tt kt .byte (Int32.ofNat ds.length) ((ds.map StrChars.lo8).map Value.int) (.int 0)) (E : Exa Z h0 o "java/lang/StringBuilder") (Fv : Fld Z h0 o "java/lang/AbstractStringBuilder" "value" "[B" (.ref bb)) (Fc : Fld Z h0 o "java/lang/AbstractStringBuilder" "coder" "B" (.int (0 : Int32))) (Fn : Fld Z h0 o "java/lang/AbstractStringBuilder" "count" "I" (.int (Int32.ofNat cs.length))) (B : Arv Z h0 bb kd .byte (16 : Int32) (fill 16 cs) (.int 0)) (hfit : cs.length + ds.length ≤ 16) (gb : Z.heap.size ≤ bb) (hne : tt ≠ bb) (go : Z.heap.size ≤ o) :
    Con l Z EL0 [] (⟨"java/lang/StringBuilder", "append", "(Ljava/lang/String;)Ljava/lang/StringBuilder;"⟩ : MethodName) jdk_67_method_7_code 2 (some (.object "java/lang/StringBuilder")) R_mSAp #[(.ref o), (.ref x)] h0 [o, bb] (Q_mSAp Z o bb kd cs ds h0) := by
  refine Con.of (y := (⟨"java/lang/StringBuilder", "append", "(Ljava/lang/String;)Ljava/lang/StringBuilder;"⟩ : MethodName)) (f0 := fun m => mkF m 0 #[.val (.ref o), .val (.ref x)] []) (plainFor_of_name pn_2) hEL hO (fun m => by skip <;> first | (simp [entryFrame, mkF, argsToLocals, Value.category, maxLocals]; done) | rfl) ?_
  intro p e s m below meth c s₁ P0
  show Go p e below _ (s₁.setTop (mkF m 0 #[.val (.ref o), .val (.ref x)] []))
  refine P0.xs (fun hA hx hy t k => XS.aloadN hA hx rfl (hb hy d12_0) rfl rfl  k) ?_
  show Go p e below _ (s₁.setTop (mkF m 1 #[.val (.ref o), .val (.ref x)] [(.ref o)]))
  refine P0.xs (fun hA hx hy t k => XS.aloadN hA hx rfl (hb hy d12_1) rfl rfl  k) ?_
  show Go p e below _ (s₁.setTop (mkF m 2 #[.val (.ref o), .val (.ref x)] [(.ref x), (.ref o)]))
  refine P0.callU (by decide) (hw _ (List.mem_of_getElem? (i := 83) rfl)) (hw _ (List.mem_of_getElem? (i := 84) rfl)) (hw _ (List.mem_of_getElem? (i := 85) rfl)) (hw _ (List.mem_of_getElem? (i := 104) rfl)) rfl (hw _ (List.mem_of_getElem? (i := 70) rfl)) (hw _ (List.mem_of_getElem? (i := 87) rfl)) (by decide) (Ins.self E) (mAp l Z a0 hw hEL zc S0 Pz w_M S_M E_M fm S_f rf x tt kt ds o bb kd cs h0 P0.old Ex V C A E Fv Fc Fn B hfit gb hne go) (W := 0) (by decide) (by decide) (by decide) (by decide) (allS (Or.inl (List.mem_of_getElem? (i := 0) rfl)) (allS (Or.inl (List.mem_of_getElem? (i := 1) rfl)) all0)) pd_7 (argsL := [(.ref x)]) rfl rfl rfl (Nat.le_of_eq rfl) d12_2 fun v61 T61 h61 P61 K61 Q61 => ?_
  obtain ⟨rfl, E61, Fv61, Fc61, Fn61, B61⟩ := Q61
  show Go p e below _ (T61.setTop (mkF m 5 #[.val (.ref o), .val (.ref x)] [(.ref o)]))
  refine P61.xs (fun hA hx hy t k => XS.pop hA hx rfl (hb hy d12_5) rfl rfl k) ?_
  show Go p e below _ (T61.setTop (mkF m 6 #[.val (.ref o), .val (.ref x)] []))
  refine P61.xs (fun hA hx hy t k => XS.aloadN hA hx rfl (hb hy d12_6) rfl rfl  k) ?_
  show Go p e below _ (T61.setTop (mkF m 7 #[.val (.ref o), .val (.ref x)] [(.ref o)]))
  have Ec62 : Exa Z h61 x "java/lang/String" := (Ex.keep K61)
  have Fc63 : Fld Z h61 x "java/lang/String" "value" "[B" (.ref tt) := (V.keep K61 (ninS (Exa.ne Ex E (by decide)) (ninS (Exa.neArv Ex B (hw _ (List.mem_of_getElem? (i := 5) rfl))) nin0)))
  have Fc64 : Fld Z h61 x "java/lang/String" "coder" "B" (.int (0 : Int32)) := (C.keep K61 (ninS (Exa.ne Ex E (by decide)) (ninS (Exa.neArv Ex B (hw _ (List.mem_of_getElem? (i := 5) rfl))) nin0)))
  have Ac65 : Arv Z h61 tt kt .byte (Int32.ofNat ds.length) ((ds.map StrChars.lo8).map Value.int) (.int 0) := (A.keep K61 (ninS (Ne.symm (Exa.neArv E A (hw _ (List.mem_of_getElem? (i := 61) rfl)))) (ninS hne nin0)))
  exact P61.retR rfl rfl rfl d12_7 (by decide) (by decide) ⟨rfl, E61, Fv61, Fc61, Fn61, B61⟩

def R_mAI : Room := { frames := 1, cells := 1, slots := 16, locals := 12 }
def Q_mAI (Z : State) (o : Addr) (h0 : Heap) (v : Option Value) (h : Heap) : Prop := v = none ∧ ∃ (bb : Addr) (kd : ClassId), h0.size ≤ bb ∧ Exa Z h o "java/lang/StringBuilder" ∧ Fld Z h o "java/lang/AbstractStringBuilder" "value" "[B" (.ref bb) ∧ Fld Z h o "java/lang/AbstractStringBuilder" "coder" "B" (.int (0 : Int32)) ∧ Fld Z h o "java/lang/AbstractStringBuilder" "count" "I" (.int (Int32.ofNat ([] : List Int32).length)) ∧ Arv Z h bb kd .byte (16 : Int32) (fill 16 ([] : List Int32)) (.int 0)
set_option maxRecDepth 65536 in
set_option maxHeartbeats 40000000 in
theorem mAI (l : Launch) (Z : State) (a0 : Array Value) (hw : ∀ d ∈ tables_1, d.before a0 Z = true) (hEL : EW Z a0 EL0) (zc : Int32) (S0 : Sta Z Z.heap "java/lang/String" "COMPACT_STRINGS" "Z" (.int zc)) (Pz : ¬ zc = 0) (w_M : Addr) (S_M : Sta Z Z.heap "java/util/ImmutableCollections" "EMPTY_MAP" "Ljava/util/ImmutableCollections$MapN;" (.ref w_M)) (E_M : Exa Z Z.heap w_M "java/util/ImmutableCollections$MapN") (fm : Value) (S_f : Sta Z Z.heap "jdk/internal/util/Preconditions" "SIOOBE_FORMATTER" "Ljava/util/function/BiFunction;" fm) (rf : fm.isRef = true) (o : Addr) (h0 : Heap) (hO : Ext Z.heap h0) (E : Exa Z h0 o "java/lang/StringBuilder") (Fv : Fld Z h0 o "java/lang/AbstractStringBuilder" "value" "[B" .null) (Fc : Fld Z h0 o "java/lang/AbstractStringBuilder" "coder" "B" (.int (0 : Int32))) (Fn : Fld Z h0 o "java/lang/AbstractStringBuilder" "count" "I" (.int (0 : Int32))) (go : Z.heap.size ≤ o) :
    Con l Z EL0 [] (⟨"java/lang/AbstractStringBuilder", "<init>", "(I)V"⟩ : MethodName) jdk_68_method_2_code 2 none R_mAI #[(.ref o), (.int (16 : Int32))] h0 [o] (Q_mAI Z o h0) := by
  refine Con.of (y := (⟨"java/lang/AbstractStringBuilder", "<init>", "(I)V"⟩ : MethodName)) (f0 := fun m => mkF m 0 #[.val (.ref o), .val (.int (16 : Int32))] []) (plainFor_of_name pn_1) hEL hO (fun m => by skip <;> first | (simp [entryFrame, mkF, argsToLocals, Value.category, maxLocals]; done) | rfl) ?_
  intro p e s m below meth c s₁ P0
  show Go p e below _ (s₁.setTop (mkF m 0 #[.val (.ref o), .val (.int (16 : Int32))] []))
  refine P0.xs (fun hA hx hy t k => XS.aloadN hA hx rfl (hb hy d11_0) rfl rfl  k) ?_
  show Go p e below _ (s₁.setTop (mkF m 1 #[.val (.ref o), .val (.int (16 : Int32))] [(.ref o)]))
  refine P0.init0 (W := 0) (hw _ (List.mem_of_getElem? (i := 72) rfl)) (hw _ (List.mem_of_getElem? (i := 16) rfl)) (hw _ (List.mem_of_getElem? (i := 17) rfl)) d11_1 rfl (by decide) (Nat.le_of_eq rfl) (by decide) fun T66 P66 => ?_
  show Go p e below _ (T66.setTop (mkF m 4 #[.val (.ref o), .val (.int (16 : Int32))] []))
  refine P66.getS (host := "") (Or.inl (hw _ (List.mem_of_getElem? (i := 73) rfl))) Via.refl S0 d11_4 fun T67 P67 => ?_
  show Go p e below _ (T67.setTop (mkF m 7 #[.val (.ref o), .val (.int (16 : Int32))] [(.int zc)]))
  refine P67.xs (fun hA hx hy t k => XS.ifNo hA hx rfl (hb hy d11_7) rfl ((if0 _ _).trans (feq Pz).1) k) ?_
  show Go p e below _ (T67.setTop (mkF m 10 #[.val (.ref o), .val (.int (16 : Int32))] []))
  refine P67.xs (fun hA hx hy t k => XS.aloadN hA hx rfl (hb hy d11_10) rfl rfl  k) ?_
  show Go p e below _ (T67.setTop (mkF m 11 #[.val (.ref o), .val (.int (16 : Int32))] [(.ref o)]))
  refine P67.xs (fun hA hx hy t k => XS.iloadN hA hx rfl (hb hy d11_11) rfl  k) ?_
  show Go p e below _ (T67.setTop (mkF m 12 #[.val (.ref o), .val (.int (16 : Int32))] [(.int (16 : Int32)), (.ref o)]))
  refine P67.newPB (hw _ (List.mem_of_getElem? (i := 19) rfl)) d11_12 (by decide) (cap := 16) (by decide) (by decide) (by decide) (by decide) fun T68 h68 o68 k68 vm68 g68 PV68 SF68 E68 A68 => ?_
  have ne_o_o68 : o ≠ o68 := Nat.ne_of_lt (Nat.lt_of_lt_of_le E.lt (Nat.le_of_eq g68.symm))
  have gz_o68 : Z.heap.size ≤ o68 := Nat.le_trans P67.old.1 (Nat.le_of_eq g68.symm)
  have gw_o68 : h0.size ≤ o68 := Nat.le_trans P67.kept.1 (Nat.le_of_eq g68.symm)
  have P68 : Pos p l e R_mAI s m #[(.ref o), (.int (16 : Int32))] below meth c "java/lang/AbstractStringBuilder" "<init>" jdk_68_method_2_code 2 none Z a0 EL0 h0 [o] T68 h68 1 16 := ⟨vm68, PV68⟩
  have V68 : Arv Z h68 o68 k68 .byte (16 : Int32) [(.int (0 : Int32)), (.int (0 : Int32)), (.int (0 : Int32)), (.int (0 : Int32)), (.int (0 : Int32)), (.int (0 : Int32)), (.int (0 : Int32)), (.int (0 : Int32)), (.int (0 : Int32)), (.int (0 : Int32)), (.int (0 : Int32)), (.int (0 : Int32)), (.int (0 : Int32)), (.int (0 : Int32)), (.int (0 : Int32)), (.int (0 : Int32))] (.int (0 : Int32)) := Arv.pad A68 (pad_rep [] (.int (0 : Int32)) 16)
  show Go p e below _ (T68.setTop (mkF m 14 #[.val (.ref o), .val (.int (16 : Int32))] [(.ref o68), (.ref o)]))
  have Ec70 : Exa Z h68 o "java/lang/StringBuilder" := (E.ext E68)
  have Fc71 : Fld Z h68 o "java/lang/AbstractStringBuilder" "value" "[B" .null := (Fv.ext E68)
  have Fc72 : Fld Z h68 o "java/lang/AbstractStringBuilder" "coder" "B" (.int (0 : Int32)) := (Fc.ext E68)
  have Fc73 : Fld Z h68 o "java/lang/AbstractStringBuilder" "count" "I" (.int (0 : Int32)) := (Fn.ext E68)
  refine P68.putF (hw _ (List.mem_of_getElem? (i := 74) rfl)) Via.refl Fc71 Ec70 (Or.inl (hw _ (List.mem_of_getElem? (i := 75) rfl))) (hw _ (List.mem_of_getElem? (i := 61) rfl)) (ty := (.array .byte)) (v' := (.ref o68)) (by decide) rfl rfl d11_14 (fun vm _ hal _ => Safe.exa hal Ec70 (by decide) (by decide)) go (Or.inl (List.mem_of_getElem? (i := 0) rfl)) fun T69 h69 P69 W69 => ?_
  show Go p e below _ (T69.setTop (mkF m 17 #[.val (.ref o), .val (.int (16 : Int32))] []))
  refine P69.xs (fun hA hx hy t k => XS.aloadN hA hx rfl (hb hy d11_17) rfl rfl  k) ?_
  show Go p e below _ (T69.setTop (mkF m 18 #[.val (.ref o), .val (.int (16 : Int32))] [(.ref o)]))
  refine P69.xs (fun hA hx hy t k => XS.iconst hA hx rfl (hb hy d11_18) k) ?_
  show Go p e below _ (T69.setTop (mkF m 19 #[.val (.ref o), .val (.int (16 : Int32))] [(.int (0 : Int32)), (.ref o)]))
  have Ec75 : Exa Z h69 o "java/lang/StringBuilder" := (Ec70.wr W69)
  have Fc76 : Fld Z h69 o "java/lang/AbstractStringBuilder" "value" "[B" (.ref o68) := (Fc71.same W69)
  have Fc77 : Fld Z h69 o "java/lang/AbstractStringBuilder" "coder" "B" (.int (0 : Int32)) := (Fc72.other W69 (Or.inr (slot_ne (Or.inl (hw _ (List.mem_of_getElem? (i := 77) rfl))) (Or.inl (hw _ (List.mem_of_getElem? (i := 75) rfl))) (by decide) (t := .byte) (t' := (.array .byte)) (by decide) (by decide))))
  have Fc78 : Fld Z h69 o "java/lang/AbstractStringBuilder" "count" "I" (.int (0 : Int32)) := (Fc73.other W69 (Or.inr (slot_ne (Or.inl (hw _ (List.mem_of_getElem? (i := 100) rfl))) (Or.inl (hw _ (List.mem_of_getElem? (i := 75) rfl))) (by decide) (t := .int) (t' := (.array .byte)) (by decide) (by decide))))
  have Ac79 : Arv Z h69 o68 k68 .byte (16 : Int32) [(.int (0 : Int32)), (.int (0 : Int32)), (.int (0 : Int32)), (.int (0 : Int32)), (.int (0 : Int32)), (.int (0 : Int32)), (.int (0 : Int32)), (.int (0 : Int32)), (.int (0 : Int32)), (.int (0 : Int32)), (.int (0 : Int32)), (.int (0 : Int32)), (.int (0 : Int32)), (.int (0 : Int32)), (.int (0 : Int32)), (.int (0 : Int32))] (.int (0 : Int32)) := (V68.other W69 (Ne.symm ne_o_o68))
  refine P69.putF (hw _ (List.mem_of_getElem? (i := 76) rfl)) Via.refl Fc77 Ec75 (Or.inl (hw _ (List.mem_of_getElem? (i := 77) rfl))) (hw _ (List.mem_of_getElem? (i := 61) rfl)) (ty := .byte) (v' := (.int (0 : Int32))) (by decide) rfl rfl d11_19 (fun vm _ hal _ => Safe.exa hal Ec75 (by decide) (by decide)) go (Or.inl (List.mem_of_getElem? (i := 0) rfl)) fun T74 h74 P74 W74 => ?_
  show Go p e below _ (T74.setTop (mkF m 22 #[.val (.ref o), .val (.int (16 : Int32))] []))
  refine P74.xs (fun hA hx hy t k => XS.goto hA hx rfl (pc0 := 22) (pc' := 38) rfl (hb hy d11_22) (by decide) (by decide) k) ?_
  show Go p e below _ (T74.setTop (mkF m 38 #[.val (.ref o), .val (.int (16 : Int32))] []))
  have Ec80 : Exa Z h74 o "java/lang/StringBuilder" := (Ec75.wr W74)
  have Fc81 : Fld Z h74 o "java/lang/AbstractStringBuilder" "value" "[B" (.ref o68) := (Fc76.other W74 (Or.inr (slot_ne (Or.inl (hw _ (List.mem_of_getElem? (i := 75) rfl))) (Or.inl (hw _ (List.mem_of_getElem? (i := 77) rfl))) (by decide) (t := (.array .byte)) (t' := .byte) (by decide) (by decide))))
  have Fc82 : Fld Z h74 o "java/lang/AbstractStringBuilder" "coder" "B" (.int (0 : Int32)) := (Fc77.same W74)
  have Fc83 : Fld Z h74 o "java/lang/AbstractStringBuilder" "count" "I" (.int (0 : Int32)) := (Fc78.other W74 (Or.inr (slot_ne (Or.inl (hw _ (List.mem_of_getElem? (i := 100) rfl))) (Or.inl (hw _ (List.mem_of_getElem? (i := 77) rfl))) (by decide) (t := .int) (t' := .byte) (by decide) (by decide))))
  have Ac84 : Arv Z h74 o68 k68 .byte (16 : Int32) [(.int (0 : Int32)), (.int (0 : Int32)), (.int (0 : Int32)), (.int (0 : Int32)), (.int (0 : Int32)), (.int (0 : Int32)), (.int (0 : Int32)), (.int (0 : Int32)), (.int (0 : Int32)), (.int (0 : Int32)), (.int (0 : Int32)), (.int (0 : Int32)), (.int (0 : Int32)), (.int (0 : Int32)), (.int (0 : Int32)), (.int (0 : Int32))] (.int (0 : Int32)) := (Ac79.other W74 (Ne.symm ne_o_o68))
  exact P74.retV rfl d11_38 (by decide) (by decide) ⟨rfl, o68, _, gw_o68, Ec80, Fc81, Fc82, Fc83, Ac84⟩

def R_mSI : Room := { frames := 2, cells := 1, slots := 16, locals := 25 }
def Q_mSI (Z : State) (o : Addr) (h0 : Heap) (v : Option Value) (h : Heap) : Prop := v = none ∧ ∃ (bb : Addr) (kd : ClassId), h0.size ≤ bb ∧ Exa Z h o "java/lang/StringBuilder" ∧ Fld Z h o "java/lang/AbstractStringBuilder" "value" "[B" (.ref bb) ∧ Fld Z h o "java/lang/AbstractStringBuilder" "coder" "B" (.int (0 : Int32)) ∧ Fld Z h o "java/lang/AbstractStringBuilder" "count" "I" (.int (Int32.ofNat ([] : List Int32).length)) ∧ Arv Z h bb kd .byte (16 : Int32) (fill 16 ([] : List Int32)) (.int 0)
set_option maxRecDepth 65536 in
set_option maxHeartbeats 40000000 in
theorem mSI (l : Launch) (Z : State) (a0 : Array Value) (hw : ∀ d ∈ tables_1, d.before a0 Z = true) (hEL : EW Z a0 EL0) (zc : Int32) (S0 : Sta Z Z.heap "java/lang/String" "COMPACT_STRINGS" "Z" (.int zc)) (Pz : ¬ zc = 0) (w_M : Addr) (S_M : Sta Z Z.heap "java/util/ImmutableCollections" "EMPTY_MAP" "Ljava/util/ImmutableCollections$MapN;" (.ref w_M)) (E_M : Exa Z Z.heap w_M "java/util/ImmutableCollections$MapN") (fm : Value) (S_f : Sta Z Z.heap "jdk/internal/util/Preconditions" "SIOOBE_FORMATTER" "Ljava/util/function/BiFunction;" fm) (rf : fm.isRef = true) (o : Addr) (h0 : Heap) (hO : Ext Z.heap h0) (E : Exa Z h0 o "java/lang/StringBuilder") (Fv : Fld Z h0 o "java/lang/AbstractStringBuilder" "value" "[B" .null) (Fc : Fld Z h0 o "java/lang/AbstractStringBuilder" "coder" "B" (.int (0 : Int32))) (Fn : Fld Z h0 o "java/lang/AbstractStringBuilder" "count" "I" (.int (0 : Int32))) (go : Z.heap.size ≤ o) :
    Con l Z EL0 [] (⟨"java/lang/StringBuilder", "<init>", "()V"⟩ : MethodName) jdk_67_method_1_code 1 none R_mSI #[(.ref o)] h0 [o] (Q_mSI Z o h0) := by
  refine Con.of (y := (⟨"java/lang/StringBuilder", "<init>", "()V"⟩ : MethodName)) (f0 := fun m => mkF m 0 #[.val (.ref o)] []) (plainFor_of_name pn_2) hEL hO (fun m => by skip <;> first | (simp [entryFrame, mkF, argsToLocals, Value.category, maxLocals]; done) | rfl) ?_
  intro p e s m below meth c s₁ P0
  show Go p e below _ (s₁.setTop (mkF m 0 #[.val (.ref o)] []))
  refine P0.xs (fun hA hx hy t k => XS.aloadN hA hx rfl (hb hy d10_0) rfl rfl  k) ?_
  show Go p e below _ (s₁.setTop (mkF m 1 #[.val (.ref o)] [(.ref o)]))
  refine P0.xs (fun hA hx hy t k => XS.bipush hA hx rfl (hb hy d10_1) k) ?_
  show Go p e below _ (s₁.setTop (mkF m 3 #[.val (.ref o)] [(.int (16 : Int32)), (.ref o)]))
  refine P0.callI rfl (hw _ (List.mem_of_getElem? (i := 66) rfl)) (hw _ (List.mem_of_getElem? (i := 67) rfl)) (hw _ (List.mem_of_getElem? (i := 70) rfl)) (hw _ (List.mem_of_getElem? (i := 71) rfl)) (by decide) (mAI l Z a0 hw hEL zc S0 Pz w_M S_M E_M fm S_f rf o h0 P0.old E Fv Fc Fn go) (W := 0) (by decide) (by decide) (by decide) (by decide) (allS (Or.inl (List.mem_of_getElem? (i := 0) rfl)) all0) pd_5 (argsL := [(.int (16 : Int32))]) rfl rfl rfl (Nat.le_of_eq rfl) d10_3 fun v85 T85 h85 P85 K85 Q85 => ?_
  obtain ⟨rfl, bb85, kd85, gB85, E85, Fv85, Fc85, Fn85, B85⟩ := Q85
  have ne_o_bb85 : o ≠ bb85 := Nat.ne_of_lt (Nat.lt_of_lt_of_le E.lt gB85)
  have gz_bb85 : Z.heap.size ≤ bb85 := Nat.le_trans P0.old.1 gB85
  have gw_bb85 : h0.size ≤ bb85 := Nat.le_trans P0.kept.1 gB85
  show Go p e below _ (T85.setTop (mkF m 6 #[.val (.ref o)] []))
  exact P85.retV rfl d10_6 (by decide) (by decide) ⟨rfl, bb85, _, gw_bb85, E85, Fv85, Fc85, Fn85, B85⟩

def R_mGV : Room := { frames := 0, cells := 0, slots := 0, locals := 0 }
def Q_mGV (Z : State) (wv : Value) (h0 : Heap) (v : Option Value) (h : Heap) : Prop := v = some wv ∧ h = h0
set_option maxRecDepth 65536 in
set_option maxHeartbeats 40000000 in
theorem mGV (l : Launch) (Z : State) (a0 : Array Value) (hw : ∀ d ∈ tables_1, d.before a0 Z = true) (hEL : EW Z a0 EL0) (zc : Int32) (S0 : Sta Z Z.heap "java/lang/String" "COMPACT_STRINGS" "Z" (.int zc)) (Pz : ¬ zc = 0) (w_M : Addr) (S_M : Sta Z Z.heap "java/util/ImmutableCollections" "EMPTY_MAP" "Ljava/util/ImmutableCollections$MapN;" (.ref w_M)) (E_M : Exa Z Z.heap w_M "java/util/ImmutableCollections$MapN") (fm : Value) (S_f : Sta Z Z.heap "jdk/internal/util/Preconditions" "SIOOBE_FORMATTER" "Ljava/util/function/BiFunction;" fm) (rf : fm.isRef = true) (o : Addr) (wv : Value) (hwv : wv.isRef = true) (h0 : Heap) (hO : Ext Z.heap h0) (F : Fld Z h0 o "java/lang/AbstractStringBuilder" "value" "[B" wv) :
    Con l Z EL0 [] (⟨"java/lang/AbstractStringBuilder", "getValue", "()[B"⟩ : MethodName) jdk_68_method_64_code 1 (some (.array .byte)) R_mGV #[(.ref o)] h0 [] (Q_mGV Z wv h0) := by
  refine Con.of (y := (⟨"java/lang/AbstractStringBuilder", "getValue", "()[B"⟩ : MethodName)) (f0 := fun m => mkF m 0 #[.val (.ref o)] []) (plainFor_of_name pn_1) hEL hO (fun m => by skip <;> first | (simp [entryFrame, mkF, argsToLocals, Value.category, maxLocals]; done) | rfl) ?_
  intro p e s m below meth c s₁ P0
  show Go p e below _ (s₁.setTop (mkF m 0 #[.val (.ref o)] []))
  refine P0.xs (fun hA hx hy t k => XS.aloadN hA hx rfl (hb hy d23_0) rfl rfl  k) ?_
  show Go p e below _ (s₁.setTop (mkF m 1 #[.val (.ref o)] [(.ref o)]))
  refine P0.getF (host := "") (Or.inl (hw _ (List.mem_of_getElem? (i := 74) rfl))) Via.refl F d23_1 fun T86 P86 => ?_
  show Go p e below _ (T86.setTop (mkF m 4 #[.val (.ref o)] [wv]))
  exact P86.retR rfl rfl hwv d23_4 (by decide) (by decide) ⟨rfl, rfl⟩

def R_mAL : Room := { frames := 0, cells := 0, slots := 0, locals := 0 }
def Q_mAL (Z : State) (n : Int32) (h0 : Heap) (v : Option Value) (h : Heap) : Prop := v = some (.int n) ∧ h = h0
set_option maxRecDepth 65536 in
set_option maxHeartbeats 40000000 in
theorem mAL (l : Launch) (Z : State) (a0 : Array Value) (hw : ∀ d ∈ tables_1, d.before a0 Z = true) (hEL : EW Z a0 EL0) (zc : Int32) (S0 : Sta Z Z.heap "java/lang/String" "COMPACT_STRINGS" "Z" (.int zc)) (Pz : ¬ zc = 0) (w_M : Addr) (S_M : Sta Z Z.heap "java/util/ImmutableCollections" "EMPTY_MAP" "Ljava/util/ImmutableCollections$MapN;" (.ref w_M)) (E_M : Exa Z Z.heap w_M "java/util/ImmutableCollections$MapN") (fm : Value) (S_f : Sta Z Z.heap "jdk/internal/util/Preconditions" "SIOOBE_FORMATTER" "Ljava/util/function/BiFunction;" fm) (rf : fm.isRef = true) (o : Addr) (n : Int32) (h0 : Heap) (hO : Ext Z.heap h0) (E : Exa Z h0 o "java/lang/StringBuilder") (F : Fld Z h0 o "java/lang/AbstractStringBuilder" "count" "I" (.int n)) :
    Con l Z EL0 [] (⟨"java/lang/AbstractStringBuilder", "length", "()I"⟩ : MethodName) jdk_68_method_6_code 1 (some .int) R_mAL #[(.ref o)] h0 [] (Q_mAL Z n h0) := by
  refine Con.of (y := (⟨"java/lang/AbstractStringBuilder", "length", "()I"⟩ : MethodName)) (f0 := fun m => mkF m 0 #[.val (.ref o)] []) (plainFor_of_name pn_1) hEL hO (fun m => by skip <;> first | (simp [entryFrame, mkF, argsToLocals, Value.category, maxLocals]; done) | rfl) ?_
  intro p e s m below meth c s₁ P0
  show Go p e below _ (s₁.setTop (mkF m 0 #[.val (.ref o)] []))
  refine P0.xs (fun hA hx hy t k => XS.aloadN hA hx rfl (hb hy d25_0) rfl rfl  k) ?_
  show Go p e below _ (s₁.setTop (mkF m 1 #[.val (.ref o)] [(.ref o)]))
  refine P0.getF (host := "") (Or.inl (hw _ (List.mem_of_getElem? (i := 99) rfl))) Via.refl F d25_1 fun T87 P87 => ?_
  show Go p e below _ (T87.setTop (mkF m 4 #[.val (.ref o)] [(.int n)]))
  exact P87.retI rfl d25_4 (by decide) (by decide) ⟨rfl, rfl⟩

def R_mSL : Room := { frames := 1, cells := 0, slots := 0, locals := 12 }
def Q_mSL (Z : State) (n : Int32) (h0 : Heap) (v : Option Value) (h : Heap) : Prop := v = some (.int n) ∧ h = h0
set_option maxRecDepth 65536 in
set_option maxHeartbeats 40000000 in
theorem mSL (l : Launch) (Z : State) (a0 : Array Value) (hw : ∀ d ∈ tables_1, d.before a0 Z = true) (hEL : EW Z a0 EL0) (zc : Int32) (S0 : Sta Z Z.heap "java/lang/String" "COMPACT_STRINGS" "Z" (.int zc)) (Pz : ¬ zc = 0) (w_M : Addr) (S_M : Sta Z Z.heap "java/util/ImmutableCollections" "EMPTY_MAP" "Ljava/util/ImmutableCollections$MapN;" (.ref w_M)) (E_M : Exa Z Z.heap w_M "java/util/ImmutableCollections$MapN") (fm : Value) (S_f : Sta Z Z.heap "jdk/internal/util/Preconditions" "SIOOBE_FORMATTER" "Ljava/util/function/BiFunction;" fm) (rf : fm.isRef = true) (o : Addr) (n : Int32) (h0 : Heap) (hO : Ext Z.heap h0) (E : Exa Z h0 o "java/lang/StringBuilder") (F : Fld Z h0 o "java/lang/AbstractStringBuilder" "count" "I" (.int n)) :
    Con l Z EL0 [] (⟨"java/lang/StringBuilder", "length", "()I"⟩ : MethodName) jdk_67_method_93_code 1 (some .int) R_mSL #[(.ref o)] h0 [] (Q_mSL Z n h0) := by
  refine Con.of (y := (⟨"java/lang/StringBuilder", "length", "()I"⟩ : MethodName)) (f0 := fun m => mkF m 0 #[.val (.ref o)] []) (plainFor_of_name pn_2) hEL hO (fun m => by skip <;> first | (simp [entryFrame, mkF, argsToLocals, Value.category, maxLocals]; done) | rfl) ?_
  intro p e s m below meth c s₁ P0
  show Go p e below _ (s₁.setTop (mkF m 0 #[.val (.ref o)] []))
  refine P0.xs (fun hA hx hy t k => XS.aloadN hA hx rfl (hb hy d24_0) rfl rfl  k) ?_
  show Go p e below _ (s₁.setTop (mkF m 1 #[.val (.ref o)] [(.ref o)]))
  refine P0.callU (by decide) (hw _ (List.mem_of_getElem? (i := 150) rfl)) (hw _ (List.mem_of_getElem? (i := 146) rfl)) (hw _ (List.mem_of_getElem? (i := 85) rfl)) (hw _ (List.mem_of_getElem? (i := 104) rfl)) rfl (hw _ (List.mem_of_getElem? (i := 70) rfl)) (hw _ (List.mem_of_getElem? (i := 151) rfl)) (by decide) (Ins.self E) (mAL l Z a0 hw hEL zc S0 Pz w_M S_M E_M fm S_f rf o n h0 P0.old E F) (W := 0) (by decide) (by decide) (by decide) (by decide) all0 pd_4 (argsL := []) rfl rfl rfl (Nat.le_of_eq rfl) d24_1 fun v88 T88 h88 P88 K88 Q88 => ?_
  obtain ⟨hv88, hh88⟩ := Q88
  subst hv88
  rw [hh88] at P88
  show Go p e below _ (T88.setTop (mkF m 4 #[.val (.ref o)] [(.int n)]))
  exact P88.retI rfl d24_4 (by decide) (by decide) ⟨rfl, rfl⟩

def R_mAIL : Room := { frames := 0, cells := 0, slots := 0, locals := 0 }
def Q_mAIL (Z : State)  (h0 : Heap) (v : Option Value) (h : Heap) : Prop := v = some (.int (1 : Int32)) ∧ h = h0
set_option maxRecDepth 65536 in
set_option maxHeartbeats 40000000 in
theorem mAIL (l : Launch) (Z : State) (a0 : Array Value) (hw : ∀ d ∈ tables_1, d.before a0 Z = true) (hEL : EW Z a0 EL0) (zc : Int32) (S0 : Sta Z Z.heap "java/lang/String" "COMPACT_STRINGS" "Z" (.int zc)) (Pz : ¬ zc = 0) (w_M : Addr) (S_M : Sta Z Z.heap "java/util/ImmutableCollections" "EMPTY_MAP" "Ljava/util/ImmutableCollections$MapN;" (.ref w_M)) (E_M : Exa Z Z.heap w_M "java/util/ImmutableCollections$MapN") (fm : Value) (S_f : Sta Z Z.heap "jdk/internal/util/Preconditions" "SIOOBE_FORMATTER" "Ljava/util/function/BiFunction;" fm) (rf : fm.isRef = true) (o : Addr) (h0 : Heap) (hO : Ext Z.heap h0) (Fc : Fld Z h0 o "java/lang/AbstractStringBuilder" "coder" "B" (.int (0 : Int32))) :
    Con l Z EL0 [] (⟨"java/lang/AbstractStringBuilder", "isLatin1", "()Z"⟩ : MethodName) jdk_68_method_68_code 1 (some .boolean) R_mAIL #[(.ref o)] h0 [] (Q_mAIL Z  h0) := by
  refine Con.of (y := (⟨"java/lang/AbstractStringBuilder", "isLatin1", "()Z"⟩ : MethodName)) (f0 := fun m => mkF m 0 #[.val (.ref o)] []) (plainFor_of_name pn_1) hEL hO (fun m => by skip <;> first | (simp [entryFrame, mkF, argsToLocals, Value.category, maxLocals]; done) | rfl) ?_
  intro p e s m below meth c s₁ P0
  show Go p e below _ (s₁.setTop (mkF m 0 #[.val (.ref o)] []))
  refine P0.getS (host := "") (Or.inl (hw _ (List.mem_of_getElem? (i := 73) rfl))) Via.refl S0 d26_0 fun T89 P89 => ?_
  show Go p e below _ (T89.setTop (mkF m 3 #[.val (.ref o)] [(.int zc)]))
  refine P89.xs (fun hA hx hy t k => XS.ifNo hA hx rfl (hb hy d26_3) rfl ((if0 _ _).trans (feq Pz).1) k) ?_
  show Go p e below _ (T89.setTop (mkF m 6 #[.val (.ref o)] []))
  refine P89.xs (fun hA hx hy t k => XS.aloadN hA hx rfl (hb hy d26_6) rfl rfl  k) ?_
  show Go p e below _ (T89.setTop (mkF m 7 #[.val (.ref o)] [(.ref o)]))
  refine P89.getF (host := "") (Or.inl (hw _ (List.mem_of_getElem? (i := 76) rfl))) Via.refl Fc d26_7 fun T90 P90 => ?_
  show Go p e below _ (T90.setTop (mkF m 10 #[.val (.ref o)] [(.int (0 : Int32))]))
  refine P90.xs (fun hA hx hy t k => XS.ifNo hA hx rfl (hb hy d26_10) rfl ((if0 _ _).trans (teq rfl).2) k) ?_
  show Go p e below _ (T90.setTop (mkF m 13 #[.val (.ref o)] []))
  refine P90.xs (fun hA hx hy t k => XS.iconst hA hx rfl (hb hy d26_13) k) ?_
  show Go p e below _ (T90.setTop (mkF m 14 #[.val (.ref o)] [(.int (1 : Int32))]))
  refine P90.xs (fun hA hx hy t k => XS.goto hA hx rfl (pc0 := 14) (pc' := 18) rfl (hb hy d26_14) (by decide) (by decide) k) ?_
  show Go p e below _ (T90.setTop (mkF m 18 #[.val (.ref o)] [(.int (1 : Int32))]))
  exact P90.retN (t := .boolean) rfl (by simp) d26_18 (by decide) (by decide) ⟨rfl, rfl⟩

def R_mChk : Room := { frames := 0, cells := 0, slots := 0, locals := 0 }
def Q_mChk (Z : State)  (h0 : Heap) (v : Option Value) (h : Heap) : Prop := v = none ∧ h = h0
set_option maxRecDepth 65536 in
set_option maxHeartbeats 40000000 in
theorem mChk (l : Launch) (Z : State) (a0 : Array Value) (hw : ∀ d ∈ tables_1, d.before a0 Z = true) (hEL : EW Z a0 EL0) (zc : Int32) (S0 : Sta Z Z.heap "java/lang/String" "COMPACT_STRINGS" "Z" (.int zc)) (Pz : ¬ zc = 0) (w_M : Addr) (S_M : Sta Z Z.heap "java/util/ImmutableCollections" "EMPTY_MAP" "Ljava/util/ImmutableCollections$MapN;" (.ref w_M)) (E_M : Exa Z Z.heap w_M "java/util/ImmutableCollections$MapN") (fm : Value) (S_f : Sta Z Z.heap "jdk/internal/util/Preconditions" "SIOOBE_FORMATTER" "Ljava/util/function/BiFunction;" fm) (rf : fm.isRef = true) (n : Int32) (h0 : Heap) (hO : Ext Z.heap h0) (hn : ¬ n < 0) :
    Con l Z EL0 [] (⟨"java/util/Arrays", "checkLength", "(II)V"⟩ : MethodName) jdk_65_method_131_code 2 none R_mChk #[(.int (0 : Int32)), (.int n)] h0 [] (Q_mChk Z  h0) := by
  refine Con.of (y := (⟨"java/util/Arrays", "checkLength", "(II)V"⟩ : MethodName)) (f0 := fun m => mkF m 0 #[.val (.int (0 : Int32)), .val (.int n)] []) (plainFor_of_name pn_3) hEL hO (fun m => by skip <;> first | (simp [entryFrame, mkF, argsToLocals, Value.category, maxLocals]; done) | rfl) ?_
  intro p e s m below meth c s₁ P0
  show Go p e below _ (s₁.setTop (mkF m 0 #[.val (.int (0 : Int32)), .val (.int n)] []))
  refine P0.xs (fun hA hx hy t k => XS.iloadN hA hx rfl (hb hy d29_0) rfl  k) ?_
  show Go p e below _ (s₁.setTop (mkF m 1 #[.val (.int (0 : Int32)), .val (.int n)] [(.int n)]))
  refine P0.xs (fun hA hx hy t k => XS.iloadN hA hx rfl (hb hy d29_1) rfl  k) ?_
  show Go p e below _ (s₁.setTop (mkF m 2 #[.val (.int (0 : Int32)), .val (.int n)] [(.int (0 : Int32)), (.int n)]))
  refine P0.xs (fun hA hx hy t k => XS.icmpYes hA hx rfl (pc0 := 2) (pc' := 37) rfl (hb hy d29_2) rfl (flt hn).2.1 (by decide) (by decide) k) ?_
  show Go p e below _ (s₁.setTop (mkF m 37 #[.val (.int (0 : Int32)), .val (.int n)] []))
  exact P0.retV rfl d29_37 (by decide) (by decide) ⟨rfl, rfl⟩

def R_mMin : Room := { frames := 0, cells := 0, slots := 0, locals := 0 }
def Q_mMin (Z : State) (n : Int32) (h0 : Heap) (v : Option Value) (h : Heap) : Prop := v = some (.int n) ∧ h = h0
set_option maxRecDepth 65536 in
set_option maxHeartbeats 40000000 in
theorem mMin (l : Launch) (Z : State) (a0 : Array Value) (hw : ∀ d ∈ tables_1, d.before a0 Z = true) (hEL : EW Z a0 EL0) (zc : Int32) (S0 : Sta Z Z.heap "java/lang/String" "COMPACT_STRINGS" "Z" (.int zc)) (Pz : ¬ zc = 0) (w_M : Addr) (S_M : Sta Z Z.heap "java/util/ImmutableCollections" "EMPTY_MAP" "Ljava/util/ImmutableCollections$MapN;" (.ref w_M)) (E_M : Exa Z Z.heap w_M "java/util/ImmutableCollections$MapN") (fm : Value) (S_f : Sta Z Z.heap "jdk/internal/util/Preconditions" "SIOOBE_FORMATTER" "Ljava/util/function/BiFunction;" fm) (rf : fm.isRef = true) (n : Int32) (h0 : Heap) (hO : Ext Z.heap h0) (hn : n < (16 : Int32)) :
    Con l Z EL0 [] (⟨"java/lang/Math", "min", "(II)I"⟩ : MethodName) jdk_29_method_69_code 2 (some .int) R_mMin #[(.int (16 : Int32)), (.int n)] h0 [] (Q_mMin Z n h0) := by
  refine Con.of (y := (⟨"java/lang/Math", "min", "(II)I"⟩ : MethodName)) (f0 := fun m => mkF m 0 #[.val (.int (16 : Int32)), .val (.int n)] []) (by decide +kernel) hEL hO (fun m => by skip <;> first | (simp [entryFrame, mkF, argsToLocals, Value.category, maxLocals]; done) | rfl) ?_
  intro p e s m below meth c s₁ P0
  show Go p e below _ (s₁.setTop (mkF m 0 #[.val (.int (16 : Int32)), .val (.int n)] []))
  refine P0.xs (fun hA hx hy t k => XS.iloadN hA hx rfl (hb hy d30_0) rfl  k) ?_
  show Go p e below _ (s₁.setTop (mkF m 1 #[.val (.int (16 : Int32)), .val (.int n)] [(.int (16 : Int32))]))
  refine P0.xs (fun hA hx hy t k => XS.iloadN hA hx rfl (hb hy d30_1) rfl  k) ?_
  show Go p e below _ (s₁.setTop (mkF m 2 #[.val (.int (16 : Int32)), .val (.int n)] [(.int n), (.int (16 : Int32))]))
  refine P0.xs (fun hA hx hy t k => XS.icmpYes hA hx rfl (pc0 := 2) (pc' := 9) rfl (hb hy d30_2) rfl (tlt hn).2.2.1 (by decide) (by decide) k) ?_
  show Go p e below _ (s₁.setTop (mkF m 9 #[.val (.int (16 : Int32)), .val (.int n)] []))
  refine P0.xs (fun hA hx hy t k => XS.iloadN hA hx rfl (hb hy d30_9) rfl  k) ?_
  show Go p e below _ (s₁.setTop (mkF m 10 #[.val (.int (16 : Int32)), .val (.int n)] [(.int n)]))
  exact P0.retI rfl d30_10 (by decide) (by decide) ⟨rfl, rfl⟩

def R_mCRB : Room := { frames := 1, cells := 1, slots := 5, locals := 18 }
def Q_mCRB (Z : State) (cs : List Int32) (h0 : Heap) (v : Option Value) (h : Heap) : Prop := ∃ (x : Addr) (kb : ClassId), v = some (.ref x) ∧ h0.size ≤ x ∧ Arv Z h x kb .byte (Int32.ofNat cs.length) ((cs.map StrChars.lo8).map Value.int) (.int 0)
set_option maxRecDepth 65536 in
set_option maxHeartbeats 40000000 in
theorem mCRB (l : Launch) (Z : State) (a0 : Array Value) (hw : ∀ d ∈ tables_1, d.before a0 Z = true) (hEL : EW Z a0 EL0) (zc : Int32) (S0 : Sta Z Z.heap "java/lang/String" "COMPACT_STRINGS" "Z" (.int zc)) (Pz : ¬ zc = 0) (w_M : Addr) (S_M : Sta Z Z.heap "java/util/ImmutableCollections" "EMPTY_MAP" "Ljava/util/ImmutableCollections$MapN;" (.ref w_M)) (E_M : Exa Z Z.heap w_M "java/util/ImmutableCollections$MapN") (fm : Value) (S_f : Sta Z Z.heap "jdk/internal/util/Preconditions" "SIOOBE_FORMATTER" "Ljava/util/function/BiFunction;" fm) (rf : fm.isRef = true) (bb : Addr) (kd : ClassId) (cs : List Int32) (h0 : Heap) (hO : Ext Z.heap h0) (B : Arv Z h0 bb kd .byte (16 : Int32) (fill 16 cs) (.int 0)) (h1 : 0 < cs.length) (h5 : cs.length ≤ 5) :
    Con l Z EL0 [] (⟨"java/util/Arrays", "copyOfRangeByte", "([BII)[B"⟩ : MethodName) jdk_65_method_133_code 5 (some (.array .byte)) R_mCRB #[(.ref bb), (.int (0 : Int32)), (.int (Int32.ofNat cs.length))] h0 [] (Q_mCRB Z cs h0) := by
  refine Con.of (y := (⟨"java/util/Arrays", "copyOfRangeByte", "([BII)[B"⟩ : MethodName)) (f0 := fun m => mkF m 0 #[.val (.ref bb), .val (.int (0 : Int32)), .val (.int (Int32.ofNat cs.length)), .unset, .unset] []) (plainFor_of_name pn_3) hEL hO (fun m => by skip <;> first | (simp [entryFrame, mkF, argsToLocals, Value.category, maxLocals]; done) | rfl) ?_
  intro p e s m below meth c s₁ P0
  show Go p e below _ (s₁.setTop (mkF m 0 #[.val (.ref bb), .val (.int (0 : Int32)), .val (.int (Int32.ofNat cs.length)), .unset, .unset] []))
  refine P0.xs (fun hA hx hy t k => XS.iloadN hA hx rfl (hb hy d28_0) rfl  k) ?_
  show Go p e below _ (s₁.setTop (mkF m 1 #[.val (.ref bb), .val (.int (0 : Int32)), .val (.int (Int32.ofNat cs.length)), .unset, .unset] [(.int (0 : Int32))]))
  refine P0.xs (fun hA hx hy t k => XS.iloadN hA hx rfl (hb hy d28_1) rfl  k) ?_
  show Go p e below _ (s₁.setTop (mkF m 2 #[.val (.ref bb), .val (.int (0 : Int32)), .val (.int (Int32.ofNat cs.length)), .unset, .unset] [(.int (Int32.ofNat cs.length)), (.int (0 : Int32))]))
  refine P0.callS (hw _ (List.mem_of_getElem? (i := 164) rfl)) (hw _ (List.mem_of_getElem? (i := 165) rfl)) (hw _ (List.mem_of_getElem? (i := 159) rfl)) (hw _ (List.mem_of_getElem? (i := 166) rfl)) (by decide) (mChk l Z a0 hw hEL zc S0 Pz w_M S_M E_M fm S_f rf (Int32.ofNat cs.length) h0 P0.old (ofNat_nn (by omega))) (W := 0) (by decide) (by decide) (by decide) (by decide) all0 pd_8 (argsL := [(.int (0 : Int32)), (.int (Int32.ofNat cs.length))]) rfl rfl rfl (Nat.le_of_eq rfl) d28_2 fun v91 T91 h91 P91 K91 Q91 => ?_
  obtain ⟨hv91, hh91⟩ := Q91
  subst hv91
  rw [hh91] at P91
  show Go p e below _ (T91.setTop (mkF m 5 #[.val (.ref bb), .val (.int (0 : Int32)), .val (.int (Int32.ofNat cs.length)), .unset, .unset] []))
  refine P91.xs (fun hA hx hy t k => XS.iloadN hA hx rfl (hb hy d28_5) rfl  k) ?_
  show Go p e below _ (T91.setTop (mkF m 6 #[.val (.ref bb), .val (.int (0 : Int32)), .val (.int (Int32.ofNat cs.length)), .unset, .unset] [(.int (Int32.ofNat cs.length))]))
  refine P91.xs (fun hA hx hy t k => XS.iloadN hA hx rfl (hb hy d28_6) rfl  k) ?_
  show Go p e below _ (T91.setTop (mkF m 7 #[.val (.ref bb), .val (.int (0 : Int32)), .val (.int (Int32.ofNat cs.length)), .unset, .unset] [(.int (0 : Int32)), (.int (Int32.ofNat cs.length))]))
  refine P91.xs (fun hA hx hy t k => XS.isub hA hx rfl (hb hy d28_7) rfl k) ?_
  show Go p e below _ (T91.setTop (mkF m 8 #[.val (.ref bb), .val (.int (0 : Int32)), .val (.int (Int32.ofNat cs.length)), .unset, .unset] [(.int ((Int32.ofNat cs.length) - (0 : Int32)))]))
  rw [subZ]
  show Go p e below _ (T91.setTop (mkF m 8 #[.val (.ref bb), .val (.int (0 : Int32)), .val (.int (Int32.ofNat cs.length)), .unset, .unset] [(.int (Int32.ofNat cs.length))]))
  refine P91.xs (fun hA hx hy t k => XS.istoreN hA hx rfl (hb hy d28_8) rfl (l' := #[.val (.ref bb), .val (.int (0 : Int32)), .val (.int (Int32.ofNat cs.length)), .val (.int (Int32.ofNat cs.length)), .unset]) rfl k) ?_
  show Go p e below _ (T91.setTop (mkF m 9 #[.val (.ref bb), .val (.int (0 : Int32)), .val (.int (Int32.ofNat cs.length)), .val (.int (Int32.ofNat cs.length)), .unset] []))
  refine P91.xs (fun hA hx hy t k => XS.iloadN hA hx rfl (hb hy d28_9) rfl  k) ?_
  show Go p e below _ (T91.setTop (mkF m 10 #[.val (.ref bb), .val (.int (0 : Int32)), .val (.int (Int32.ofNat cs.length)), .val (.int (Int32.ofNat cs.length)), .unset] [(.int (Int32.ofNat cs.length))]))
  refine P91.newPB (hw _ (List.mem_of_getElem? (i := 19) rfl)) d28_10 (ofNat_nn (by omega)) (cap := 5) (by rw [ofNat_small (n := cs.length) (by omega)]; exact h5) (by decide) (by decide) (by decide) fun T92 h92 o92 k92 vm92 g92 PV92 SF92 E92 A92 => ?_
  have ne_bb_o92 : bb ≠ o92 := Nat.ne_of_lt (Nat.lt_of_lt_of_le B.lt (Nat.le_of_eq g92.symm))
  have gz_o92 : Z.heap.size ≤ o92 := Nat.le_trans P91.old.1 (Nat.le_of_eq g92.symm)
  have gw_o92 : h0.size ≤ o92 := Nat.le_trans P91.kept.1 (Nat.le_of_eq g92.symm)
  have P92 : Pos p l e R_mCRB s m #[(.ref bb), (.int (0 : Int32)), (.int (Int32.ofNat cs.length))] below meth c "java/util/Arrays" "copyOfRangeByte" jdk_65_method_133_code 5 (some (.array .byte)) Z a0 EL0 h0 [] T92 h92 1 5 := ⟨vm92, PV92⟩
  have V92 : Arv Z h92 o92 k92 .byte (Int32.ofNat cs.length) (List.replicate cs.length (.int 0)) (.int 0) := Arv.pad A92 (pad_rep [] _ cs.length)
  show Go p e below _ (T92.setTop (mkF m 12 #[.val (.ref bb), .val (.int (0 : Int32)), .val (.int (Int32.ofNat cs.length)), .val (.int (Int32.ofNat cs.length)), .unset] [(.ref o92)]))
  refine P92.xs (fun hA hx hy t k => XS.astore hA hx rfl (hb hy d28_12) rfl rfl (l' := #[.val (.ref bb), .val (.int (0 : Int32)), .val (.int (Int32.ofNat cs.length)), .val (.int (Int32.ofNat cs.length)), .val (.ref o92)]) rfl k) ?_
  show Go p e below _ (T92.setTop (mkF m 14 #[.val (.ref bb), .val (.int (0 : Int32)), .val (.int (Int32.ofNat cs.length)), .val (.int (Int32.ofNat cs.length)), .val (.ref o92)] []))
  refine P92.xs (fun hA hx hy t k => XS.aloadN hA hx rfl (hb hy d28_14) rfl rfl  k) ?_
  show Go p e below _ (T92.setTop (mkF m 15 #[.val (.ref bb), .val (.int (0 : Int32)), .val (.int (Int32.ofNat cs.length)), .val (.int (Int32.ofNat cs.length)), .val (.ref o92)] [(.ref bb)]))
  refine P92.xs (fun hA hx hy t k => XS.iloadN hA hx rfl (hb hy d28_15) rfl  k) ?_
  show Go p e below _ (T92.setTop (mkF m 16 #[.val (.ref bb), .val (.int (0 : Int32)), .val (.int (Int32.ofNat cs.length)), .val (.int (Int32.ofNat cs.length)), .val (.ref o92)] [(.int (0 : Int32)), (.ref bb)]))
  refine P92.xs (fun hA hx hy t k => XS.aload hA hx rfl (hb hy d28_16) rfl rfl  k) ?_
  show Go p e below _ (T92.setTop (mkF m 18 #[.val (.ref bb), .val (.int (0 : Int32)), .val (.int (Int32.ofNat cs.length)), .val (.int (Int32.ofNat cs.length)), .val (.ref o92)] [(.ref o92), (.int (0 : Int32)), (.ref bb)]))
  refine P92.xs (fun hA hx hy t k => XS.iconst hA hx rfl (hb hy d28_18) k) ?_
  show Go p e below _ (T92.setTop (mkF m 19 #[.val (.ref bb), .val (.int (0 : Int32)), .val (.int (Int32.ofNat cs.length)), .val (.int (Int32.ofNat cs.length)), .val (.ref o92)] [(.int (0 : Int32)), (.ref o92), (.int (0 : Int32)), (.ref bb)]))
  refine P92.xs (fun hA hx hy t k => XS.aloadN hA hx rfl (hb hy d28_19) rfl rfl  k) ?_
  show Go p e below _ (T92.setTop (mkF m 20 #[.val (.ref bb), .val (.int (0 : Int32)), .val (.int (Int32.ofNat cs.length)), .val (.int (Int32.ofNat cs.length)), .val (.ref o92)] [(.ref bb), (.int (0 : Int32)), (.ref o92), (.int (0 : Int32)), (.ref bb)]))
  refine P92.alen (B.ext E92) d28_20 ?_
  show Go p e below _ (T92.setTop (mkF m 21 #[.val (.ref bb), .val (.int (0 : Int32)), .val (.int (Int32.ofNat cs.length)), .val (.int (Int32.ofNat cs.length)), .val (.ref o92)] [(.int (16 : Int32)), (.int (0 : Int32)), (.ref o92), (.int (0 : Int32)), (.ref bb)]))
  refine P92.xs (fun hA hx hy t k => XS.iloadN hA hx rfl (hb hy d28_21) rfl  k) ?_
  show Go p e below _ (T92.setTop (mkF m 22 #[.val (.ref bb), .val (.int (0 : Int32)), .val (.int (Int32.ofNat cs.length)), .val (.int (Int32.ofNat cs.length)), .val (.ref o92)] [(.int (0 : Int32)), (.int (16 : Int32)), (.int (0 : Int32)), (.ref o92), (.int (0 : Int32)), (.ref bb)]))
  refine P92.xs (fun hA hx hy t k => XS.isub hA hx rfl (hb hy d28_22) rfl k) ?_
  show Go p e below _ (T92.setTop (mkF m 23 #[.val (.ref bb), .val (.int (0 : Int32)), .val (.int (Int32.ofNat cs.length)), .val (.int (Int32.ofNat cs.length)), .val (.ref o92)] [(.int ((16 : Int32) - (0 : Int32))), (.int (0 : Int32)), (.ref o92), (.int (0 : Int32)), (.ref bb)]))
  rw [subZ]
  show Go p e below _ (T92.setTop (mkF m 23 #[.val (.ref bb), .val (.int (0 : Int32)), .val (.int (Int32.ofNat cs.length)), .val (.int (Int32.ofNat cs.length)), .val (.ref o92)] [(.int (16 : Int32)), (.int (0 : Int32)), (.ref o92), (.int (0 : Int32)), (.ref bb)]))
  refine P92.xs (fun hA hx hy t k => XS.iloadN hA hx rfl (hb hy d28_23) rfl  k) ?_
  show Go p e below _ (T92.setTop (mkF m 24 #[.val (.ref bb), .val (.int (0 : Int32)), .val (.int (Int32.ofNat cs.length)), .val (.int (Int32.ofNat cs.length)), .val (.ref o92)] [(.int (Int32.ofNat cs.length)), (.int (16 : Int32)), (.int (0 : Int32)), (.ref o92), (.int (0 : Int32)), (.ref bb)]))
  have Ac94 : Arv Z h92 bb kd .byte (16 : Int32) (fill 16 cs) (.int 0) := (B.ext E92)
  refine P92.callS (hw _ (List.mem_of_getElem? (i := 167) rfl)) (hw _ (List.mem_of_getElem? (i := 168) rfl)) (hw _ (List.mem_of_getElem? (i := 169) rfl)) (hw _ (List.mem_of_getElem? (i := 170) rfl)) (by decide) (mMin l Z a0 hw hEL zc S0 Pz w_M S_M E_M fm S_f rf (Int32.ofNat cs.length) h92 P92.old (lt16 h5)) (W := 4) (by decide) (by decide) (by decide) (by decide) all0 pd_9 (argsL := [(.int (16 : Int32)), (.int (Int32.ofNat cs.length))]) rfl rfl rfl (Nat.le_of_eq rfl) d28_24 fun v93 T93 h93 P93 K93 Q93 => ?_
  obtain ⟨hv93, hh93⟩ := Q93
  subst hv93
  rw [hh93] at P93
  show Go p e below _ (T93.setTop (mkF m 27 #[.val (.ref bb), .val (.int (0 : Int32)), .val (.int (Int32.ofNat cs.length)), .val (.int (Int32.ofNat cs.length)), .val (.ref o92)] [(.int (Int32.ofNat cs.length)), (.int (0 : Int32)), (.ref o92), (.int (0 : Int32)), (.ref bb)]))
  refine P93.cpB (W := 0) (hw _ (List.mem_of_getElem? (i := 171) rfl)) (hw _ (List.mem_of_getElem? (i := 125) rfl)) (hw _ (List.mem_of_getElem? (i := 123) rfl)) (hw _ (List.mem_of_getElem? (i := 124) rfl)) Ac94 V92 (by decide) (by decide) (ofNat_nn (by omega)) (by rw [ofNat_small (n := cs.length) (by omega), show (0 : Int32).toNatClampNeg = 0 from rfl]; show 0 + cs.length ≤ 16; omega) (by rw [ofNat_small (n := cs.length) (by omega), show (0 : Int32).toNatClampNeg = 0 from rfl]; omega) (us := ((cs.map StrChars.lo8).map Value.int)) (by rw [ofNat_small (n := cs.length) (by omega)]; exact ((range_get (by rw [fill_len (by omega)]; omega)).trans fill_take).symm) (by rw [ofNat_small (n := cs.length) (by omega), show (0 : Int32).toNatClampNeg = 0 from rfl]; simp) (vr := ((cs.map StrChars.lo8).map Value.int)) (by rw [ofNat_small (n := cs.length) (by omega), show (0 : Int32).toNatClampNeg = 0 from rfl]; simp) (fun vm _ hal _ => safeHd hal (hLh hw) V92 (by rw [ofNat_small (n := cs.length) (by omega)]; exact h1) (rep0 _ _)) gz_o92 (Or.inr gw_o92) rfl (by decide) (Nat.le_of_eq rfl) (by decide) d28_27 fun T95 h95 P95 K95 V95 => ?_
  show Go p e below _ (T95.setTop (mkF m 30 #[.val (.ref bb), .val (.int (0 : Int32)), .val (.int (Int32.ofNat cs.length)), .val (.int (Int32.ofNat cs.length)), .val (.ref o92)] []))
  refine P95.xs (fun hA hx hy t k => XS.aload hA hx rfl (hb hy d28_30) rfl rfl  k) ?_
  show Go p e below _ (T95.setTop (mkF m 32 #[.val (.ref bb), .val (.int (0 : Int32)), .val (.int (Int32.ofNat cs.length)), .val (.int (Int32.ofNat cs.length)), .val (.ref o92)] [(.ref o92)]))
  exact P95.retR rfl rfl rfl d28_32 (by decide) (by decide) ⟨o92, _, rfl, gw_o92, V95⟩

def R_mCR : Room := { frames := 2, cells := 1, slots := 5, locals := 34 }
def Q_mCR (Z : State) (cs : List Int32) (h0 : Heap) (v : Option Value) (h : Heap) : Prop := ∃ (x : Addr) (kb : ClassId), v = some (.ref x) ∧ h0.size ≤ x ∧ Arv Z h x kb .byte (Int32.ofNat cs.length) ((cs.map StrChars.lo8).map Value.int) (.int 0)
set_option maxRecDepth 65536 in
set_option maxHeartbeats 40000000 in
theorem mCR (l : Launch) (Z : State) (a0 : Array Value) (hw : ∀ d ∈ tables_1, d.before a0 Z = true) (hEL : EW Z a0 EL0) (zc : Int32) (S0 : Sta Z Z.heap "java/lang/String" "COMPACT_STRINGS" "Z" (.int zc)) (Pz : ¬ zc = 0) (w_M : Addr) (S_M : Sta Z Z.heap "java/util/ImmutableCollections" "EMPTY_MAP" "Ljava/util/ImmutableCollections$MapN;" (.ref w_M)) (E_M : Exa Z Z.heap w_M "java/util/ImmutableCollections$MapN") (fm : Value) (S_f : Sta Z Z.heap "jdk/internal/util/Preconditions" "SIOOBE_FORMATTER" "Ljava/util/function/BiFunction;" fm) (rf : fm.isRef = true) (bb : Addr) (kd : ClassId) (cs : List Int32) (h0 : Heap) (hO : Ext Z.heap h0) (B : Arv Z h0 bb kd .byte (16 : Int32) (fill 16 cs) (.int 0)) (h1 : 0 < cs.length) (h5 : cs.length ≤ 5) :
    Con l Z EL0 [] (⟨"java/util/Arrays", "copyOfRange", "([BII)[B"⟩ : MethodName) jdk_65_method_132_code 3 (some (.array .byte)) R_mCR #[(.ref bb), (.int (0 : Int32)), (.int (Int32.ofNat cs.length))] h0 [] (Q_mCR Z cs h0) := by
  refine Con.of (y := (⟨"java/util/Arrays", "copyOfRange", "([BII)[B"⟩ : MethodName)) (f0 := fun m => mkF m 0 #[.val (.ref bb), .val (.int (0 : Int32)), .val (.int (Int32.ofNat cs.length))] []) (plainFor_of_name pn_3) hEL hO (fun m => by skip <;> first | (simp [entryFrame, mkF, argsToLocals, Value.category, maxLocals]; done) | rfl) ?_
  intro p e s m below meth c s₁ P0
  show Go p e below _ (s₁.setTop (mkF m 0 #[.val (.ref bb), .val (.int (0 : Int32)), .val (.int (Int32.ofNat cs.length))] []))
  refine P0.xs (fun hA hx hy t k => XS.iloadN hA hx rfl (hb hy d27_0) rfl  k) ?_
  show Go p e below _ (s₁.setTop (mkF m 1 #[.val (.ref bb), .val (.int (0 : Int32)), .val (.int (Int32.ofNat cs.length))] [(.int (0 : Int32))]))
  refine P0.xs (fun hA hx hy t k => XS.ifNo hA hx rfl (hb hy d27_1) rfl ((if0 _ _).trans (teq rfl).2) k) ?_
  show Go p e below _ (s₁.setTop (mkF m 4 #[.val (.ref bb), .val (.int (0 : Int32)), .val (.int (Int32.ofNat cs.length))] []))
  refine P0.xs (fun hA hx hy t k => XS.iloadN hA hx rfl (hb hy d27_4) rfl  k) ?_
  show Go p e below _ (s₁.setTop (mkF m 5 #[.val (.ref bb), .val (.int (0 : Int32)), .val (.int (Int32.ofNat cs.length))] [(.int (Int32.ofNat cs.length))]))
  refine P0.xs (fun hA hx hy t k => XS.aloadN hA hx rfl (hb hy d27_5) rfl rfl  k) ?_
  show Go p e below _ (s₁.setTop (mkF m 6 #[.val (.ref bb), .val (.int (0 : Int32)), .val (.int (Int32.ofNat cs.length))] [(.ref bb), (.int (Int32.ofNat cs.length))]))
  refine P0.alen B d27_6 ?_
  show Go p e below _ (s₁.setTop (mkF m 7 #[.val (.ref bb), .val (.int (0 : Int32)), .val (.int (Int32.ofNat cs.length))] [(.int (16 : Int32)), (.int (Int32.ofNat cs.length))]))
  refine P0.xs (fun hA hx hy t k => XS.icmpNo hA hx rfl (hb hy d27_7) rfl (feq (ne16 h5)).1 k) ?_
  show Go p e below _ (s₁.setTop (mkF m 10 #[.val (.ref bb), .val (.int (0 : Int32)), .val (.int (Int32.ofNat cs.length))] []))
  refine P0.xs (fun hA hx hy t k => XS.aloadN hA hx rfl (hb hy d27_10) rfl rfl  k) ?_
  show Go p e below _ (s₁.setTop (mkF m 11 #[.val (.ref bb), .val (.int (0 : Int32)), .val (.int (Int32.ofNat cs.length))] [(.ref bb)]))
  refine P0.xs (fun hA hx hy t k => XS.iloadN hA hx rfl (hb hy d27_11) rfl  k) ?_
  show Go p e below _ (s₁.setTop (mkF m 12 #[.val (.ref bb), .val (.int (0 : Int32)), .val (.int (Int32.ofNat cs.length))] [(.int (0 : Int32)), (.ref bb)]))
  refine P0.xs (fun hA hx hy t k => XS.iloadN hA hx rfl (hb hy d27_12) rfl  k) ?_
  show Go p e below _ (s₁.setTop (mkF m 13 #[.val (.ref bb), .val (.int (0 : Int32)), .val (.int (Int32.ofNat cs.length))] [(.int (Int32.ofNat cs.length)), (.int (0 : Int32)), (.ref bb)]))
  refine P0.callS (hw _ (List.mem_of_getElem? (i := 161) rfl)) (hw _ (List.mem_of_getElem? (i := 162) rfl)) (hw _ (List.mem_of_getElem? (i := 159) rfl)) (hw _ (List.mem_of_getElem? (i := 163) rfl)) (by decide) (mCRB l Z a0 hw hEL zc S0 Pz w_M S_M E_M fm S_f rf bb kd cs h0 P0.old B h1 h5) (W := 0) (by decide) (by decide) (by decide) (by decide) all0 pd_10 (argsL := [(.ref bb), (.int (0 : Int32)), (.int (Int32.ofNat cs.length))]) rfl rfl rfl (Nat.le_of_eq rfl) d27_13 fun v96 T96 h96 P96 K96 Q96 => ?_
  obtain ⟨o96, k96, rfl, g96, A96⟩ := Q96
  have ne_bb_o96 : bb ≠ o96 := Nat.ne_of_lt (Nat.lt_of_lt_of_le B.lt g96)
  have gz_o96 : Z.heap.size ≤ o96 := Nat.le_trans P0.old.1 g96
  have gw_o96 : h0.size ≤ o96 := Nat.le_trans P0.kept.1 g96
  show Go p e below _ (T96.setTop (mkF m 16 #[.val (.ref bb), .val (.int (0 : Int32)), .val (.int (Int32.ofNat cs.length))] [(.ref o96)]))
  exact P96.retR rfl rfl rfl d27_16 (by decide) (by decide) ⟨o96, _, rfl, gw_o96, A96⟩

def R_mTI : Room := { frames := 3, cells := 1, slots := 5, locals := 49 }
def Q_mTI (Z : State) (x : Addr) (cs : List Int32) (h0 : Heap) (v : Option Value) (h : Heap) : Prop := v = none ∧ Str Z h x cs
set_option maxRecDepth 65536 in
set_option maxHeartbeats 40000000 in
theorem mTI (l : Launch) (Z : State) (a0 : Array Value) (hw : ∀ d ∈ tables_1, d.before a0 Z = true) (hEL : EW Z a0 EL0) (zc : Int32) (S0 : Sta Z Z.heap "java/lang/String" "COMPACT_STRINGS" "Z" (.int zc)) (Pz : ¬ zc = 0) (w_M : Addr) (S_M : Sta Z Z.heap "java/util/ImmutableCollections" "EMPTY_MAP" "Ljava/util/ImmutableCollections$MapN;" (.ref w_M)) (E_M : Exa Z Z.heap w_M "java/util/ImmutableCollections$MapN") (fm : Value) (S_f : Sta Z Z.heap "jdk/internal/util/Preconditions" "SIOOBE_FORMATTER" "Ljava/util/function/BiFunction;" fm) (rf : fm.isRef = true) (x o bb : Addr) (kd : ClassId) (cs : List Int32) (h0 : Heap) (hO : Ext Z.heap h0) (Ex : Exa Z h0 x "java/lang/String") (Vx : Fld Z h0 x "java/lang/String" "value" "[B" .null) (Cx : Fld Z h0 x "java/lang/String" "coder" "B" (.int (0 : Int32))) (gx : Z.heap.size ≤ x) (E : Exa Z h0 o "java/lang/StringBuilder") (Fv : Fld Z h0 o "java/lang/AbstractStringBuilder" "value" "[B" (.ref bb)) (Fc : Fld Z h0 o "java/lang/AbstractStringBuilder" "coder" "B" (.int (0 : Int32))) (Fn : Fld Z h0 o "java/lang/AbstractStringBuilder" "count" "I" (.int (Int32.ofNat cs.length))) (B : Arv Z h0 bb kd .byte (16 : Int32) (fill 16 cs) (.int 0)) (h1 : 0 < cs.length) (h5 : cs.length ≤ 5) (hl : ∀ c ∈ cs, ¬ c < 0 ∧ ¬ (255 : Int32) < c) :
    Con l Z EL0 [] (⟨"java/lang/String", "<init>", "(Ljava/lang/AbstractStringBuilder;Ljava/lang/Void;)V"⟩ : MethodName) jdk_42_method_150_code 5 none R_mTI #[(.ref x), (.ref o), .null] h0 [x] (Q_mTI Z x cs h0) := by
  refine Con.of (y := (⟨"java/lang/String", "<init>", "(Ljava/lang/AbstractStringBuilder;Ljava/lang/Void;)V"⟩ : MethodName)) (f0 := fun m => mkF m 0 #[.val (.ref x), .val (.ref o), .val .null, .unset, .unset] []) (plainFor_of_name pn_0) hEL hO (fun m => by skip <;> first | (simp [entryFrame, mkF, argsToLocals, Value.category, maxLocals]; done) | rfl) ?_
  intro p e s m below meth c s₁ P0
  show Go p e below _ (s₁.setTop (mkF m 0 #[.val (.ref x), .val (.ref o), .val .null, .unset, .unset] []))
  refine P0.xs (fun hA hx hy t k => XS.aloadN hA hx rfl (hb hy d22_0) rfl rfl  k) ?_
  show Go p e below _ (s₁.setTop (mkF m 1 #[.val (.ref x), .val (.ref o), .val .null, .unset, .unset] [(.ref x)]))
  refine P0.init0 (W := 0) (hw _ (List.mem_of_getElem? (i := 15) rfl)) (hw _ (List.mem_of_getElem? (i := 16) rfl)) (hw _ (List.mem_of_getElem? (i := 17) rfl)) d22_1 rfl (by decide) (Nat.le_of_eq rfl) (by decide) fun T97 P97 => ?_
  show Go p e below _ (T97.setTop (mkF m 4 #[.val (.ref x), .val (.ref o), .val .null, .unset, .unset] []))
  refine P97.xs (fun hA hx hy t k => XS.aloadN hA hx rfl (hb hy d22_4) rfl rfl  k) ?_
  show Go p e below _ (T97.setTop (mkF m 5 #[.val (.ref x), .val (.ref o), .val .null, .unset, .unset] [(.ref o)]))
  refine P97.callV (hw _ (List.mem_of_getElem? (i := 139) rfl)) (hw _ (List.mem_of_getElem? (i := 140) rfl)) (hw _ (List.mem_of_getElem? (i := 142) rfl)) (nfOf (hw _ (List.mem_of_getElem? (i := 142) rfl))) (hw _ (List.mem_of_getElem? (i := 141) rfl)) (hw _ (List.mem_of_getElem? (i := 70) rfl)) (hw _ (List.mem_of_getElem? (i := 143) rfl)) (by decide) E (mGV l Z a0 hw hEL zc S0 Pz w_M S_M E_M fm S_f rf o (.ref bb) rfl h0 P97.old Fv) (W := 0) (by decide) (by decide) (by decide) (by decide) all0 pd_11 (argsL := []) rfl rfl rfl (Nat.le_of_eq rfl) d22_5 fun v98 T98 h98 P98 K98 Q98 => ?_
  obtain ⟨hv98, hh98⟩ := Q98
  subst hv98
  rw [hh98] at P98
  show Go p e below _ (T98.setTop (mkF m 8 #[.val (.ref x), .val (.ref o), .val .null, .unset, .unset] [(.ref bb)]))
  refine P98.xs (fun hA hx hy t k => XS.astoreN hA hx rfl (hb hy d22_8) rfl rfl (l' := #[.val (.ref x), .val (.ref o), .val .null, .val (.ref bb), .unset]) rfl k) ?_
  show Go p e below _ (T98.setTop (mkF m 9 #[.val (.ref x), .val (.ref o), .val .null, .val (.ref bb), .unset] []))
  refine P98.xs (fun hA hx hy t k => XS.aloadN hA hx rfl (hb hy d22_9) rfl rfl  k) ?_
  show Go p e below _ (T98.setTop (mkF m 10 #[.val (.ref x), .val (.ref o), .val .null, .val (.ref bb), .unset] [(.ref o)]))
  refine P98.callV (hw _ (List.mem_of_getElem? (i := 144) rfl)) (hw _ (List.mem_of_getElem? (i := 145) rfl)) (hw _ (List.mem_of_getElem? (i := 147) rfl)) (nfSib (hw _ (List.mem_of_getElem? (i := 104) rfl)) rfl) (hw _ (List.mem_of_getElem? (i := 148) rfl)) (hw _ (List.mem_of_getElem? (i := 62) rfl)) (hw _ (List.mem_of_getElem? (i := 149) rfl)) (by decide) E (mSL l Z a0 hw hEL zc S0 Pz w_M S_M E_M fm S_f rf o (Int32.ofNat cs.length) h0 P98.old E Fn) (W := 0) (by decide) (by decide) (by decide) (by decide) all0 pd_4 (argsL := []) rfl rfl rfl (Nat.le_of_eq rfl) d22_10 fun v99 T99 h99 P99 K99 Q99 => ?_
  obtain ⟨hv99, hh99⟩ := Q99
  subst hv99
  rw [hh99] at P99
  show Go p e below _ (T99.setTop (mkF m 13 #[.val (.ref x), .val (.ref o), .val .null, .val (.ref bb), .unset] [(.int (Int32.ofNat cs.length))]))
  refine P99.xs (fun hA hx hy t k => XS.istore hA hx rfl (hb hy d22_13) rfl (l' := #[.val (.ref x), .val (.ref o), .val .null, .val (.ref bb), .val (.int (Int32.ofNat cs.length))]) rfl k) ?_
  show Go p e below _ (T99.setTop (mkF m 15 #[.val (.ref x), .val (.ref o), .val .null, .val (.ref bb), .val (.int (Int32.ofNat cs.length))] []))
  refine P99.xs (fun hA hx hy t k => XS.aloadN hA hx rfl (hb hy d22_15) rfl rfl  k) ?_
  show Go p e below _ (T99.setTop (mkF m 16 #[.val (.ref x), .val (.ref o), .val .null, .val (.ref bb), .val (.int (Int32.ofNat cs.length))] [(.ref o)]))
  refine P99.callV (hw _ (List.mem_of_getElem? (i := 152) rfl)) (hw _ (List.mem_of_getElem? (i := 153) rfl)) (hw _ (List.mem_of_getElem? (i := 155) rfl)) (nfOf (hw _ (List.mem_of_getElem? (i := 155) rfl))) (hw _ (List.mem_of_getElem? (i := 154) rfl)) (hw _ (List.mem_of_getElem? (i := 70) rfl)) (hw _ (List.mem_of_getElem? (i := 156) rfl)) (by decide) E (mAIL l Z a0 hw hEL zc S0 Pz w_M S_M E_M fm S_f rf o h0 P99.old Fc) (W := 0) (by decide) (by decide) (by decide) (by decide) all0 pd_12 (argsL := []) rfl rfl rfl (Nat.le_of_eq rfl) d22_16 fun v100 T100 h100 P100 K100 Q100 => ?_
  obtain ⟨hv100, hh100⟩ := Q100
  subst hv100
  rw [hh100] at P100
  show Go p e below _ (T100.setTop (mkF m 19 #[.val (.ref x), .val (.ref o), .val .null, .val (.ref bb), .val (.int (Int32.ofNat cs.length))] [(.int (1 : Int32))]))
  refine P100.xs (fun hA hx hy t k => XS.ifNo hA hx rfl (hb hy d22_19) rfl ((if0 _ _).trans (feq (by decide)).1) k) ?_
  show Go p e below _ (T100.setTop (mkF m 22 #[.val (.ref x), .val (.ref o), .val .null, .val (.ref bb), .val (.int (Int32.ofNat cs.length))] []))
  refine P100.xs (fun hA hx hy t k => XS.aloadN hA hx rfl (hb hy d22_22) rfl rfl  k) ?_
  show Go p e below _ (T100.setTop (mkF m 23 #[.val (.ref x), .val (.ref o), .val .null, .val (.ref bb), .val (.int (Int32.ofNat cs.length))] [(.ref x)]))
  refine P100.xs (fun hA hx hy t k => XS.iconst hA hx rfl (hb hy d22_23) k) ?_
  show Go p e below _ (T100.setTop (mkF m 24 #[.val (.ref x), .val (.ref o), .val .null, .val (.ref bb), .val (.int (Int32.ofNat cs.length))] [(.int (0 : Int32)), (.ref x)]))
  refine P100.putF (hw _ (List.mem_of_getElem? (i := 25) rfl)) Via.refl Cx Ex (Or.inr ⟨(hw _ (List.mem_of_getElem? (i := 21) rfl)), rfl, rfl⟩) (hw _ (List.mem_of_getElem? (i := 5) rfl)) (ty := .byte) (v' := (.int (0 : Int32))) (by decide) rfl rfl d22_24 (fun vm hs hal hr => hr.safe Ex.lt (safeNull hs Ex Vx)) gx (Or.inl (List.mem_of_getElem? (i := 0) rfl)) fun T101 h101 P101 W101 => ?_
  show Go p e below _ (T101.setTop (mkF m 27 #[.val (.ref x), .val (.ref o), .val .null, .val (.ref bb), .val (.int (Int32.ofNat cs.length))] []))
  refine P101.xs (fun hA hx hy t k => XS.aloadN hA hx rfl (hb hy d22_27) rfl rfl  k) ?_
  show Go p e below _ (T101.setTop (mkF m 28 #[.val (.ref x), .val (.ref o), .val .null, .val (.ref bb), .val (.int (Int32.ofNat cs.length))] [(.ref x)]))
  refine P101.xs (fun hA hx hy t k => XS.aloadN hA hx rfl (hb hy d22_28) rfl rfl  k) ?_
  show Go p e below _ (T101.setTop (mkF m 29 #[.val (.ref x), .val (.ref o), .val .null, .val (.ref bb), .val (.int (Int32.ofNat cs.length))] [(.ref bb), (.ref x)]))
  refine P101.xs (fun hA hx hy t k => XS.iconst hA hx rfl (hb hy d22_29) k) ?_
  show Go p e below _ (T101.setTop (mkF m 30 #[.val (.ref x), .val (.ref o), .val .null, .val (.ref bb), .val (.int (Int32.ofNat cs.length))] [(.int (0 : Int32)), (.ref bb), (.ref x)]))
  refine P101.xs (fun hA hx hy t k => XS.iload hA hx rfl (hb hy d22_30) rfl  k) ?_
  show Go p e below _ (T101.setTop (mkF m 32 #[.val (.ref x), .val (.ref o), .val .null, .val (.ref bb), .val (.int (Int32.ofNat cs.length))] [(.int (Int32.ofNat cs.length)), (.int (0 : Int32)), (.ref bb), (.ref x)]))
  have Ec103 : Exa Z h101 x "java/lang/String" := (Ex.wr W101)
  have Ec104 : Exa Z h101 o "java/lang/StringBuilder" := (E.wr W101)
  have Fc105 : Fld Z h101 x "java/lang/String" "value" "[B" .null := (Vx.other W101 (Or.inr (slot_ne (Or.inr (hw _ (List.mem_of_getElem? (i := 20) rfl))) (Or.inr (hw _ (List.mem_of_getElem? (i := 21) rfl))) (by decide) (t := (.array .byte)) (t' := .byte) (by decide) (by decide))))
  have Fc106 : Fld Z h101 x "java/lang/String" "coder" "B" (.int (0 : Int32)) := (Cx.same W101)
  have Fc107 : Fld Z h101 o "java/lang/AbstractStringBuilder" "value" "[B" (.ref bb) := (Fv.other W101 (Or.inl (Ne.symm (Exa.ne Ex E (by decide)))))
  have Fc108 : Fld Z h101 o "java/lang/AbstractStringBuilder" "coder" "B" (.int (0 : Int32)) := (Fc.other W101 (Or.inl (Ne.symm (Exa.ne Ex E (by decide)))))
  have Fc109 : Fld Z h101 o "java/lang/AbstractStringBuilder" "count" "I" (.int (Int32.ofNat cs.length)) := (Fn.other W101 (Or.inl (Ne.symm (Exa.ne Ex E (by decide)))))
  have Ac110 : Arv Z h101 bb kd .byte (16 : Int32) (fill 16 cs) (.int 0) := (B.other W101 (Ne.symm (Exa.neArv Ex B (hw _ (List.mem_of_getElem? (i := 5) rfl)))))
  refine P101.callS (hw _ (List.mem_of_getElem? (i := 157) rfl)) (hw _ (List.mem_of_getElem? (i := 158) rfl)) (hw _ (List.mem_of_getElem? (i := 159) rfl)) (hw _ (List.mem_of_getElem? (i := 160) rfl)) (by decide) (mCR l Z a0 hw hEL zc S0 Pz w_M S_M E_M fm S_f rf bb kd cs h101 P101.old Ac110 h1 h5) (W := 1) (by decide) (by decide) (by decide) (by decide) all0 pd_10 (argsL := [(.ref bb), (.int (0 : Int32)), (.int (Int32.ofNat cs.length))]) rfl rfl rfl (Nat.le_of_eq rfl) d22_32 fun v102 T102 h102 P102 K102 Q102 => ?_
  obtain ⟨o102, k102, rfl, g102, A102⟩ := Q102
  have ne_x_o102 : x ≠ o102 := Nat.ne_of_lt (Nat.lt_of_lt_of_le Ec103.lt g102)
  have ne_o_o102 : o ≠ o102 := Nat.ne_of_lt (Nat.lt_of_lt_of_le Ec104.lt g102)
  have ne_bb_o102 : bb ≠ o102 := Nat.ne_of_lt (Nat.lt_of_lt_of_le Ac110.lt g102)
  have gz_o102 : Z.heap.size ≤ o102 := Nat.le_trans P101.old.1 g102
  have gw_o102 : h0.size ≤ o102 := Nat.le_trans P101.kept.1 g102
  show Go p e below _ (T102.setTop (mkF m 35 #[.val (.ref x), .val (.ref o), .val .null, .val (.ref bb), .val (.int (Int32.ofNat cs.length))] [(.ref o102), (.ref x)]))
  have Ec112 : Exa Z h102 x "java/lang/String" := (Ec103.keep K102)
  have Ec113 : Exa Z h102 o "java/lang/StringBuilder" := (Ec104.keep K102)
  have Fc114 : Fld Z h102 x "java/lang/String" "value" "[B" .null := (Fc105.keep K102 nin0)
  have Fc115 : Fld Z h102 x "java/lang/String" "coder" "B" (.int (0 : Int32)) := (Fc106.keep K102 nin0)
  have Fc116 : Fld Z h102 o "java/lang/AbstractStringBuilder" "value" "[B" (.ref bb) := (Fc107.keep K102 nin0)
  have Fc117 : Fld Z h102 o "java/lang/AbstractStringBuilder" "coder" "B" (.int (0 : Int32)) := (Fc108.keep K102 nin0)
  have Fc118 : Fld Z h102 o "java/lang/AbstractStringBuilder" "count" "I" (.int (Int32.ofNat cs.length)) := (Fc109.keep K102 nin0)
  have Ac119 : Arv Z h102 bb kd .byte (16 : Int32) (fill 16 cs) (.int 0) := (Ac110.keep K102 nin0)
  refine P102.putF (hw _ (List.mem_of_getElem? (i := 24) rfl)) Via.refl Fc114 Ec112 (Or.inr ⟨(hw _ (List.mem_of_getElem? (i := 20) rfl)), rfl, rfl⟩) (hw _ (List.mem_of_getElem? (i := 5) rfl)) (ty := (.array .byte)) (v' := (.ref o102)) (by decide) rfl rfl d22_35 (fun vm hs hal hr => hr.safe Ex.lt (safeNull hs Ex Vx)) gx (Or.inl (List.mem_of_getElem? (i := 0) rfl)) fun T111 h111 P111 W111 => ?_
  show Go p e below _ (T111.setTop (mkF m 38 #[.val (.ref x), .val (.ref o), .val .null, .val (.ref bb), .val (.int (Int32.ofNat cs.length))] []))
  refine P111.xs (fun hA hx hy t k => XS.goto hA hx rfl (pc0 := 38) (pc' := 97) rfl (hb hy d22_38) (by decide) (by decide) k) ?_
  show Go p e below _ (T111.setTop (mkF m 97 #[.val (.ref x), .val (.ref o), .val .null, .val (.ref bb), .val (.int (Int32.ofNat cs.length))] []))
  have Ec120 : Exa Z h111 x "java/lang/String" := (Ec112.wr W111)
  have Ec121 : Exa Z h111 o "java/lang/StringBuilder" := (Ec113.wr W111)
  have Fc122 : Fld Z h111 x "java/lang/String" "value" "[B" (.ref o102) := (Fc114.same W111)
  have Fc123 : Fld Z h111 x "java/lang/String" "coder" "B" (.int (0 : Int32)) := (Fc115.other W111 (Or.inr (slot_ne (Or.inr (hw _ (List.mem_of_getElem? (i := 21) rfl))) (Or.inr (hw _ (List.mem_of_getElem? (i := 20) rfl))) (by decide) (t := .byte) (t' := (.array .byte)) (by decide) (by decide))))
  have Fc124 : Fld Z h111 o "java/lang/AbstractStringBuilder" "value" "[B" (.ref bb) := (Fc116.other W111 (Or.inl (Ne.symm (Exa.ne Ex E (by decide)))))
  have Fc125 : Fld Z h111 o "java/lang/AbstractStringBuilder" "coder" "B" (.int (0 : Int32)) := (Fc117.other W111 (Or.inl (Ne.symm (Exa.ne Ex E (by decide)))))
  have Fc126 : Fld Z h111 o "java/lang/AbstractStringBuilder" "count" "I" (.int (Int32.ofNat cs.length)) := (Fc118.other W111 (Or.inl (Ne.symm (Exa.ne Ex E (by decide)))))
  have Ac127 : Arv Z h111 bb kd .byte (16 : Int32) (fill 16 cs) (.int 0) := (Ac119.other W111 (Ne.symm (Exa.neArv Ex B (hw _ (List.mem_of_getElem? (i := 5) rfl)))))
  have Ac128 : Arv Z h111 o102 k102 .byte (Int32.ofNat cs.length) ((cs.map StrChars.lo8).map Value.int) (.int 0) := (A102.other W111 (Ne.symm ne_x_o102))
  exact P111.retV rfl d22_97 (by decide) (by decide) ⟨rfl, strOf (n := cs.length) rfl hl (by omega) Ec120 Fc123 Fc122 Ac128⟩

def R_mTJ : Room := { frames := 4, cells := 1, slots := 5, locals := 65 }
def Q_mTJ (Z : State) (x : Addr) (cs : List Int32) (h0 : Heap) (v : Option Value) (h : Heap) : Prop := v = none ∧ Str Z h x cs
set_option maxRecDepth 65536 in
set_option maxHeartbeats 40000000 in
theorem mTJ (l : Launch) (Z : State) (a0 : Array Value) (hw : ∀ d ∈ tables_1, d.before a0 Z = true) (hEL : EW Z a0 EL0) (zc : Int32) (S0 : Sta Z Z.heap "java/lang/String" "COMPACT_STRINGS" "Z" (.int zc)) (Pz : ¬ zc = 0) (w_M : Addr) (S_M : Sta Z Z.heap "java/util/ImmutableCollections" "EMPTY_MAP" "Ljava/util/ImmutableCollections$MapN;" (.ref w_M)) (E_M : Exa Z Z.heap w_M "java/util/ImmutableCollections$MapN") (fm : Value) (S_f : Sta Z Z.heap "jdk/internal/util/Preconditions" "SIOOBE_FORMATTER" "Ljava/util/function/BiFunction;" fm) (rf : fm.isRef = true) (x o bb : Addr) (kd : ClassId) (cs : List Int32) (h0 : Heap) (hO : Ext Z.heap h0) (Ex : Exa Z h0 x "java/lang/String") (Vx : Fld Z h0 x "java/lang/String" "value" "[B" .null) (Cx : Fld Z h0 x "java/lang/String" "coder" "B" (.int (0 : Int32))) (gx : Z.heap.size ≤ x) (E : Exa Z h0 o "java/lang/StringBuilder") (Fv : Fld Z h0 o "java/lang/AbstractStringBuilder" "value" "[B" (.ref bb)) (Fc : Fld Z h0 o "java/lang/AbstractStringBuilder" "coder" "B" (.int (0 : Int32))) (Fn : Fld Z h0 o "java/lang/AbstractStringBuilder" "count" "I" (.int (Int32.ofNat cs.length))) (B : Arv Z h0 bb kd .byte (16 : Int32) (fill 16 cs) (.int 0)) (h1 : 0 < cs.length) (h5 : cs.length ≤ 5) (hl : ∀ c ∈ cs, ¬ c < 0 ∧ ¬ (255 : Int32) < c) :
    Con l Z EL0 [] (⟨"java/lang/String", "<init>", "(Ljava/lang/StringBuilder;)V"⟩ : MethodName) jdk_42_method_53_code 2 none R_mTJ #[(.ref x), (.ref o)] h0 [x] (Q_mTJ Z x cs h0) := by
  refine Con.of (y := (⟨"java/lang/String", "<init>", "(Ljava/lang/StringBuilder;)V"⟩ : MethodName)) (f0 := fun m => mkF m 0 #[.val (.ref x), .val (.ref o)] []) (plainFor_of_name pn_0) hEL hO (fun m => by skip <;> first | (simp [entryFrame, mkF, argsToLocals, Value.category, maxLocals]; done) | rfl) ?_
  intro p e s m below meth c s₁ P0
  show Go p e below _ (s₁.setTop (mkF m 0 #[.val (.ref x), .val (.ref o)] []))
  refine P0.xs (fun hA hx hy t k => XS.aloadN hA hx rfl (hb hy d21_0) rfl rfl  k) ?_
  show Go p e below _ (s₁.setTop (mkF m 1 #[.val (.ref x), .val (.ref o)] [(.ref x)]))
  refine P0.xs (fun hA hx hy t k => XS.aloadN hA hx rfl (hb hy d21_1) rfl rfl  k) ?_
  show Go p e below _ (s₁.setTop (mkF m 2 #[.val (.ref x), .val (.ref o)] [(.ref o), (.ref x)]))
  refine P0.xs (fun hA hx hy t k => XS.aconstNull hA hx rfl (hb hy d21_2) k) ?_
  show Go p e below _ (s₁.setTop (mkF m 3 #[.val (.ref x), .val (.ref o)] [.null, (.ref o), (.ref x)]))
  refine P0.callI rfl (hw _ (List.mem_of_getElem? (i := 136) rfl)) (hw _ (List.mem_of_getElem? (i := 137) rfl)) (hw _ (List.mem_of_getElem? (i := 6) rfl)) (hw _ (List.mem_of_getElem? (i := 138) rfl)) (by decide) (mTI l Z a0 hw hEL zc S0 Pz w_M S_M E_M fm S_f rf x o bb kd cs h0 P0.old Ex Vx Cx gx E Fv Fc Fn B h1 h5 hl) (W := 0) (by decide) (by decide) (by decide) (by decide) (allS (Or.inl (List.mem_of_getElem? (i := 0) rfl)) all0) pd_13 (argsL := [(.ref o), .null]) rfl rfl rfl (Nat.le_of_eq rfl) d21_3 fun v129 T129 h129 P129 K129 Q129 => ?_
  obtain ⟨rfl, Ss129⟩ := Q129
  show Go p e below _ (T129.setTop (mkF m 6 #[.val (.ref x), .val (.ref o)] []))
  exact P129.retV rfl d21_6 (by decide) (by decide) ⟨rfl, Ss129⟩

def R_mTS : Room := { frames := 5, cells := 2, slots := 9, locals := 79 }
def Q_mTS (Z : State) (cs : List Int32) (h0 : Heap) (v : Option Value) (h : Heap) : Prop := ∃ x : Addr, v = some (.ref x) ∧ h0.size ≤ x ∧ Str Z h x cs
set_option maxRecDepth 65536 in
set_option maxHeartbeats 40000000 in
theorem mTS (l : Launch) (Z : State) (a0 : Array Value) (hw : ∀ d ∈ tables_1, d.before a0 Z = true) (hEL : EW Z a0 EL0) (zc : Int32) (S0 : Sta Z Z.heap "java/lang/String" "COMPACT_STRINGS" "Z" (.int zc)) (Pz : ¬ zc = 0) (w_M : Addr) (S_M : Sta Z Z.heap "java/util/ImmutableCollections" "EMPTY_MAP" "Ljava/util/ImmutableCollections$MapN;" (.ref w_M)) (E_M : Exa Z Z.heap w_M "java/util/ImmutableCollections$MapN") (fm : Value) (S_f : Sta Z Z.heap "jdk/internal/util/Preconditions" "SIOOBE_FORMATTER" "Ljava/util/function/BiFunction;" fm) (rf : fm.isRef = true) (o bb : Addr) (kd : ClassId) (cs : List Int32) (h0 : Heap) (hO : Ext Z.heap h0) (E : Exa Z h0 o "java/lang/StringBuilder") (Fv : Fld Z h0 o "java/lang/AbstractStringBuilder" "value" "[B" (.ref bb)) (Fc : Fld Z h0 o "java/lang/AbstractStringBuilder" "coder" "B" (.int (0 : Int32))) (Fn : Fld Z h0 o "java/lang/AbstractStringBuilder" "count" "I" (.int (Int32.ofNat cs.length))) (B : Arv Z h0 bb kd .byte (16 : Int32) (fill 16 cs) (.int 0)) (h1 : 0 < cs.length) (h5 : cs.length ≤ 5) (hl : ∀ c ∈ cs, ¬ c < 0 ∧ ¬ (255 : Int32) < c) :
    Con l Z EL0 [] (⟨"java/lang/StringBuilder", "toString", "()Ljava/lang/String;"⟩ : MethodName) jdk_67_method_42_code 1 (some (.object "java/lang/String")) R_mTS #[(.ref o)] h0 [] (Q_mTS Z cs h0) := by
  refine Con.of (y := (⟨"java/lang/StringBuilder", "toString", "()Ljava/lang/String;"⟩ : MethodName)) (f0 := fun m => mkF m 0 #[.val (.ref o)] []) (plainFor_of_name pn_2) hEL hO (fun m => by skip <;> first | (simp [entryFrame, mkF, argsToLocals, Value.category, maxLocals]; done) | rfl) ?_
  intro p e s m below meth c s₁ P0
  show Go p e below _ (s₁.setTop (mkF m 0 #[.val (.ref o)] []))
  refine P0.newO (hw _ (List.mem_of_getElem? (i := 132) rfl)) (hw _ (List.mem_of_getElem? (i := 5) rfl)) (hw _ (List.mem_of_getElem? (i := 6) rfl)) d20_0 (by decide) (by decide) fun T130 h130 o130 g130 P130 E130 A130 D130 => ?_
  have ne_o_o130 : o ≠ o130 := Nat.ne_of_lt (Nat.lt_of_lt_of_le E.lt (Nat.le_of_eq g130.symm))
  have ne_bb_o130 : bb ≠ o130 := Nat.ne_of_lt (Nat.lt_of_lt_of_le B.lt (Nat.le_of_eq g130.symm))
  have gz_o130 : Z.heap.size ≤ o130 := Nat.le_trans P0.old.1 (Nat.le_of_eq g130.symm)
  have gw_o130 : h0.size ≤ o130 := Nat.le_trans P0.kept.1 (Nat.le_of_eq g130.symm)
  have F130_value : Fld Z h130 o130 "java/lang/String" "value" "[B" .null := D130 (Or.inr (hw _ (List.mem_of_getElem? (i := 20) rfl))) (ty := (.array .byte)) (by decide)
  have F130_coder : Fld Z h130 o130 "java/lang/String" "coder" "B" (.int (0 : Int32)) := D130 (Or.inr (hw _ (List.mem_of_getElem? (i := 21) rfl))) (ty := .byte) (by decide)
  show Go p e below _ (T130.setTop (mkF m 3 #[.val (.ref o)] [(.ref o130)]))
  refine P130.xs (fun hA hx hy t k => XS.dup hA hx rfl (hb hy d20_3) rfl rfl k) ?_
  show Go p e below _ (T130.setTop (mkF m 4 #[.val (.ref o)] [(.ref o130), (.ref o130)]))
  refine P130.xs (fun hA hx hy t k => XS.aloadN hA hx rfl (hb hy d20_4) rfl rfl  k) ?_
  show Go p e below _ (T130.setTop (mkF m 5 #[.val (.ref o)] [(.ref o), (.ref o130), (.ref o130)]))
  have Ec132 : Exa Z h130 o "java/lang/StringBuilder" := (E.ext E130)
  have Fc133 : Fld Z h130 o "java/lang/AbstractStringBuilder" "value" "[B" (.ref bb) := (Fv.ext E130)
  have Fc134 : Fld Z h130 o "java/lang/AbstractStringBuilder" "coder" "B" (.int (0 : Int32)) := (Fc.ext E130)
  have Fc135 : Fld Z h130 o "java/lang/AbstractStringBuilder" "count" "I" (.int (Int32.ofNat cs.length)) := (Fn.ext E130)
  have Ac136 : Arv Z h130 bb kd .byte (16 : Int32) (fill 16 cs) (.int 0) := (B.ext E130)
  refine P130.callI rfl (hw _ (List.mem_of_getElem? (i := 133) rfl)) (hw _ (List.mem_of_getElem? (i := 134) rfl)) (hw _ (List.mem_of_getElem? (i := 6) rfl)) (hw _ (List.mem_of_getElem? (i := 135) rfl)) (by decide) (mTJ l Z a0 hw hEL zc S0 Pz w_M S_M E_M fm S_f rf o130 o bb kd cs h130 P130.old A130 F130_value F130_coder gz_o130 Ec132 Fc133 Fc134 Fc135 Ac136 h1 h5 hl) (W := 1) (by decide) (by decide) (by decide) (by decide) (allS (Or.inr gw_o130) all0) pd_14 (argsL := [(.ref o)]) rfl rfl rfl (Nat.le_of_eq rfl) d20_5 fun v131 T131 h131 P131 K131 Q131 => ?_
  obtain ⟨rfl, Ss131⟩ := Q131
  show Go p e below _ (T131.setTop (mkF m 8 #[.val (.ref o)] [(.ref o130)]))
  exact P131.retR rfl rfl rfl d20_8 (by decide) (by decide) ⟨o130, rfl, gw_o130, Ss131⟩

def R_mMof : Room := { frames := 0, cells := 0, slots := 0, locals := 0 }
def Q_mMof (Z : State) (w_M : Addr) (h0 : Heap) (v : Option Value) (h : Heap) : Prop := v = some (.ref w_M) ∧ h = h0
set_option maxRecDepth 65536 in
set_option maxHeartbeats 40000000 in
theorem mMof (l : Launch) (Z : State) (a0 : Array Value) (hw : ∀ d ∈ tables_1, d.before a0 Z = true) (hEL : EW Z a0 EL0) (zc : Int32) (S0 : Sta Z Z.heap "java/lang/String" "COMPACT_STRINGS" "Z" (.int zc)) (Pz : ¬ zc = 0) (w_M : Addr) (S_M : Sta Z Z.heap "java/util/ImmutableCollections" "EMPTY_MAP" "Ljava/util/ImmutableCollections$MapN;" (.ref w_M)) (E_M : Exa Z Z.heap w_M "java/util/ImmutableCollections$MapN") (fm : Value) (S_f : Sta Z Z.heap "jdk/internal/util/Preconditions" "SIOOBE_FORMATTER" "Ljava/util/function/BiFunction;" fm) (rf : fm.isRef = true)  (h0 : Heap) (hO : Ext Z.heap h0)  :
    Con l Z EL0 [] (⟨"java/util/Map", "of", "()Ljava/util/Map;"⟩ : MethodName) jdk_72_method_26_code 0 (some (.object "java/util/Map")) R_mMof #[] h0 [] (Q_mMof Z w_M h0) := by
  refine Con.of (y := (⟨"java/util/Map", "of", "()Ljava/util/Map;"⟩ : MethodName)) (f0 := fun m => mkF m 0 #[] []) (plainFor_of_name pn_4) hEL hO (fun m => by skip <;> first | (simp [entryFrame, mkF, argsToLocals, Value.category, maxLocals]; done) | rfl) ?_
  intro p e s m below meth c s₁ P0
  show Go p e below _ (s₁.setTop (mkF m 0 #[] []))
  refine P0.getS (host := "") (Or.inl (hw _ (List.mem_of_getElem? (i := 33) rfl))) Via.refl S_M d5_0 fun T137 P137 => ?_
  show Go p e below _ (T137.setTop (mkF m 3 #[] [(.ref w_M)]))
  exact P137.retR rfl rfl rfl d5_3 (by decide) (by decide) ⟨rfl, rfl⟩

def R_mMcp : Room := { frames := 0, cells := 0, slots := 0, locals := 0 }
def Q_mMcp (Z : State) (w_M : Addr) (h0 : Heap) (v : Option Value) (h : Heap) : Prop := v = some (.ref w_M) ∧ h = h0
set_option maxRecDepth 65536 in
set_option maxHeartbeats 40000000 in
theorem mMcp (l : Launch) (Z : State) (a0 : Array Value) (hw : ∀ d ∈ tables_1, d.before a0 Z = true) (hEL : EW Z a0 EL0) (zc : Int32) (S0 : Sta Z Z.heap "java/lang/String" "COMPACT_STRINGS" "Z" (.int zc)) (Pz : ¬ zc = 0) (w_M : Addr) (S_M : Sta Z Z.heap "java/util/ImmutableCollections" "EMPTY_MAP" "Ljava/util/ImmutableCollections$MapN;" (.ref w_M)) (E_M : Exa Z Z.heap w_M "java/util/ImmutableCollections$MapN") (fm : Value) (S_f : Sta Z Z.heap "jdk/internal/util/Preconditions" "SIOOBE_FORMATTER" "Ljava/util/function/BiFunction;" fm) (rf : fm.isRef = true)  (h0 : Heap) (hO : Ext Z.heap h0)  :
    Con l Z EL0 [] (⟨"java/util/Map", "copyOf", "(Ljava/util/Map;)Ljava/util/Map;"⟩ : MethodName) jdk_72_method_39_code 1 (some (.object "java/util/Map")) R_mMcp #[(.ref w_M)] h0 [] (Q_mMcp Z w_M h0) := by
  refine Con.of (y := (⟨"java/util/Map", "copyOf", "(Ljava/util/Map;)Ljava/util/Map;"⟩ : MethodName)) (f0 := fun m => mkF m 0 #[.val (.ref w_M)] []) (plainFor_of_name pn_4) hEL hO (fun m => by skip <;> first | (simp [entryFrame, mkF, argsToLocals, Value.category, maxLocals]; done) | rfl) ?_
  intro p e s m below meth c s₁ P0
  show Go p e below _ (s₁.setTop (mkF m 0 #[.val (.ref w_M)] []))
  refine P0.xs (fun hA hx hy t k => XS.aloadN hA hx rfl (hb hy d8_0) rfl rfl  k) ?_
  show Go p e below _ (s₁.setTop (mkF m 1 #[.val (.ref w_M)] [(.ref w_M)]))
  refine P0.inst (hw _ (List.mem_of_getElem? (i := 47) rfl)) (Ins.of_exa (E_M.ext hO) (hw _ (List.mem_of_getElem? (i := 48) rfl))) d8_1 fun T138 P138 => ?_
  show Go p e below _ (T138.setTop (mkF m 4 #[.val (.ref w_M)] [(.int (1 : Int32))]))
  refine P138.xs (fun hA hx hy t k => XS.ifNo hA hx rfl (hb hy d8_4) rfl ((if0 _ _).trans (feq (by decide)).1) k) ?_
  show Go p e below _ (T138.setTop (mkF m 7 #[.val (.ref w_M)] []))
  refine P138.xs (fun hA hx hy t k => XS.aloadN hA hx rfl (hb hy d8_7) rfl rfl  k) ?_
  show Go p e below _ (T138.setTop (mkF m 8 #[.val (.ref w_M)] [(.ref w_M)]))
  exact P138.retR rfl rfl rfl d8_8 (by decide) (by decide) ⟨rfl, rfl⟩

def R_mRec : Room := { frames := 1, cells := 0, slots := 0, locals := 12 }
def Q_mRec (Z : State)  (h0 : Heap) (v : Option Value) (h : Heap) : Prop := v = none ∧ h = h0
set_option maxRecDepth 65536 in
set_option maxHeartbeats 40000000 in
theorem mRec (l : Launch) (Z : State) (a0 : Array Value) (hw : ∀ d ∈ tables_1, d.before a0 Z = true) (hEL : EW Z a0 EL0) (zc : Int32) (S0 : Sta Z Z.heap "java/lang/String" "COMPACT_STRINGS" "Z" (.int zc)) (Pz : ¬ zc = 0) (w_M : Addr) (S_M : Sta Z Z.heap "java/util/ImmutableCollections" "EMPTY_MAP" "Ljava/util/ImmutableCollections$MapN;" (.ref w_M)) (E_M : Exa Z Z.heap w_M "java/util/ImmutableCollections$MapN") (fm : Value) (S_f : Sta Z Z.heap "jdk/internal/util/Preconditions" "SIOOBE_FORMATTER" "Ljava/util/function/BiFunction;" fm) (rf : fm.isRef = true) (o : Addr) (h0 : Heap) (hO : Ext Z.heap h0)  :
    Con l Z EL0 [] (⟨"java/lang/Record", "<init>", "()V"⟩ : MethodName) jdk_30_method_1_code 1 none R_mRec #[(.ref o)] h0 [] (Q_mRec Z  h0) := by
  refine Con.of (y := (⟨"java/lang/Record", "<init>", "()V"⟩ : MethodName)) (f0 := fun m => mkF m 0 #[.val (.ref o)] []) (plainFor_of_name pn_5) hEL hO (fun m => by skip <;> first | (simp [entryFrame, mkF, argsToLocals, Value.category, maxLocals]; done) | rfl) ?_
  intro p e s m below meth c s₁ P0
  show Go p e below _ (s₁.setTop (mkF m 0 #[.val (.ref o)] []))
  refine P0.xs (fun hA hx hy t k => XS.aloadN hA hx rfl (hb hy d7_0) rfl rfl  k) ?_
  show Go p e below _ (s₁.setTop (mkF m 1 #[.val (.ref o)] [(.ref o)]))
  refine P0.init0 (W := 0) (hw _ (List.mem_of_getElem? (i := 43) rfl)) (hw _ (List.mem_of_getElem? (i := 16) rfl)) (hw _ (List.mem_of_getElem? (i := 17) rfl)) d7_1 rfl (by decide) (Nat.le_of_eq rfl) (by decide) fun T139 P139 => ?_
  show Go p e below _ (T139.setTop (mkF m 4 #[.val (.ref o)] []))
  exact P139.retV rfl d7_4 (by decide) (by decide) ⟨rfl, rfl⟩

def R_mMT : Room := { frames := 2, cells := 0, slots := 0, locals := 24 }
def Q_mMT (Z : State) (o x1 x2 : Addr) (h0 : Heap) (v : Option Value) (h : Heap) : Prop := v = none ∧ Exa Z h o "com/example/certain_answers/certainanswers/server/MediaType" ∧ Fld Z h o "com/example/certain_answers/certainanswers/server/MediaType" "type" "Ljava/lang/String;" (.ref x1) ∧ Fld Z h o "com/example/certain_answers/certainanswers/server/MediaType" "subtype" "Ljava/lang/String;" (.ref x2)
set_option maxRecDepth 65536 in
set_option maxHeartbeats 40000000 in
theorem mMT (l : Launch) (Z : State) (a0 : Array Value) (hw : ∀ d ∈ tables_1, d.before a0 Z = true) (hEL : EW Z a0 EL0) (zc : Int32) (S0 : Sta Z Z.heap "java/lang/String" "COMPACT_STRINGS" "Z" (.int zc)) (Pz : ¬ zc = 0) (w_M : Addr) (S_M : Sta Z Z.heap "java/util/ImmutableCollections" "EMPTY_MAP" "Ljava/util/ImmutableCollections$MapN;" (.ref w_M)) (E_M : Exa Z Z.heap w_M "java/util/ImmutableCollections$MapN") (fm : Value) (S_f : Sta Z Z.heap "jdk/internal/util/Preconditions" "SIOOBE_FORMATTER" "Ljava/util/function/BiFunction;" fm) (rf : fm.isRef = true) (o x1 x2 : Addr) (h0 : Heap) (hO : Ext Z.heap h0) (E : Exa Z h0 o "com/example/certain_answers/certainanswers/server/MediaType") (F_type : Fld Z h0 o "com/example/certain_answers/certainanswers/server/MediaType" "type" "Ljava/lang/String;" .null) (F_subtype : Fld Z h0 o "com/example/certain_answers/certainanswers/server/MediaType" "subtype" "Ljava/lang/String;" .null) (F_parameters : Fld Z h0 o "com/example/certain_answers/certainanswers/server/MediaType" "parameters" "Ljava/util/Map;" .null) (go : Z.heap.size ≤ o) :
    Con l Z EL0 [] (⟨"com/example/certain_answers/certainanswers/server/MediaType", "<init>", "(Ljava/lang/String;Ljava/lang/String;Ljava/util/Map;)V"⟩ : MethodName) prog_8_method_1_code 4 none R_mMT #[(.ref o), (.ref x1), (.ref x2), (.ref w_M)] h0 [o] (Q_mMT Z o x1 x2 h0) := by
  refine Con.of (y := (⟨"com/example/certain_answers/certainanswers/server/MediaType", "<init>", "(Ljava/lang/String;Ljava/lang/String;Ljava/util/Map;)V"⟩ : MethodName)) (f0 := fun m => mkF m 0 #[.val (.ref o), .val (.ref x1), .val (.ref x2), .val (.ref w_M)] []) (plainFor_of_name pn_6) hEL hO (fun m => by skip <;> first | (simp [entryFrame, mkF, argsToLocals, Value.category, maxLocals]; done) | rfl) ?_
  intro p e s m below meth c s₁ P0
  show Go p e below _ (s₁.setTop (mkF m 0 #[.val (.ref o), .val (.ref x1), .val (.ref x2), .val (.ref w_M)] []))
  refine P0.xs (fun hA hx hy t k => XS.aloadN hA hx rfl (hb hy d6_0) rfl rfl  k) ?_
  show Go p e below _ (s₁.setTop (mkF m 1 #[.val (.ref o), .val (.ref x1), .val (.ref x2), .val (.ref w_M)] [(.ref o)]))
  refine P0.callI rfl (hw _ (List.mem_of_getElem? (i := 38) rfl)) (hw _ (List.mem_of_getElem? (i := 39) rfl)) (hw _ (List.mem_of_getElem? (i := 41) rfl)) (hw _ (List.mem_of_getElem? (i := 42) rfl)) (by decide) (mRec l Z a0 hw hEL zc S0 Pz w_M S_M E_M fm S_f rf o h0 P0.old) (W := 0) (by decide) (by decide) (by decide) (by decide) all0 pd_15 (argsL := []) rfl rfl rfl (Nat.le_of_eq rfl) d6_1 fun v140 T140 h140 P140 K140 Q140 => ?_
  obtain ⟨hv140, hh140⟩ := Q140
  subst hv140
  rw [hh140] at P140
  show Go p e below _ (T140.setTop (mkF m 4 #[.val (.ref o), .val (.ref x1), .val (.ref x2), .val (.ref w_M)] []))
  refine P140.xs (fun hA hx hy t k => XS.aloadN hA hx rfl (hb hy d6_4) rfl rfl  k) ?_
  show Go p e below _ (T140.setTop (mkF m 5 #[.val (.ref o), .val (.ref x1), .val (.ref x2), .val (.ref w_M)] [(.ref w_M)]))
  refine P140.callS (hw _ (List.mem_of_getElem? (i := 44) rfl)) (hw _ (List.mem_of_getElem? (i := 45) rfl)) (hw _ (List.mem_of_getElem? (i := 31) rfl)) (hw _ (List.mem_of_getElem? (i := 46) rfl)) (by decide) (mMcp l Z a0 hw hEL zc S0 Pz w_M S_M E_M fm S_f rf  h0 P140.old) (W := 0) (by decide) (by decide) (by decide) (by decide) all0 pd_16 (argsL := [(.ref w_M)]) rfl rfl rfl (Nat.le_of_eq rfl) d6_5 fun v141 T141 h141 P141 K141 Q141 => ?_
  obtain ⟨hv141, hh141⟩ := Q141
  subst hv141
  rw [hh141] at P141
  show Go p e below _ (T141.setTop (mkF m 8 #[.val (.ref o), .val (.ref x1), .val (.ref x2), .val (.ref w_M)] [(.ref w_M)]))
  refine P141.xs (fun hA hx hy t k => XS.astoreN hA hx rfl (hb hy d6_8) rfl rfl (l' := #[.val (.ref o), .val (.ref x1), .val (.ref x2), .val (.ref w_M)]) rfl k) ?_
  show Go p e below _ (T141.setTop (mkF m 9 #[.val (.ref o), .val (.ref x1), .val (.ref x2), .val (.ref w_M)] []))
  refine P141.xs (fun hA hx hy t k => XS.aloadN hA hx rfl (hb hy d6_9) rfl rfl  k) ?_
  show Go p e below _ (T141.setTop (mkF m 10 #[.val (.ref o), .val (.ref x1), .val (.ref x2), .val (.ref w_M)] [(.ref o)]))
  refine P141.xs (fun hA hx hy t k => XS.aloadN hA hx rfl (hb hy d6_10) rfl rfl  k) ?_
  show Go p e below _ (T141.setTop (mkF m 11 #[.val (.ref o), .val (.ref x1), .val (.ref x2), .val (.ref w_M)] [(.ref x1), (.ref o)]))
  refine P141.putF (hw _ (List.mem_of_getElem? (i := 49) rfl)) Via.refl F_type E (Or.inr ⟨(hw _ (List.mem_of_getElem? (i := 50) rfl)), rfl, rfl⟩) (hw _ (List.mem_of_getElem? (i := 27) rfl)) (ty := (.object "java/lang/String")) (v' := (.ref x1)) (by decide) rfl rfl d6_11 (fun vm _ hal _ => Safe.exa hal E (by decide) (by decide)) go (Or.inl (List.mem_of_getElem? (i := 0) rfl)) fun T142 h142 P142 W142 => ?_
  show Go p e below _ (T142.setTop (mkF m 14 #[.val (.ref o), .val (.ref x1), .val (.ref x2), .val (.ref w_M)] []))
  refine P142.xs (fun hA hx hy t k => XS.aloadN hA hx rfl (hb hy d6_14) rfl rfl  k) ?_
  show Go p e below _ (T142.setTop (mkF m 15 #[.val (.ref o), .val (.ref x1), .val (.ref x2), .val (.ref w_M)] [(.ref o)]))
  refine P142.xs (fun hA hx hy t k => XS.aloadN hA hx rfl (hb hy d6_15) rfl rfl  k) ?_
  show Go p e below _ (T142.setTop (mkF m 16 #[.val (.ref o), .val (.ref x1), .val (.ref x2), .val (.ref w_M)] [(.ref x2), (.ref o)]))
  have Ec144 : Exa Z h142 o "com/example/certain_answers/certainanswers/server/MediaType" := (E.wr W142)
  have Fc145 : Fld Z h142 o "com/example/certain_answers/certainanswers/server/MediaType" "type" "Ljava/lang/String;" (.ref x1) := (F_type.same W142)
  have Fc146 : Fld Z h142 o "com/example/certain_answers/certainanswers/server/MediaType" "subtype" "Ljava/lang/String;" .null := (F_subtype.other W142 (Or.inr (slot_ne (Or.inr (hw _ (List.mem_of_getElem? (i := 52) rfl))) (Or.inr (hw _ (List.mem_of_getElem? (i := 50) rfl))) (by decide) (t := (.object "java/lang/String")) (t' := (.object "java/lang/String")) (by decide) (by decide))))
  have Fc147 : Fld Z h142 o "com/example/certain_answers/certainanswers/server/MediaType" "parameters" "Ljava/util/Map;" .null := (F_parameters.other W142 (Or.inr (slot_ne (Or.inr (hw _ (List.mem_of_getElem? (i := 54) rfl))) (Or.inr (hw _ (List.mem_of_getElem? (i := 50) rfl))) (by decide) (t := (.object "java/util/Map")) (t' := (.object "java/lang/String")) (by decide) (by decide))))
  refine P142.putF (hw _ (List.mem_of_getElem? (i := 51) rfl)) Via.refl Fc146 Ec144 (Or.inr ⟨(hw _ (List.mem_of_getElem? (i := 52) rfl)), rfl, rfl⟩) (hw _ (List.mem_of_getElem? (i := 27) rfl)) (ty := (.object "java/lang/String")) (v' := (.ref x2)) (by decide) rfl rfl d6_16 (fun vm _ hal _ => Safe.exa hal Ec144 (by decide) (by decide)) go (Or.inl (List.mem_of_getElem? (i := 0) rfl)) fun T143 h143 P143 W143 => ?_
  show Go p e below _ (T143.setTop (mkF m 19 #[.val (.ref o), .val (.ref x1), .val (.ref x2), .val (.ref w_M)] []))
  refine P143.xs (fun hA hx hy t k => XS.aloadN hA hx rfl (hb hy d6_19) rfl rfl  k) ?_
  show Go p e below _ (T143.setTop (mkF m 20 #[.val (.ref o), .val (.ref x1), .val (.ref x2), .val (.ref w_M)] [(.ref o)]))
  refine P143.xs (fun hA hx hy t k => XS.aloadN hA hx rfl (hb hy d6_20) rfl rfl  k) ?_
  show Go p e below _ (T143.setTop (mkF m 21 #[.val (.ref o), .val (.ref x1), .val (.ref x2), .val (.ref w_M)] [(.ref w_M), (.ref o)]))
  have Ec149 : Exa Z h143 o "com/example/certain_answers/certainanswers/server/MediaType" := (Ec144.wr W143)
  have Fc150 : Fld Z h143 o "com/example/certain_answers/certainanswers/server/MediaType" "type" "Ljava/lang/String;" (.ref x1) := (Fc145.other W143 (Or.inr (slot_ne (Or.inr (hw _ (List.mem_of_getElem? (i := 50) rfl))) (Or.inr (hw _ (List.mem_of_getElem? (i := 52) rfl))) (by decide) (t := (.object "java/lang/String")) (t' := (.object "java/lang/String")) (by decide) (by decide))))
  have Fc151 : Fld Z h143 o "com/example/certain_answers/certainanswers/server/MediaType" "subtype" "Ljava/lang/String;" (.ref x2) := (Fc146.same W143)
  have Fc152 : Fld Z h143 o "com/example/certain_answers/certainanswers/server/MediaType" "parameters" "Ljava/util/Map;" .null := (Fc147.other W143 (Or.inr (slot_ne (Or.inr (hw _ (List.mem_of_getElem? (i := 54) rfl))) (Or.inr (hw _ (List.mem_of_getElem? (i := 52) rfl))) (by decide) (t := (.object "java/util/Map")) (t' := (.object "java/lang/String")) (by decide) (by decide))))
  refine P143.putF (hw _ (List.mem_of_getElem? (i := 53) rfl)) Via.refl Fc152 Ec149 (Or.inr ⟨(hw _ (List.mem_of_getElem? (i := 54) rfl)), rfl, rfl⟩) (hw _ (List.mem_of_getElem? (i := 27) rfl)) (ty := (.object "java/util/Map")) (v' := (.ref w_M)) (by decide) rfl rfl d6_21 (fun vm _ hal _ => Safe.exa hal Ec149 (by decide) (by decide)) go (Or.inl (List.mem_of_getElem? (i := 0) rfl)) fun T148 h148 P148 W148 => ?_
  show Go p e below _ (T148.setTop (mkF m 24 #[.val (.ref o), .val (.ref x1), .val (.ref x2), .val (.ref w_M)] []))
  have Ec153 : Exa Z h148 o "com/example/certain_answers/certainanswers/server/MediaType" := (Ec149.wr W148)
  have Fc154 : Fld Z h148 o "com/example/certain_answers/certainanswers/server/MediaType" "type" "Ljava/lang/String;" (.ref x1) := (Fc150.other W148 (Or.inr (slot_ne (Or.inr (hw _ (List.mem_of_getElem? (i := 50) rfl))) (Or.inr (hw _ (List.mem_of_getElem? (i := 54) rfl))) (by decide) (t := (.object "java/lang/String")) (t' := (.object "java/util/Map")) (by decide) (by decide))))
  have Fc155 : Fld Z h148 o "com/example/certain_answers/certainanswers/server/MediaType" "subtype" "Ljava/lang/String;" (.ref x2) := (Fc151.other W148 (Or.inr (slot_ne (Or.inr (hw _ (List.mem_of_getElem? (i := 52) rfl))) (Or.inr (hw _ (List.mem_of_getElem? (i := 54) rfl))) (by decide) (t := (.object "java/lang/String")) (t' := (.object "java/util/Map")) (by decide) (by decide))))
  have Fc156 : Fld Z h148 o "com/example/certain_answers/certainanswers/server/MediaType" "parameters" "Ljava/util/Map;" (.ref w_M) := (Fc152.same W148)
  exact P148.retV rfl d6_24 (by decide) (by decide) ⟨rfl, Ec153, Fc154, Fc155⟩

def R_mEss : Room := { frames := 6, cells := 6, slots := 37, locals := 91 }
def Q_mEss (Z : State) (ds1 ds2 : List Int32) (h0 : Heap) (v : Option Value) (h : Heap) : Prop := ∃ x : Addr, v = some (.ref x) ∧ h0.size ≤ x ∧ Str Z h x (((([] : List Int32) ++ ds1) ++ ([(47 : Int32)] : List Int32)) ++ ds2)
set_option maxRecDepth 65536 in
set_option maxHeartbeats 40000000 in
theorem mEss (l : Launch) (Z : State) (a0 : Array Value) (hw : ∀ d ∈ tables_1, d.before a0 Z = true) (hEL : EW Z a0 EL0) (zc : Int32) (S0 : Sta Z Z.heap "java/lang/String" "COMPACT_STRINGS" "Z" (.int zc)) (Pz : ¬ zc = 0) (w_M : Addr) (S_M : Sta Z Z.heap "java/util/ImmutableCollections" "EMPTY_MAP" "Ljava/util/ImmutableCollections$MapN;" (.ref w_M)) (E_M : Exa Z Z.heap w_M "java/util/ImmutableCollections$MapN") (fm : Value) (S_f : Sta Z Z.heap "jdk/internal/util/Preconditions" "SIOOBE_FORMATTER" "Ljava/util/function/BiFunction;" fm) (rf : fm.isRef = true) (o x1 tt1 x2 tt2 : Addr) (kt1 kt2 : ClassId) (ds1 ds2 : List Int32) (h0 : Heap) (hO : Ext Z.heap h0) (Eo : Exa Z h0 o "com/example/certain_answers/certainanswers/server/MediaType") (F_type : Fld Z h0 o "com/example/certain_answers/certainanswers/server/MediaType" "type" "Ljava/lang/String;" (.ref x1)) (F_subtype : Fld Z h0 o "com/example/certain_answers/certainanswers/server/MediaType" "subtype" "Ljava/lang/String;" (.ref x2)) (Ex1 : Exa Z h0 x1 "java/lang/String") (V1 : Fld Z h0 x1 "java/lang/String" "value" "[B" (.ref tt1)) (C1 : Fld Z h0 x1 "java/lang/String" "coder" "B" (.int (0 : Int32))) (A1 : Arv Z h0 tt1 kt1 .byte (Int32.ofNat ds1.length) ((ds1.map StrChars.lo8).map Value.int) (.int 0)) (Ex2 : Exa Z h0 x2 "java/lang/String") (V2 : Fld Z h0 x2 "java/lang/String" "value" "[B" (.ref tt2)) (C2 : Fld Z h0 x2 "java/lang/String" "coder" "B" (.int (0 : Int32))) (A2 : Arv Z h0 tt2 kt2 .byte (Int32.ofNat ds2.length) ((ds2.map StrChars.lo8).map Value.int) (.int 0)) (hl1 : ∀ c ∈ ds1, ¬ c < 0 ∧ ¬ (255 : Int32) < c) (hl2 : ∀ c ∈ ds2, ¬ c < 0 ∧ ¬ (255 : Int32) < c) (hn1 : ds1.length ≤ 2) (hn2 : ds2.length ≤ 2) :
    Con l Z EL0 [] (⟨"com/example/certain_answers/certainanswers/server/MediaType", "essence", "()Ljava/lang/String;"⟩ : MethodName) prog_8_method_3_code 1 (some (.object "java/lang/String")) R_mEss #[(.ref o)] h0 [] (Q_mEss Z ds1 ds2 h0) := by
  refine Con.of (y := (⟨"com/example/certain_answers/certainanswers/server/MediaType", "essence", "()Ljava/lang/String;"⟩ : MethodName)) (f0 := fun m => mkF m 0 #[.val (.ref o)] []) (plainFor_of_name pn_6) hEL hO (fun m => by skip <;> first | (simp [entryFrame, mkF, argsToLocals, Value.category, maxLocals]; done) | rfl) ?_
  intro p e s m below meth c s₁ P0
  show Go p e below _ (s₁.setTop (mkF m 0 #[.val (.ref o)] []))
  refine P0.newO (hw _ (List.mem_of_getElem? (i := 60) rfl)) (hw _ (List.mem_of_getElem? (i := 61) rfl)) (hw _ (List.mem_of_getElem? (i := 62) rfl)) d9_0 (by decide) (by decide) fun T157 h157 o157 g157 P157 E157 A157 D157 => ?_
  have ne_o_o157 : o ≠ o157 := Nat.ne_of_lt (Nat.lt_of_lt_of_le Eo.lt (Nat.le_of_eq g157.symm))
  have ne_x1_o157 : x1 ≠ o157 := Nat.ne_of_lt (Nat.lt_of_lt_of_le Ex1.lt (Nat.le_of_eq g157.symm))
  have ne_x2_o157 : x2 ≠ o157 := Nat.ne_of_lt (Nat.lt_of_lt_of_le Ex2.lt (Nat.le_of_eq g157.symm))
  have ne_tt1_o157 : tt1 ≠ o157 := Nat.ne_of_lt (Nat.lt_of_lt_of_le A1.lt (Nat.le_of_eq g157.symm))
  have ne_tt2_o157 : tt2 ≠ o157 := Nat.ne_of_lt (Nat.lt_of_lt_of_le A2.lt (Nat.le_of_eq g157.symm))
  have gz_o157 : Z.heap.size ≤ o157 := Nat.le_trans P0.old.1 (Nat.le_of_eq g157.symm)
  have gw_o157 : h0.size ≤ o157 := Nat.le_trans P0.kept.1 (Nat.le_of_eq g157.symm)
  have F157_value : Fld Z h157 o157 "java/lang/AbstractStringBuilder" "value" "[B" .null := D157 (Or.inl (hw _ (List.mem_of_getElem? (i := 75) rfl))) (ty := (.array .byte)) (by decide)
  have F157_coder : Fld Z h157 o157 "java/lang/AbstractStringBuilder" "coder" "B" (.int (0 : Int32)) := D157 (Or.inl (hw _ (List.mem_of_getElem? (i := 77) rfl))) (ty := .byte) (by decide)
  have F157_count : Fld Z h157 o157 "java/lang/AbstractStringBuilder" "count" "I" (.int (0 : Int32)) := D157 (Or.inl (hw _ (List.mem_of_getElem? (i := 100) rfl))) (ty := .int) (by decide)
  show Go p e below _ (T157.setTop (mkF m 3 #[.val (.ref o)] [(.ref o157)]))
  refine P157.xs (fun hA hx hy t k => XS.dup hA hx rfl (hb hy d9_3) rfl rfl k) ?_
  show Go p e below _ (T157.setTop (mkF m 4 #[.val (.ref o)] [(.ref o157), (.ref o157)]))
  have Ec159 : Exa Z h157 o "com/example/certain_answers/certainanswers/server/MediaType" := (Eo.ext E157)
  have Ec160 : Exa Z h157 x1 "java/lang/String" := (Ex1.ext E157)
  have Ec161 : Exa Z h157 x2 "java/lang/String" := (Ex2.ext E157)
  have Fc162 : Fld Z h157 o "com/example/certain_answers/certainanswers/server/MediaType" "type" "Ljava/lang/String;" (.ref x1) := (F_type.ext E157)
  have Fc163 : Fld Z h157 o "com/example/certain_answers/certainanswers/server/MediaType" "subtype" "Ljava/lang/String;" (.ref x2) := (F_subtype.ext E157)
  have Fc164 : Fld Z h157 x1 "java/lang/String" "value" "[B" (.ref tt1) := (V1.ext E157)
  have Fc165 : Fld Z h157 x1 "java/lang/String" "coder" "B" (.int (0 : Int32)) := (C1.ext E157)
  have Fc166 : Fld Z h157 x2 "java/lang/String" "value" "[B" (.ref tt2) := (V2.ext E157)
  have Fc167 : Fld Z h157 x2 "java/lang/String" "coder" "B" (.int (0 : Int32)) := (C2.ext E157)
  have Ac168 : Arv Z h157 tt1 kt1 .byte (Int32.ofNat ds1.length) ((ds1.map StrChars.lo8).map Value.int) (.int 0) := (A1.ext E157)
  have Ac169 : Arv Z h157 tt2 kt2 .byte (Int32.ofNat ds2.length) ((ds2.map StrChars.lo8).map Value.int) (.int 0) := (A2.ext E157)
  refine P157.callI rfl (hw _ (List.mem_of_getElem? (i := 63) rfl)) (hw _ (List.mem_of_getElem? (i := 64) rfl)) (hw _ (List.mem_of_getElem? (i := 62) rfl)) (hw _ (List.mem_of_getElem? (i := 65) rfl)) (by decide) (mSI l Z a0 hw hEL zc S0 Pz w_M S_M E_M fm S_f rf o157 h157 P157.old A157 F157_value F157_coder F157_count gz_o157) (W := 1) (by decide) (by decide) (by decide) (by decide) (allS (Or.inr gw_o157) all0) pd_15 (argsL := []) rfl rfl rfl (Nat.le_of_eq rfl) d9_4 fun v158 T158 h158 P158 K158 Q158 => ?_
  obtain ⟨rfl, bb158, kd158, gB158, E158, Fv158, Fc158, Fn158, B158⟩ := Q158
  have ne_o_bb158 : o ≠ bb158 := Nat.ne_of_lt (Nat.lt_of_lt_of_le Ec159.lt gB158)
  have ne_x1_bb158 : x1 ≠ bb158 := Nat.ne_of_lt (Nat.lt_of_lt_of_le Ec160.lt gB158)
  have ne_x2_bb158 : x2 ≠ bb158 := Nat.ne_of_lt (Nat.lt_of_lt_of_le Ec161.lt gB158)
  have ne_o157_bb158 : o157 ≠ bb158 := Nat.ne_of_lt (Nat.lt_of_lt_of_le A157.lt gB158)
  have ne_tt1_bb158 : tt1 ≠ bb158 := Nat.ne_of_lt (Nat.lt_of_lt_of_le Ac168.lt gB158)
  have ne_tt2_bb158 : tt2 ≠ bb158 := Nat.ne_of_lt (Nat.lt_of_lt_of_le Ac169.lt gB158)
  have gz_bb158 : Z.heap.size ≤ bb158 := Nat.le_trans P157.old.1 gB158
  have gw_bb158 : h0.size ≤ bb158 := Nat.le_trans P157.kept.1 gB158
  show Go p e below _ (T158.setTop (mkF m 7 #[.val (.ref o)] [(.ref o157)]))
  refine P158.xs (fun hA hx hy t k => XS.aloadN hA hx rfl (hb hy d9_7) rfl rfl  k) ?_
  show Go p e below _ (T158.setTop (mkF m 8 #[.val (.ref o)] [(.ref o), (.ref o157)]))
  refine P158.getF (host := "") (Or.inl (hw _ (List.mem_of_getElem? (i := 49) rfl))) Via.refl (Fc162.keep K158 (ninS ne_o_o157 nin0)) d9_8 fun T170 P170 => ?_
  show Go p e below _ (T170.setTop (mkF m 11 #[.val (.ref o)] [(.ref x1), (.ref o157)]))
  have Ec172 : Exa Z h158 o "com/example/certain_answers/certainanswers/server/MediaType" := (Ec159.keep K158)
  have Ec173 : Exa Z h158 x1 "java/lang/String" := (Ec160.keep K158)
  have Ec174 : Exa Z h158 x2 "java/lang/String" := (Ec161.keep K158)
  have Fc175 : Fld Z h158 o "com/example/certain_answers/certainanswers/server/MediaType" "type" "Ljava/lang/String;" (.ref x1) := (Fc162.keep K158 (ninS ne_o_o157 nin0))
  have Fc176 : Fld Z h158 o "com/example/certain_answers/certainanswers/server/MediaType" "subtype" "Ljava/lang/String;" (.ref x2) := (Fc163.keep K158 (ninS ne_o_o157 nin0))
  have Fc177 : Fld Z h158 x1 "java/lang/String" "value" "[B" (.ref tt1) := (Fc164.keep K158 (ninS ne_x1_o157 nin0))
  have Fc178 : Fld Z h158 x1 "java/lang/String" "coder" "B" (.int (0 : Int32)) := (Fc165.keep K158 (ninS ne_x1_o157 nin0))
  have Fc179 : Fld Z h158 x2 "java/lang/String" "value" "[B" (.ref tt2) := (Fc166.keep K158 (ninS ne_x2_o157 nin0))
  have Fc180 : Fld Z h158 x2 "java/lang/String" "coder" "B" (.int (0 : Int32)) := (Fc167.keep K158 (ninS ne_x2_o157 nin0))
  have Ac181 : Arv Z h158 tt1 kt1 .byte (Int32.ofNat ds1.length) ((ds1.map StrChars.lo8).map Value.int) (.int 0) := (Ac168.keep K158 (ninS ne_tt1_o157 nin0))
  have Ac182 : Arv Z h158 tt2 kt2 .byte (Int32.ofNat ds2.length) ((ds2.map StrChars.lo8).map Value.int) (.int 0) := (Ac169.keep K158 (ninS ne_tt2_o157 nin0))
  refine P170.callV (hw _ (List.mem_of_getElem? (i := 78) rfl)) (hw _ (List.mem_of_getElem? (i := 79) rfl)) (hw _ (List.mem_of_getElem? (i := 81) rfl)) (nfOf (hw _ (List.mem_of_getElem? (i := 81) rfl))) (hw _ (List.mem_of_getElem? (i := 80) rfl)) (hw _ (List.mem_of_getElem? (i := 62) rfl)) (hw _ (List.mem_of_getElem? (i := 82) rfl)) (by decide) E158 (mSAp l Z a0 hw hEL zc S0 Pz w_M S_M E_M fm S_f rf x1 tt1 kt1 ds1 o157 bb158 kd158 ([] : List Int32) h158 P170.old Ec173 Fc177 Fc178 Ac181 E158 Fv158 Fc158 Fn158 B158 (by simp only [List.length_append, List.length_nil, List.length_cons]; omega) gz_bb158 ne_tt1_bb158 gz_o157) (W := 0) (by decide) (by decide) (by decide) (by decide) (allS (Or.inr gw_o157) (allS (Or.inr gw_bb158) all0)) pd_17 (argsL := [(.ref x1)]) rfl rfl rfl (Nat.le_of_eq rfl) d9_11 fun v171 T171 h171 P171 K171 Q171 => ?_
  obtain ⟨rfl, E171, Fv171, Fc171, Fn171, B171⟩ := Q171
  show Go p e below _ (T171.setTop (mkF m 14 #[.val (.ref o)] [(.ref o157)]))
  refine P171.ldcR (hw _ (List.mem_of_getElem? (i := 126) rfl)) (wSt hw) (by decide) (vs := [(.int (47 : Int32))]) (z := (1 : Int32)) ⟨by decide, by decide⟩ (by decide) (by decide) d9_14 (n := 4) (by decide) (by decide) (by decide) (by decide) fun T183 h183 o183 b183 k183 P183 E183 A183 C183 V183 B183 => ?_
  show Go p e below _ (T183.setTop (mkF m 16 #[.val (.ref o)] [(.ref o183), (.ref o157)]))
  have Ec184 : Exa Z h183 o "com/example/certain_answers/certainanswers/server/MediaType" := ((Ec172.keep K171).ext E183)
  have Ec185 : Exa Z h183 x1 "java/lang/String" := ((Ec173.keep K171).ext E183)
  have Ec186 : Exa Z h183 x2 "java/lang/String" := ((Ec174.keep K171).ext E183)
  have Ec187 : Exa Z h183 o157 "java/lang/StringBuilder" := (E171.ext E183)
  have Fc188 : Fld Z h183 o "com/example/certain_answers/certainanswers/server/MediaType" "type" "Ljava/lang/String;" (.ref x1) := ((Fc175.keep K171 (ninS ne_o_o157 (ninS ne_o_bb158 nin0))).ext E183)
  have Fc189 : Fld Z h183 o "com/example/certain_answers/certainanswers/server/MediaType" "subtype" "Ljava/lang/String;" (.ref x2) := ((Fc176.keep K171 (ninS ne_o_o157 (ninS ne_o_bb158 nin0))).ext E183)
  have Fc190 : Fld Z h183 x1 "java/lang/String" "value" "[B" (.ref tt1) := ((Fc177.keep K171 (ninS ne_x1_o157 (ninS ne_x1_bb158 nin0))).ext E183)
  have Fc191 : Fld Z h183 x1 "java/lang/String" "coder" "B" (.int (0 : Int32)) := ((Fc178.keep K171 (ninS ne_x1_o157 (ninS ne_x1_bb158 nin0))).ext E183)
  have Fc192 : Fld Z h183 x2 "java/lang/String" "value" "[B" (.ref tt2) := ((Fc179.keep K171 (ninS ne_x2_o157 (ninS ne_x2_bb158 nin0))).ext E183)
  have Fc193 : Fld Z h183 x2 "java/lang/String" "coder" "B" (.int (0 : Int32)) := ((Fc180.keep K171 (ninS ne_x2_o157 (ninS ne_x2_bb158 nin0))).ext E183)
  have Fc194 : Fld Z h183 o157 "java/lang/AbstractStringBuilder" "value" "[B" (.ref bb158) := (Fv171.ext E183)
  have Fc195 : Fld Z h183 o157 "java/lang/AbstractStringBuilder" "coder" "B" (.int (0 : Int32)) := (Fc171.ext E183)
  have Fc196 : Fld Z h183 o157 "java/lang/AbstractStringBuilder" "count" "I" (.int (Int32.ofNat (([] : List Int32) ++ ds1).length)) := (Fn171.ext E183)
  have Ac197 : Arv Z h183 tt1 kt1 .byte (Int32.ofNat ds1.length) ((ds1.map StrChars.lo8).map Value.int) (.int 0) := ((Ac181.keep K171 (ninS ne_tt1_o157 (ninS ne_tt1_bb158 nin0))).ext E183)
  have Ac198 : Arv Z h183 tt2 kt2 .byte (Int32.ofNat ds2.length) ((ds2.map StrChars.lo8).map Value.int) (.int 0) := ((Ac182.keep K171 (ninS ne_tt2_o157 (ninS ne_tt2_bb158 nin0))).ext E183)
  have Ac199 : Arv Z h183 bb158 kd158 .byte (16 : Int32) (fill 16 (([] : List Int32) ++ ds1)) (.int 0) := (B171.ext E183)
  have AL : Arv Z h183 b183 k183 .byte (Int32.ofNat ([(47 : Int32)] : List Int32).length) ((([(47 : Int32)] : List Int32).map StrChars.lo8).map Value.int) (.int 0) := B183
  have nl200 : o183 ≠ o157 := (Exa.ne A183 Ec187 (by decide))
  have nl201 : o183 ≠ bb158 := (Exa.neArv A183 Ac199 (hw _ (List.mem_of_getElem? (i := 5) rfl)))
  have nl202 : b183 ≠ o157 := (Ne.symm (Exa.neArv Ec187 AL (hw _ (List.mem_of_getElem? (i := 61) rfl))))
  have nl203 : b183 ≠ bb158 := (arvNe AL Ac199 (by decide))
  show Go p e below _ (T183.setTop (mkF m 16 #[.val (.ref o)] [(.ref o183), (.ref o157)]))
  refine P183.callV (hw _ (List.mem_of_getElem? (i := 78) rfl)) (hw _ (List.mem_of_getElem? (i := 79) rfl)) (hw _ (List.mem_of_getElem? (i := 81) rfl)) (nfOf (hw _ (List.mem_of_getElem? (i := 81) rfl))) (hw _ (List.mem_of_getElem? (i := 80) rfl)) (hw _ (List.mem_of_getElem? (i := 62) rfl)) (hw _ (List.mem_of_getElem? (i := 82) rfl)) (by decide) Ec187 (mSAp l Z a0 hw hEL zc S0 Pz w_M S_M E_M fm S_f rf o183 b183 k183 ([(47 : Int32)] : List Int32) o157 bb158 kd158 (([] : List Int32) ++ ds1) h183 P183.old A183 V183 C183 AL Ec187 Fc194 Fc195 Fc196 Ac199 (by simp only [List.length_append, List.length_nil, List.length_cons]; omega) gz_bb158 nl203 gz_o157) (W := 0) (by decide) (by decide) (by decide) (by decide) (allS (Or.inr gw_o157) (allS (Or.inr gw_bb158) all0)) pd_17 (argsL := [(.ref o183)]) rfl rfl rfl (Nat.le_of_eq rfl) d9_16 fun v204 T204 h204 P204 K204 Q204 => ?_
  obtain ⟨rfl, E204, Fv204, Fc204, Fn204, B204⟩ := Q204
  show Go p e below _ (T204.setTop (mkF m 19 #[.val (.ref o)] [(.ref o157)]))
  refine P204.xs (fun hA hx hy t k => XS.aloadN hA hx rfl (hb hy d9_19) rfl rfl  k) ?_
  show Go p e below _ (T204.setTop (mkF m 20 #[.val (.ref o)] [(.ref o), (.ref o157)]))
  refine P204.getF (host := "") (Or.inl (hw _ (List.mem_of_getElem? (i := 51) rfl))) Via.refl (Fc189.keep K204 (ninS ne_o_o157 (ninS ne_o_bb158 nin0))) d9_20 fun T205 P205 => ?_
  show Go p e below _ (T205.setTop (mkF m 23 #[.val (.ref o)] [(.ref x2), (.ref o157)]))
  have Ec207 : Exa Z h204 o "com/example/certain_answers/certainanswers/server/MediaType" := (Ec184.keep K204)
  have Ec208 : Exa Z h204 x1 "java/lang/String" := (Ec185.keep K204)
  have Ec209 : Exa Z h204 x2 "java/lang/String" := (Ec186.keep K204)
  have Fc210 : Fld Z h204 o "com/example/certain_answers/certainanswers/server/MediaType" "type" "Ljava/lang/String;" (.ref x1) := (Fc188.keep K204 (ninS ne_o_o157 (ninS ne_o_bb158 nin0)))
  have Fc211 : Fld Z h204 o "com/example/certain_answers/certainanswers/server/MediaType" "subtype" "Ljava/lang/String;" (.ref x2) := (Fc189.keep K204 (ninS ne_o_o157 (ninS ne_o_bb158 nin0)))
  have Fc212 : Fld Z h204 x1 "java/lang/String" "value" "[B" (.ref tt1) := (Fc190.keep K204 (ninS ne_x1_o157 (ninS ne_x1_bb158 nin0)))
  have Fc213 : Fld Z h204 x1 "java/lang/String" "coder" "B" (.int (0 : Int32)) := (Fc191.keep K204 (ninS ne_x1_o157 (ninS ne_x1_bb158 nin0)))
  have Fc214 : Fld Z h204 x2 "java/lang/String" "value" "[B" (.ref tt2) := (Fc192.keep K204 (ninS ne_x2_o157 (ninS ne_x2_bb158 nin0)))
  have Fc215 : Fld Z h204 x2 "java/lang/String" "coder" "B" (.int (0 : Int32)) := (Fc193.keep K204 (ninS ne_x2_o157 (ninS ne_x2_bb158 nin0)))
  have Ac216 : Arv Z h204 tt1 kt1 .byte (Int32.ofNat ds1.length) ((ds1.map StrChars.lo8).map Value.int) (.int 0) := (Ac197.keep K204 (ninS ne_tt1_o157 (ninS ne_tt1_bb158 nin0)))
  have Ac217 : Arv Z h204 tt2 kt2 .byte (Int32.ofNat ds2.length) ((ds2.map StrChars.lo8).map Value.int) (.int 0) := (Ac198.keep K204 (ninS ne_tt2_o157 (ninS ne_tt2_bb158 nin0)))
  refine P205.callV (hw _ (List.mem_of_getElem? (i := 78) rfl)) (hw _ (List.mem_of_getElem? (i := 79) rfl)) (hw _ (List.mem_of_getElem? (i := 81) rfl)) (nfOf (hw _ (List.mem_of_getElem? (i := 81) rfl))) (hw _ (List.mem_of_getElem? (i := 80) rfl)) (hw _ (List.mem_of_getElem? (i := 62) rfl)) (hw _ (List.mem_of_getElem? (i := 82) rfl)) (by decide) E204 (mSAp l Z a0 hw hEL zc S0 Pz w_M S_M E_M fm S_f rf x2 tt2 kt2 ds2 o157 bb158 kd158 ((([] : List Int32) ++ ds1) ++ ([(47 : Int32)] : List Int32)) h204 P205.old Ec209 Fc214 Fc215 Ac217 E204 Fv204 Fc204 Fn204 B204 (by simp only [List.length_append, List.length_nil, List.length_cons]; omega) gz_bb158 ne_tt2_bb158 gz_o157) (W := 0) (by decide) (by decide) (by decide) (by decide) (allS (Or.inr gw_o157) (allS (Or.inr gw_bb158) all0)) pd_17 (argsL := [(.ref x2)]) rfl rfl rfl (Nat.le_of_eq rfl) d9_23 fun v206 T206 h206 P206 K206 Q206 => ?_
  obtain ⟨rfl, E206, Fv206, Fc206, Fn206, B206⟩ := Q206
  show Go p e below _ (T206.setTop (mkF m 26 #[.val (.ref o)] [(.ref o157)]))
  have hl3 : ∀ c ∈ (((([] : List Int32) ++ ds1) ++ ([(47 : Int32)] : List Int32)) ++ ds2), ¬ c < 0 ∧ ¬ (255 : Int32) < c := latApp (latApp (latApp lat0 hl1) (latS (by decide) lat0)) hl2
  have Ec219 : Exa Z h206 o "com/example/certain_answers/certainanswers/server/MediaType" := (Ec207.keep K206)
  have Ec220 : Exa Z h206 x1 "java/lang/String" := (Ec208.keep K206)
  have Ec221 : Exa Z h206 x2 "java/lang/String" := (Ec209.keep K206)
  have Fc222 : Fld Z h206 o "com/example/certain_answers/certainanswers/server/MediaType" "type" "Ljava/lang/String;" (.ref x1) := (Fc210.keep K206 (ninS ne_o_o157 (ninS ne_o_bb158 nin0)))
  have Fc223 : Fld Z h206 o "com/example/certain_answers/certainanswers/server/MediaType" "subtype" "Ljava/lang/String;" (.ref x2) := (Fc211.keep K206 (ninS ne_o_o157 (ninS ne_o_bb158 nin0)))
  have Fc224 : Fld Z h206 x1 "java/lang/String" "value" "[B" (.ref tt1) := (Fc212.keep K206 (ninS ne_x1_o157 (ninS ne_x1_bb158 nin0)))
  have Fc225 : Fld Z h206 x1 "java/lang/String" "coder" "B" (.int (0 : Int32)) := (Fc213.keep K206 (ninS ne_x1_o157 (ninS ne_x1_bb158 nin0)))
  have Fc226 : Fld Z h206 x2 "java/lang/String" "value" "[B" (.ref tt2) := (Fc214.keep K206 (ninS ne_x2_o157 (ninS ne_x2_bb158 nin0)))
  have Fc227 : Fld Z h206 x2 "java/lang/String" "coder" "B" (.int (0 : Int32)) := (Fc215.keep K206 (ninS ne_x2_o157 (ninS ne_x2_bb158 nin0)))
  have Ac228 : Arv Z h206 tt1 kt1 .byte (Int32.ofNat ds1.length) ((ds1.map StrChars.lo8).map Value.int) (.int 0) := (Ac216.keep K206 (ninS ne_tt1_o157 (ninS ne_tt1_bb158 nin0)))
  have Ac229 : Arv Z h206 tt2 kt2 .byte (Int32.ofNat ds2.length) ((ds2.map StrChars.lo8).map Value.int) (.int 0) := (Ac217.keep K206 (ninS ne_tt2_o157 (ninS ne_tt2_bb158 nin0)))
  refine P206.callV (hw _ (List.mem_of_getElem? (i := 127) rfl)) (hw _ (List.mem_of_getElem? (i := 128) rfl)) (hw _ (List.mem_of_getElem? (i := 130) rfl)) (nfOf (hw _ (List.mem_of_getElem? (i := 130) rfl))) (hw _ (List.mem_of_getElem? (i := 129) rfl)) (hw _ (List.mem_of_getElem? (i := 62) rfl)) (hw _ (List.mem_of_getElem? (i := 131) rfl)) (by decide) E206 (mTS l Z a0 hw hEL zc S0 Pz w_M S_M E_M fm S_f rf o157 bb158 kd158 (((([] : List Int32) ++ ds1) ++ ([(47 : Int32)] : List Int32)) ++ ds2) h206 P206.old E206 Fv206 Fc206 Fn206 B206 (by simp only [List.length_append, List.length_nil, List.length_cons]; omega) (by simp only [List.length_append, List.length_nil, List.length_cons]; omega) hl3) (W := 0) (by decide) (by decide) (by decide) (by decide) all0 pd_18 (argsL := []) rfl rfl rfl (Nat.le_of_eq rfl) d9_26 fun v218 T218 h218 P218 K218 Q218 => ?_
  obtain ⟨o218, rfl, g218, Ss218⟩ := Q218
  have ne_o_o218 : o ≠ o218 := Nat.ne_of_lt (Nat.lt_of_lt_of_le Ec219.lt g218)
  have ne_x1_o218 : x1 ≠ o218 := Nat.ne_of_lt (Nat.lt_of_lt_of_le Ec220.lt g218)
  have ne_x2_o218 : x2 ≠ o218 := Nat.ne_of_lt (Nat.lt_of_lt_of_le Ec221.lt g218)
  have ne_o157_o218 : o157 ≠ o218 := Nat.ne_of_lt (Nat.lt_of_lt_of_le E206.lt g218)
  have ne_tt1_o218 : tt1 ≠ o218 := Nat.ne_of_lt (Nat.lt_of_lt_of_le Ac228.lt g218)
  have ne_tt2_o218 : tt2 ≠ o218 := Nat.ne_of_lt (Nat.lt_of_lt_of_le Ac229.lt g218)
  have ne_bb158_o218 : bb158 ≠ o218 := Nat.ne_of_lt (Nat.lt_of_lt_of_le B206.lt g218)
  have gz_o218 : Z.heap.size ≤ o218 := Nat.le_trans P206.old.1 g218
  have gw_o218 : h0.size ≤ o218 := Nat.le_trans P206.kept.1 g218
  show Go p e below _ (T218.setTop (mkF m 29 #[.val (.ref o)] [(.ref o218)]))
  exact P218.retR rfl rfl rfl d9_29 (by decide) (by decide) ⟨o218, rfl, gw_o218, Ss218⟩

def R_mStr : Room := { frames := 4, cells := 6, slots := 12, locals := 66 }
def Q_mStr (Z : State) (pt : Int32) (h0 : Heap) (v : Option Value) (h : Heap) : Prop := ∃ (x : Addr) (n : Int32), v = some (.ref x) ∧ h0.size ≤ x ∧ (n = 0 ∨ n = 1 ∨ n = 2) ∧ Str Z h x (cs3 n ((pt &&& (255 : Int32)).toUInt32.toUInt16.toUInt32.toInt32) ((((pt.toUInt32 >>> ((8 : Int32) &&& 31).toUInt32).toInt32) &&& (255 : Int32)).toUInt32.toUInt16.toUInt32.toInt32) 0)
set_option maxRecDepth 65536 in
set_option maxHeartbeats 40000000 in
theorem mStr (l : Launch) (Z : State) (a0 : Array Value) (hw : ∀ d ∈ tables_1, d.before a0 Z = true) (hEL : EW Z a0 EL0) (zc : Int32) (S0 : Sta Z Z.heap "java/lang/String" "COMPACT_STRINGS" "Z" (.int zc)) (Pz : ¬ zc = 0) (w_M : Addr) (S_M : Sta Z Z.heap "java/util/ImmutableCollections" "EMPTY_MAP" "Ljava/util/ImmutableCollections$MapN;" (.ref w_M)) (E_M : Exa Z Z.heap w_M "java/util/ImmutableCollections$MapN") (fm : Value) (S_f : Sta Z Z.heap "jdk/internal/util/Preconditions" "SIOOBE_FORMATTER" "Ljava/util/function/BiFunction;" fm) (rf : fm.isRef = true) (pt : Int32) (h0 : Heap) (hO : Ext Z.heap h0)  :
    Con l Z EL0 [] (⟨"com/example/certain_answers/certainanswers/server/MediaTypeEssencePinLaw", "str", "(I)Ljava/lang/String;"⟩ : MethodName) method_2_code 4 (some (.object "java/lang/String")) R_mStr #[(.int pt)] h0 [] (Q_mStr Z pt h0) := by
  refine Con.of (y := (⟨"com/example/certain_answers/certainanswers/server/MediaTypeEssencePinLaw", "str", "(I)Ljava/lang/String;"⟩ : MethodName)) (f0 := fun m => mkF m 0 #[.val (.int pt), .unset, .unset, .unset] []) (plainFor_of_name pn_7) hEL hO (fun m => by skip <;> first | (simp [entryFrame, mkF, argsToLocals, Value.category, maxLocals]; done) | rfl) ?_
  intro p e s m below meth c s₁ P0
  show Go p e below _ (s₁.setTop (mkF m 0 #[.val (.int pt), .unset, .unset, .unset] []))
  refine P0.xs (fun hA hx hy t k => XS.iloadN hA hx rfl (hb hy d1_0) rfl  k) ?_
  show Go p e below _ (s₁.setTop (mkF m 1 #[.val (.int pt), .unset, .unset, .unset] [(.int pt)]))
  refine P0.xs (fun hA hx hy t k => XS.bipush hA hx rfl (hb hy d1_1) k) ?_
  show Go p e below _ (s₁.setTop (mkF m 3 #[.val (.int pt), .unset, .unset, .unset] [(.int (16 : Int32)), (.int pt)]))
  refine P0.xs (fun hA hx hy t k => XS.iushr hA hx rfl (hb hy d1_3) rfl k) ?_
  show Go p e below _ (s₁.setTop (mkF m 4 #[.val (.int pt), .unset, .unset, .unset] [(.int ((pt.toUInt32 >>> ((16 : Int32) &&& 31).toUInt32).toInt32))]))
  refine P0.xs (fun hA hx hy t k => XS.sipush hA hx rfl (hb hy d1_4) k) ?_
  show Go p e below _ (s₁.setTop (mkF m 7 #[.val (.int pt), .unset, .unset, .unset] [(.int (255 : Int32)), (.int ((pt.toUInt32 >>> ((16 : Int32) &&& 31).toUInt32).toInt32))]))
  refine P0.xs (fun hA hx hy t k => XS.iand hA hx rfl (hb hy d1_7) rfl k) ?_
  show Go p e below _ (s₁.setTop (mkF m 8 #[.val (.int pt), .unset, .unset, .unset] [(.int (((pt.toUInt32 >>> ((16 : Int32) &&& 31).toUInt32).toInt32) &&& (255 : Int32)))]))
  refine P0.xs (fun hA hx hy t k => XS.iconst hA hx rfl (hb hy d1_8) k) ?_
  show Go p e below _ (s₁.setTop (mkF m 9 #[.val (.int pt), .unset, .unset, .unset] [(.int (3 : Int32)), (.int (((pt.toUInt32 >>> ((16 : Int32) &&& 31).toUInt32).toInt32) &&& (255 : Int32)))]))
  refine P0.st (fun vm0 locs X hx hy t k => Jvm.RoadKit.iremM X hx rfl (hb hy d1_9) rfl (by decide) k) ?_
  show Go p e below _ (s₁.setTop (mkF m 10 #[.val (.int pt), .unset, .unset, .unset] [(.int ((((pt.toUInt32 >>> ((16 : Int32) &&& 31).toUInt32).toInt32) &&& (255 : Int32)) % (3 : Int32)))]))
  have hn := rem255 (((pt.toUInt32 >>> ((16 : Int32) &&& 31).toUInt32).toInt32))
  generalize hgn : ((((pt.toUInt32 >>> ((16 : Int32) &&& 31).toUInt32).toInt32) &&& (255 : Int32)) % (3 : Int32)) = nn at hn ⊢
  show Go p e below _ (s₁.setTop (mkF m 10 #[.val (.int pt), .unset, .unset, .unset] [(.int nn)]))
  rcases hn with rfl | rfl | rfl
  · show Go p e below _ (s₁.setTop (mkF m 10 #[.val (.int pt), .unset, .unset, .unset] [(.int (0 : Int32))]))
    refine P0.xs (fun hA hx hy t k => XS.istoreN hA hx rfl (hb hy d1_10) rfl (l' := #[.val (.int pt), .val (.int (0 : Int32)), .unset, .unset]) rfl k) ?_
    show Go p e below _ (s₁.setTop (mkF m 11 #[.val (.int pt), .val (.int (0 : Int32)), .unset, .unset] []))
    refine P0.xs (fun hA hx hy t k => XS.iloadN hA hx rfl (hb hy d1_11) rfl  k) ?_
    show Go p e below _ (s₁.setTop (mkF m 12 #[.val (.int pt), .val (.int (0 : Int32)), .unset, .unset] [(.int pt)]))
    refine P0.xs (fun hA hx hy t k => XS.sipush hA hx rfl (hb hy d1_12) k) ?_
    show Go p e below _ (s₁.setTop (mkF m 15 #[.val (.int pt), .val (.int (0 : Int32)), .unset, .unset] [(.int (255 : Int32)), (.int pt)]))
    refine P0.xs (fun hA hx hy t k => XS.iand hA hx rfl (hb hy d1_15) rfl k) ?_
    show Go p e below _ (s₁.setTop (mkF m 16 #[.val (.int pt), .val (.int (0 : Int32)), .unset, .unset] [(.int (pt &&& (255 : Int32)))]))
    refine P0.xs (fun hA hx hy t k => XS.i2c hA hx rfl (hb hy d1_16) rfl k) ?_
    show Go p e below _ (s₁.setTop (mkF m 17 #[.val (.int pt), .val (.int (0 : Int32)), .unset, .unset] [(.int ((pt &&& (255 : Int32)).toUInt32.toUInt16.toUInt32.toInt32))]))
    generalize hch230 : ((pt &&& (255 : Int32)).toUInt32.toUInt16.toUInt32.toInt32) = ch230
    obtain ⟨lch230, nch230⟩ := chr255 hch230
    show Go p e below _ (s₁.setTop (mkF m 17 #[.val (.int pt), .val (.int (0 : Int32)), .unset, .unset] [(.int ch230)]))
    refine P0.xs (fun hA hx hy t k => XS.istoreN hA hx rfl (hb hy d1_17) rfl (l' := #[.val (.int pt), .val (.int (0 : Int32)), .val (.int ch230), .unset]) rfl k) ?_
    show Go p e below _ (s₁.setTop (mkF m 18 #[.val (.int pt), .val (.int (0 : Int32)), .val (.int ch230), .unset] []))
    refine P0.xs (fun hA hx hy t k => XS.iloadN hA hx rfl (hb hy d1_18) rfl  k) ?_
    show Go p e below _ (s₁.setTop (mkF m 19 #[.val (.int pt), .val (.int (0 : Int32)), .val (.int ch230), .unset] [(.int pt)]))
    refine P0.xs (fun hA hx hy t k => XS.bipush hA hx rfl (hb hy d1_19) k) ?_
    show Go p e below _ (s₁.setTop (mkF m 21 #[.val (.int pt), .val (.int (0 : Int32)), .val (.int ch230), .unset] [(.int (8 : Int32)), (.int pt)]))
    refine P0.xs (fun hA hx hy t k => XS.iushr hA hx rfl (hb hy d1_21) rfl k) ?_
    show Go p e below _ (s₁.setTop (mkF m 22 #[.val (.int pt), .val (.int (0 : Int32)), .val (.int ch230), .unset] [(.int ((pt.toUInt32 >>> ((8 : Int32) &&& 31).toUInt32).toInt32))]))
    refine P0.xs (fun hA hx hy t k => XS.sipush hA hx rfl (hb hy d1_22) k) ?_
    show Go p e below _ (s₁.setTop (mkF m 25 #[.val (.int pt), .val (.int (0 : Int32)), .val (.int ch230), .unset] [(.int (255 : Int32)), (.int ((pt.toUInt32 >>> ((8 : Int32) &&& 31).toUInt32).toInt32))]))
    refine P0.xs (fun hA hx hy t k => XS.iand hA hx rfl (hb hy d1_25) rfl k) ?_
    show Go p e below _ (s₁.setTop (mkF m 26 #[.val (.int pt), .val (.int (0 : Int32)), .val (.int ch230), .unset] [(.int (((pt.toUInt32 >>> ((8 : Int32) &&& 31).toUInt32).toInt32) &&& (255 : Int32)))]))
    refine P0.xs (fun hA hx hy t k => XS.i2c hA hx rfl (hb hy d1_26) rfl k) ?_
    show Go p e below _ (s₁.setTop (mkF m 27 #[.val (.int pt), .val (.int (0 : Int32)), .val (.int ch230), .unset] [(.int ((((pt.toUInt32 >>> ((8 : Int32) &&& 31).toUInt32).toInt32) &&& (255 : Int32)).toUInt32.toUInt16.toUInt32.toInt32))]))
    generalize hch231 : ((((pt.toUInt32 >>> ((8 : Int32) &&& 31).toUInt32).toInt32) &&& (255 : Int32)).toUInt32.toUInt16.toUInt32.toInt32) = ch231
    obtain ⟨lch231, nch231⟩ := chr255 hch231
    show Go p e below _ (s₁.setTop (mkF m 27 #[.val (.int pt), .val (.int (0 : Int32)), .val (.int ch230), .unset] [(.int ch231)]))
    refine P0.xs (fun hA hx hy t k => XS.istoreN hA hx rfl (hb hy d1_27) rfl (l' := #[.val (.int pt), .val (.int (0 : Int32)), .val (.int ch230), .val (.int ch231)]) rfl k) ?_
    show Go p e below _ (s₁.setTop (mkF m 28 #[.val (.int pt), .val (.int (0 : Int32)), .val (.int ch230), .val (.int ch231)] []))
    refine P0.xs (fun hA hx hy t k => XS.iloadN hA hx rfl (hb hy d1_28) rfl  k) ?_
    show Go p e below _ (s₁.setTop (mkF m 29 #[.val (.int pt), .val (.int (0 : Int32)), .val (.int ch230), .val (.int ch231)] [(.int (0 : Int32))]))
    refine P0.xs (fun hA hx hy t k => XS.ifNo hA hx rfl (hb hy d1_29) rfl ((if0 _ _).trans (teq (by decide)).2) k) ?_
    show Go p e below _ (s₁.setTop (mkF m 32 #[.val (.int pt), .val (.int (0 : Int32)), .val (.int ch230), .val (.int ch231)] []))
    refine P0.newO (hw _ (List.mem_of_getElem? (i := 4) rfl)) (hw _ (List.mem_of_getElem? (i := 5) rfl)) (hw _ (List.mem_of_getElem? (i := 6) rfl)) d1_32 (by decide) (by decide) fun T232 h232 o232 g232 P232 E232 A232 D232 => ?_
    have gz_o232 : Z.heap.size ≤ o232 := Nat.le_trans P0.old.1 (Nat.le_of_eq g232.symm)
    have gw_o232 : h0.size ≤ o232 := Nat.le_trans P0.kept.1 (Nat.le_of_eq g232.symm)
    have F232_value : Fld Z h232 o232 "java/lang/String" "value" "[B" .null := D232 (Or.inr (hw _ (List.mem_of_getElem? (i := 20) rfl))) (ty := (.array .byte)) (by decide)
    have F232_coder : Fld Z h232 o232 "java/lang/String" "coder" "B" (.int (0 : Int32)) := D232 (Or.inr (hw _ (List.mem_of_getElem? (i := 21) rfl))) (ty := .byte) (by decide)
    show Go p e below _ (T232.setTop (mkF m 35 #[.val (.int pt), .val (.int (0 : Int32)), .val (.int ch230), .val (.int ch231)] [(.ref o232)]))
    refine P232.xs (fun hA hx hy t k => XS.dup hA hx rfl (hb hy d1_35) rfl rfl k) ?_
    show Go p e below _ (T232.setTop (mkF m 36 #[.val (.int pt), .val (.int (0 : Int32)), .val (.int ch230), .val (.int ch231)] [(.ref o232), (.ref o232)]))
    refine P232.xs (fun hA hx hy t k => XS.iconst hA hx rfl (hb hy d1_36) k) ?_
    show Go p e below _ (T232.setTop (mkF m 37 #[.val (.int pt), .val (.int (0 : Int32)), .val (.int ch230), .val (.int ch231)] [(.int (0 : Int32)), (.ref o232), (.ref o232)]))
    refine P232.newP (aty := .char) (hw _ (List.mem_of_getElem? (i := 7) rfl)) d1_37 (by decide) (cap := 0) (by decide) (by decide) (by decide) (by decide) fun T233 h233 o233 k233 g233 P233 E233 A233 => ?_
    have ne_o232_o233 : o232 ≠ o233 := Nat.ne_of_lt (Nat.lt_of_lt_of_le A232.lt (Nat.le_of_eq g233.symm))
    have gz_o233 : Z.heap.size ≤ o233 := Nat.le_trans P232.old.1 (Nat.le_of_eq g233.symm)
    have gw_o233 : h0.size ≤ o233 := Nat.le_trans P232.kept.1 (Nat.le_of_eq g233.symm)
    have V233 : Arv Z h233 o233 k233 .char (0 : Int32) [] (.int (0 : Int32)) := Arv.pad A233 (pad_rep [] (.int (0 : Int32)) 0)
    show Go p e below _ (T233.setTop (mkF m 39 #[.val (.int pt), .val (.int (0 : Int32)), .val (.int ch230), .val (.int ch231)] [(.ref o233), (.ref o232), (.ref o232)]))
    have Ec234 : Exa Z h233 o232 "java/lang/String" := (A232.ext E233)
    have Fc235 : Fld Z h233 o232 "java/lang/String" "value" "[B" .null := (F232_value.ext E233)
    have Fc236 : Fld Z h233 o232 "java/lang/String" "coder" "B" (.int (0 : Int32)) := (F232_coder.ext E233)
    have hmem : ("java/lang/String", 7) ∈ EL0 := (by decide)
    refine P233.callI rfl (hw _ (List.mem_of_getElem? (i := 8) rfl)) (hw _ (List.mem_of_getElem? (i := 9) rfl)) (hw _ (List.mem_of_getElem? (i := 6) rfl)) (hw _ (List.mem_of_getElem? (i := 10) rfl)) (by decide) (initE1 l Z a0 hw hEL zc S0 Pz w_M S_M E_M fm S_f rf o232 o233 k233 h233 P233.old Ec234 Fc235 Fc236 gz_o232 hmem V233) (W := 1) (by decide) (by decide) (by decide) (by decide) (allS (Or.inr gw_o232) all0) pd_19 (argsL := [(.ref o233)]) rfl rfl rfl (Nat.le_of_eq rfl) d1_39 fun v237 T237 h237 P237 K237 Q237 => ?_
    obtain ⟨rfl, E237, C237, b237, k237, V237, B237⟩ := Q237
    show Go p e below _ (T237.setTop (mkF m 42 #[.val (.int pt), .val (.int (0 : Int32)), .val (.int ch230), .val (.int ch231)] [(.ref o232)]))
    have Ac238 : Arv Z h237 o233 k233 .char (0 : Int32) [] (.int (0 : Int32)) := (V233.keep K237 (ninS (Ne.symm ne_o232_o233) nin0))
    exact P237.retR rfl rfl rfl d1_42 (by decide) (by decide) ⟨o232, 0, rfl, gw_o232, (by decide), by rw [hch230, hch231, cs3_0 (n := 0) rfl]; exact (strE E237 C237 V237 B237)⟩
  · show Go p e below _ (s₁.setTop (mkF m 10 #[.val (.int pt), .unset, .unset, .unset] [(.int (1 : Int32))]))
    refine P0.xs (fun hA hx hy t k => XS.istoreN hA hx rfl (hb hy d1_10) rfl (l' := #[.val (.int pt), .val (.int (1 : Int32)), .unset, .unset]) rfl k) ?_
    show Go p e below _ (s₁.setTop (mkF m 11 #[.val (.int pt), .val (.int (1 : Int32)), .unset, .unset] []))
    refine P0.xs (fun hA hx hy t k => XS.iloadN hA hx rfl (hb hy d1_11) rfl  k) ?_
    show Go p e below _ (s₁.setTop (mkF m 12 #[.val (.int pt), .val (.int (1 : Int32)), .unset, .unset] [(.int pt)]))
    refine P0.xs (fun hA hx hy t k => XS.sipush hA hx rfl (hb hy d1_12) k) ?_
    show Go p e below _ (s₁.setTop (mkF m 15 #[.val (.int pt), .val (.int (1 : Int32)), .unset, .unset] [(.int (255 : Int32)), (.int pt)]))
    refine P0.xs (fun hA hx hy t k => XS.iand hA hx rfl (hb hy d1_15) rfl k) ?_
    show Go p e below _ (s₁.setTop (mkF m 16 #[.val (.int pt), .val (.int (1 : Int32)), .unset, .unset] [(.int (pt &&& (255 : Int32)))]))
    refine P0.xs (fun hA hx hy t k => XS.i2c hA hx rfl (hb hy d1_16) rfl k) ?_
    show Go p e below _ (s₁.setTop (mkF m 17 #[.val (.int pt), .val (.int (1 : Int32)), .unset, .unset] [(.int ((pt &&& (255 : Int32)).toUInt32.toUInt16.toUInt32.toInt32))]))
    generalize hch239 : ((pt &&& (255 : Int32)).toUInt32.toUInt16.toUInt32.toInt32) = ch239
    obtain ⟨lch239, nch239⟩ := chr255 hch239
    show Go p e below _ (s₁.setTop (mkF m 17 #[.val (.int pt), .val (.int (1 : Int32)), .unset, .unset] [(.int ch239)]))
    refine P0.xs (fun hA hx hy t k => XS.istoreN hA hx rfl (hb hy d1_17) rfl (l' := #[.val (.int pt), .val (.int (1 : Int32)), .val (.int ch239), .unset]) rfl k) ?_
    show Go p e below _ (s₁.setTop (mkF m 18 #[.val (.int pt), .val (.int (1 : Int32)), .val (.int ch239), .unset] []))
    refine P0.xs (fun hA hx hy t k => XS.iloadN hA hx rfl (hb hy d1_18) rfl  k) ?_
    show Go p e below _ (s₁.setTop (mkF m 19 #[.val (.int pt), .val (.int (1 : Int32)), .val (.int ch239), .unset] [(.int pt)]))
    refine P0.xs (fun hA hx hy t k => XS.bipush hA hx rfl (hb hy d1_19) k) ?_
    show Go p e below _ (s₁.setTop (mkF m 21 #[.val (.int pt), .val (.int (1 : Int32)), .val (.int ch239), .unset] [(.int (8 : Int32)), (.int pt)]))
    refine P0.xs (fun hA hx hy t k => XS.iushr hA hx rfl (hb hy d1_21) rfl k) ?_
    show Go p e below _ (s₁.setTop (mkF m 22 #[.val (.int pt), .val (.int (1 : Int32)), .val (.int ch239), .unset] [(.int ((pt.toUInt32 >>> ((8 : Int32) &&& 31).toUInt32).toInt32))]))
    refine P0.xs (fun hA hx hy t k => XS.sipush hA hx rfl (hb hy d1_22) k) ?_
    show Go p e below _ (s₁.setTop (mkF m 25 #[.val (.int pt), .val (.int (1 : Int32)), .val (.int ch239), .unset] [(.int (255 : Int32)), (.int ((pt.toUInt32 >>> ((8 : Int32) &&& 31).toUInt32).toInt32))]))
    refine P0.xs (fun hA hx hy t k => XS.iand hA hx rfl (hb hy d1_25) rfl k) ?_
    show Go p e below _ (s₁.setTop (mkF m 26 #[.val (.int pt), .val (.int (1 : Int32)), .val (.int ch239), .unset] [(.int (((pt.toUInt32 >>> ((8 : Int32) &&& 31).toUInt32).toInt32) &&& (255 : Int32)))]))
    refine P0.xs (fun hA hx hy t k => XS.i2c hA hx rfl (hb hy d1_26) rfl k) ?_
    show Go p e below _ (s₁.setTop (mkF m 27 #[.val (.int pt), .val (.int (1 : Int32)), .val (.int ch239), .unset] [(.int ((((pt.toUInt32 >>> ((8 : Int32) &&& 31).toUInt32).toInt32) &&& (255 : Int32)).toUInt32.toUInt16.toUInt32.toInt32))]))
    generalize hch240 : ((((pt.toUInt32 >>> ((8 : Int32) &&& 31).toUInt32).toInt32) &&& (255 : Int32)).toUInt32.toUInt16.toUInt32.toInt32) = ch240
    obtain ⟨lch240, nch240⟩ := chr255 hch240
    show Go p e below _ (s₁.setTop (mkF m 27 #[.val (.int pt), .val (.int (1 : Int32)), .val (.int ch239), .unset] [(.int ch240)]))
    refine P0.xs (fun hA hx hy t k => XS.istoreN hA hx rfl (hb hy d1_27) rfl (l' := #[.val (.int pt), .val (.int (1 : Int32)), .val (.int ch239), .val (.int ch240)]) rfl k) ?_
    show Go p e below _ (s₁.setTop (mkF m 28 #[.val (.int pt), .val (.int (1 : Int32)), .val (.int ch239), .val (.int ch240)] []))
    refine P0.xs (fun hA hx hy t k => XS.iloadN hA hx rfl (hb hy d1_28) rfl  k) ?_
    show Go p e below _ (s₁.setTop (mkF m 29 #[.val (.int pt), .val (.int (1 : Int32)), .val (.int ch239), .val (.int ch240)] [(.int (1 : Int32))]))
    refine P0.xs (fun hA hx hy t k => XS.ifYes hA hx rfl (pc0 := 29) (pc' := 43) rfl (hb hy d1_29) rfl ((if0 _ _).trans (feq (by decide)).2) (by decide) (by decide) k) ?_
    show Go p e below _ (s₁.setTop (mkF m 43 #[.val (.int pt), .val (.int (1 : Int32)), .val (.int ch239), .val (.int ch240)] []))
    refine P0.xs (fun hA hx hy t k => XS.iloadN hA hx rfl (hb hy d1_43) rfl  k) ?_
    show Go p e below _ (s₁.setTop (mkF m 44 #[.val (.int pt), .val (.int (1 : Int32)), .val (.int ch239), .val (.int ch240)] [(.int (1 : Int32))]))
    refine P0.xs (fun hA hx hy t k => XS.iconst hA hx rfl (hb hy d1_44) k) ?_
    show Go p e below _ (s₁.setTop (mkF m 45 #[.val (.int pt), .val (.int (1 : Int32)), .val (.int ch239), .val (.int ch240)] [(.int (1 : Int32)), (.int (1 : Int32))]))
    refine P0.xs (fun hA hx hy t k => XS.icmpNo hA hx rfl (hb hy d1_45) rfl (teq rfl).2 k) ?_
    show Go p e below _ (s₁.setTop (mkF m 48 #[.val (.int pt), .val (.int (1 : Int32)), .val (.int ch239), .val (.int ch240)] []))
    refine P0.newO (hw _ (List.mem_of_getElem? (i := 4) rfl)) (hw _ (List.mem_of_getElem? (i := 5) rfl)) (hw _ (List.mem_of_getElem? (i := 6) rfl)) d1_48 (by decide) (by decide) fun T241 h241 o241 g241 P241 E241 A241 D241 => ?_
    have gz_o241 : Z.heap.size ≤ o241 := Nat.le_trans P0.old.1 (Nat.le_of_eq g241.symm)
    have gw_o241 : h0.size ≤ o241 := Nat.le_trans P0.kept.1 (Nat.le_of_eq g241.symm)
    have F241_value : Fld Z h241 o241 "java/lang/String" "value" "[B" .null := D241 (Or.inr (hw _ (List.mem_of_getElem? (i := 20) rfl))) (ty := (.array .byte)) (by decide)
    have F241_coder : Fld Z h241 o241 "java/lang/String" "coder" "B" (.int (0 : Int32)) := D241 (Or.inr (hw _ (List.mem_of_getElem? (i := 21) rfl))) (ty := .byte) (by decide)
    show Go p e below _ (T241.setTop (mkF m 51 #[.val (.int pt), .val (.int (1 : Int32)), .val (.int ch239), .val (.int ch240)] [(.ref o241)]))
    refine P241.xs (fun hA hx hy t k => XS.dup hA hx rfl (hb hy d1_51) rfl rfl k) ?_
    show Go p e below _ (T241.setTop (mkF m 52 #[.val (.int pt), .val (.int (1 : Int32)), .val (.int ch239), .val (.int ch240)] [(.ref o241), (.ref o241)]))
    refine P241.xs (fun hA hx hy t k => XS.iconst hA hx rfl (hb hy d1_52) k) ?_
    show Go p e below _ (T241.setTop (mkF m 53 #[.val (.int pt), .val (.int (1 : Int32)), .val (.int ch239), .val (.int ch240)] [(.int (1 : Int32)), (.ref o241), (.ref o241)]))
    refine P241.newP (aty := .char) (hw _ (List.mem_of_getElem? (i := 7) rfl)) d1_53 (by decide) (cap := 1) (by decide) (by decide) (by decide) (by decide) fun T242 h242 o242 k242 g242 P242 E242 A242 => ?_
    have ne_o241_o242 : o241 ≠ o242 := Nat.ne_of_lt (Nat.lt_of_lt_of_le A241.lt (Nat.le_of_eq g242.symm))
    have gz_o242 : Z.heap.size ≤ o242 := Nat.le_trans P241.old.1 (Nat.le_of_eq g242.symm)
    have gw_o242 : h0.size ≤ o242 := Nat.le_trans P241.kept.1 (Nat.le_of_eq g242.symm)
    have V242 : Arv Z h242 o242 k242 .char (1 : Int32) [(.int (0 : Int32))] (.int (0 : Int32)) := Arv.pad A242 (pad_rep [] (.int (0 : Int32)) 1)
    show Go p e below _ (T242.setTop (mkF m 55 #[.val (.int pt), .val (.int (1 : Int32)), .val (.int ch239), .val (.int ch240)] [(.ref o242), (.ref o241), (.ref o241)]))
    refine P242.xs (fun hA hx hy t k => XS.dup hA hx rfl (hb hy d1_55) rfl rfl k) ?_
    show Go p e below _ (T242.setTop (mkF m 56 #[.val (.int pt), .val (.int (1 : Int32)), .val (.int ch239), .val (.int ch240)] [(.ref o242), (.ref o242), (.ref o241), (.ref o241)]))
    refine P242.xs (fun hA hx hy t k => XS.iconst hA hx rfl (hb hy d1_56) k) ?_
    show Go p e below _ (T242.setTop (mkF m 57 #[.val (.int pt), .val (.int (1 : Int32)), .val (.int ch239), .val (.int ch240)] [(.int (0 : Int32)), (.ref o242), (.ref o242), (.ref o241), (.ref o241)]))
    refine P242.xs (fun hA hx hy t k => XS.iloadN hA hx rfl (hb hy d1_57) rfl  k) ?_
    show Go p e below _ (T242.setTop (mkF m 58 #[.val (.int pt), .val (.int (1 : Int32)), .val (.int ch239), .val (.int ch240)] [(.int ch239), (.int (0 : Int32)), (.ref o242), (.ref o242), (.ref o241), (.ref o241)]))
    have Ec244 : Exa Z h242 o241 "java/lang/String" := (A241.ext E242)
    have Fc245 : Fld Z h242 o241 "java/lang/String" "value" "[B" .null := (F241_value.ext E242)
    have Fc246 : Fld Z h242 o241 "java/lang/String" "coder" "B" (.int (0 : Int32)) := (F241_coder.ext E242)
    refine P242.stC V242 0 (by decide) (by decide) (by decide) (Nat.le_of_ble_eq_true rfl) (x' := ch239) nch239 d1_58 gz_o242 (Or.inr gw_o242) fun T243 h243 P243 W243 V243 => ?_
    have Va243 : Arv Z h243 o242 k242 .char (1 : Int32) [(.int ch239)] (.int (0 : Int32)) := V243
    show Go p e below _ (T243.setTop (mkF m 59 #[.val (.int pt), .val (.int (1 : Int32)), .val (.int ch239), .val (.int ch240)] [(.ref o242), (.ref o241), (.ref o241)]))
    have Ec247 : Exa Z h243 o241 "java/lang/String" := (Ec244.wr W243)
    have Fc248 : Fld Z h243 o241 "java/lang/String" "value" "[B" .null := (Fc245.other W243 (Or.inl ne_o241_o242))
    have Fc249 : Fld Z h243 o241 "java/lang/String" "coder" "B" (.int (0 : Int32)) := (Fc246.other W243 (Or.inl ne_o241_o242))
    refine P243.specB (W := 1) (ws' := [o241]) rfl (hw _ (List.mem_of_getElem? (i := 8) rfl)) (hw _ (List.mem_of_getElem? (i := 9) rfl)) (hw _ (List.mem_of_getElem? (i := 10) rfl)) (by decide) (fun vm0 hZ => StrChars.Road.backV (W := 1) hZ (wStr hw) (kI := 4) (hw _ (List.mem_of_getElem? (i := 5) rfl)) (cs := ([ch239] : List Int32)) (bs := ([ch239] : List Int32).map (fun c => c.toInt8.toInt32)) (n := 1) gz_o241 P243.old.1 Ec247 Fc248 Fc249 Va243 (S0.ext P243.old) Pz rfl rfl (by decide) (by decide) (latS lch239 lat0) rfl (by decide) (by decide)) rfl (fun v h' L q => ⟨q.2.1, q.2.2.1⟩) (by decide) (by decide) (allS ⟨(Or.inr gw_o241), gz_o241⟩ all0) (fun vm hs hal hr => safe1 (safeNull hal Ec247 Fc248)) pd_19 (argsL := [(.ref o242)]) rfl rfl rfl (Nat.le_of_eq rfl) d1_59 fun v250 T250 h250 L250 P250 Q250 => ?_
    obtain ⟨rfl, N250, K250, E250, C250, b250, k250, gb250, gc250, gd250, V250, B250⟩ := Q250
    show Go p e below _ (T250.setTop (mkF m 62 #[.val (.int pt), .val (.int (1 : Int32)), .val (.int ch239), .val (.int ch240)] [(.ref o241)]))
    have Ac251 : Arv Z h250 o242 k242 .char (1 : Int32) [(.int ch239)] (.int (0 : Int32)) := (Va243.keep K250 (ninS (Ne.symm ne_o241_o242) nin0))
    exact P250.retR rfl rfl rfl d1_62 (by decide) (by decide) ⟨o241, 1, rfl, gw_o241, (by decide), by rw [hch239, hch240, cs3_1 (n := 1) (by decide) rfl]; exact (strOf (n := 1) rfl (latS lch239 lat0) (by decide) E250 C250 V250 B250)⟩
  · show Go p e below _ (s₁.setTop (mkF m 10 #[.val (.int pt), .unset, .unset, .unset] [(.int (2 : Int32))]))
    refine P0.xs (fun hA hx hy t k => XS.istoreN hA hx rfl (hb hy d1_10) rfl (l' := #[.val (.int pt), .val (.int (2 : Int32)), .unset, .unset]) rfl k) ?_
    show Go p e below _ (s₁.setTop (mkF m 11 #[.val (.int pt), .val (.int (2 : Int32)), .unset, .unset] []))
    refine P0.xs (fun hA hx hy t k => XS.iloadN hA hx rfl (hb hy d1_11) rfl  k) ?_
    show Go p e below _ (s₁.setTop (mkF m 12 #[.val (.int pt), .val (.int (2 : Int32)), .unset, .unset] [(.int pt)]))
    refine P0.xs (fun hA hx hy t k => XS.sipush hA hx rfl (hb hy d1_12) k) ?_
    show Go p e below _ (s₁.setTop (mkF m 15 #[.val (.int pt), .val (.int (2 : Int32)), .unset, .unset] [(.int (255 : Int32)), (.int pt)]))
    refine P0.xs (fun hA hx hy t k => XS.iand hA hx rfl (hb hy d1_15) rfl k) ?_
    show Go p e below _ (s₁.setTop (mkF m 16 #[.val (.int pt), .val (.int (2 : Int32)), .unset, .unset] [(.int (pt &&& (255 : Int32)))]))
    refine P0.xs (fun hA hx hy t k => XS.i2c hA hx rfl (hb hy d1_16) rfl k) ?_
    show Go p e below _ (s₁.setTop (mkF m 17 #[.val (.int pt), .val (.int (2 : Int32)), .unset, .unset] [(.int ((pt &&& (255 : Int32)).toUInt32.toUInt16.toUInt32.toInt32))]))
    generalize hch252 : ((pt &&& (255 : Int32)).toUInt32.toUInt16.toUInt32.toInt32) = ch252
    obtain ⟨lch252, nch252⟩ := chr255 hch252
    show Go p e below _ (s₁.setTop (mkF m 17 #[.val (.int pt), .val (.int (2 : Int32)), .unset, .unset] [(.int ch252)]))
    refine P0.xs (fun hA hx hy t k => XS.istoreN hA hx rfl (hb hy d1_17) rfl (l' := #[.val (.int pt), .val (.int (2 : Int32)), .val (.int ch252), .unset]) rfl k) ?_
    show Go p e below _ (s₁.setTop (mkF m 18 #[.val (.int pt), .val (.int (2 : Int32)), .val (.int ch252), .unset] []))
    refine P0.xs (fun hA hx hy t k => XS.iloadN hA hx rfl (hb hy d1_18) rfl  k) ?_
    show Go p e below _ (s₁.setTop (mkF m 19 #[.val (.int pt), .val (.int (2 : Int32)), .val (.int ch252), .unset] [(.int pt)]))
    refine P0.xs (fun hA hx hy t k => XS.bipush hA hx rfl (hb hy d1_19) k) ?_
    show Go p e below _ (s₁.setTop (mkF m 21 #[.val (.int pt), .val (.int (2 : Int32)), .val (.int ch252), .unset] [(.int (8 : Int32)), (.int pt)]))
    refine P0.xs (fun hA hx hy t k => XS.iushr hA hx rfl (hb hy d1_21) rfl k) ?_
    show Go p e below _ (s₁.setTop (mkF m 22 #[.val (.int pt), .val (.int (2 : Int32)), .val (.int ch252), .unset] [(.int ((pt.toUInt32 >>> ((8 : Int32) &&& 31).toUInt32).toInt32))]))
    refine P0.xs (fun hA hx hy t k => XS.sipush hA hx rfl (hb hy d1_22) k) ?_
    show Go p e below _ (s₁.setTop (mkF m 25 #[.val (.int pt), .val (.int (2 : Int32)), .val (.int ch252), .unset] [(.int (255 : Int32)), (.int ((pt.toUInt32 >>> ((8 : Int32) &&& 31).toUInt32).toInt32))]))
    refine P0.xs (fun hA hx hy t k => XS.iand hA hx rfl (hb hy d1_25) rfl k) ?_
    show Go p e below _ (s₁.setTop (mkF m 26 #[.val (.int pt), .val (.int (2 : Int32)), .val (.int ch252), .unset] [(.int (((pt.toUInt32 >>> ((8 : Int32) &&& 31).toUInt32).toInt32) &&& (255 : Int32)))]))
    refine P0.xs (fun hA hx hy t k => XS.i2c hA hx rfl (hb hy d1_26) rfl k) ?_
    show Go p e below _ (s₁.setTop (mkF m 27 #[.val (.int pt), .val (.int (2 : Int32)), .val (.int ch252), .unset] [(.int ((((pt.toUInt32 >>> ((8 : Int32) &&& 31).toUInt32).toInt32) &&& (255 : Int32)).toUInt32.toUInt16.toUInt32.toInt32))]))
    generalize hch253 : ((((pt.toUInt32 >>> ((8 : Int32) &&& 31).toUInt32).toInt32) &&& (255 : Int32)).toUInt32.toUInt16.toUInt32.toInt32) = ch253
    obtain ⟨lch253, nch253⟩ := chr255 hch253
    show Go p e below _ (s₁.setTop (mkF m 27 #[.val (.int pt), .val (.int (2 : Int32)), .val (.int ch252), .unset] [(.int ch253)]))
    refine P0.xs (fun hA hx hy t k => XS.istoreN hA hx rfl (hb hy d1_27) rfl (l' := #[.val (.int pt), .val (.int (2 : Int32)), .val (.int ch252), .val (.int ch253)]) rfl k) ?_
    show Go p e below _ (s₁.setTop (mkF m 28 #[.val (.int pt), .val (.int (2 : Int32)), .val (.int ch252), .val (.int ch253)] []))
    refine P0.xs (fun hA hx hy t k => XS.iloadN hA hx rfl (hb hy d1_28) rfl  k) ?_
    show Go p e below _ (s₁.setTop (mkF m 29 #[.val (.int pt), .val (.int (2 : Int32)), .val (.int ch252), .val (.int ch253)] [(.int (2 : Int32))]))
    refine P0.xs (fun hA hx hy t k => XS.ifYes hA hx rfl (pc0 := 29) (pc' := 43) rfl (hb hy d1_29) rfl ((if0 _ _).trans (feq (by decide)).2) (by decide) (by decide) k) ?_
    show Go p e below _ (s₁.setTop (mkF m 43 #[.val (.int pt), .val (.int (2 : Int32)), .val (.int ch252), .val (.int ch253)] []))
    refine P0.xs (fun hA hx hy t k => XS.iloadN hA hx rfl (hb hy d1_43) rfl  k) ?_
    show Go p e below _ (s₁.setTop (mkF m 44 #[.val (.int pt), .val (.int (2 : Int32)), .val (.int ch252), .val (.int ch253)] [(.int (2 : Int32))]))
    refine P0.xs (fun hA hx hy t k => XS.iconst hA hx rfl (hb hy d1_44) k) ?_
    show Go p e below _ (s₁.setTop (mkF m 45 #[.val (.int pt), .val (.int (2 : Int32)), .val (.int ch252), .val (.int ch253)] [(.int (1 : Int32)), (.int (2 : Int32))]))
    refine P0.xs (fun hA hx hy t k => XS.icmpYes hA hx rfl (pc0 := 45) (pc' := 63) rfl (hb hy d1_45) rfl (feq (by decide)).2 (by decide) (by decide) k) ?_
    show Go p e below _ (s₁.setTop (mkF m 63 #[.val (.int pt), .val (.int (2 : Int32)), .val (.int ch252), .val (.int ch253)] []))
    refine P0.newO (hw _ (List.mem_of_getElem? (i := 4) rfl)) (hw _ (List.mem_of_getElem? (i := 5) rfl)) (hw _ (List.mem_of_getElem? (i := 6) rfl)) d1_63 (by decide) (by decide) fun T254 h254 o254 g254 P254 E254 A254 D254 => ?_
    have gz_o254 : Z.heap.size ≤ o254 := Nat.le_trans P0.old.1 (Nat.le_of_eq g254.symm)
    have gw_o254 : h0.size ≤ o254 := Nat.le_trans P0.kept.1 (Nat.le_of_eq g254.symm)
    have F254_value : Fld Z h254 o254 "java/lang/String" "value" "[B" .null := D254 (Or.inr (hw _ (List.mem_of_getElem? (i := 20) rfl))) (ty := (.array .byte)) (by decide)
    have F254_coder : Fld Z h254 o254 "java/lang/String" "coder" "B" (.int (0 : Int32)) := D254 (Or.inr (hw _ (List.mem_of_getElem? (i := 21) rfl))) (ty := .byte) (by decide)
    show Go p e below _ (T254.setTop (mkF m 66 #[.val (.int pt), .val (.int (2 : Int32)), .val (.int ch252), .val (.int ch253)] [(.ref o254)]))
    refine P254.xs (fun hA hx hy t k => XS.dup hA hx rfl (hb hy d1_66) rfl rfl k) ?_
    show Go p e below _ (T254.setTop (mkF m 67 #[.val (.int pt), .val (.int (2 : Int32)), .val (.int ch252), .val (.int ch253)] [(.ref o254), (.ref o254)]))
    refine P254.xs (fun hA hx hy t k => XS.iconst hA hx rfl (hb hy d1_67) k) ?_
    show Go p e below _ (T254.setTop (mkF m 68 #[.val (.int pt), .val (.int (2 : Int32)), .val (.int ch252), .val (.int ch253)] [(.int (2 : Int32)), (.ref o254), (.ref o254)]))
    refine P254.newP (aty := .char) (hw _ (List.mem_of_getElem? (i := 7) rfl)) d1_68 (by decide) (cap := 2) (by decide) (by decide) (by decide) (by decide) fun T255 h255 o255 k255 g255 P255 E255 A255 => ?_
    have ne_o254_o255 : o254 ≠ o255 := Nat.ne_of_lt (Nat.lt_of_lt_of_le A254.lt (Nat.le_of_eq g255.symm))
    have gz_o255 : Z.heap.size ≤ o255 := Nat.le_trans P254.old.1 (Nat.le_of_eq g255.symm)
    have gw_o255 : h0.size ≤ o255 := Nat.le_trans P254.kept.1 (Nat.le_of_eq g255.symm)
    have V255 : Arv Z h255 o255 k255 .char (2 : Int32) [(.int (0 : Int32)), (.int (0 : Int32))] (.int (0 : Int32)) := Arv.pad A255 (pad_rep [] (.int (0 : Int32)) 2)
    show Go p e below _ (T255.setTop (mkF m 70 #[.val (.int pt), .val (.int (2 : Int32)), .val (.int ch252), .val (.int ch253)] [(.ref o255), (.ref o254), (.ref o254)]))
    refine P255.xs (fun hA hx hy t k => XS.dup hA hx rfl (hb hy d1_70) rfl rfl k) ?_
    show Go p e below _ (T255.setTop (mkF m 71 #[.val (.int pt), .val (.int (2 : Int32)), .val (.int ch252), .val (.int ch253)] [(.ref o255), (.ref o255), (.ref o254), (.ref o254)]))
    refine P255.xs (fun hA hx hy t k => XS.iconst hA hx rfl (hb hy d1_71) k) ?_
    show Go p e below _ (T255.setTop (mkF m 72 #[.val (.int pt), .val (.int (2 : Int32)), .val (.int ch252), .val (.int ch253)] [(.int (0 : Int32)), (.ref o255), (.ref o255), (.ref o254), (.ref o254)]))
    refine P255.xs (fun hA hx hy t k => XS.iloadN hA hx rfl (hb hy d1_72) rfl  k) ?_
    show Go p e below _ (T255.setTop (mkF m 73 #[.val (.int pt), .val (.int (2 : Int32)), .val (.int ch252), .val (.int ch253)] [(.int ch252), (.int (0 : Int32)), (.ref o255), (.ref o255), (.ref o254), (.ref o254)]))
    have Ec257 : Exa Z h255 o254 "java/lang/String" := (A254.ext E255)
    have Fc258 : Fld Z h255 o254 "java/lang/String" "value" "[B" .null := (F254_value.ext E255)
    have Fc259 : Fld Z h255 o254 "java/lang/String" "coder" "B" (.int (0 : Int32)) := (F254_coder.ext E255)
    refine P255.stC V255 0 (by decide) (by decide) (by decide) (Nat.le_of_ble_eq_true rfl) (x' := ch252) nch252 d1_73 gz_o255 (Or.inr gw_o255) fun T256 h256 P256 W256 V256 => ?_
    have Va256 : Arv Z h256 o255 k255 .char (2 : Int32) [(.int ch252), (.int (0 : Int32))] (.int (0 : Int32)) := V256
    show Go p e below _ (T256.setTop (mkF m 74 #[.val (.int pt), .val (.int (2 : Int32)), .val (.int ch252), .val (.int ch253)] [(.ref o255), (.ref o254), (.ref o254)]))
    refine P256.xs (fun hA hx hy t k => XS.dup hA hx rfl (hb hy d1_74) rfl rfl k) ?_
    show Go p e below _ (T256.setTop (mkF m 75 #[.val (.int pt), .val (.int (2 : Int32)), .val (.int ch252), .val (.int ch253)] [(.ref o255), (.ref o255), (.ref o254), (.ref o254)]))
    refine P256.xs (fun hA hx hy t k => XS.iconst hA hx rfl (hb hy d1_75) k) ?_
    show Go p e below _ (T256.setTop (mkF m 76 #[.val (.int pt), .val (.int (2 : Int32)), .val (.int ch252), .val (.int ch253)] [(.int (1 : Int32)), (.ref o255), (.ref o255), (.ref o254), (.ref o254)]))
    refine P256.xs (fun hA hx hy t k => XS.iloadN hA hx rfl (hb hy d1_76) rfl  k) ?_
    show Go p e below _ (T256.setTop (mkF m 77 #[.val (.int pt), .val (.int (2 : Int32)), .val (.int ch252), .val (.int ch253)] [(.int ch253), (.int (1 : Int32)), (.ref o255), (.ref o255), (.ref o254), (.ref o254)]))
    have Ec261 : Exa Z h256 o254 "java/lang/String" := (Ec257.wr W256)
    have Fc262 : Fld Z h256 o254 "java/lang/String" "value" "[B" .null := (Fc258.other W256 (Or.inl ne_o254_o255))
    have Fc263 : Fld Z h256 o254 "java/lang/String" "coder" "B" (.int (0 : Int32)) := (Fc259.other W256 (Or.inl ne_o254_o255))
    refine P256.stC Va256 1 (by decide) (by decide) (by decide) (Nat.le_of_ble_eq_true rfl) (x' := ch253) nch253 d1_77 gz_o255 (Or.inr gw_o255) fun T260 h260 P260 W260 V260 => ?_
    have Va260 : Arv Z h260 o255 k255 .char (2 : Int32) [(.int ch252), (.int ch253)] (.int (0 : Int32)) := V260
    show Go p e below _ (T260.setTop (mkF m 78 #[.val (.int pt), .val (.int (2 : Int32)), .val (.int ch252), .val (.int ch253)] [(.ref o255), (.ref o254), (.ref o254)]))
    have Ec264 : Exa Z h260 o254 "java/lang/String" := (Ec261.wr W260)
    have Fc265 : Fld Z h260 o254 "java/lang/String" "value" "[B" .null := (Fc262.other W260 (Or.inl ne_o254_o255))
    have Fc266 : Fld Z h260 o254 "java/lang/String" "coder" "B" (.int (0 : Int32)) := (Fc263.other W260 (Or.inl ne_o254_o255))
    refine P260.specB (W := 1) (ws' := [o254]) rfl (hw _ (List.mem_of_getElem? (i := 8) rfl)) (hw _ (List.mem_of_getElem? (i := 9) rfl)) (hw _ (List.mem_of_getElem? (i := 10) rfl)) (by decide) (fun vm0 hZ => StrChars.Road.backV (W := 1) hZ (wStr hw) (kI := 4) (hw _ (List.mem_of_getElem? (i := 5) rfl)) (cs := ([ch252, ch253] : List Int32)) (bs := ([ch252, ch253] : List Int32).map (fun c => c.toInt8.toInt32)) (n := 2) gz_o254 P260.old.1 Ec264 Fc265 Fc266 Va260 (S0.ext P260.old) Pz rfl rfl (by decide) (by decide) (latS lch252 (latS lch253 lat0)) rfl (by decide) (by decide)) rfl (fun v h' L q => ⟨q.2.1, q.2.2.1⟩) (by decide) (by decide) (allS ⟨(Or.inr gw_o254), gz_o254⟩ all0) (fun vm hs hal hr => safe1 (safeNull hal Ec264 Fc265)) pd_19 (argsL := [(.ref o255)]) rfl rfl rfl (Nat.le_of_eq rfl) d1_78 fun v267 T267 h267 L267 P267 Q267 => ?_
    obtain ⟨rfl, N267, K267, E267, C267, b267, k267, gb267, gc267, gd267, V267, B267⟩ := Q267
    show Go p e below _ (T267.setTop (mkF m 81 #[.val (.int pt), .val (.int (2 : Int32)), .val (.int ch252), .val (.int ch253)] [(.ref o254)]))
    have Ac268 : Arv Z h267 o255 k255 .char (2 : Int32) [(.int ch252), (.int ch253)] (.int (0 : Int32)) := (Va260.keep K267 (ninS (Ne.symm ne_o254_o255) nin0))
    exact P267.retR rfl rfl rfl d1_81 (by decide) (by decide) ⟨o254, 2, rfl, gw_o254, (by decide), by rw [hch252, hch253, cs3_2 (n := 2) (by decide) (by decide) rfl]; exact (strOf (n := 2) rfl (latS lch252 (latS lch253 lat0)) (by decide) E267 C267 V267 B267)⟩

def Q_mLaw (Z : State)  (h0 : Heap) (v : Option Value) (h : Heap) : Prop := v = some (.int 1)
set_option maxRecDepth 65536 in
set_option maxHeartbeats 40000000 in
theorem mLaw (l : Launch) (Z : State) (a0 : Array Value) (hw : ∀ d ∈ tables_1, d.before a0 Z = true) (hEL : EW Z a0 EL0) (zc : Int32) (S0 : Sta Z Z.heap "java/lang/String" "COMPACT_STRINGS" "Z" (.int zc)) (Pz : ¬ zc = 0) (w_M : Addr) (S_M : Sta Z Z.heap "java/util/ImmutableCollections" "EMPTY_MAP" "Ljava/util/ImmutableCollections$MapN;" (.ref w_M)) (E_M : Exa Z Z.heap w_M "java/util/ImmutableCollections$MapN") (fm : Value) (S_f : Sta Z Z.heap "jdk/internal/util/Preconditions" "SIOOBE_FORMATTER" "Ljava/util/function/BiFunction;" fm) (rf : fm.isRef = true) (p0 p1 : Int32) (h0 : Heap) (hO : Ext Z.heap h0)  :
    Con l Z EL0 tables_1 x code maxLocals ret room_1 #[(.int p0), (.int p1)] h0 [] (Q_mLaw Z  h0) := by
  refine Con.of (y := (⟨"com/example/certain_answers/certainanswers/server/MediaTypeEssencePinLaw", "law", "(II)Z"⟩ : MethodName)) (f0 := fun m => mkF m 0 #[.val (.int p0), .val (.int p1), .unset, .unset, .unset, .unset, .unset, .unset] []) (plainFor_of_name pn_7) hEL hO (fun m => by skip <;> first | (simp [entryFrame, mkF, argsToLocals, Value.category, maxLocals]; done) | rfl) ?_
  intro p e s m below meth c s₁ P0
  show Go p e below _ (s₁.setTop (mkF m 0 #[.val (.int p0), .val (.int p1), .unset, .unset, .unset, .unset, .unset, .unset] []))
  refine P0.xs (fun hA hx hy t k => XS.iloadN hA hx rfl (hb hy at_0) rfl  k) ?_
  show Go p e below _ (s₁.setTop (mkF m 1 #[.val (.int p0), .val (.int p1), .unset, .unset, .unset, .unset, .unset, .unset] [(.int p0)]))
  refine P0.callS (hw _ (List.mem_of_getElem? (i := 0) rfl)) (hw _ (List.mem_of_getElem? (i := 1) rfl)) (hw _ (List.mem_of_getElem? (i := 2) rfl)) (hw _ (List.mem_of_getElem? (i := 3) rfl)) (by decide) (mStr l Z a0 hw hEL zc S0 Pz w_M S_M E_M fm S_f rf p0 h0 P0.old) (W := 0) (by decide) (by decide) (by decide) (by decide) all0 pd_20 (argsL := [(.int p0)]) rfl rfl rfl (Nat.le_of_eq rfl) at_1 fun v269 T269 h269 P269 K269 Q269 => ?_
  obtain ⟨o269, n269, rfl, g269, hn269, Ss269⟩ := Q269
  have gz_o269 : Z.heap.size ≤ o269 := Nat.le_trans P0.old.1 g269
  have gw_o269 : h0.size ≤ o269 := Nat.le_trans P0.kept.1 g269
  show Go p e below _ (T269.setTop (mkF m 4 #[.val (.int p0), .val (.int p1), .unset, .unset, .unset, .unset, .unset, .unset] [(.ref o269)]))
  refine P269.xs (fun hA hx hy t k => XS.astoreN hA hx rfl (hb hy at_4) rfl rfl (l' := #[.val (.int p0), .val (.int p1), .val (.ref o269), .unset, .unset, .unset, .unset, .unset]) rfl k) ?_
  show Go p e below _ (T269.setTop (mkF m 5 #[.val (.int p0), .val (.int p1), .val (.ref o269), .unset, .unset, .unset, .unset, .unset] []))
  refine P269.xs (fun hA hx hy t k => XS.iloadN hA hx rfl (hb hy at_5) rfl  k) ?_
  show Go p e below _ (T269.setTop (mkF m 6 #[.val (.int p0), .val (.int p1), .val (.ref o269), .unset, .unset, .unset, .unset, .unset] [(.int p1)]))
  have Ec271 : Exa Z h269 o269 "java/lang/String" := Ss269.1
  refine P269.callS (hw _ (List.mem_of_getElem? (i := 0) rfl)) (hw _ (List.mem_of_getElem? (i := 1) rfl)) (hw _ (List.mem_of_getElem? (i := 2) rfl)) (hw _ (List.mem_of_getElem? (i := 3) rfl)) (by decide) (mStr l Z a0 hw hEL zc S0 Pz w_M S_M E_M fm S_f rf p1 h269 P269.old) (W := 0) (by decide) (by decide) (by decide) (by decide) all0 pd_20 (argsL := [(.int p1)]) rfl rfl rfl (Nat.le_of_eq rfl) at_6 fun v270 T270 h270 P270 K270 Q270 => ?_
  obtain ⟨o270, n270, rfl, g270, hn270, Ss270⟩ := Q270
  have ne_o269_o270 : o269 ≠ o270 := Nat.ne_of_lt (Nat.lt_of_lt_of_le Ec271.lt g270)
  have gz_o270 : Z.heap.size ≤ o270 := Nat.le_trans P269.old.1 g270
  have gw_o270 : h0.size ≤ o270 := Nat.le_trans P269.kept.1 g270
  show Go p e below _ (T270.setTop (mkF m 9 #[.val (.int p0), .val (.int p1), .val (.ref o269), .unset, .unset, .unset, .unset, .unset] [(.ref o270)]))
  refine P270.xs (fun hA hx hy t k => XS.astoreN hA hx rfl (hb hy at_9) rfl rfl (l' := #[.val (.int p0), .val (.int p1), .val (.ref o269), .val (.ref o270), .unset, .unset, .unset, .unset]) rfl k) ?_
  show Go p e below _ (T270.setTop (mkF m 10 #[.val (.int p0), .val (.int p1), .val (.ref o269), .val (.ref o270), .unset, .unset, .unset, .unset] []))
  have Ec272 : Exa Z h270 o269 "java/lang/String" := (Ec271.keep K270)
  have Ec273 : Exa Z h270 o270 "java/lang/String" := Ss270.1
  have Sc274 : Str Z h270 o269 (cs3 n269 ((p0 &&& (255 : Int32)).toUInt32.toUInt16.toUInt32.toInt32) ((((p0.toUInt32 >>> ((8 : Int32) &&& 31).toUInt32).toInt32) &&& (255 : Int32)).toUInt32.toUInt16.toUInt32.toInt32) 0) := (Ss269.keep K270 all0)
  rcases hn269 with rfl | rfl | rfl
  · rcases hn270 with rfl | rfl | rfl
    · have So275 : Str Z h270 o269 ([] : List Int32) := by have q := Sc274; rw [cs3_0 (n := 0) rfl] at q; exact q
      have hl275 : ∀ c ∈ ([] : List Int32), ¬ c < 0 ∧ ¬ (255 : Int32) < c := lat0
      obtain ⟨tt275, kt275, V275, C275, A275⟩ := strLat So275 hl275
      have So276 : Str Z h270 o270 ([] : List Int32) := by have q := Ss270; rw [cs3_0 (n := 0) rfl] at q; exact q
      have hl276 : ∀ c ∈ ([] : List Int32), ¬ c < 0 ∧ ¬ (255 : Int32) < c := lat0
      obtain ⟨tt276, kt276, V276, C276, A276⟩ := strLat So276 hl276
      show Go p e below _ (T270.setTop (mkF m 10 #[.val (.int p0), .val (.int p1), .val (.ref o269), .val (.ref o270), .unset, .unset, .unset, .unset] []))
      refine P270.newO (hw _ (List.mem_of_getElem? (i := 26) rfl)) (hw _ (List.mem_of_getElem? (i := 27) rfl)) (hw _ (List.mem_of_getElem? (i := 28) rfl)) at_10 (by decide) (by decide) fun T277 h277 o277 g277 P277 E277 A277 D277 => ?_
      have ne_o269_o277 : o269 ≠ o277 := Nat.ne_of_lt (Nat.lt_of_lt_of_le So275.1.lt (Nat.le_of_eq g277.symm))
      have ne_o270_o277 : o270 ≠ o277 := Nat.ne_of_lt (Nat.lt_of_lt_of_le So276.1.lt (Nat.le_of_eq g277.symm))
      have ne_tt275_o277 : tt275 ≠ o277 := Nat.ne_of_lt (Nat.lt_of_lt_of_le A275.lt (Nat.le_of_eq g277.symm))
      have ne_tt276_o277 : tt276 ≠ o277 := Nat.ne_of_lt (Nat.lt_of_lt_of_le A276.lt (Nat.le_of_eq g277.symm))
      have gz_o277 : Z.heap.size ≤ o277 := Nat.le_trans P270.old.1 (Nat.le_of_eq g277.symm)
      have gw_o277 : h0.size ≤ o277 := Nat.le_trans P270.kept.1 (Nat.le_of_eq g277.symm)
      have F277_type : Fld Z h277 o277 "com/example/certain_answers/certainanswers/server/MediaType" "type" "Ljava/lang/String;" .null := D277 (Or.inr (hw _ (List.mem_of_getElem? (i := 50) rfl))) (ty := (.object "java/lang/String")) (by decide)
      have F277_subtype : Fld Z h277 o277 "com/example/certain_answers/certainanswers/server/MediaType" "subtype" "Ljava/lang/String;" .null := D277 (Or.inr (hw _ (List.mem_of_getElem? (i := 52) rfl))) (ty := (.object "java/lang/String")) (by decide)
      have F277_parameters : Fld Z h277 o277 "com/example/certain_answers/certainanswers/server/MediaType" "parameters" "Ljava/util/Map;" .null := D277 (Or.inr (hw _ (List.mem_of_getElem? (i := 54) rfl))) (ty := (.object "java/util/Map")) (by decide)
      show Go p e below _ (T277.setTop (mkF m 13 #[.val (.int p0), .val (.int p1), .val (.ref o269), .val (.ref o270), .unset, .unset, .unset, .unset] [(.ref o277)]))
      refine P277.xs (fun hA hx hy t k => XS.dup hA hx rfl (hb hy at_13) rfl rfl k) ?_
      show Go p e below _ (T277.setTop (mkF m 14 #[.val (.int p0), .val (.int p1), .val (.ref o269), .val (.ref o270), .unset, .unset, .unset, .unset] [(.ref o277), (.ref o277)]))
      refine P277.xs (fun hA hx hy t k => XS.aloadN hA hx rfl (hb hy at_14) rfl rfl  k) ?_
      show Go p e below _ (T277.setTop (mkF m 15 #[.val (.int p0), .val (.int p1), .val (.ref o269), .val (.ref o270), .unset, .unset, .unset, .unset] [(.ref o269), (.ref o277), (.ref o277)]))
      refine P277.xs (fun hA hx hy t k => XS.aloadN hA hx rfl (hb hy at_15) rfl rfl  k) ?_
      show Go p e below _ (T277.setTop (mkF m 16 #[.val (.int p0), .val (.int p1), .val (.ref o269), .val (.ref o270), .unset, .unset, .unset, .unset] [(.ref o270), (.ref o269), (.ref o277), (.ref o277)]))
      have Ec279 : Exa Z h277 o269 "java/lang/String" := (So275.1.ext E277)
      have Ec280 : Exa Z h277 o270 "java/lang/String" := (So276.1.ext E277)
      have Fc281 : Fld Z h277 o269 "java/lang/String" "value" "[B" (.ref tt275) := (V275.ext E277)
      have Fc282 : Fld Z h277 o269 "java/lang/String" "coder" "B" (.int (0 : Int32)) := (C275.ext E277)
      have Fc283 : Fld Z h277 o270 "java/lang/String" "value" "[B" (.ref tt276) := (V276.ext E277)
      have Fc284 : Fld Z h277 o270 "java/lang/String" "coder" "B" (.int (0 : Int32)) := (C276.ext E277)
      have Ac285 : Arv Z h277 tt275 kt275 .byte (Int32.ofNat ([] : List Int32).length) ((([] : List Int32).map StrChars.lo8).map Value.int) (.int 0) := (A275.ext E277)
      have Ac286 : Arv Z h277 tt276 kt276 .byte (Int32.ofNat ([] : List Int32).length) ((([] : List Int32).map StrChars.lo8).map Value.int) (.int 0) := (A276.ext E277)
      refine P277.callS (hw _ (List.mem_of_getElem? (i := 29) rfl)) (hw _ (List.mem_of_getElem? (i := 30) rfl)) (hw _ (List.mem_of_getElem? (i := 31) rfl)) (hw _ (List.mem_of_getElem? (i := 32) rfl)) (by decide) (mMof l Z a0 hw hEL zc S0 Pz w_M S_M E_M fm S_f rf  h277 P277.old) (W := 4) (by decide) (by decide) (by decide) (by decide) all0 pd_21 (argsL := []) rfl rfl rfl (Nat.le_of_eq rfl) at_16 fun v278 T278 h278 P278 K278 Q278 => ?_
      obtain ⟨hv278, hh278⟩ := Q278
      subst hv278
      rw [hh278] at P278
      show Go p e below _ (T278.setTop (mkF m 19 #[.val (.int p0), .val (.int p1), .val (.ref o269), .val (.ref o270), .unset, .unset, .unset, .unset] [(.ref w_M), (.ref o270), (.ref o269), (.ref o277), (.ref o277)]))
      refine P278.callI rfl (hw _ (List.mem_of_getElem? (i := 35) rfl)) (hw _ (List.mem_of_getElem? (i := 36) rfl)) (hw _ (List.mem_of_getElem? (i := 28) rfl)) (hw _ (List.mem_of_getElem? (i := 37) rfl)) (by decide) (mMT l Z a0 hw hEL zc S0 Pz w_M S_M E_M fm S_f rf o277 o269 o270 h277 P278.old A277 F277_type F277_subtype F277_parameters gz_o277) (W := 1) (by decide) (by decide) (by decide) (by decide) (allS (Or.inr gw_o277) all0) pd_22 (argsL := [(.ref o269), (.ref o270), (.ref w_M)]) rfl rfl rfl (Nat.le_of_eq rfl) at_19 fun v287 T287 h287 P287 K287 Q287 => ?_
      obtain ⟨rfl, E287, Ft287, Fu287⟩ := Q287
      show Go p e below _ (T287.setTop (mkF m 22 #[.val (.int p0), .val (.int p1), .val (.ref o269), .val (.ref o270), .unset, .unset, .unset, .unset] [(.ref o277)]))
      refine P287.xs (fun hA hx hy t k => XS.astore hA hx rfl (hb hy at_22) rfl rfl (l' := #[.val (.int p0), .val (.int p1), .val (.ref o269), .val (.ref o270), .val (.ref o277), .unset, .unset, .unset]) rfl k) ?_
      show Go p e below _ (T287.setTop (mkF m 24 #[.val (.int p0), .val (.int p1), .val (.ref o269), .val (.ref o270), .val (.ref o277), .unset, .unset, .unset] []))
      refine P287.xs (fun hA hx hy t k => XS.aload hA hx rfl (hb hy at_24) rfl rfl  k) ?_
      show Go p e below _ (T287.setTop (mkF m 26 #[.val (.int p0), .val (.int p1), .val (.ref o269), .val (.ref o270), .val (.ref o277), .unset, .unset, .unset] [(.ref o277)]))
      have Ec289 : Exa Z h287 o269 "java/lang/String" := (Ec279.keep K287)
      have Ec290 : Exa Z h287 o270 "java/lang/String" := (Ec280.keep K287)
      have Fc291 : Fld Z h287 o269 "java/lang/String" "value" "[B" (.ref tt275) := (Fc281.keep K287 (ninS ne_o269_o277 nin0))
      have Fc292 : Fld Z h287 o269 "java/lang/String" "coder" "B" (.int (0 : Int32)) := (Fc282.keep K287 (ninS ne_o269_o277 nin0))
      have Fc293 : Fld Z h287 o270 "java/lang/String" "value" "[B" (.ref tt276) := (Fc283.keep K287 (ninS ne_o270_o277 nin0))
      have Fc294 : Fld Z h287 o270 "java/lang/String" "coder" "B" (.int (0 : Int32)) := (Fc284.keep K287 (ninS ne_o270_o277 nin0))
      have Ac295 : Arv Z h287 tt275 kt275 .byte (Int32.ofNat ([] : List Int32).length) ((([] : List Int32).map StrChars.lo8).map Value.int) (.int 0) := (Ac285.keep K287 (ninS ne_tt275_o277 nin0))
      have Ac296 : Arv Z h287 tt276 kt276 .byte (Int32.ofNat ([] : List Int32).length) ((([] : List Int32).map StrChars.lo8).map Value.int) (.int 0) := (Ac286.keep K287 (ninS ne_tt276_o277 nin0))
      refine P287.callV (hw _ (List.mem_of_getElem? (i := 55) rfl)) (hw _ (List.mem_of_getElem? (i := 56) rfl)) (hw _ (List.mem_of_getElem? (i := 58) rfl)) (nfOf (hw _ (List.mem_of_getElem? (i := 58) rfl))) (hw _ (List.mem_of_getElem? (i := 57) rfl)) (hw _ (List.mem_of_getElem? (i := 28) rfl)) (hw _ (List.mem_of_getElem? (i := 59) rfl)) (by decide) E287 (mEss l Z a0 hw hEL zc S0 Pz w_M S_M E_M fm S_f rf o277 o269 tt275 o270 tt276 kt275 kt276 ([] : List Int32) ([] : List Int32) h287 P287.old E287 Ft287 Fu287 Ec289 Fc291 Fc292 Ac295 Ec290 Fc293 Fc294 Ac296 hl275 hl276 (Nat.le_of_ble_eq_true rfl) (Nat.le_of_ble_eq_true rfl)) (W := 0) (by decide) (by decide) (by decide) (by decide) all0 pd_18 (argsL := []) rfl rfl rfl (Nat.le_of_eq rfl) at_26 fun v288 T288 h288 P288 K288 Q288 => ?_
      obtain ⟨o288, rfl, g288, Ss288⟩ := Q288
      have ne_o269_o288 : o269 ≠ o288 := Nat.ne_of_lt (Nat.lt_of_lt_of_le Ec289.lt g288)
      have ne_o270_o288 : o270 ≠ o288 := Nat.ne_of_lt (Nat.lt_of_lt_of_le Ec290.lt g288)
      have ne_o277_o288 : o277 ≠ o288 := Nat.ne_of_lt (Nat.lt_of_lt_of_le E287.lt g288)
      have ne_tt275_o288 : tt275 ≠ o288 := Nat.ne_of_lt (Nat.lt_of_lt_of_le Ac295.lt g288)
      have ne_tt276_o288 : tt276 ≠ o288 := Nat.ne_of_lt (Nat.lt_of_lt_of_le Ac296.lt g288)
      have gz_o288 : Z.heap.size ≤ o288 := Nat.le_trans P287.old.1 g288
      have gw_o288 : h0.size ≤ o288 := Nat.le_trans P287.kept.1 g288
      have So297 : Str Z h288 o288 ([(47 : Int32)] : List Int32) := Ss288
      have hl297 : ∀ c ∈ ([(47 : Int32)] : List Int32), ¬ c < 0 ∧ ¬ (255 : Int32) < c := (latS (by decide) lat0)
      obtain ⟨tt297, kt297, V297, C297, A297⟩ := strLat So297 hl297
      show Go p e below _ (T288.setTop (mkF m 29 #[.val (.int p0), .val (.int p1), .val (.ref o269), .val (.ref o270), .val (.ref o277), .unset, .unset, .unset] [(.ref o288)]))
      refine P288.xs (fun hA hx hy t k => XS.astore hA hx rfl (hb hy at_29) rfl rfl (l' := #[.val (.int p0), .val (.int p1), .val (.ref o269), .val (.ref o270), .val (.ref o277), .val (.ref o288), .unset, .unset]) rfl k) ?_
      show Go p e below _ (T288.setTop (mkF m 31 #[.val (.int p0), .val (.int p1), .val (.ref o269), .val (.ref o270), .val (.ref o277), .val (.ref o288), .unset, .unset] []))
      refine P288.xs (fun hA hx hy t k => XS.aloadN hA hx rfl (hb hy at_31) rfl rfl  k) ?_
      show Go p e below _ (T288.setTop (mkF m 32 #[.val (.int p0), .val (.int p1), .val (.ref o269), .val (.ref o270), .val (.ref o277), .val (.ref o288), .unset, .unset] [(.ref o269)]))
      have Ec299 : Exa Z h288 o269 "java/lang/String" := (Ec289.keep K288)
      have Ec300 : Exa Z h288 o270 "java/lang/String" := (Ec290.keep K288)
      have Ec301 : Exa Z h288 o277 "com/example/certain_answers/certainanswers/server/MediaType" := (E287.keep K288)
      have Ec302 : Exa Z h288 o288 "java/lang/String" := So297.1
      have Fc303 : Fld Z h288 o269 "java/lang/String" "value" "[B" (.ref tt275) := (Fc291.keep K288 nin0)
      have Fc304 : Fld Z h288 o269 "java/lang/String" "coder" "B" (.int (0 : Int32)) := (Fc292.keep K288 nin0)
      have Fc305 : Fld Z h288 o270 "java/lang/String" "value" "[B" (.ref tt276) := (Fc293.keep K288 nin0)
      have Fc306 : Fld Z h288 o270 "java/lang/String" "coder" "B" (.int (0 : Int32)) := (Fc294.keep K288 nin0)
      have Fc307 : Fld Z h288 o277 "com/example/certain_answers/certainanswers/server/MediaType" "type" "Ljava/lang/String;" (.ref o269) := (Ft287.keep K288 nin0)
      have Fc308 : Fld Z h288 o277 "com/example/certain_answers/certainanswers/server/MediaType" "subtype" "Ljava/lang/String;" (.ref o270) := (Fu287.keep K288 nin0)
      have Ac309 : Arv Z h288 tt275 kt275 .byte (Int32.ofNat ([] : List Int32).length) ((([] : List Int32).map StrChars.lo8).map Value.int) (.int 0) := (Ac295.keep K288 nin0)
      have Ac310 : Arv Z h288 tt276 kt276 .byte (Int32.ofNat ([] : List Int32).length) ((([] : List Int32).map StrChars.lo8).map Value.int) (.int 0) := (Ac296.keep K288 nin0)
      refine P288.callV (hw _ (List.mem_of_getElem? (i := 172) rfl)) (hw _ (List.mem_of_getElem? (i := 89) rfl)) (hw _ (List.mem_of_getElem? (i := 91) rfl)) (nfOf (hw _ (List.mem_of_getElem? (i := 91) rfl))) (hw _ (List.mem_of_getElem? (i := 90) rfl)) (hw _ (List.mem_of_getElem? (i := 6) rfl)) (hw _ (List.mem_of_getElem? (i := 92) rfl)) (by decide) Ec299 (mLen l Z a0 hw hEL zc S0 Pz w_M S_M E_M fm S_f rf o269 tt275 kt275 ([] : List Int32) h288 P288.old Ec299 Fc303 Fc304 Ac309) (W := 0) (by decide) (by decide) (by decide) (by decide) all0 pd_4 (argsL := []) rfl rfl rfl (Nat.le_of_eq rfl) at_32 fun v298 T298 h298 P298 K298 Q298 => ?_
      obtain ⟨hv298, hh298⟩ := Q298
      subst hv298
      rw [hh298] at P298
      show Go p e below _ (T298.setTop (mkF m 35 #[.val (.int p0), .val (.int p1), .val (.ref o269), .val (.ref o270), .val (.ref o277), .val (.ref o288), .unset, .unset] [(.int (0 : Int32))]))
      refine P298.xs (fun hA hx hy t k => XS.istore hA hx rfl (hb hy at_35) rfl (l' := #[.val (.int p0), .val (.int p1), .val (.ref o269), .val (.ref o270), .val (.ref o277), .val (.ref o288), .val (.int (0 : Int32)), .unset]) rfl k) ?_
      show Go p e below _ (T298.setTop (mkF m 37 #[.val (.int p0), .val (.int p1), .val (.ref o269), .val (.ref o270), .val (.ref o277), .val (.ref o288), .val (.int (0 : Int32)), .unset] []))
      refine P298.xs (fun hA hx hy t k => XS.aloadN hA hx rfl (hb hy at_37) rfl rfl  k) ?_
      show Go p e below _ (T298.setTop (mkF m 38 #[.val (.int p0), .val (.int p1), .val (.ref o269), .val (.ref o270), .val (.ref o277), .val (.ref o288), .val (.int (0 : Int32)), .unset] [(.ref o270)]))
      refine P298.callV (hw _ (List.mem_of_getElem? (i := 172) rfl)) (hw _ (List.mem_of_getElem? (i := 89) rfl)) (hw _ (List.mem_of_getElem? (i := 91) rfl)) (nfOf (hw _ (List.mem_of_getElem? (i := 91) rfl))) (hw _ (List.mem_of_getElem? (i := 90) rfl)) (hw _ (List.mem_of_getElem? (i := 6) rfl)) (hw _ (List.mem_of_getElem? (i := 92) rfl)) (by decide) Ec300 (mLen l Z a0 hw hEL zc S0 Pz w_M S_M E_M fm S_f rf o270 tt276 kt276 ([] : List Int32) h288 P298.old Ec300 Fc305 Fc306 Ac310) (W := 0) (by decide) (by decide) (by decide) (by decide) all0 pd_4 (argsL := []) rfl rfl rfl (Nat.le_of_eq rfl) at_38 fun v311 T311 h311 P311 K311 Q311 => ?_
      obtain ⟨hv311, hh311⟩ := Q311
      subst hv311
      rw [hh311] at P311
      show Go p e below _ (T311.setTop (mkF m 41 #[.val (.int p0), .val (.int p1), .val (.ref o269), .val (.ref o270), .val (.ref o277), .val (.ref o288), .val (.int (0 : Int32)), .unset] [(.int (0 : Int32))]))
      refine P311.xs (fun hA hx hy t k => XS.istore hA hx rfl (hb hy at_41) rfl (l' := #[.val (.int p0), .val (.int p1), .val (.ref o269), .val (.ref o270), .val (.ref o277), .val (.ref o288), .val (.int (0 : Int32)), .val (.int (0 : Int32))]) rfl k) ?_
      show Go p e below _ (T311.setTop (mkF m 43 #[.val (.int p0), .val (.int p1), .val (.ref o269), .val (.ref o270), .val (.ref o277), .val (.ref o288), .val (.int (0 : Int32)), .val (.int (0 : Int32))] []))
      refine P311.xs (fun hA hx hy t k => XS.aload hA hx rfl (hb hy at_43) rfl rfl  k) ?_
      show Go p e below _ (T311.setTop (mkF m 45 #[.val (.int p0), .val (.int p1), .val (.ref o269), .val (.ref o270), .val (.ref o277), .val (.ref o288), .val (.int (0 : Int32)), .val (.int (0 : Int32))] [(.ref o288)]))
      refine P311.callV (hw _ (List.mem_of_getElem? (i := 172) rfl)) (hw _ (List.mem_of_getElem? (i := 89) rfl)) (hw _ (List.mem_of_getElem? (i := 91) rfl)) (nfOf (hw _ (List.mem_of_getElem? (i := 91) rfl))) (hw _ (List.mem_of_getElem? (i := 90) rfl)) (hw _ (List.mem_of_getElem? (i := 6) rfl)) (hw _ (List.mem_of_getElem? (i := 92) rfl)) (by decide) Ec302 (mLen l Z a0 hw hEL zc S0 Pz w_M S_M E_M fm S_f rf o288 tt297 kt297 ([(47 : Int32)] : List Int32) h288 P311.old Ec302 V297 C297 A297) (W := 0) (by decide) (by decide) (by decide) (by decide) all0 pd_4 (argsL := []) rfl rfl rfl (Nat.le_of_eq rfl) at_45 fun v312 T312 h312 P312 K312 Q312 => ?_
      obtain ⟨hv312, hh312⟩ := Q312
      subst hv312
      rw [hh312] at P312
      show Go p e below _ (T312.setTop (mkF m 48 #[.val (.int p0), .val (.int p1), .val (.ref o269), .val (.ref o270), .val (.ref o277), .val (.ref o288), .val (.int (0 : Int32)), .val (.int (0 : Int32))] [(.int (1 : Int32))]))
      refine P312.xs (fun hA hx hy t k => XS.iload hA hx rfl (hb hy at_48) rfl  k) ?_
      show Go p e below _ (T312.setTop (mkF m 50 #[.val (.int p0), .val (.int p1), .val (.ref o269), .val (.ref o270), .val (.ref o277), .val (.ref o288), .val (.int (0 : Int32)), .val (.int (0 : Int32))] [(.int (0 : Int32)), (.int (1 : Int32))]))
      refine P312.xs (fun hA hx hy t k => XS.iconst hA hx rfl (hb hy at_50) k) ?_
      show Go p e below _ (T312.setTop (mkF m 51 #[.val (.int p0), .val (.int p1), .val (.ref o269), .val (.ref o270), .val (.ref o277), .val (.ref o288), .val (.int (0 : Int32)), .val (.int (0 : Int32))] [(.int (1 : Int32)), (.int (0 : Int32)), (.int (1 : Int32))]))
      refine P312.xs (fun hA hx hy t k => XS.iadd hA hx rfl (hb hy at_51) rfl k) ?_
      show Go p e below _ (T312.setTop (mkF m 52 #[.val (.int p0), .val (.int p1), .val (.ref o269), .val (.ref o270), .val (.ref o277), .val (.ref o288), .val (.int (0 : Int32)), .val (.int (0 : Int32))] [(.int (1 : Int32)), (.int (1 : Int32))]))
      refine P312.xs (fun hA hx hy t k => XS.iload hA hx rfl (hb hy at_52) rfl  k) ?_
      show Go p e below _ (T312.setTop (mkF m 54 #[.val (.int p0), .val (.int p1), .val (.ref o269), .val (.ref o270), .val (.ref o277), .val (.ref o288), .val (.int (0 : Int32)), .val (.int (0 : Int32))] [(.int (0 : Int32)), (.int (1 : Int32)), (.int (1 : Int32))]))
      refine P312.xs (fun hA hx hy t k => XS.iadd hA hx rfl (hb hy at_54) rfl k) ?_
      show Go p e below _ (T312.setTop (mkF m 55 #[.val (.int p0), .val (.int p1), .val (.ref o269), .val (.ref o270), .val (.ref o277), .val (.ref o288), .val (.int (0 : Int32)), .val (.int (0 : Int32))] [(.int (1 : Int32)), (.int (1 : Int32))]))
      refine P312.xs (fun hA hx hy t k => XS.icmpYes hA hx rfl (pc0 := 55) (pc' := 60) rfl (hb hy at_55) rfl (teq rfl).1 (by decide) (by decide) k) ?_
      show Go p e below _ (T312.setTop (mkF m 60 #[.val (.int p0), .val (.int p1), .val (.ref o269), .val (.ref o270), .val (.ref o277), .val (.ref o288), .val (.int (0 : Int32)), .val (.int (0 : Int32))] []))
      refine P312.xs (fun hA hx hy t k => XS.iload hA hx rfl (hb hy at_60) rfl  k) ?_
      show Go p e below _ (T312.setTop (mkF m 62 #[.val (.int p0), .val (.int p1), .val (.ref o269), .val (.ref o270), .val (.ref o277), .val (.ref o288), .val (.int (0 : Int32)), .val (.int (0 : Int32))] [(.int (0 : Int32))]))
      refine P312.xs (fun hA hx hy t k => XS.ifYes hA hx rfl (pc0 := 62) (pc' := 82) rfl (hb hy at_62) rfl ((if0 _ _).trans (flt (by decide)).2.2.2) (by decide) (by decide) k) ?_
      show Go p e below _ (T312.setTop (mkF m 82 #[.val (.int p0), .val (.int p1), .val (.ref o269), .val (.ref o270), .val (.ref o277), .val (.ref o288), .val (.int (0 : Int32)), .val (.int (0 : Int32))] []))
      refine P312.xs (fun hA hx hy t k => XS.iload hA hx rfl (hb hy at_82) rfl  k) ?_
      show Go p e below _ (T312.setTop (mkF m 84 #[.val (.int p0), .val (.int p1), .val (.ref o269), .val (.ref o270), .val (.ref o277), .val (.ref o288), .val (.int (0 : Int32)), .val (.int (0 : Int32))] [(.int (0 : Int32))]))
      refine P312.xs (fun hA hx hy t k => XS.iconst hA hx rfl (hb hy at_84) k) ?_
      show Go p e below _ (T312.setTop (mkF m 85 #[.val (.int p0), .val (.int p1), .val (.ref o269), .val (.ref o270), .val (.ref o277), .val (.ref o288), .val (.int (0 : Int32)), .val (.int (0 : Int32))] [(.int (1 : Int32)), (.int (0 : Int32))]))
      refine P312.xs (fun hA hx hy t k => XS.icmpYes hA hx rfl (pc0 := 85) (pc' := 108) rfl (hb hy at_85) rfl (flt (by decide)).2.2.2 (by decide) (by decide) k) ?_
      show Go p e below _ (T312.setTop (mkF m 108 #[.val (.int p0), .val (.int p1), .val (.ref o269), .val (.ref o270), .val (.ref o277), .val (.ref o288), .val (.int (0 : Int32)), .val (.int (0 : Int32))] []))
      refine P312.xs (fun hA hx hy t k => XS.aload hA hx rfl (hb hy at_108) rfl rfl  k) ?_
      show Go p e below _ (T312.setTop (mkF m 110 #[.val (.int p0), .val (.int p1), .val (.ref o269), .val (.ref o270), .val (.ref o277), .val (.ref o288), .val (.int (0 : Int32)), .val (.int (0 : Int32))] [(.ref o288)]))
      refine P312.xs (fun hA hx hy t k => XS.iload hA hx rfl (hb hy at_110) rfl  k) ?_
      show Go p e below _ (T312.setTop (mkF m 112 #[.val (.int p0), .val (.int p1), .val (.ref o269), .val (.ref o270), .val (.ref o277), .val (.ref o288), .val (.int (0 : Int32)), .val (.int (0 : Int32))] [(.int (0 : Int32)), (.ref o288)]))
      refine P312.strCh (W := 0) (hw _ (List.mem_of_getElem? (i := 173) rfl)) (hw _ (List.mem_of_getElem? (i := 174) rfl)) (hw _ (List.mem_of_getElem? (i := 176) rfl)) (hw _ (List.mem_of_getElem? (i := 175) rfl)) (wChN hw) (hw _ (List.mem_of_getElem? (i := 5) rfl)) S0 Pz S_f rf Ec302 V297 C297 A297 hl297 (Nat.le_of_ble_eq_true rfl) (i := 0) (Nat.le_of_ble_eq_true rfl) rfl (ch := (47 : Int32)) rfl (by decide) (by decide) (by decide) (by decide) pd_23 rfl rfl (Nat.le_of_eq rfl) at_112 fun T313 P313 => ?_
      show Go p e below _ (T313.setTop (mkF m 115 #[.val (.int p0), .val (.int p1), .val (.ref o269), .val (.ref o270), .val (.ref o277), .val (.ref o288), .val (.int (0 : Int32)), .val (.int (0 : Int32))] [(.int (47 : Int32))]))
      refine P313.xs (fun hA hx hy t k => XS.bipush hA hx rfl (hb hy at_115) k) ?_
      show Go p e below _ (T313.setTop (mkF m 117 #[.val (.int p0), .val (.int p1), .val (.ref o269), .val (.ref o270), .val (.ref o277), .val (.ref o288), .val (.int (0 : Int32)), .val (.int (0 : Int32))] [(.int (47 : Int32)), (.int (47 : Int32))]))
      refine P313.xs (fun hA hx hy t k => XS.icmpYes hA hx rfl (pc0 := 117) (pc' := 122) rfl (hb hy at_117) rfl (teq rfl).1 (by decide) (by decide) k) ?_
      show Go p e below _ (T313.setTop (mkF m 122 #[.val (.int p0), .val (.int p1), .val (.ref o269), .val (.ref o270), .val (.ref o277), .val (.ref o288), .val (.int (0 : Int32)), .val (.int (0 : Int32))] []))
      refine P313.xs (fun hA hx hy t k => XS.iload hA hx rfl (hb hy at_122) rfl  k) ?_
      show Go p e below _ (T313.setTop (mkF m 124 #[.val (.int p0), .val (.int p1), .val (.ref o269), .val (.ref o270), .val (.ref o277), .val (.ref o288), .val (.int (0 : Int32)), .val (.int (0 : Int32))] [(.int (0 : Int32))]))
      refine P313.xs (fun hA hx hy t k => XS.ifYes hA hx rfl (pc0 := 124) (pc' := 147) rfl (hb hy at_124) rfl ((if0 _ _).trans (flt (by decide)).2.2.2) (by decide) (by decide) k) ?_
      show Go p e below _ (T313.setTop (mkF m 147 #[.val (.int p0), .val (.int p1), .val (.ref o269), .val (.ref o270), .val (.ref o277), .val (.ref o288), .val (.int (0 : Int32)), .val (.int (0 : Int32))] []))
      refine P313.xs (fun hA hx hy t k => XS.iload hA hx rfl (hb hy at_147) rfl  k) ?_
      show Go p e below _ (T313.setTop (mkF m 149 #[.val (.int p0), .val (.int p1), .val (.ref o269), .val (.ref o270), .val (.ref o277), .val (.ref o288), .val (.int (0 : Int32)), .val (.int (0 : Int32))] [(.int (0 : Int32))]))
      refine P313.xs (fun hA hx hy t k => XS.iconst hA hx rfl (hb hy at_149) k) ?_
      show Go p e below _ (T313.setTop (mkF m 150 #[.val (.int p0), .val (.int p1), .val (.ref o269), .val (.ref o270), .val (.ref o277), .val (.ref o288), .val (.int (0 : Int32)), .val (.int (0 : Int32))] [(.int (1 : Int32)), (.int (0 : Int32))]))
      refine P313.xs (fun hA hx hy t k => XS.icmpYes hA hx rfl (pc0 := 150) (pc' := 176) rfl (hb hy at_150) rfl (flt (by decide)).2.2.2 (by decide) (by decide) k) ?_
      show Go p e below _ (T313.setTop (mkF m 176 #[.val (.int p0), .val (.int p1), .val (.ref o269), .val (.ref o270), .val (.ref o277), .val (.ref o288), .val (.int (0 : Int32)), .val (.int (0 : Int32))] []))
      refine P313.xs (fun hA hx hy t k => XS.iconst hA hx rfl (hb hy at_176) k) ?_
      show Go p e below _ (T313.setTop (mkF m 177 #[.val (.int p0), .val (.int p1), .val (.ref o269), .val (.ref o270), .val (.ref o277), .val (.ref o288), .val (.int (0 : Int32)), .val (.int (0 : Int32))] [(.int (1 : Int32))]))
      exact P313.retN (t := .boolean) rfl (by simp) at_177 (by decide) (by decide) rfl
    · have So314 : Str Z h270 o269 ([] : List Int32) := by have q := Sc274; rw [cs3_0 (n := 0) rfl] at q; exact q
      have hl314 : ∀ c ∈ ([] : List Int32), ¬ c < 0 ∧ ¬ (255 : Int32) < c := lat0
      obtain ⟨tt314, kt314, V314, C314, A314⟩ := strLat So314 hl314
      have So315 : Str Z h270 o270 ([((p1 &&& (255 : Int32)).toUInt32.toUInt16.toUInt32.toInt32)] : List Int32) := by have q := Ss270; rw [cs3_1 (n := 1) (by decide) rfl] at q; exact q
      have hl315 : ∀ c ∈ ([((p1 &&& (255 : Int32)).toUInt32.toUInt16.toUInt32.toInt32)] : List Int32), ¬ c < 0 ∧ ¬ (255 : Int32) < c := (latS (chr255 rfl).1 lat0)
      obtain ⟨tt315, kt315, V315, C315, A315⟩ := strLat So315 hl315
      show Go p e below _ (T270.setTop (mkF m 10 #[.val (.int p0), .val (.int p1), .val (.ref o269), .val (.ref o270), .unset, .unset, .unset, .unset] []))
      refine P270.newO (hw _ (List.mem_of_getElem? (i := 26) rfl)) (hw _ (List.mem_of_getElem? (i := 27) rfl)) (hw _ (List.mem_of_getElem? (i := 28) rfl)) at_10 (by decide) (by decide) fun T316 h316 o316 g316 P316 E316 A316 D316 => ?_
      have ne_o269_o316 : o269 ≠ o316 := Nat.ne_of_lt (Nat.lt_of_lt_of_le So314.1.lt (Nat.le_of_eq g316.symm))
      have ne_o270_o316 : o270 ≠ o316 := Nat.ne_of_lt (Nat.lt_of_lt_of_le So315.1.lt (Nat.le_of_eq g316.symm))
      have ne_tt314_o316 : tt314 ≠ o316 := Nat.ne_of_lt (Nat.lt_of_lt_of_le A314.lt (Nat.le_of_eq g316.symm))
      have ne_tt315_o316 : tt315 ≠ o316 := Nat.ne_of_lt (Nat.lt_of_lt_of_le A315.lt (Nat.le_of_eq g316.symm))
      have gz_o316 : Z.heap.size ≤ o316 := Nat.le_trans P270.old.1 (Nat.le_of_eq g316.symm)
      have gw_o316 : h0.size ≤ o316 := Nat.le_trans P270.kept.1 (Nat.le_of_eq g316.symm)
      have F316_type : Fld Z h316 o316 "com/example/certain_answers/certainanswers/server/MediaType" "type" "Ljava/lang/String;" .null := D316 (Or.inr (hw _ (List.mem_of_getElem? (i := 50) rfl))) (ty := (.object "java/lang/String")) (by decide)
      have F316_subtype : Fld Z h316 o316 "com/example/certain_answers/certainanswers/server/MediaType" "subtype" "Ljava/lang/String;" .null := D316 (Or.inr (hw _ (List.mem_of_getElem? (i := 52) rfl))) (ty := (.object "java/lang/String")) (by decide)
      have F316_parameters : Fld Z h316 o316 "com/example/certain_answers/certainanswers/server/MediaType" "parameters" "Ljava/util/Map;" .null := D316 (Or.inr (hw _ (List.mem_of_getElem? (i := 54) rfl))) (ty := (.object "java/util/Map")) (by decide)
      show Go p e below _ (T316.setTop (mkF m 13 #[.val (.int p0), .val (.int p1), .val (.ref o269), .val (.ref o270), .unset, .unset, .unset, .unset] [(.ref o316)]))
      refine P316.xs (fun hA hx hy t k => XS.dup hA hx rfl (hb hy at_13) rfl rfl k) ?_
      show Go p e below _ (T316.setTop (mkF m 14 #[.val (.int p0), .val (.int p1), .val (.ref o269), .val (.ref o270), .unset, .unset, .unset, .unset] [(.ref o316), (.ref o316)]))
      refine P316.xs (fun hA hx hy t k => XS.aloadN hA hx rfl (hb hy at_14) rfl rfl  k) ?_
      show Go p e below _ (T316.setTop (mkF m 15 #[.val (.int p0), .val (.int p1), .val (.ref o269), .val (.ref o270), .unset, .unset, .unset, .unset] [(.ref o269), (.ref o316), (.ref o316)]))
      refine P316.xs (fun hA hx hy t k => XS.aloadN hA hx rfl (hb hy at_15) rfl rfl  k) ?_
      show Go p e below _ (T316.setTop (mkF m 16 #[.val (.int p0), .val (.int p1), .val (.ref o269), .val (.ref o270), .unset, .unset, .unset, .unset] [(.ref o270), (.ref o269), (.ref o316), (.ref o316)]))
      have Ec318 : Exa Z h316 o269 "java/lang/String" := (So314.1.ext E316)
      have Ec319 : Exa Z h316 o270 "java/lang/String" := (So315.1.ext E316)
      have Fc320 : Fld Z h316 o269 "java/lang/String" "value" "[B" (.ref tt314) := (V314.ext E316)
      have Fc321 : Fld Z h316 o269 "java/lang/String" "coder" "B" (.int (0 : Int32)) := (C314.ext E316)
      have Fc322 : Fld Z h316 o270 "java/lang/String" "value" "[B" (.ref tt315) := (V315.ext E316)
      have Fc323 : Fld Z h316 o270 "java/lang/String" "coder" "B" (.int (0 : Int32)) := (C315.ext E316)
      have Ac324 : Arv Z h316 tt314 kt314 .byte (Int32.ofNat ([] : List Int32).length) ((([] : List Int32).map StrChars.lo8).map Value.int) (.int 0) := (A314.ext E316)
      have Ac325 : Arv Z h316 tt315 kt315 .byte (Int32.ofNat ([((p1 &&& (255 : Int32)).toUInt32.toUInt16.toUInt32.toInt32)] : List Int32).length) ((([((p1 &&& (255 : Int32)).toUInt32.toUInt16.toUInt32.toInt32)] : List Int32).map StrChars.lo8).map Value.int) (.int 0) := (A315.ext E316)
      refine P316.callS (hw _ (List.mem_of_getElem? (i := 29) rfl)) (hw _ (List.mem_of_getElem? (i := 30) rfl)) (hw _ (List.mem_of_getElem? (i := 31) rfl)) (hw _ (List.mem_of_getElem? (i := 32) rfl)) (by decide) (mMof l Z a0 hw hEL zc S0 Pz w_M S_M E_M fm S_f rf  h316 P316.old) (W := 4) (by decide) (by decide) (by decide) (by decide) all0 pd_21 (argsL := []) rfl rfl rfl (Nat.le_of_eq rfl) at_16 fun v317 T317 h317 P317 K317 Q317 => ?_
      obtain ⟨hv317, hh317⟩ := Q317
      subst hv317
      rw [hh317] at P317
      show Go p e below _ (T317.setTop (mkF m 19 #[.val (.int p0), .val (.int p1), .val (.ref o269), .val (.ref o270), .unset, .unset, .unset, .unset] [(.ref w_M), (.ref o270), (.ref o269), (.ref o316), (.ref o316)]))
      refine P317.callI rfl (hw _ (List.mem_of_getElem? (i := 35) rfl)) (hw _ (List.mem_of_getElem? (i := 36) rfl)) (hw _ (List.mem_of_getElem? (i := 28) rfl)) (hw _ (List.mem_of_getElem? (i := 37) rfl)) (by decide) (mMT l Z a0 hw hEL zc S0 Pz w_M S_M E_M fm S_f rf o316 o269 o270 h316 P317.old A316 F316_type F316_subtype F316_parameters gz_o316) (W := 1) (by decide) (by decide) (by decide) (by decide) (allS (Or.inr gw_o316) all0) pd_22 (argsL := [(.ref o269), (.ref o270), (.ref w_M)]) rfl rfl rfl (Nat.le_of_eq rfl) at_19 fun v326 T326 h326 P326 K326 Q326 => ?_
      obtain ⟨rfl, E326, Ft326, Fu326⟩ := Q326
      show Go p e below _ (T326.setTop (mkF m 22 #[.val (.int p0), .val (.int p1), .val (.ref o269), .val (.ref o270), .unset, .unset, .unset, .unset] [(.ref o316)]))
      refine P326.xs (fun hA hx hy t k => XS.astore hA hx rfl (hb hy at_22) rfl rfl (l' := #[.val (.int p0), .val (.int p1), .val (.ref o269), .val (.ref o270), .val (.ref o316), .unset, .unset, .unset]) rfl k) ?_
      show Go p e below _ (T326.setTop (mkF m 24 #[.val (.int p0), .val (.int p1), .val (.ref o269), .val (.ref o270), .val (.ref o316), .unset, .unset, .unset] []))
      refine P326.xs (fun hA hx hy t k => XS.aload hA hx rfl (hb hy at_24) rfl rfl  k) ?_
      show Go p e below _ (T326.setTop (mkF m 26 #[.val (.int p0), .val (.int p1), .val (.ref o269), .val (.ref o270), .val (.ref o316), .unset, .unset, .unset] [(.ref o316)]))
      have Ec328 : Exa Z h326 o269 "java/lang/String" := (Ec318.keep K326)
      have Ec329 : Exa Z h326 o270 "java/lang/String" := (Ec319.keep K326)
      have Fc330 : Fld Z h326 o269 "java/lang/String" "value" "[B" (.ref tt314) := (Fc320.keep K326 (ninS ne_o269_o316 nin0))
      have Fc331 : Fld Z h326 o269 "java/lang/String" "coder" "B" (.int (0 : Int32)) := (Fc321.keep K326 (ninS ne_o269_o316 nin0))
      have Fc332 : Fld Z h326 o270 "java/lang/String" "value" "[B" (.ref tt315) := (Fc322.keep K326 (ninS ne_o270_o316 nin0))
      have Fc333 : Fld Z h326 o270 "java/lang/String" "coder" "B" (.int (0 : Int32)) := (Fc323.keep K326 (ninS ne_o270_o316 nin0))
      have Ac334 : Arv Z h326 tt314 kt314 .byte (Int32.ofNat ([] : List Int32).length) ((([] : List Int32).map StrChars.lo8).map Value.int) (.int 0) := (Ac324.keep K326 (ninS ne_tt314_o316 nin0))
      have Ac335 : Arv Z h326 tt315 kt315 .byte (Int32.ofNat ([((p1 &&& (255 : Int32)).toUInt32.toUInt16.toUInt32.toInt32)] : List Int32).length) ((([((p1 &&& (255 : Int32)).toUInt32.toUInt16.toUInt32.toInt32)] : List Int32).map StrChars.lo8).map Value.int) (.int 0) := (Ac325.keep K326 (ninS ne_tt315_o316 nin0))
      refine P326.callV (hw _ (List.mem_of_getElem? (i := 55) rfl)) (hw _ (List.mem_of_getElem? (i := 56) rfl)) (hw _ (List.mem_of_getElem? (i := 58) rfl)) (nfOf (hw _ (List.mem_of_getElem? (i := 58) rfl))) (hw _ (List.mem_of_getElem? (i := 57) rfl)) (hw _ (List.mem_of_getElem? (i := 28) rfl)) (hw _ (List.mem_of_getElem? (i := 59) rfl)) (by decide) E326 (mEss l Z a0 hw hEL zc S0 Pz w_M S_M E_M fm S_f rf o316 o269 tt314 o270 tt315 kt314 kt315 ([] : List Int32) ([((p1 &&& (255 : Int32)).toUInt32.toUInt16.toUInt32.toInt32)] : List Int32) h326 P326.old E326 Ft326 Fu326 Ec328 Fc330 Fc331 Ac334 Ec329 Fc332 Fc333 Ac335 hl314 hl315 (Nat.le_of_ble_eq_true rfl) (Nat.le_of_ble_eq_true rfl)) (W := 0) (by decide) (by decide) (by decide) (by decide) all0 pd_18 (argsL := []) rfl rfl rfl (Nat.le_of_eq rfl) at_26 fun v327 T327 h327 P327 K327 Q327 => ?_
      obtain ⟨o327, rfl, g327, Ss327⟩ := Q327
      have ne_o269_o327 : o269 ≠ o327 := Nat.ne_of_lt (Nat.lt_of_lt_of_le Ec328.lt g327)
      have ne_o270_o327 : o270 ≠ o327 := Nat.ne_of_lt (Nat.lt_of_lt_of_le Ec329.lt g327)
      have ne_o316_o327 : o316 ≠ o327 := Nat.ne_of_lt (Nat.lt_of_lt_of_le E326.lt g327)
      have ne_tt314_o327 : tt314 ≠ o327 := Nat.ne_of_lt (Nat.lt_of_lt_of_le Ac334.lt g327)
      have ne_tt315_o327 : tt315 ≠ o327 := Nat.ne_of_lt (Nat.lt_of_lt_of_le Ac335.lt g327)
      have gz_o327 : Z.heap.size ≤ o327 := Nat.le_trans P326.old.1 g327
      have gw_o327 : h0.size ≤ o327 := Nat.le_trans P326.kept.1 g327
      have So336 : Str Z h327 o327 ([(47 : Int32), ((p1 &&& (255 : Int32)).toUInt32.toUInt16.toUInt32.toInt32)] : List Int32) := Ss327
      have hl336 : ∀ c ∈ ([(47 : Int32), ((p1 &&& (255 : Int32)).toUInt32.toUInt16.toUInt32.toInt32)] : List Int32), ¬ c < 0 ∧ ¬ (255 : Int32) < c := (latS (by decide) (latS (chr255 rfl).1 lat0))
      obtain ⟨tt336, kt336, V336, C336, A336⟩ := strLat So336 hl336
      show Go p e below _ (T327.setTop (mkF m 29 #[.val (.int p0), .val (.int p1), .val (.ref o269), .val (.ref o270), .val (.ref o316), .unset, .unset, .unset] [(.ref o327)]))
      refine P327.xs (fun hA hx hy t k => XS.astore hA hx rfl (hb hy at_29) rfl rfl (l' := #[.val (.int p0), .val (.int p1), .val (.ref o269), .val (.ref o270), .val (.ref o316), .val (.ref o327), .unset, .unset]) rfl k) ?_
      show Go p e below _ (T327.setTop (mkF m 31 #[.val (.int p0), .val (.int p1), .val (.ref o269), .val (.ref o270), .val (.ref o316), .val (.ref o327), .unset, .unset] []))
      refine P327.xs (fun hA hx hy t k => XS.aloadN hA hx rfl (hb hy at_31) rfl rfl  k) ?_
      show Go p e below _ (T327.setTop (mkF m 32 #[.val (.int p0), .val (.int p1), .val (.ref o269), .val (.ref o270), .val (.ref o316), .val (.ref o327), .unset, .unset] [(.ref o269)]))
      have Ec338 : Exa Z h327 o269 "java/lang/String" := (Ec328.keep K327)
      have Ec339 : Exa Z h327 o270 "java/lang/String" := (Ec329.keep K327)
      have Ec340 : Exa Z h327 o316 "com/example/certain_answers/certainanswers/server/MediaType" := (E326.keep K327)
      have Ec341 : Exa Z h327 o327 "java/lang/String" := So336.1
      have Fc342 : Fld Z h327 o269 "java/lang/String" "value" "[B" (.ref tt314) := (Fc330.keep K327 nin0)
      have Fc343 : Fld Z h327 o269 "java/lang/String" "coder" "B" (.int (0 : Int32)) := (Fc331.keep K327 nin0)
      have Fc344 : Fld Z h327 o270 "java/lang/String" "value" "[B" (.ref tt315) := (Fc332.keep K327 nin0)
      have Fc345 : Fld Z h327 o270 "java/lang/String" "coder" "B" (.int (0 : Int32)) := (Fc333.keep K327 nin0)
      have Fc346 : Fld Z h327 o316 "com/example/certain_answers/certainanswers/server/MediaType" "type" "Ljava/lang/String;" (.ref o269) := (Ft326.keep K327 nin0)
      have Fc347 : Fld Z h327 o316 "com/example/certain_answers/certainanswers/server/MediaType" "subtype" "Ljava/lang/String;" (.ref o270) := (Fu326.keep K327 nin0)
      have Ac348 : Arv Z h327 tt314 kt314 .byte (Int32.ofNat ([] : List Int32).length) ((([] : List Int32).map StrChars.lo8).map Value.int) (.int 0) := (Ac334.keep K327 nin0)
      have Ac349 : Arv Z h327 tt315 kt315 .byte (Int32.ofNat ([((p1 &&& (255 : Int32)).toUInt32.toUInt16.toUInt32.toInt32)] : List Int32).length) ((([((p1 &&& (255 : Int32)).toUInt32.toUInt16.toUInt32.toInt32)] : List Int32).map StrChars.lo8).map Value.int) (.int 0) := (Ac335.keep K327 nin0)
      refine P327.callV (hw _ (List.mem_of_getElem? (i := 172) rfl)) (hw _ (List.mem_of_getElem? (i := 89) rfl)) (hw _ (List.mem_of_getElem? (i := 91) rfl)) (nfOf (hw _ (List.mem_of_getElem? (i := 91) rfl))) (hw _ (List.mem_of_getElem? (i := 90) rfl)) (hw _ (List.mem_of_getElem? (i := 6) rfl)) (hw _ (List.mem_of_getElem? (i := 92) rfl)) (by decide) Ec338 (mLen l Z a0 hw hEL zc S0 Pz w_M S_M E_M fm S_f rf o269 tt314 kt314 ([] : List Int32) h327 P327.old Ec338 Fc342 Fc343 Ac348) (W := 0) (by decide) (by decide) (by decide) (by decide) all0 pd_4 (argsL := []) rfl rfl rfl (Nat.le_of_eq rfl) at_32 fun v337 T337 h337 P337 K337 Q337 => ?_
      obtain ⟨hv337, hh337⟩ := Q337
      subst hv337
      rw [hh337] at P337
      show Go p e below _ (T337.setTop (mkF m 35 #[.val (.int p0), .val (.int p1), .val (.ref o269), .val (.ref o270), .val (.ref o316), .val (.ref o327), .unset, .unset] [(.int (0 : Int32))]))
      refine P337.xs (fun hA hx hy t k => XS.istore hA hx rfl (hb hy at_35) rfl (l' := #[.val (.int p0), .val (.int p1), .val (.ref o269), .val (.ref o270), .val (.ref o316), .val (.ref o327), .val (.int (0 : Int32)), .unset]) rfl k) ?_
      show Go p e below _ (T337.setTop (mkF m 37 #[.val (.int p0), .val (.int p1), .val (.ref o269), .val (.ref o270), .val (.ref o316), .val (.ref o327), .val (.int (0 : Int32)), .unset] []))
      refine P337.xs (fun hA hx hy t k => XS.aloadN hA hx rfl (hb hy at_37) rfl rfl  k) ?_
      show Go p e below _ (T337.setTop (mkF m 38 #[.val (.int p0), .val (.int p1), .val (.ref o269), .val (.ref o270), .val (.ref o316), .val (.ref o327), .val (.int (0 : Int32)), .unset] [(.ref o270)]))
      refine P337.callV (hw _ (List.mem_of_getElem? (i := 172) rfl)) (hw _ (List.mem_of_getElem? (i := 89) rfl)) (hw _ (List.mem_of_getElem? (i := 91) rfl)) (nfOf (hw _ (List.mem_of_getElem? (i := 91) rfl))) (hw _ (List.mem_of_getElem? (i := 90) rfl)) (hw _ (List.mem_of_getElem? (i := 6) rfl)) (hw _ (List.mem_of_getElem? (i := 92) rfl)) (by decide) Ec339 (mLen l Z a0 hw hEL zc S0 Pz w_M S_M E_M fm S_f rf o270 tt315 kt315 ([((p1 &&& (255 : Int32)).toUInt32.toUInt16.toUInt32.toInt32)] : List Int32) h327 P337.old Ec339 Fc344 Fc345 Ac349) (W := 0) (by decide) (by decide) (by decide) (by decide) all0 pd_4 (argsL := []) rfl rfl rfl (Nat.le_of_eq rfl) at_38 fun v350 T350 h350 P350 K350 Q350 => ?_
      obtain ⟨hv350, hh350⟩ := Q350
      subst hv350
      rw [hh350] at P350
      show Go p e below _ (T350.setTop (mkF m 41 #[.val (.int p0), .val (.int p1), .val (.ref o269), .val (.ref o270), .val (.ref o316), .val (.ref o327), .val (.int (0 : Int32)), .unset] [(.int (1 : Int32))]))
      refine P350.xs (fun hA hx hy t k => XS.istore hA hx rfl (hb hy at_41) rfl (l' := #[.val (.int p0), .val (.int p1), .val (.ref o269), .val (.ref o270), .val (.ref o316), .val (.ref o327), .val (.int (0 : Int32)), .val (.int (1 : Int32))]) rfl k) ?_
      show Go p e below _ (T350.setTop (mkF m 43 #[.val (.int p0), .val (.int p1), .val (.ref o269), .val (.ref o270), .val (.ref o316), .val (.ref o327), .val (.int (0 : Int32)), .val (.int (1 : Int32))] []))
      refine P350.xs (fun hA hx hy t k => XS.aload hA hx rfl (hb hy at_43) rfl rfl  k) ?_
      show Go p e below _ (T350.setTop (mkF m 45 #[.val (.int p0), .val (.int p1), .val (.ref o269), .val (.ref o270), .val (.ref o316), .val (.ref o327), .val (.int (0 : Int32)), .val (.int (1 : Int32))] [(.ref o327)]))
      refine P350.callV (hw _ (List.mem_of_getElem? (i := 172) rfl)) (hw _ (List.mem_of_getElem? (i := 89) rfl)) (hw _ (List.mem_of_getElem? (i := 91) rfl)) (nfOf (hw _ (List.mem_of_getElem? (i := 91) rfl))) (hw _ (List.mem_of_getElem? (i := 90) rfl)) (hw _ (List.mem_of_getElem? (i := 6) rfl)) (hw _ (List.mem_of_getElem? (i := 92) rfl)) (by decide) Ec341 (mLen l Z a0 hw hEL zc S0 Pz w_M S_M E_M fm S_f rf o327 tt336 kt336 ([(47 : Int32), ((p1 &&& (255 : Int32)).toUInt32.toUInt16.toUInt32.toInt32)] : List Int32) h327 P350.old Ec341 V336 C336 A336) (W := 0) (by decide) (by decide) (by decide) (by decide) all0 pd_4 (argsL := []) rfl rfl rfl (Nat.le_of_eq rfl) at_45 fun v351 T351 h351 P351 K351 Q351 => ?_
      obtain ⟨hv351, hh351⟩ := Q351
      subst hv351
      rw [hh351] at P351
      show Go p e below _ (T351.setTop (mkF m 48 #[.val (.int p0), .val (.int p1), .val (.ref o269), .val (.ref o270), .val (.ref o316), .val (.ref o327), .val (.int (0 : Int32)), .val (.int (1 : Int32))] [(.int (2 : Int32))]))
      refine P351.xs (fun hA hx hy t k => XS.iload hA hx rfl (hb hy at_48) rfl  k) ?_
      show Go p e below _ (T351.setTop (mkF m 50 #[.val (.int p0), .val (.int p1), .val (.ref o269), .val (.ref o270), .val (.ref o316), .val (.ref o327), .val (.int (0 : Int32)), .val (.int (1 : Int32))] [(.int (0 : Int32)), (.int (2 : Int32))]))
      refine P351.xs (fun hA hx hy t k => XS.iconst hA hx rfl (hb hy at_50) k) ?_
      show Go p e below _ (T351.setTop (mkF m 51 #[.val (.int p0), .val (.int p1), .val (.ref o269), .val (.ref o270), .val (.ref o316), .val (.ref o327), .val (.int (0 : Int32)), .val (.int (1 : Int32))] [(.int (1 : Int32)), (.int (0 : Int32)), (.int (2 : Int32))]))
      refine P351.xs (fun hA hx hy t k => XS.iadd hA hx rfl (hb hy at_51) rfl k) ?_
      show Go p e below _ (T351.setTop (mkF m 52 #[.val (.int p0), .val (.int p1), .val (.ref o269), .val (.ref o270), .val (.ref o316), .val (.ref o327), .val (.int (0 : Int32)), .val (.int (1 : Int32))] [(.int (1 : Int32)), (.int (2 : Int32))]))
      refine P351.xs (fun hA hx hy t k => XS.iload hA hx rfl (hb hy at_52) rfl  k) ?_
      show Go p e below _ (T351.setTop (mkF m 54 #[.val (.int p0), .val (.int p1), .val (.ref o269), .val (.ref o270), .val (.ref o316), .val (.ref o327), .val (.int (0 : Int32)), .val (.int (1 : Int32))] [(.int (1 : Int32)), (.int (1 : Int32)), (.int (2 : Int32))]))
      refine P351.xs (fun hA hx hy t k => XS.iadd hA hx rfl (hb hy at_54) rfl k) ?_
      show Go p e below _ (T351.setTop (mkF m 55 #[.val (.int p0), .val (.int p1), .val (.ref o269), .val (.ref o270), .val (.ref o316), .val (.ref o327), .val (.int (0 : Int32)), .val (.int (1 : Int32))] [(.int (2 : Int32)), (.int (2 : Int32))]))
      refine P351.xs (fun hA hx hy t k => XS.icmpYes hA hx rfl (pc0 := 55) (pc' := 60) rfl (hb hy at_55) rfl (teq rfl).1 (by decide) (by decide) k) ?_
      show Go p e below _ (T351.setTop (mkF m 60 #[.val (.int p0), .val (.int p1), .val (.ref o269), .val (.ref o270), .val (.ref o316), .val (.ref o327), .val (.int (0 : Int32)), .val (.int (1 : Int32))] []))
      refine P351.xs (fun hA hx hy t k => XS.iload hA hx rfl (hb hy at_60) rfl  k) ?_
      show Go p e below _ (T351.setTop (mkF m 62 #[.val (.int p0), .val (.int p1), .val (.ref o269), .val (.ref o270), .val (.ref o316), .val (.ref o327), .val (.int (0 : Int32)), .val (.int (1 : Int32))] [(.int (0 : Int32))]))
      refine P351.xs (fun hA hx hy t k => XS.ifYes hA hx rfl (pc0 := 62) (pc' := 82) rfl (hb hy at_62) rfl ((if0 _ _).trans (flt (by decide)).2.2.2) (by decide) (by decide) k) ?_
      show Go p e below _ (T351.setTop (mkF m 82 #[.val (.int p0), .val (.int p1), .val (.ref o269), .val (.ref o270), .val (.ref o316), .val (.ref o327), .val (.int (0 : Int32)), .val (.int (1 : Int32))] []))
      refine P351.xs (fun hA hx hy t k => XS.iload hA hx rfl (hb hy at_82) rfl  k) ?_
      show Go p e below _ (T351.setTop (mkF m 84 #[.val (.int p0), .val (.int p1), .val (.ref o269), .val (.ref o270), .val (.ref o316), .val (.ref o327), .val (.int (0 : Int32)), .val (.int (1 : Int32))] [(.int (0 : Int32))]))
      refine P351.xs (fun hA hx hy t k => XS.iconst hA hx rfl (hb hy at_84) k) ?_
      show Go p e below _ (T351.setTop (mkF m 85 #[.val (.int p0), .val (.int p1), .val (.ref o269), .val (.ref o270), .val (.ref o316), .val (.ref o327), .val (.int (0 : Int32)), .val (.int (1 : Int32))] [(.int (1 : Int32)), (.int (0 : Int32))]))
      refine P351.xs (fun hA hx hy t k => XS.icmpYes hA hx rfl (pc0 := 85) (pc' := 108) rfl (hb hy at_85) rfl (flt (by decide)).2.2.2 (by decide) (by decide) k) ?_
      show Go p e below _ (T351.setTop (mkF m 108 #[.val (.int p0), .val (.int p1), .val (.ref o269), .val (.ref o270), .val (.ref o316), .val (.ref o327), .val (.int (0 : Int32)), .val (.int (1 : Int32))] []))
      refine P351.xs (fun hA hx hy t k => XS.aload hA hx rfl (hb hy at_108) rfl rfl  k) ?_
      show Go p e below _ (T351.setTop (mkF m 110 #[.val (.int p0), .val (.int p1), .val (.ref o269), .val (.ref o270), .val (.ref o316), .val (.ref o327), .val (.int (0 : Int32)), .val (.int (1 : Int32))] [(.ref o327)]))
      refine P351.xs (fun hA hx hy t k => XS.iload hA hx rfl (hb hy at_110) rfl  k) ?_
      show Go p e below _ (T351.setTop (mkF m 112 #[.val (.int p0), .val (.int p1), .val (.ref o269), .val (.ref o270), .val (.ref o316), .val (.ref o327), .val (.int (0 : Int32)), .val (.int (1 : Int32))] [(.int (0 : Int32)), (.ref o327)]))
      refine P351.strCh (W := 0) (hw _ (List.mem_of_getElem? (i := 173) rfl)) (hw _ (List.mem_of_getElem? (i := 174) rfl)) (hw _ (List.mem_of_getElem? (i := 176) rfl)) (hw _ (List.mem_of_getElem? (i := 175) rfl)) (wChN hw) (hw _ (List.mem_of_getElem? (i := 5) rfl)) S0 Pz S_f rf Ec341 V336 C336 A336 hl336 (Nat.le_of_ble_eq_true rfl) (i := 0) (Nat.le_of_ble_eq_true rfl) rfl (ch := (47 : Int32)) rfl (by decide) (by decide) (by decide) (by decide) pd_23 rfl rfl (Nat.le_of_eq rfl) at_112 fun T352 P352 => ?_
      show Go p e below _ (T352.setTop (mkF m 115 #[.val (.int p0), .val (.int p1), .val (.ref o269), .val (.ref o270), .val (.ref o316), .val (.ref o327), .val (.int (0 : Int32)), .val (.int (1 : Int32))] [(.int (47 : Int32))]))
      refine P352.xs (fun hA hx hy t k => XS.bipush hA hx rfl (hb hy at_115) k) ?_
      show Go p e below _ (T352.setTop (mkF m 117 #[.val (.int p0), .val (.int p1), .val (.ref o269), .val (.ref o270), .val (.ref o316), .val (.ref o327), .val (.int (0 : Int32)), .val (.int (1 : Int32))] [(.int (47 : Int32)), (.int (47 : Int32))]))
      refine P352.xs (fun hA hx hy t k => XS.icmpYes hA hx rfl (pc0 := 117) (pc' := 122) rfl (hb hy at_117) rfl (teq rfl).1 (by decide) (by decide) k) ?_
      show Go p e below _ (T352.setTop (mkF m 122 #[.val (.int p0), .val (.int p1), .val (.ref o269), .val (.ref o270), .val (.ref o316), .val (.ref o327), .val (.int (0 : Int32)), .val (.int (1 : Int32))] []))
      refine P352.xs (fun hA hx hy t k => XS.iload hA hx rfl (hb hy at_122) rfl  k) ?_
      show Go p e below _ (T352.setTop (mkF m 124 #[.val (.int p0), .val (.int p1), .val (.ref o269), .val (.ref o270), .val (.ref o316), .val (.ref o327), .val (.int (0 : Int32)), .val (.int (1 : Int32))] [(.int (1 : Int32))]))
      refine P352.xs (fun hA hx hy t k => XS.ifNo hA hx rfl (hb hy at_124) rfl ((if0 _ _).trans (tlt (by decide)).2.2.2) k) ?_
      show Go p e below _ (T352.setTop (mkF m 127 #[.val (.int p0), .val (.int p1), .val (.ref o269), .val (.ref o270), .val (.ref o316), .val (.ref o327), .val (.int (0 : Int32)), .val (.int (1 : Int32))] []))
      refine P352.xs (fun hA hx hy t k => XS.aload hA hx rfl (hb hy at_127) rfl rfl  k) ?_
      show Go p e below _ (T352.setTop (mkF m 129 #[.val (.int p0), .val (.int p1), .val (.ref o269), .val (.ref o270), .val (.ref o316), .val (.ref o327), .val (.int (0 : Int32)), .val (.int (1 : Int32))] [(.ref o327)]))
      refine P352.xs (fun hA hx hy t k => XS.iload hA hx rfl (hb hy at_129) rfl  k) ?_
      show Go p e below _ (T352.setTop (mkF m 131 #[.val (.int p0), .val (.int p1), .val (.ref o269), .val (.ref o270), .val (.ref o316), .val (.ref o327), .val (.int (0 : Int32)), .val (.int (1 : Int32))] [(.int (0 : Int32)), (.ref o327)]))
      refine P352.xs (fun hA hx hy t k => XS.iconst hA hx rfl (hb hy at_131) k) ?_
      show Go p e below _ (T352.setTop (mkF m 132 #[.val (.int p0), .val (.int p1), .val (.ref o269), .val (.ref o270), .val (.ref o316), .val (.ref o327), .val (.int (0 : Int32)), .val (.int (1 : Int32))] [(.int (1 : Int32)), (.int (0 : Int32)), (.ref o327)]))
      refine P352.xs (fun hA hx hy t k => XS.iadd hA hx rfl (hb hy at_132) rfl k) ?_
      show Go p e below _ (T352.setTop (mkF m 133 #[.val (.int p0), .val (.int p1), .val (.ref o269), .val (.ref o270), .val (.ref o316), .val (.ref o327), .val (.int (0 : Int32)), .val (.int (1 : Int32))] [(.int (1 : Int32)), (.ref o327)]))
      refine P352.strCh (W := 0) (hw _ (List.mem_of_getElem? (i := 173) rfl)) (hw _ (List.mem_of_getElem? (i := 174) rfl)) (hw _ (List.mem_of_getElem? (i := 176) rfl)) (hw _ (List.mem_of_getElem? (i := 175) rfl)) (wChN hw) (hw _ (List.mem_of_getElem? (i := 5) rfl)) S0 Pz S_f rf Ec341 V336 C336 A336 hl336 (Nat.le_of_ble_eq_true rfl) (i := 1) (Nat.le_of_ble_eq_true rfl) rfl (ch := ((p1 &&& (255 : Int32)).toUInt32.toUInt16.toUInt32.toInt32)) rfl (by decide) (by decide) (by decide) (by decide) pd_23 rfl rfl (Nat.le_of_eq rfl) at_133 fun T353 P353 => ?_
      show Go p e below _ (T353.setTop (mkF m 136 #[.val (.int p0), .val (.int p1), .val (.ref o269), .val (.ref o270), .val (.ref o316), .val (.ref o327), .val (.int (0 : Int32)), .val (.int (1 : Int32))] [(.int ((p1 &&& (255 : Int32)).toUInt32.toUInt16.toUInt32.toInt32))]))
      refine P353.xs (fun hA hx hy t k => XS.iloadN hA hx rfl (hb hy at_136) rfl  k) ?_
      show Go p e below _ (T353.setTop (mkF m 137 #[.val (.int p0), .val (.int p1), .val (.ref o269), .val (.ref o270), .val (.ref o316), .val (.ref o327), .val (.int (0 : Int32)), .val (.int (1 : Int32))] [(.int p1), (.int ((p1 &&& (255 : Int32)).toUInt32.toUInt16.toUInt32.toInt32))]))
      refine P353.xs (fun hA hx hy t k => XS.sipush hA hx rfl (hb hy at_137) k) ?_
      show Go p e below _ (T353.setTop (mkF m 140 #[.val (.int p0), .val (.int p1), .val (.ref o269), .val (.ref o270), .val (.ref o316), .val (.ref o327), .val (.int (0 : Int32)), .val (.int (1 : Int32))] [(.int (255 : Int32)), (.int p1), (.int ((p1 &&& (255 : Int32)).toUInt32.toUInt16.toUInt32.toInt32))]))
      refine P353.xs (fun hA hx hy t k => XS.iand hA hx rfl (hb hy at_140) rfl k) ?_
      show Go p e below _ (T353.setTop (mkF m 141 #[.val (.int p0), .val (.int p1), .val (.ref o269), .val (.ref o270), .val (.ref o316), .val (.ref o327), .val (.int (0 : Int32)), .val (.int (1 : Int32))] [(.int (p1 &&& (255 : Int32))), (.int ((p1 &&& (255 : Int32)).toUInt32.toUInt16.toUInt32.toInt32))]))
      refine P353.xs (fun hA hx hy t k => XS.i2c hA hx rfl (hb hy at_141) rfl k) ?_
      show Go p e below _ (T353.setTop (mkF m 142 #[.val (.int p0), .val (.int p1), .val (.ref o269), .val (.ref o270), .val (.ref o316), .val (.ref o327), .val (.int (0 : Int32)), .val (.int (1 : Int32))] [(.int ((p1 &&& (255 : Int32)).toUInt32.toUInt16.toUInt32.toInt32)), (.int ((p1 &&& (255 : Int32)).toUInt32.toUInt16.toUInt32.toInt32))]))
      refine P353.xs (fun hA hx hy t k => XS.icmpYes hA hx rfl (pc0 := 142) (pc' := 147) rfl (hb hy at_142) rfl (teq rfl).1 (by decide) (by decide) k) ?_
      show Go p e below _ (T353.setTop (mkF m 147 #[.val (.int p0), .val (.int p1), .val (.ref o269), .val (.ref o270), .val (.ref o316), .val (.ref o327), .val (.int (0 : Int32)), .val (.int (1 : Int32))] []))
      refine P353.xs (fun hA hx hy t k => XS.iload hA hx rfl (hb hy at_147) rfl  k) ?_
      show Go p e below _ (T353.setTop (mkF m 149 #[.val (.int p0), .val (.int p1), .val (.ref o269), .val (.ref o270), .val (.ref o316), .val (.ref o327), .val (.int (0 : Int32)), .val (.int (1 : Int32))] [(.int (1 : Int32))]))
      refine P353.xs (fun hA hx hy t k => XS.iconst hA hx rfl (hb hy at_149) k) ?_
      show Go p e below _ (T353.setTop (mkF m 150 #[.val (.int p0), .val (.int p1), .val (.ref o269), .val (.ref o270), .val (.ref o316), .val (.ref o327), .val (.int (0 : Int32)), .val (.int (1 : Int32))] [(.int (1 : Int32)), (.int (1 : Int32))]))
      refine P353.xs (fun hA hx hy t k => XS.icmpYes hA hx rfl (pc0 := 150) (pc' := 176) rfl (hb hy at_150) rfl (flt (by decide)).2.2.2 (by decide) (by decide) k) ?_
      show Go p e below _ (T353.setTop (mkF m 176 #[.val (.int p0), .val (.int p1), .val (.ref o269), .val (.ref o270), .val (.ref o316), .val (.ref o327), .val (.int (0 : Int32)), .val (.int (1 : Int32))] []))
      refine P353.xs (fun hA hx hy t k => XS.iconst hA hx rfl (hb hy at_176) k) ?_
      show Go p e below _ (T353.setTop (mkF m 177 #[.val (.int p0), .val (.int p1), .val (.ref o269), .val (.ref o270), .val (.ref o316), .val (.ref o327), .val (.int (0 : Int32)), .val (.int (1 : Int32))] [(.int (1 : Int32))]))
      exact P353.retN (t := .boolean) rfl (by simp) at_177 (by decide) (by decide) rfl
    · have So354 : Str Z h270 o269 ([] : List Int32) := by have q := Sc274; rw [cs3_0 (n := 0) rfl] at q; exact q
      have hl354 : ∀ c ∈ ([] : List Int32), ¬ c < 0 ∧ ¬ (255 : Int32) < c := lat0
      obtain ⟨tt354, kt354, V354, C354, A354⟩ := strLat So354 hl354
      have So355 : Str Z h270 o270 ([((p1 &&& (255 : Int32)).toUInt32.toUInt16.toUInt32.toInt32), ((((p1.toUInt32 >>> ((8 : Int32) &&& 31).toUInt32).toInt32) &&& (255 : Int32)).toUInt32.toUInt16.toUInt32.toInt32)] : List Int32) := by have q := Ss270; rw [cs3_2 (n := 2) (by decide) (by decide) rfl] at q; exact q
      have hl355 : ∀ c ∈ ([((p1 &&& (255 : Int32)).toUInt32.toUInt16.toUInt32.toInt32), ((((p1.toUInt32 >>> ((8 : Int32) &&& 31).toUInt32).toInt32) &&& (255 : Int32)).toUInt32.toUInt16.toUInt32.toInt32)] : List Int32), ¬ c < 0 ∧ ¬ (255 : Int32) < c := (latS (chr255 rfl).1 (latS (chr255 rfl).1 lat0))
      obtain ⟨tt355, kt355, V355, C355, A355⟩ := strLat So355 hl355
      show Go p e below _ (T270.setTop (mkF m 10 #[.val (.int p0), .val (.int p1), .val (.ref o269), .val (.ref o270), .unset, .unset, .unset, .unset] []))
      refine P270.newO (hw _ (List.mem_of_getElem? (i := 26) rfl)) (hw _ (List.mem_of_getElem? (i := 27) rfl)) (hw _ (List.mem_of_getElem? (i := 28) rfl)) at_10 (by decide) (by decide) fun T356 h356 o356 g356 P356 E356 A356 D356 => ?_
      have ne_o269_o356 : o269 ≠ o356 := Nat.ne_of_lt (Nat.lt_of_lt_of_le So354.1.lt (Nat.le_of_eq g356.symm))
      have ne_o270_o356 : o270 ≠ o356 := Nat.ne_of_lt (Nat.lt_of_lt_of_le So355.1.lt (Nat.le_of_eq g356.symm))
      have ne_tt354_o356 : tt354 ≠ o356 := Nat.ne_of_lt (Nat.lt_of_lt_of_le A354.lt (Nat.le_of_eq g356.symm))
      have ne_tt355_o356 : tt355 ≠ o356 := Nat.ne_of_lt (Nat.lt_of_lt_of_le A355.lt (Nat.le_of_eq g356.symm))
      have gz_o356 : Z.heap.size ≤ o356 := Nat.le_trans P270.old.1 (Nat.le_of_eq g356.symm)
      have gw_o356 : h0.size ≤ o356 := Nat.le_trans P270.kept.1 (Nat.le_of_eq g356.symm)
      have F356_type : Fld Z h356 o356 "com/example/certain_answers/certainanswers/server/MediaType" "type" "Ljava/lang/String;" .null := D356 (Or.inr (hw _ (List.mem_of_getElem? (i := 50) rfl))) (ty := (.object "java/lang/String")) (by decide)
      have F356_subtype : Fld Z h356 o356 "com/example/certain_answers/certainanswers/server/MediaType" "subtype" "Ljava/lang/String;" .null := D356 (Or.inr (hw _ (List.mem_of_getElem? (i := 52) rfl))) (ty := (.object "java/lang/String")) (by decide)
      have F356_parameters : Fld Z h356 o356 "com/example/certain_answers/certainanswers/server/MediaType" "parameters" "Ljava/util/Map;" .null := D356 (Or.inr (hw _ (List.mem_of_getElem? (i := 54) rfl))) (ty := (.object "java/util/Map")) (by decide)
      show Go p e below _ (T356.setTop (mkF m 13 #[.val (.int p0), .val (.int p1), .val (.ref o269), .val (.ref o270), .unset, .unset, .unset, .unset] [(.ref o356)]))
      refine P356.xs (fun hA hx hy t k => XS.dup hA hx rfl (hb hy at_13) rfl rfl k) ?_
      show Go p e below _ (T356.setTop (mkF m 14 #[.val (.int p0), .val (.int p1), .val (.ref o269), .val (.ref o270), .unset, .unset, .unset, .unset] [(.ref o356), (.ref o356)]))
      refine P356.xs (fun hA hx hy t k => XS.aloadN hA hx rfl (hb hy at_14) rfl rfl  k) ?_
      show Go p e below _ (T356.setTop (mkF m 15 #[.val (.int p0), .val (.int p1), .val (.ref o269), .val (.ref o270), .unset, .unset, .unset, .unset] [(.ref o269), (.ref o356), (.ref o356)]))
      refine P356.xs (fun hA hx hy t k => XS.aloadN hA hx rfl (hb hy at_15) rfl rfl  k) ?_
      show Go p e below _ (T356.setTop (mkF m 16 #[.val (.int p0), .val (.int p1), .val (.ref o269), .val (.ref o270), .unset, .unset, .unset, .unset] [(.ref o270), (.ref o269), (.ref o356), (.ref o356)]))
      have Ec358 : Exa Z h356 o269 "java/lang/String" := (So354.1.ext E356)
      have Ec359 : Exa Z h356 o270 "java/lang/String" := (So355.1.ext E356)
      have Fc360 : Fld Z h356 o269 "java/lang/String" "value" "[B" (.ref tt354) := (V354.ext E356)
      have Fc361 : Fld Z h356 o269 "java/lang/String" "coder" "B" (.int (0 : Int32)) := (C354.ext E356)
      have Fc362 : Fld Z h356 o270 "java/lang/String" "value" "[B" (.ref tt355) := (V355.ext E356)
      have Fc363 : Fld Z h356 o270 "java/lang/String" "coder" "B" (.int (0 : Int32)) := (C355.ext E356)
      have Ac364 : Arv Z h356 tt354 kt354 .byte (Int32.ofNat ([] : List Int32).length) ((([] : List Int32).map StrChars.lo8).map Value.int) (.int 0) := (A354.ext E356)
      have Ac365 : Arv Z h356 tt355 kt355 .byte (Int32.ofNat ([((p1 &&& (255 : Int32)).toUInt32.toUInt16.toUInt32.toInt32), ((((p1.toUInt32 >>> ((8 : Int32) &&& 31).toUInt32).toInt32) &&& (255 : Int32)).toUInt32.toUInt16.toUInt32.toInt32)] : List Int32).length) ((([((p1 &&& (255 : Int32)).toUInt32.toUInt16.toUInt32.toInt32), ((((p1.toUInt32 >>> ((8 : Int32) &&& 31).toUInt32).toInt32) &&& (255 : Int32)).toUInt32.toUInt16.toUInt32.toInt32)] : List Int32).map StrChars.lo8).map Value.int) (.int 0) := (A355.ext E356)
      refine P356.callS (hw _ (List.mem_of_getElem? (i := 29) rfl)) (hw _ (List.mem_of_getElem? (i := 30) rfl)) (hw _ (List.mem_of_getElem? (i := 31) rfl)) (hw _ (List.mem_of_getElem? (i := 32) rfl)) (by decide) (mMof l Z a0 hw hEL zc S0 Pz w_M S_M E_M fm S_f rf  h356 P356.old) (W := 4) (by decide) (by decide) (by decide) (by decide) all0 pd_21 (argsL := []) rfl rfl rfl (Nat.le_of_eq rfl) at_16 fun v357 T357 h357 P357 K357 Q357 => ?_
      obtain ⟨hv357, hh357⟩ := Q357
      subst hv357
      rw [hh357] at P357
      show Go p e below _ (T357.setTop (mkF m 19 #[.val (.int p0), .val (.int p1), .val (.ref o269), .val (.ref o270), .unset, .unset, .unset, .unset] [(.ref w_M), (.ref o270), (.ref o269), (.ref o356), (.ref o356)]))
      refine P357.callI rfl (hw _ (List.mem_of_getElem? (i := 35) rfl)) (hw _ (List.mem_of_getElem? (i := 36) rfl)) (hw _ (List.mem_of_getElem? (i := 28) rfl)) (hw _ (List.mem_of_getElem? (i := 37) rfl)) (by decide) (mMT l Z a0 hw hEL zc S0 Pz w_M S_M E_M fm S_f rf o356 o269 o270 h356 P357.old A356 F356_type F356_subtype F356_parameters gz_o356) (W := 1) (by decide) (by decide) (by decide) (by decide) (allS (Or.inr gw_o356) all0) pd_22 (argsL := [(.ref o269), (.ref o270), (.ref w_M)]) rfl rfl rfl (Nat.le_of_eq rfl) at_19 fun v366 T366 h366 P366 K366 Q366 => ?_
      obtain ⟨rfl, E366, Ft366, Fu366⟩ := Q366
      show Go p e below _ (T366.setTop (mkF m 22 #[.val (.int p0), .val (.int p1), .val (.ref o269), .val (.ref o270), .unset, .unset, .unset, .unset] [(.ref o356)]))
      refine P366.xs (fun hA hx hy t k => XS.astore hA hx rfl (hb hy at_22) rfl rfl (l' := #[.val (.int p0), .val (.int p1), .val (.ref o269), .val (.ref o270), .val (.ref o356), .unset, .unset, .unset]) rfl k) ?_
      show Go p e below _ (T366.setTop (mkF m 24 #[.val (.int p0), .val (.int p1), .val (.ref o269), .val (.ref o270), .val (.ref o356), .unset, .unset, .unset] []))
      refine P366.xs (fun hA hx hy t k => XS.aload hA hx rfl (hb hy at_24) rfl rfl  k) ?_
      show Go p e below _ (T366.setTop (mkF m 26 #[.val (.int p0), .val (.int p1), .val (.ref o269), .val (.ref o270), .val (.ref o356), .unset, .unset, .unset] [(.ref o356)]))
      have Ec368 : Exa Z h366 o269 "java/lang/String" := (Ec358.keep K366)
      have Ec369 : Exa Z h366 o270 "java/lang/String" := (Ec359.keep K366)
      have Fc370 : Fld Z h366 o269 "java/lang/String" "value" "[B" (.ref tt354) := (Fc360.keep K366 (ninS ne_o269_o356 nin0))
      have Fc371 : Fld Z h366 o269 "java/lang/String" "coder" "B" (.int (0 : Int32)) := (Fc361.keep K366 (ninS ne_o269_o356 nin0))
      have Fc372 : Fld Z h366 o270 "java/lang/String" "value" "[B" (.ref tt355) := (Fc362.keep K366 (ninS ne_o270_o356 nin0))
      have Fc373 : Fld Z h366 o270 "java/lang/String" "coder" "B" (.int (0 : Int32)) := (Fc363.keep K366 (ninS ne_o270_o356 nin0))
      have Ac374 : Arv Z h366 tt354 kt354 .byte (Int32.ofNat ([] : List Int32).length) ((([] : List Int32).map StrChars.lo8).map Value.int) (.int 0) := (Ac364.keep K366 (ninS ne_tt354_o356 nin0))
      have Ac375 : Arv Z h366 tt355 kt355 .byte (Int32.ofNat ([((p1 &&& (255 : Int32)).toUInt32.toUInt16.toUInt32.toInt32), ((((p1.toUInt32 >>> ((8 : Int32) &&& 31).toUInt32).toInt32) &&& (255 : Int32)).toUInt32.toUInt16.toUInt32.toInt32)] : List Int32).length) ((([((p1 &&& (255 : Int32)).toUInt32.toUInt16.toUInt32.toInt32), ((((p1.toUInt32 >>> ((8 : Int32) &&& 31).toUInt32).toInt32) &&& (255 : Int32)).toUInt32.toUInt16.toUInt32.toInt32)] : List Int32).map StrChars.lo8).map Value.int) (.int 0) := (Ac365.keep K366 (ninS ne_tt355_o356 nin0))
      refine P366.callV (hw _ (List.mem_of_getElem? (i := 55) rfl)) (hw _ (List.mem_of_getElem? (i := 56) rfl)) (hw _ (List.mem_of_getElem? (i := 58) rfl)) (nfOf (hw _ (List.mem_of_getElem? (i := 58) rfl))) (hw _ (List.mem_of_getElem? (i := 57) rfl)) (hw _ (List.mem_of_getElem? (i := 28) rfl)) (hw _ (List.mem_of_getElem? (i := 59) rfl)) (by decide) E366 (mEss l Z a0 hw hEL zc S0 Pz w_M S_M E_M fm S_f rf o356 o269 tt354 o270 tt355 kt354 kt355 ([] : List Int32) ([((p1 &&& (255 : Int32)).toUInt32.toUInt16.toUInt32.toInt32), ((((p1.toUInt32 >>> ((8 : Int32) &&& 31).toUInt32).toInt32) &&& (255 : Int32)).toUInt32.toUInt16.toUInt32.toInt32)] : List Int32) h366 P366.old E366 Ft366 Fu366 Ec368 Fc370 Fc371 Ac374 Ec369 Fc372 Fc373 Ac375 hl354 hl355 (Nat.le_of_ble_eq_true rfl) (Nat.le_of_ble_eq_true rfl)) (W := 0) (by decide) (by decide) (by decide) (by decide) all0 pd_18 (argsL := []) rfl rfl rfl (Nat.le_of_eq rfl) at_26 fun v367 T367 h367 P367 K367 Q367 => ?_
      obtain ⟨o367, rfl, g367, Ss367⟩ := Q367
      have ne_o269_o367 : o269 ≠ o367 := Nat.ne_of_lt (Nat.lt_of_lt_of_le Ec368.lt g367)
      have ne_o270_o367 : o270 ≠ o367 := Nat.ne_of_lt (Nat.lt_of_lt_of_le Ec369.lt g367)
      have ne_o356_o367 : o356 ≠ o367 := Nat.ne_of_lt (Nat.lt_of_lt_of_le E366.lt g367)
      have ne_tt354_o367 : tt354 ≠ o367 := Nat.ne_of_lt (Nat.lt_of_lt_of_le Ac374.lt g367)
      have ne_tt355_o367 : tt355 ≠ o367 := Nat.ne_of_lt (Nat.lt_of_lt_of_le Ac375.lt g367)
      have gz_o367 : Z.heap.size ≤ o367 := Nat.le_trans P366.old.1 g367
      have gw_o367 : h0.size ≤ o367 := Nat.le_trans P366.kept.1 g367
      have So376 : Str Z h367 o367 ([(47 : Int32), ((p1 &&& (255 : Int32)).toUInt32.toUInt16.toUInt32.toInt32), ((((p1.toUInt32 >>> ((8 : Int32) &&& 31).toUInt32).toInt32) &&& (255 : Int32)).toUInt32.toUInt16.toUInt32.toInt32)] : List Int32) := Ss367
      have hl376 : ∀ c ∈ ([(47 : Int32), ((p1 &&& (255 : Int32)).toUInt32.toUInt16.toUInt32.toInt32), ((((p1.toUInt32 >>> ((8 : Int32) &&& 31).toUInt32).toInt32) &&& (255 : Int32)).toUInt32.toUInt16.toUInt32.toInt32)] : List Int32), ¬ c < 0 ∧ ¬ (255 : Int32) < c := (latS (by decide) (latS (chr255 rfl).1 (latS (chr255 rfl).1 lat0)))
      obtain ⟨tt376, kt376, V376, C376, A376⟩ := strLat So376 hl376
      show Go p e below _ (T367.setTop (mkF m 29 #[.val (.int p0), .val (.int p1), .val (.ref o269), .val (.ref o270), .val (.ref o356), .unset, .unset, .unset] [(.ref o367)]))
      refine P367.xs (fun hA hx hy t k => XS.astore hA hx rfl (hb hy at_29) rfl rfl (l' := #[.val (.int p0), .val (.int p1), .val (.ref o269), .val (.ref o270), .val (.ref o356), .val (.ref o367), .unset, .unset]) rfl k) ?_
      show Go p e below _ (T367.setTop (mkF m 31 #[.val (.int p0), .val (.int p1), .val (.ref o269), .val (.ref o270), .val (.ref o356), .val (.ref o367), .unset, .unset] []))
      refine P367.xs (fun hA hx hy t k => XS.aloadN hA hx rfl (hb hy at_31) rfl rfl  k) ?_
      show Go p e below _ (T367.setTop (mkF m 32 #[.val (.int p0), .val (.int p1), .val (.ref o269), .val (.ref o270), .val (.ref o356), .val (.ref o367), .unset, .unset] [(.ref o269)]))
      have Ec378 : Exa Z h367 o269 "java/lang/String" := (Ec368.keep K367)
      have Ec379 : Exa Z h367 o270 "java/lang/String" := (Ec369.keep K367)
      have Ec380 : Exa Z h367 o356 "com/example/certain_answers/certainanswers/server/MediaType" := (E366.keep K367)
      have Ec381 : Exa Z h367 o367 "java/lang/String" := So376.1
      have Fc382 : Fld Z h367 o269 "java/lang/String" "value" "[B" (.ref tt354) := (Fc370.keep K367 nin0)
      have Fc383 : Fld Z h367 o269 "java/lang/String" "coder" "B" (.int (0 : Int32)) := (Fc371.keep K367 nin0)
      have Fc384 : Fld Z h367 o270 "java/lang/String" "value" "[B" (.ref tt355) := (Fc372.keep K367 nin0)
      have Fc385 : Fld Z h367 o270 "java/lang/String" "coder" "B" (.int (0 : Int32)) := (Fc373.keep K367 nin0)
      have Fc386 : Fld Z h367 o356 "com/example/certain_answers/certainanswers/server/MediaType" "type" "Ljava/lang/String;" (.ref o269) := (Ft366.keep K367 nin0)
      have Fc387 : Fld Z h367 o356 "com/example/certain_answers/certainanswers/server/MediaType" "subtype" "Ljava/lang/String;" (.ref o270) := (Fu366.keep K367 nin0)
      have Ac388 : Arv Z h367 tt354 kt354 .byte (Int32.ofNat ([] : List Int32).length) ((([] : List Int32).map StrChars.lo8).map Value.int) (.int 0) := (Ac374.keep K367 nin0)
      have Ac389 : Arv Z h367 tt355 kt355 .byte (Int32.ofNat ([((p1 &&& (255 : Int32)).toUInt32.toUInt16.toUInt32.toInt32), ((((p1.toUInt32 >>> ((8 : Int32) &&& 31).toUInt32).toInt32) &&& (255 : Int32)).toUInt32.toUInt16.toUInt32.toInt32)] : List Int32).length) ((([((p1 &&& (255 : Int32)).toUInt32.toUInt16.toUInt32.toInt32), ((((p1.toUInt32 >>> ((8 : Int32) &&& 31).toUInt32).toInt32) &&& (255 : Int32)).toUInt32.toUInt16.toUInt32.toInt32)] : List Int32).map StrChars.lo8).map Value.int) (.int 0) := (Ac375.keep K367 nin0)
      refine P367.callV (hw _ (List.mem_of_getElem? (i := 172) rfl)) (hw _ (List.mem_of_getElem? (i := 89) rfl)) (hw _ (List.mem_of_getElem? (i := 91) rfl)) (nfOf (hw _ (List.mem_of_getElem? (i := 91) rfl))) (hw _ (List.mem_of_getElem? (i := 90) rfl)) (hw _ (List.mem_of_getElem? (i := 6) rfl)) (hw _ (List.mem_of_getElem? (i := 92) rfl)) (by decide) Ec378 (mLen l Z a0 hw hEL zc S0 Pz w_M S_M E_M fm S_f rf o269 tt354 kt354 ([] : List Int32) h367 P367.old Ec378 Fc382 Fc383 Ac388) (W := 0) (by decide) (by decide) (by decide) (by decide) all0 pd_4 (argsL := []) rfl rfl rfl (Nat.le_of_eq rfl) at_32 fun v377 T377 h377 P377 K377 Q377 => ?_
      obtain ⟨hv377, hh377⟩ := Q377
      subst hv377
      rw [hh377] at P377
      show Go p e below _ (T377.setTop (mkF m 35 #[.val (.int p0), .val (.int p1), .val (.ref o269), .val (.ref o270), .val (.ref o356), .val (.ref o367), .unset, .unset] [(.int (0 : Int32))]))
      refine P377.xs (fun hA hx hy t k => XS.istore hA hx rfl (hb hy at_35) rfl (l' := #[.val (.int p0), .val (.int p1), .val (.ref o269), .val (.ref o270), .val (.ref o356), .val (.ref o367), .val (.int (0 : Int32)), .unset]) rfl k) ?_
      show Go p e below _ (T377.setTop (mkF m 37 #[.val (.int p0), .val (.int p1), .val (.ref o269), .val (.ref o270), .val (.ref o356), .val (.ref o367), .val (.int (0 : Int32)), .unset] []))
      refine P377.xs (fun hA hx hy t k => XS.aloadN hA hx rfl (hb hy at_37) rfl rfl  k) ?_
      show Go p e below _ (T377.setTop (mkF m 38 #[.val (.int p0), .val (.int p1), .val (.ref o269), .val (.ref o270), .val (.ref o356), .val (.ref o367), .val (.int (0 : Int32)), .unset] [(.ref o270)]))
      refine P377.callV (hw _ (List.mem_of_getElem? (i := 172) rfl)) (hw _ (List.mem_of_getElem? (i := 89) rfl)) (hw _ (List.mem_of_getElem? (i := 91) rfl)) (nfOf (hw _ (List.mem_of_getElem? (i := 91) rfl))) (hw _ (List.mem_of_getElem? (i := 90) rfl)) (hw _ (List.mem_of_getElem? (i := 6) rfl)) (hw _ (List.mem_of_getElem? (i := 92) rfl)) (by decide) Ec379 (mLen l Z a0 hw hEL zc S0 Pz w_M S_M E_M fm S_f rf o270 tt355 kt355 ([((p1 &&& (255 : Int32)).toUInt32.toUInt16.toUInt32.toInt32), ((((p1.toUInt32 >>> ((8 : Int32) &&& 31).toUInt32).toInt32) &&& (255 : Int32)).toUInt32.toUInt16.toUInt32.toInt32)] : List Int32) h367 P377.old Ec379 Fc384 Fc385 Ac389) (W := 0) (by decide) (by decide) (by decide) (by decide) all0 pd_4 (argsL := []) rfl rfl rfl (Nat.le_of_eq rfl) at_38 fun v390 T390 h390 P390 K390 Q390 => ?_
      obtain ⟨hv390, hh390⟩ := Q390
      subst hv390
      rw [hh390] at P390
      show Go p e below _ (T390.setTop (mkF m 41 #[.val (.int p0), .val (.int p1), .val (.ref o269), .val (.ref o270), .val (.ref o356), .val (.ref o367), .val (.int (0 : Int32)), .unset] [(.int (2 : Int32))]))
      refine P390.xs (fun hA hx hy t k => XS.istore hA hx rfl (hb hy at_41) rfl (l' := #[.val (.int p0), .val (.int p1), .val (.ref o269), .val (.ref o270), .val (.ref o356), .val (.ref o367), .val (.int (0 : Int32)), .val (.int (2 : Int32))]) rfl k) ?_
      show Go p e below _ (T390.setTop (mkF m 43 #[.val (.int p0), .val (.int p1), .val (.ref o269), .val (.ref o270), .val (.ref o356), .val (.ref o367), .val (.int (0 : Int32)), .val (.int (2 : Int32))] []))
      refine P390.xs (fun hA hx hy t k => XS.aload hA hx rfl (hb hy at_43) rfl rfl  k) ?_
      show Go p e below _ (T390.setTop (mkF m 45 #[.val (.int p0), .val (.int p1), .val (.ref o269), .val (.ref o270), .val (.ref o356), .val (.ref o367), .val (.int (0 : Int32)), .val (.int (2 : Int32))] [(.ref o367)]))
      refine P390.callV (hw _ (List.mem_of_getElem? (i := 172) rfl)) (hw _ (List.mem_of_getElem? (i := 89) rfl)) (hw _ (List.mem_of_getElem? (i := 91) rfl)) (nfOf (hw _ (List.mem_of_getElem? (i := 91) rfl))) (hw _ (List.mem_of_getElem? (i := 90) rfl)) (hw _ (List.mem_of_getElem? (i := 6) rfl)) (hw _ (List.mem_of_getElem? (i := 92) rfl)) (by decide) Ec381 (mLen l Z a0 hw hEL zc S0 Pz w_M S_M E_M fm S_f rf o367 tt376 kt376 ([(47 : Int32), ((p1 &&& (255 : Int32)).toUInt32.toUInt16.toUInt32.toInt32), ((((p1.toUInt32 >>> ((8 : Int32) &&& 31).toUInt32).toInt32) &&& (255 : Int32)).toUInt32.toUInt16.toUInt32.toInt32)] : List Int32) h367 P390.old Ec381 V376 C376 A376) (W := 0) (by decide) (by decide) (by decide) (by decide) all0 pd_4 (argsL := []) rfl rfl rfl (Nat.le_of_eq rfl) at_45 fun v391 T391 h391 P391 K391 Q391 => ?_
      obtain ⟨hv391, hh391⟩ := Q391
      subst hv391
      rw [hh391] at P391
      show Go p e below _ (T391.setTop (mkF m 48 #[.val (.int p0), .val (.int p1), .val (.ref o269), .val (.ref o270), .val (.ref o356), .val (.ref o367), .val (.int (0 : Int32)), .val (.int (2 : Int32))] [(.int (3 : Int32))]))
      refine P391.xs (fun hA hx hy t k => XS.iload hA hx rfl (hb hy at_48) rfl  k) ?_
      show Go p e below _ (T391.setTop (mkF m 50 #[.val (.int p0), .val (.int p1), .val (.ref o269), .val (.ref o270), .val (.ref o356), .val (.ref o367), .val (.int (0 : Int32)), .val (.int (2 : Int32))] [(.int (0 : Int32)), (.int (3 : Int32))]))
      refine P391.xs (fun hA hx hy t k => XS.iconst hA hx rfl (hb hy at_50) k) ?_
      show Go p e below _ (T391.setTop (mkF m 51 #[.val (.int p0), .val (.int p1), .val (.ref o269), .val (.ref o270), .val (.ref o356), .val (.ref o367), .val (.int (0 : Int32)), .val (.int (2 : Int32))] [(.int (1 : Int32)), (.int (0 : Int32)), (.int (3 : Int32))]))
      refine P391.xs (fun hA hx hy t k => XS.iadd hA hx rfl (hb hy at_51) rfl k) ?_
      show Go p e below _ (T391.setTop (mkF m 52 #[.val (.int p0), .val (.int p1), .val (.ref o269), .val (.ref o270), .val (.ref o356), .val (.ref o367), .val (.int (0 : Int32)), .val (.int (2 : Int32))] [(.int (1 : Int32)), (.int (3 : Int32))]))
      refine P391.xs (fun hA hx hy t k => XS.iload hA hx rfl (hb hy at_52) rfl  k) ?_
      show Go p e below _ (T391.setTop (mkF m 54 #[.val (.int p0), .val (.int p1), .val (.ref o269), .val (.ref o270), .val (.ref o356), .val (.ref o367), .val (.int (0 : Int32)), .val (.int (2 : Int32))] [(.int (2 : Int32)), (.int (1 : Int32)), (.int (3 : Int32))]))
      refine P391.xs (fun hA hx hy t k => XS.iadd hA hx rfl (hb hy at_54) rfl k) ?_
      show Go p e below _ (T391.setTop (mkF m 55 #[.val (.int p0), .val (.int p1), .val (.ref o269), .val (.ref o270), .val (.ref o356), .val (.ref o367), .val (.int (0 : Int32)), .val (.int (2 : Int32))] [(.int (3 : Int32)), (.int (3 : Int32))]))
      refine P391.xs (fun hA hx hy t k => XS.icmpYes hA hx rfl (pc0 := 55) (pc' := 60) rfl (hb hy at_55) rfl (teq rfl).1 (by decide) (by decide) k) ?_
      show Go p e below _ (T391.setTop (mkF m 60 #[.val (.int p0), .val (.int p1), .val (.ref o269), .val (.ref o270), .val (.ref o356), .val (.ref o367), .val (.int (0 : Int32)), .val (.int (2 : Int32))] []))
      refine P391.xs (fun hA hx hy t k => XS.iload hA hx rfl (hb hy at_60) rfl  k) ?_
      show Go p e below _ (T391.setTop (mkF m 62 #[.val (.int p0), .val (.int p1), .val (.ref o269), .val (.ref o270), .val (.ref o356), .val (.ref o367), .val (.int (0 : Int32)), .val (.int (2 : Int32))] [(.int (0 : Int32))]))
      refine P391.xs (fun hA hx hy t k => XS.ifYes hA hx rfl (pc0 := 62) (pc' := 82) rfl (hb hy at_62) rfl ((if0 _ _).trans (flt (by decide)).2.2.2) (by decide) (by decide) k) ?_
      show Go p e below _ (T391.setTop (mkF m 82 #[.val (.int p0), .val (.int p1), .val (.ref o269), .val (.ref o270), .val (.ref o356), .val (.ref o367), .val (.int (0 : Int32)), .val (.int (2 : Int32))] []))
      refine P391.xs (fun hA hx hy t k => XS.iload hA hx rfl (hb hy at_82) rfl  k) ?_
      show Go p e below _ (T391.setTop (mkF m 84 #[.val (.int p0), .val (.int p1), .val (.ref o269), .val (.ref o270), .val (.ref o356), .val (.ref o367), .val (.int (0 : Int32)), .val (.int (2 : Int32))] [(.int (0 : Int32))]))
      refine P391.xs (fun hA hx hy t k => XS.iconst hA hx rfl (hb hy at_84) k) ?_
      show Go p e below _ (T391.setTop (mkF m 85 #[.val (.int p0), .val (.int p1), .val (.ref o269), .val (.ref o270), .val (.ref o356), .val (.ref o367), .val (.int (0 : Int32)), .val (.int (2 : Int32))] [(.int (1 : Int32)), (.int (0 : Int32))]))
      refine P391.xs (fun hA hx hy t k => XS.icmpYes hA hx rfl (pc0 := 85) (pc' := 108) rfl (hb hy at_85) rfl (flt (by decide)).2.2.2 (by decide) (by decide) k) ?_
      show Go p e below _ (T391.setTop (mkF m 108 #[.val (.int p0), .val (.int p1), .val (.ref o269), .val (.ref o270), .val (.ref o356), .val (.ref o367), .val (.int (0 : Int32)), .val (.int (2 : Int32))] []))
      refine P391.xs (fun hA hx hy t k => XS.aload hA hx rfl (hb hy at_108) rfl rfl  k) ?_
      show Go p e below _ (T391.setTop (mkF m 110 #[.val (.int p0), .val (.int p1), .val (.ref o269), .val (.ref o270), .val (.ref o356), .val (.ref o367), .val (.int (0 : Int32)), .val (.int (2 : Int32))] [(.ref o367)]))
      refine P391.xs (fun hA hx hy t k => XS.iload hA hx rfl (hb hy at_110) rfl  k) ?_
      show Go p e below _ (T391.setTop (mkF m 112 #[.val (.int p0), .val (.int p1), .val (.ref o269), .val (.ref o270), .val (.ref o356), .val (.ref o367), .val (.int (0 : Int32)), .val (.int (2 : Int32))] [(.int (0 : Int32)), (.ref o367)]))
      refine P391.strCh (W := 0) (hw _ (List.mem_of_getElem? (i := 173) rfl)) (hw _ (List.mem_of_getElem? (i := 174) rfl)) (hw _ (List.mem_of_getElem? (i := 176) rfl)) (hw _ (List.mem_of_getElem? (i := 175) rfl)) (wChN hw) (hw _ (List.mem_of_getElem? (i := 5) rfl)) S0 Pz S_f rf Ec381 V376 C376 A376 hl376 (Nat.le_of_ble_eq_true rfl) (i := 0) (Nat.le_of_ble_eq_true rfl) rfl (ch := (47 : Int32)) rfl (by decide) (by decide) (by decide) (by decide) pd_23 rfl rfl (Nat.le_of_eq rfl) at_112 fun T392 P392 => ?_
      show Go p e below _ (T392.setTop (mkF m 115 #[.val (.int p0), .val (.int p1), .val (.ref o269), .val (.ref o270), .val (.ref o356), .val (.ref o367), .val (.int (0 : Int32)), .val (.int (2 : Int32))] [(.int (47 : Int32))]))
      refine P392.xs (fun hA hx hy t k => XS.bipush hA hx rfl (hb hy at_115) k) ?_
      show Go p e below _ (T392.setTop (mkF m 117 #[.val (.int p0), .val (.int p1), .val (.ref o269), .val (.ref o270), .val (.ref o356), .val (.ref o367), .val (.int (0 : Int32)), .val (.int (2 : Int32))] [(.int (47 : Int32)), (.int (47 : Int32))]))
      refine P392.xs (fun hA hx hy t k => XS.icmpYes hA hx rfl (pc0 := 117) (pc' := 122) rfl (hb hy at_117) rfl (teq rfl).1 (by decide) (by decide) k) ?_
      show Go p e below _ (T392.setTop (mkF m 122 #[.val (.int p0), .val (.int p1), .val (.ref o269), .val (.ref o270), .val (.ref o356), .val (.ref o367), .val (.int (0 : Int32)), .val (.int (2 : Int32))] []))
      refine P392.xs (fun hA hx hy t k => XS.iload hA hx rfl (hb hy at_122) rfl  k) ?_
      show Go p e below _ (T392.setTop (mkF m 124 #[.val (.int p0), .val (.int p1), .val (.ref o269), .val (.ref o270), .val (.ref o356), .val (.ref o367), .val (.int (0 : Int32)), .val (.int (2 : Int32))] [(.int (2 : Int32))]))
      refine P392.xs (fun hA hx hy t k => XS.ifNo hA hx rfl (hb hy at_124) rfl ((if0 _ _).trans (tlt (by decide)).2.2.2) k) ?_
      show Go p e below _ (T392.setTop (mkF m 127 #[.val (.int p0), .val (.int p1), .val (.ref o269), .val (.ref o270), .val (.ref o356), .val (.ref o367), .val (.int (0 : Int32)), .val (.int (2 : Int32))] []))
      refine P392.xs (fun hA hx hy t k => XS.aload hA hx rfl (hb hy at_127) rfl rfl  k) ?_
      show Go p e below _ (T392.setTop (mkF m 129 #[.val (.int p0), .val (.int p1), .val (.ref o269), .val (.ref o270), .val (.ref o356), .val (.ref o367), .val (.int (0 : Int32)), .val (.int (2 : Int32))] [(.ref o367)]))
      refine P392.xs (fun hA hx hy t k => XS.iload hA hx rfl (hb hy at_129) rfl  k) ?_
      show Go p e below _ (T392.setTop (mkF m 131 #[.val (.int p0), .val (.int p1), .val (.ref o269), .val (.ref o270), .val (.ref o356), .val (.ref o367), .val (.int (0 : Int32)), .val (.int (2 : Int32))] [(.int (0 : Int32)), (.ref o367)]))
      refine P392.xs (fun hA hx hy t k => XS.iconst hA hx rfl (hb hy at_131) k) ?_
      show Go p e below _ (T392.setTop (mkF m 132 #[.val (.int p0), .val (.int p1), .val (.ref o269), .val (.ref o270), .val (.ref o356), .val (.ref o367), .val (.int (0 : Int32)), .val (.int (2 : Int32))] [(.int (1 : Int32)), (.int (0 : Int32)), (.ref o367)]))
      refine P392.xs (fun hA hx hy t k => XS.iadd hA hx rfl (hb hy at_132) rfl k) ?_
      show Go p e below _ (T392.setTop (mkF m 133 #[.val (.int p0), .val (.int p1), .val (.ref o269), .val (.ref o270), .val (.ref o356), .val (.ref o367), .val (.int (0 : Int32)), .val (.int (2 : Int32))] [(.int (1 : Int32)), (.ref o367)]))
      refine P392.strCh (W := 0) (hw _ (List.mem_of_getElem? (i := 173) rfl)) (hw _ (List.mem_of_getElem? (i := 174) rfl)) (hw _ (List.mem_of_getElem? (i := 176) rfl)) (hw _ (List.mem_of_getElem? (i := 175) rfl)) (wChN hw) (hw _ (List.mem_of_getElem? (i := 5) rfl)) S0 Pz S_f rf Ec381 V376 C376 A376 hl376 (Nat.le_of_ble_eq_true rfl) (i := 1) (Nat.le_of_ble_eq_true rfl) rfl (ch := ((p1 &&& (255 : Int32)).toUInt32.toUInt16.toUInt32.toInt32)) rfl (by decide) (by decide) (by decide) (by decide) pd_23 rfl rfl (Nat.le_of_eq rfl) at_133 fun T393 P393 => ?_
      show Go p e below _ (T393.setTop (mkF m 136 #[.val (.int p0), .val (.int p1), .val (.ref o269), .val (.ref o270), .val (.ref o356), .val (.ref o367), .val (.int (0 : Int32)), .val (.int (2 : Int32))] [(.int ((p1 &&& (255 : Int32)).toUInt32.toUInt16.toUInt32.toInt32))]))
      refine P393.xs (fun hA hx hy t k => XS.iloadN hA hx rfl (hb hy at_136) rfl  k) ?_
      show Go p e below _ (T393.setTop (mkF m 137 #[.val (.int p0), .val (.int p1), .val (.ref o269), .val (.ref o270), .val (.ref o356), .val (.ref o367), .val (.int (0 : Int32)), .val (.int (2 : Int32))] [(.int p1), (.int ((p1 &&& (255 : Int32)).toUInt32.toUInt16.toUInt32.toInt32))]))
      refine P393.xs (fun hA hx hy t k => XS.sipush hA hx rfl (hb hy at_137) k) ?_
      show Go p e below _ (T393.setTop (mkF m 140 #[.val (.int p0), .val (.int p1), .val (.ref o269), .val (.ref o270), .val (.ref o356), .val (.ref o367), .val (.int (0 : Int32)), .val (.int (2 : Int32))] [(.int (255 : Int32)), (.int p1), (.int ((p1 &&& (255 : Int32)).toUInt32.toUInt16.toUInt32.toInt32))]))
      refine P393.xs (fun hA hx hy t k => XS.iand hA hx rfl (hb hy at_140) rfl k) ?_
      show Go p e below _ (T393.setTop (mkF m 141 #[.val (.int p0), .val (.int p1), .val (.ref o269), .val (.ref o270), .val (.ref o356), .val (.ref o367), .val (.int (0 : Int32)), .val (.int (2 : Int32))] [(.int (p1 &&& (255 : Int32))), (.int ((p1 &&& (255 : Int32)).toUInt32.toUInt16.toUInt32.toInt32))]))
      refine P393.xs (fun hA hx hy t k => XS.i2c hA hx rfl (hb hy at_141) rfl k) ?_
      show Go p e below _ (T393.setTop (mkF m 142 #[.val (.int p0), .val (.int p1), .val (.ref o269), .val (.ref o270), .val (.ref o356), .val (.ref o367), .val (.int (0 : Int32)), .val (.int (2 : Int32))] [(.int ((p1 &&& (255 : Int32)).toUInt32.toUInt16.toUInt32.toInt32)), (.int ((p1 &&& (255 : Int32)).toUInt32.toUInt16.toUInt32.toInt32))]))
      refine P393.xs (fun hA hx hy t k => XS.icmpYes hA hx rfl (pc0 := 142) (pc' := 147) rfl (hb hy at_142) rfl (teq rfl).1 (by decide) (by decide) k) ?_
      show Go p e below _ (T393.setTop (mkF m 147 #[.val (.int p0), .val (.int p1), .val (.ref o269), .val (.ref o270), .val (.ref o356), .val (.ref o367), .val (.int (0 : Int32)), .val (.int (2 : Int32))] []))
      refine P393.xs (fun hA hx hy t k => XS.iload hA hx rfl (hb hy at_147) rfl  k) ?_
      show Go p e below _ (T393.setTop (mkF m 149 #[.val (.int p0), .val (.int p1), .val (.ref o269), .val (.ref o270), .val (.ref o356), .val (.ref o367), .val (.int (0 : Int32)), .val (.int (2 : Int32))] [(.int (2 : Int32))]))
      refine P393.xs (fun hA hx hy t k => XS.iconst hA hx rfl (hb hy at_149) k) ?_
      show Go p e below _ (T393.setTop (mkF m 150 #[.val (.int p0), .val (.int p1), .val (.ref o269), .val (.ref o270), .val (.ref o356), .val (.ref o367), .val (.int (0 : Int32)), .val (.int (2 : Int32))] [(.int (1 : Int32)), (.int (2 : Int32))]))
      refine P393.xs (fun hA hx hy t k => XS.icmpNo hA hx rfl (hb hy at_150) rfl (tlt (by decide)).2.2.2 k) ?_
      show Go p e below _ (T393.setTop (mkF m 153 #[.val (.int p0), .val (.int p1), .val (.ref o269), .val (.ref o270), .val (.ref o356), .val (.ref o367), .val (.int (0 : Int32)), .val (.int (2 : Int32))] []))
      refine P393.xs (fun hA hx hy t k => XS.aload hA hx rfl (hb hy at_153) rfl rfl  k) ?_
      show Go p e below _ (T393.setTop (mkF m 155 #[.val (.int p0), .val (.int p1), .val (.ref o269), .val (.ref o270), .val (.ref o356), .val (.ref o367), .val (.int (0 : Int32)), .val (.int (2 : Int32))] [(.ref o367)]))
      refine P393.xs (fun hA hx hy t k => XS.iload hA hx rfl (hb hy at_155) rfl  k) ?_
      show Go p e below _ (T393.setTop (mkF m 157 #[.val (.int p0), .val (.int p1), .val (.ref o269), .val (.ref o270), .val (.ref o356), .val (.ref o367), .val (.int (0 : Int32)), .val (.int (2 : Int32))] [(.int (0 : Int32)), (.ref o367)]))
      refine P393.xs (fun hA hx hy t k => XS.iconst hA hx rfl (hb hy at_157) k) ?_
      show Go p e below _ (T393.setTop (mkF m 158 #[.val (.int p0), .val (.int p1), .val (.ref o269), .val (.ref o270), .val (.ref o356), .val (.ref o367), .val (.int (0 : Int32)), .val (.int (2 : Int32))] [(.int (2 : Int32)), (.int (0 : Int32)), (.ref o367)]))
      refine P393.xs (fun hA hx hy t k => XS.iadd hA hx rfl (hb hy at_158) rfl k) ?_
      show Go p e below _ (T393.setTop (mkF m 159 #[.val (.int p0), .val (.int p1), .val (.ref o269), .val (.ref o270), .val (.ref o356), .val (.ref o367), .val (.int (0 : Int32)), .val (.int (2 : Int32))] [(.int (2 : Int32)), (.ref o367)]))
      refine P393.strCh (W := 0) (hw _ (List.mem_of_getElem? (i := 173) rfl)) (hw _ (List.mem_of_getElem? (i := 174) rfl)) (hw _ (List.mem_of_getElem? (i := 176) rfl)) (hw _ (List.mem_of_getElem? (i := 175) rfl)) (wChN hw) (hw _ (List.mem_of_getElem? (i := 5) rfl)) S0 Pz S_f rf Ec381 V376 C376 A376 hl376 (Nat.le_of_ble_eq_true rfl) (i := 2) (Nat.le_of_ble_eq_true rfl) rfl (ch := ((((p1.toUInt32 >>> ((8 : Int32) &&& 31).toUInt32).toInt32) &&& (255 : Int32)).toUInt32.toUInt16.toUInt32.toInt32)) rfl (by decide) (by decide) (by decide) (by decide) pd_23 rfl rfl (Nat.le_of_eq rfl) at_159 fun T394 P394 => ?_
      show Go p e below _ (T394.setTop (mkF m 162 #[.val (.int p0), .val (.int p1), .val (.ref o269), .val (.ref o270), .val (.ref o356), .val (.ref o367), .val (.int (0 : Int32)), .val (.int (2 : Int32))] [(.int ((((p1.toUInt32 >>> ((8 : Int32) &&& 31).toUInt32).toInt32) &&& (255 : Int32)).toUInt32.toUInt16.toUInt32.toInt32))]))
      refine P394.xs (fun hA hx hy t k => XS.iloadN hA hx rfl (hb hy at_162) rfl  k) ?_
      show Go p e below _ (T394.setTop (mkF m 163 #[.val (.int p0), .val (.int p1), .val (.ref o269), .val (.ref o270), .val (.ref o356), .val (.ref o367), .val (.int (0 : Int32)), .val (.int (2 : Int32))] [(.int p1), (.int ((((p1.toUInt32 >>> ((8 : Int32) &&& 31).toUInt32).toInt32) &&& (255 : Int32)).toUInt32.toUInt16.toUInt32.toInt32))]))
      refine P394.xs (fun hA hx hy t k => XS.bipush hA hx rfl (hb hy at_163) k) ?_
      show Go p e below _ (T394.setTop (mkF m 165 #[.val (.int p0), .val (.int p1), .val (.ref o269), .val (.ref o270), .val (.ref o356), .val (.ref o367), .val (.int (0 : Int32)), .val (.int (2 : Int32))] [(.int (8 : Int32)), (.int p1), (.int ((((p1.toUInt32 >>> ((8 : Int32) &&& 31).toUInt32).toInt32) &&& (255 : Int32)).toUInt32.toUInt16.toUInt32.toInt32))]))
      refine P394.xs (fun hA hx hy t k => XS.iushr hA hx rfl (hb hy at_165) rfl k) ?_
      show Go p e below _ (T394.setTop (mkF m 166 #[.val (.int p0), .val (.int p1), .val (.ref o269), .val (.ref o270), .val (.ref o356), .val (.ref o367), .val (.int (0 : Int32)), .val (.int (2 : Int32))] [(.int ((p1.toUInt32 >>> ((8 : Int32) &&& 31).toUInt32).toInt32)), (.int ((((p1.toUInt32 >>> ((8 : Int32) &&& 31).toUInt32).toInt32) &&& (255 : Int32)).toUInt32.toUInt16.toUInt32.toInt32))]))
      refine P394.xs (fun hA hx hy t k => XS.sipush hA hx rfl (hb hy at_166) k) ?_
      show Go p e below _ (T394.setTop (mkF m 169 #[.val (.int p0), .val (.int p1), .val (.ref o269), .val (.ref o270), .val (.ref o356), .val (.ref o367), .val (.int (0 : Int32)), .val (.int (2 : Int32))] [(.int (255 : Int32)), (.int ((p1.toUInt32 >>> ((8 : Int32) &&& 31).toUInt32).toInt32)), (.int ((((p1.toUInt32 >>> ((8 : Int32) &&& 31).toUInt32).toInt32) &&& (255 : Int32)).toUInt32.toUInt16.toUInt32.toInt32))]))
      refine P394.xs (fun hA hx hy t k => XS.iand hA hx rfl (hb hy at_169) rfl k) ?_
      show Go p e below _ (T394.setTop (mkF m 170 #[.val (.int p0), .val (.int p1), .val (.ref o269), .val (.ref o270), .val (.ref o356), .val (.ref o367), .val (.int (0 : Int32)), .val (.int (2 : Int32))] [(.int (((p1.toUInt32 >>> ((8 : Int32) &&& 31).toUInt32).toInt32) &&& (255 : Int32))), (.int ((((p1.toUInt32 >>> ((8 : Int32) &&& 31).toUInt32).toInt32) &&& (255 : Int32)).toUInt32.toUInt16.toUInt32.toInt32))]))
      refine P394.xs (fun hA hx hy t k => XS.i2c hA hx rfl (hb hy at_170) rfl k) ?_
      show Go p e below _ (T394.setTop (mkF m 171 #[.val (.int p0), .val (.int p1), .val (.ref o269), .val (.ref o270), .val (.ref o356), .val (.ref o367), .val (.int (0 : Int32)), .val (.int (2 : Int32))] [(.int ((((p1.toUInt32 >>> ((8 : Int32) &&& 31).toUInt32).toInt32) &&& (255 : Int32)).toUInt32.toUInt16.toUInt32.toInt32)), (.int ((((p1.toUInt32 >>> ((8 : Int32) &&& 31).toUInt32).toInt32) &&& (255 : Int32)).toUInt32.toUInt16.toUInt32.toInt32))]))
      refine P394.xs (fun hA hx hy t k => XS.icmpYes hA hx rfl (pc0 := 171) (pc' := 176) rfl (hb hy at_171) rfl (teq rfl).1 (by decide) (by decide) k) ?_
      show Go p e below _ (T394.setTop (mkF m 176 #[.val (.int p0), .val (.int p1), .val (.ref o269), .val (.ref o270), .val (.ref o356), .val (.ref o367), .val (.int (0 : Int32)), .val (.int (2 : Int32))] []))
      refine P394.xs (fun hA hx hy t k => XS.iconst hA hx rfl (hb hy at_176) k) ?_
      show Go p e below _ (T394.setTop (mkF m 177 #[.val (.int p0), .val (.int p1), .val (.ref o269), .val (.ref o270), .val (.ref o356), .val (.ref o367), .val (.int (0 : Int32)), .val (.int (2 : Int32))] [(.int (1 : Int32))]))
      exact P394.retN (t := .boolean) rfl (by simp) at_177 (by decide) (by decide) rfl
  · rcases hn270 with rfl | rfl | rfl
    · have So395 : Str Z h270 o269 ([((p0 &&& (255 : Int32)).toUInt32.toUInt16.toUInt32.toInt32)] : List Int32) := by have q := Sc274; rw [cs3_1 (n := 1) (by decide) rfl] at q; exact q
      have hl395 : ∀ c ∈ ([((p0 &&& (255 : Int32)).toUInt32.toUInt16.toUInt32.toInt32)] : List Int32), ¬ c < 0 ∧ ¬ (255 : Int32) < c := (latS (chr255 rfl).1 lat0)
      obtain ⟨tt395, kt395, V395, C395, A395⟩ := strLat So395 hl395
      have So396 : Str Z h270 o270 ([] : List Int32) := by have q := Ss270; rw [cs3_0 (n := 0) rfl] at q; exact q
      have hl396 : ∀ c ∈ ([] : List Int32), ¬ c < 0 ∧ ¬ (255 : Int32) < c := lat0
      obtain ⟨tt396, kt396, V396, C396, A396⟩ := strLat So396 hl396
      show Go p e below _ (T270.setTop (mkF m 10 #[.val (.int p0), .val (.int p1), .val (.ref o269), .val (.ref o270), .unset, .unset, .unset, .unset] []))
      refine P270.newO (hw _ (List.mem_of_getElem? (i := 26) rfl)) (hw _ (List.mem_of_getElem? (i := 27) rfl)) (hw _ (List.mem_of_getElem? (i := 28) rfl)) at_10 (by decide) (by decide) fun T397 h397 o397 g397 P397 E397 A397 D397 => ?_
      have ne_o269_o397 : o269 ≠ o397 := Nat.ne_of_lt (Nat.lt_of_lt_of_le So395.1.lt (Nat.le_of_eq g397.symm))
      have ne_o270_o397 : o270 ≠ o397 := Nat.ne_of_lt (Nat.lt_of_lt_of_le So396.1.lt (Nat.le_of_eq g397.symm))
      have ne_tt395_o397 : tt395 ≠ o397 := Nat.ne_of_lt (Nat.lt_of_lt_of_le A395.lt (Nat.le_of_eq g397.symm))
      have ne_tt396_o397 : tt396 ≠ o397 := Nat.ne_of_lt (Nat.lt_of_lt_of_le A396.lt (Nat.le_of_eq g397.symm))
      have gz_o397 : Z.heap.size ≤ o397 := Nat.le_trans P270.old.1 (Nat.le_of_eq g397.symm)
      have gw_o397 : h0.size ≤ o397 := Nat.le_trans P270.kept.1 (Nat.le_of_eq g397.symm)
      have F397_type : Fld Z h397 o397 "com/example/certain_answers/certainanswers/server/MediaType" "type" "Ljava/lang/String;" .null := D397 (Or.inr (hw _ (List.mem_of_getElem? (i := 50) rfl))) (ty := (.object "java/lang/String")) (by decide)
      have F397_subtype : Fld Z h397 o397 "com/example/certain_answers/certainanswers/server/MediaType" "subtype" "Ljava/lang/String;" .null := D397 (Or.inr (hw _ (List.mem_of_getElem? (i := 52) rfl))) (ty := (.object "java/lang/String")) (by decide)
      have F397_parameters : Fld Z h397 o397 "com/example/certain_answers/certainanswers/server/MediaType" "parameters" "Ljava/util/Map;" .null := D397 (Or.inr (hw _ (List.mem_of_getElem? (i := 54) rfl))) (ty := (.object "java/util/Map")) (by decide)
      show Go p e below _ (T397.setTop (mkF m 13 #[.val (.int p0), .val (.int p1), .val (.ref o269), .val (.ref o270), .unset, .unset, .unset, .unset] [(.ref o397)]))
      refine P397.xs (fun hA hx hy t k => XS.dup hA hx rfl (hb hy at_13) rfl rfl k) ?_
      show Go p e below _ (T397.setTop (mkF m 14 #[.val (.int p0), .val (.int p1), .val (.ref o269), .val (.ref o270), .unset, .unset, .unset, .unset] [(.ref o397), (.ref o397)]))
      refine P397.xs (fun hA hx hy t k => XS.aloadN hA hx rfl (hb hy at_14) rfl rfl  k) ?_
      show Go p e below _ (T397.setTop (mkF m 15 #[.val (.int p0), .val (.int p1), .val (.ref o269), .val (.ref o270), .unset, .unset, .unset, .unset] [(.ref o269), (.ref o397), (.ref o397)]))
      refine P397.xs (fun hA hx hy t k => XS.aloadN hA hx rfl (hb hy at_15) rfl rfl  k) ?_
      show Go p e below _ (T397.setTop (mkF m 16 #[.val (.int p0), .val (.int p1), .val (.ref o269), .val (.ref o270), .unset, .unset, .unset, .unset] [(.ref o270), (.ref o269), (.ref o397), (.ref o397)]))
      have Ec399 : Exa Z h397 o269 "java/lang/String" := (So395.1.ext E397)
      have Ec400 : Exa Z h397 o270 "java/lang/String" := (So396.1.ext E397)
      have Fc401 : Fld Z h397 o269 "java/lang/String" "value" "[B" (.ref tt395) := (V395.ext E397)
      have Fc402 : Fld Z h397 o269 "java/lang/String" "coder" "B" (.int (0 : Int32)) := (C395.ext E397)
      have Fc403 : Fld Z h397 o270 "java/lang/String" "value" "[B" (.ref tt396) := (V396.ext E397)
      have Fc404 : Fld Z h397 o270 "java/lang/String" "coder" "B" (.int (0 : Int32)) := (C396.ext E397)
      have Ac405 : Arv Z h397 tt395 kt395 .byte (Int32.ofNat ([((p0 &&& (255 : Int32)).toUInt32.toUInt16.toUInt32.toInt32)] : List Int32).length) ((([((p0 &&& (255 : Int32)).toUInt32.toUInt16.toUInt32.toInt32)] : List Int32).map StrChars.lo8).map Value.int) (.int 0) := (A395.ext E397)
      have Ac406 : Arv Z h397 tt396 kt396 .byte (Int32.ofNat ([] : List Int32).length) ((([] : List Int32).map StrChars.lo8).map Value.int) (.int 0) := (A396.ext E397)
      refine P397.callS (hw _ (List.mem_of_getElem? (i := 29) rfl)) (hw _ (List.mem_of_getElem? (i := 30) rfl)) (hw _ (List.mem_of_getElem? (i := 31) rfl)) (hw _ (List.mem_of_getElem? (i := 32) rfl)) (by decide) (mMof l Z a0 hw hEL zc S0 Pz w_M S_M E_M fm S_f rf  h397 P397.old) (W := 4) (by decide) (by decide) (by decide) (by decide) all0 pd_21 (argsL := []) rfl rfl rfl (Nat.le_of_eq rfl) at_16 fun v398 T398 h398 P398 K398 Q398 => ?_
      obtain ⟨hv398, hh398⟩ := Q398
      subst hv398
      rw [hh398] at P398
      show Go p e below _ (T398.setTop (mkF m 19 #[.val (.int p0), .val (.int p1), .val (.ref o269), .val (.ref o270), .unset, .unset, .unset, .unset] [(.ref w_M), (.ref o270), (.ref o269), (.ref o397), (.ref o397)]))
      refine P398.callI rfl (hw _ (List.mem_of_getElem? (i := 35) rfl)) (hw _ (List.mem_of_getElem? (i := 36) rfl)) (hw _ (List.mem_of_getElem? (i := 28) rfl)) (hw _ (List.mem_of_getElem? (i := 37) rfl)) (by decide) (mMT l Z a0 hw hEL zc S0 Pz w_M S_M E_M fm S_f rf o397 o269 o270 h397 P398.old A397 F397_type F397_subtype F397_parameters gz_o397) (W := 1) (by decide) (by decide) (by decide) (by decide) (allS (Or.inr gw_o397) all0) pd_22 (argsL := [(.ref o269), (.ref o270), (.ref w_M)]) rfl rfl rfl (Nat.le_of_eq rfl) at_19 fun v407 T407 h407 P407 K407 Q407 => ?_
      obtain ⟨rfl, E407, Ft407, Fu407⟩ := Q407
      show Go p e below _ (T407.setTop (mkF m 22 #[.val (.int p0), .val (.int p1), .val (.ref o269), .val (.ref o270), .unset, .unset, .unset, .unset] [(.ref o397)]))
      refine P407.xs (fun hA hx hy t k => XS.astore hA hx rfl (hb hy at_22) rfl rfl (l' := #[.val (.int p0), .val (.int p1), .val (.ref o269), .val (.ref o270), .val (.ref o397), .unset, .unset, .unset]) rfl k) ?_
      show Go p e below _ (T407.setTop (mkF m 24 #[.val (.int p0), .val (.int p1), .val (.ref o269), .val (.ref o270), .val (.ref o397), .unset, .unset, .unset] []))
      refine P407.xs (fun hA hx hy t k => XS.aload hA hx rfl (hb hy at_24) rfl rfl  k) ?_
      show Go p e below _ (T407.setTop (mkF m 26 #[.val (.int p0), .val (.int p1), .val (.ref o269), .val (.ref o270), .val (.ref o397), .unset, .unset, .unset] [(.ref o397)]))
      have Ec409 : Exa Z h407 o269 "java/lang/String" := (Ec399.keep K407)
      have Ec410 : Exa Z h407 o270 "java/lang/String" := (Ec400.keep K407)
      have Fc411 : Fld Z h407 o269 "java/lang/String" "value" "[B" (.ref tt395) := (Fc401.keep K407 (ninS ne_o269_o397 nin0))
      have Fc412 : Fld Z h407 o269 "java/lang/String" "coder" "B" (.int (0 : Int32)) := (Fc402.keep K407 (ninS ne_o269_o397 nin0))
      have Fc413 : Fld Z h407 o270 "java/lang/String" "value" "[B" (.ref tt396) := (Fc403.keep K407 (ninS ne_o270_o397 nin0))
      have Fc414 : Fld Z h407 o270 "java/lang/String" "coder" "B" (.int (0 : Int32)) := (Fc404.keep K407 (ninS ne_o270_o397 nin0))
      have Ac415 : Arv Z h407 tt395 kt395 .byte (Int32.ofNat ([((p0 &&& (255 : Int32)).toUInt32.toUInt16.toUInt32.toInt32)] : List Int32).length) ((([((p0 &&& (255 : Int32)).toUInt32.toUInt16.toUInt32.toInt32)] : List Int32).map StrChars.lo8).map Value.int) (.int 0) := (Ac405.keep K407 (ninS ne_tt395_o397 nin0))
      have Ac416 : Arv Z h407 tt396 kt396 .byte (Int32.ofNat ([] : List Int32).length) ((([] : List Int32).map StrChars.lo8).map Value.int) (.int 0) := (Ac406.keep K407 (ninS ne_tt396_o397 nin0))
      refine P407.callV (hw _ (List.mem_of_getElem? (i := 55) rfl)) (hw _ (List.mem_of_getElem? (i := 56) rfl)) (hw _ (List.mem_of_getElem? (i := 58) rfl)) (nfOf (hw _ (List.mem_of_getElem? (i := 58) rfl))) (hw _ (List.mem_of_getElem? (i := 57) rfl)) (hw _ (List.mem_of_getElem? (i := 28) rfl)) (hw _ (List.mem_of_getElem? (i := 59) rfl)) (by decide) E407 (mEss l Z a0 hw hEL zc S0 Pz w_M S_M E_M fm S_f rf o397 o269 tt395 o270 tt396 kt395 kt396 ([((p0 &&& (255 : Int32)).toUInt32.toUInt16.toUInt32.toInt32)] : List Int32) ([] : List Int32) h407 P407.old E407 Ft407 Fu407 Ec409 Fc411 Fc412 Ac415 Ec410 Fc413 Fc414 Ac416 hl395 hl396 (Nat.le_of_ble_eq_true rfl) (Nat.le_of_ble_eq_true rfl)) (W := 0) (by decide) (by decide) (by decide) (by decide) all0 pd_18 (argsL := []) rfl rfl rfl (Nat.le_of_eq rfl) at_26 fun v408 T408 h408 P408 K408 Q408 => ?_
      obtain ⟨o408, rfl, g408, Ss408⟩ := Q408
      have ne_o269_o408 : o269 ≠ o408 := Nat.ne_of_lt (Nat.lt_of_lt_of_le Ec409.lt g408)
      have ne_o270_o408 : o270 ≠ o408 := Nat.ne_of_lt (Nat.lt_of_lt_of_le Ec410.lt g408)
      have ne_o397_o408 : o397 ≠ o408 := Nat.ne_of_lt (Nat.lt_of_lt_of_le E407.lt g408)
      have ne_tt395_o408 : tt395 ≠ o408 := Nat.ne_of_lt (Nat.lt_of_lt_of_le Ac415.lt g408)
      have ne_tt396_o408 : tt396 ≠ o408 := Nat.ne_of_lt (Nat.lt_of_lt_of_le Ac416.lt g408)
      have gz_o408 : Z.heap.size ≤ o408 := Nat.le_trans P407.old.1 g408
      have gw_o408 : h0.size ≤ o408 := Nat.le_trans P407.kept.1 g408
      have So417 : Str Z h408 o408 ([((p0 &&& (255 : Int32)).toUInt32.toUInt16.toUInt32.toInt32), (47 : Int32)] : List Int32) := Ss408
      have hl417 : ∀ c ∈ ([((p0 &&& (255 : Int32)).toUInt32.toUInt16.toUInt32.toInt32), (47 : Int32)] : List Int32), ¬ c < 0 ∧ ¬ (255 : Int32) < c := (latS (chr255 rfl).1 (latS (by decide) lat0))
      obtain ⟨tt417, kt417, V417, C417, A417⟩ := strLat So417 hl417
      show Go p e below _ (T408.setTop (mkF m 29 #[.val (.int p0), .val (.int p1), .val (.ref o269), .val (.ref o270), .val (.ref o397), .unset, .unset, .unset] [(.ref o408)]))
      refine P408.xs (fun hA hx hy t k => XS.astore hA hx rfl (hb hy at_29) rfl rfl (l' := #[.val (.int p0), .val (.int p1), .val (.ref o269), .val (.ref o270), .val (.ref o397), .val (.ref o408), .unset, .unset]) rfl k) ?_
      show Go p e below _ (T408.setTop (mkF m 31 #[.val (.int p0), .val (.int p1), .val (.ref o269), .val (.ref o270), .val (.ref o397), .val (.ref o408), .unset, .unset] []))
      refine P408.xs (fun hA hx hy t k => XS.aloadN hA hx rfl (hb hy at_31) rfl rfl  k) ?_
      show Go p e below _ (T408.setTop (mkF m 32 #[.val (.int p0), .val (.int p1), .val (.ref o269), .val (.ref o270), .val (.ref o397), .val (.ref o408), .unset, .unset] [(.ref o269)]))
      have Ec419 : Exa Z h408 o269 "java/lang/String" := (Ec409.keep K408)
      have Ec420 : Exa Z h408 o270 "java/lang/String" := (Ec410.keep K408)
      have Ec421 : Exa Z h408 o397 "com/example/certain_answers/certainanswers/server/MediaType" := (E407.keep K408)
      have Ec422 : Exa Z h408 o408 "java/lang/String" := So417.1
      have Fc423 : Fld Z h408 o269 "java/lang/String" "value" "[B" (.ref tt395) := (Fc411.keep K408 nin0)
      have Fc424 : Fld Z h408 o269 "java/lang/String" "coder" "B" (.int (0 : Int32)) := (Fc412.keep K408 nin0)
      have Fc425 : Fld Z h408 o270 "java/lang/String" "value" "[B" (.ref tt396) := (Fc413.keep K408 nin0)
      have Fc426 : Fld Z h408 o270 "java/lang/String" "coder" "B" (.int (0 : Int32)) := (Fc414.keep K408 nin0)
      have Fc427 : Fld Z h408 o397 "com/example/certain_answers/certainanswers/server/MediaType" "type" "Ljava/lang/String;" (.ref o269) := (Ft407.keep K408 nin0)
      have Fc428 : Fld Z h408 o397 "com/example/certain_answers/certainanswers/server/MediaType" "subtype" "Ljava/lang/String;" (.ref o270) := (Fu407.keep K408 nin0)
      have Ac429 : Arv Z h408 tt395 kt395 .byte (Int32.ofNat ([((p0 &&& (255 : Int32)).toUInt32.toUInt16.toUInt32.toInt32)] : List Int32).length) ((([((p0 &&& (255 : Int32)).toUInt32.toUInt16.toUInt32.toInt32)] : List Int32).map StrChars.lo8).map Value.int) (.int 0) := (Ac415.keep K408 nin0)
      have Ac430 : Arv Z h408 tt396 kt396 .byte (Int32.ofNat ([] : List Int32).length) ((([] : List Int32).map StrChars.lo8).map Value.int) (.int 0) := (Ac416.keep K408 nin0)
      refine P408.callV (hw _ (List.mem_of_getElem? (i := 172) rfl)) (hw _ (List.mem_of_getElem? (i := 89) rfl)) (hw _ (List.mem_of_getElem? (i := 91) rfl)) (nfOf (hw _ (List.mem_of_getElem? (i := 91) rfl))) (hw _ (List.mem_of_getElem? (i := 90) rfl)) (hw _ (List.mem_of_getElem? (i := 6) rfl)) (hw _ (List.mem_of_getElem? (i := 92) rfl)) (by decide) Ec419 (mLen l Z a0 hw hEL zc S0 Pz w_M S_M E_M fm S_f rf o269 tt395 kt395 ([((p0 &&& (255 : Int32)).toUInt32.toUInt16.toUInt32.toInt32)] : List Int32) h408 P408.old Ec419 Fc423 Fc424 Ac429) (W := 0) (by decide) (by decide) (by decide) (by decide) all0 pd_4 (argsL := []) rfl rfl rfl (Nat.le_of_eq rfl) at_32 fun v418 T418 h418 P418 K418 Q418 => ?_
      obtain ⟨hv418, hh418⟩ := Q418
      subst hv418
      rw [hh418] at P418
      show Go p e below _ (T418.setTop (mkF m 35 #[.val (.int p0), .val (.int p1), .val (.ref o269), .val (.ref o270), .val (.ref o397), .val (.ref o408), .unset, .unset] [(.int (1 : Int32))]))
      refine P418.xs (fun hA hx hy t k => XS.istore hA hx rfl (hb hy at_35) rfl (l' := #[.val (.int p0), .val (.int p1), .val (.ref o269), .val (.ref o270), .val (.ref o397), .val (.ref o408), .val (.int (1 : Int32)), .unset]) rfl k) ?_
      show Go p e below _ (T418.setTop (mkF m 37 #[.val (.int p0), .val (.int p1), .val (.ref o269), .val (.ref o270), .val (.ref o397), .val (.ref o408), .val (.int (1 : Int32)), .unset] []))
      refine P418.xs (fun hA hx hy t k => XS.aloadN hA hx rfl (hb hy at_37) rfl rfl  k) ?_
      show Go p e below _ (T418.setTop (mkF m 38 #[.val (.int p0), .val (.int p1), .val (.ref o269), .val (.ref o270), .val (.ref o397), .val (.ref o408), .val (.int (1 : Int32)), .unset] [(.ref o270)]))
      refine P418.callV (hw _ (List.mem_of_getElem? (i := 172) rfl)) (hw _ (List.mem_of_getElem? (i := 89) rfl)) (hw _ (List.mem_of_getElem? (i := 91) rfl)) (nfOf (hw _ (List.mem_of_getElem? (i := 91) rfl))) (hw _ (List.mem_of_getElem? (i := 90) rfl)) (hw _ (List.mem_of_getElem? (i := 6) rfl)) (hw _ (List.mem_of_getElem? (i := 92) rfl)) (by decide) Ec420 (mLen l Z a0 hw hEL zc S0 Pz w_M S_M E_M fm S_f rf o270 tt396 kt396 ([] : List Int32) h408 P418.old Ec420 Fc425 Fc426 Ac430) (W := 0) (by decide) (by decide) (by decide) (by decide) all0 pd_4 (argsL := []) rfl rfl rfl (Nat.le_of_eq rfl) at_38 fun v431 T431 h431 P431 K431 Q431 => ?_
      obtain ⟨hv431, hh431⟩ := Q431
      subst hv431
      rw [hh431] at P431
      show Go p e below _ (T431.setTop (mkF m 41 #[.val (.int p0), .val (.int p1), .val (.ref o269), .val (.ref o270), .val (.ref o397), .val (.ref o408), .val (.int (1 : Int32)), .unset] [(.int (0 : Int32))]))
      refine P431.xs (fun hA hx hy t k => XS.istore hA hx rfl (hb hy at_41) rfl (l' := #[.val (.int p0), .val (.int p1), .val (.ref o269), .val (.ref o270), .val (.ref o397), .val (.ref o408), .val (.int (1 : Int32)), .val (.int (0 : Int32))]) rfl k) ?_
      show Go p e below _ (T431.setTop (mkF m 43 #[.val (.int p0), .val (.int p1), .val (.ref o269), .val (.ref o270), .val (.ref o397), .val (.ref o408), .val (.int (1 : Int32)), .val (.int (0 : Int32))] []))
      refine P431.xs (fun hA hx hy t k => XS.aload hA hx rfl (hb hy at_43) rfl rfl  k) ?_
      show Go p e below _ (T431.setTop (mkF m 45 #[.val (.int p0), .val (.int p1), .val (.ref o269), .val (.ref o270), .val (.ref o397), .val (.ref o408), .val (.int (1 : Int32)), .val (.int (0 : Int32))] [(.ref o408)]))
      refine P431.callV (hw _ (List.mem_of_getElem? (i := 172) rfl)) (hw _ (List.mem_of_getElem? (i := 89) rfl)) (hw _ (List.mem_of_getElem? (i := 91) rfl)) (nfOf (hw _ (List.mem_of_getElem? (i := 91) rfl))) (hw _ (List.mem_of_getElem? (i := 90) rfl)) (hw _ (List.mem_of_getElem? (i := 6) rfl)) (hw _ (List.mem_of_getElem? (i := 92) rfl)) (by decide) Ec422 (mLen l Z a0 hw hEL zc S0 Pz w_M S_M E_M fm S_f rf o408 tt417 kt417 ([((p0 &&& (255 : Int32)).toUInt32.toUInt16.toUInt32.toInt32), (47 : Int32)] : List Int32) h408 P431.old Ec422 V417 C417 A417) (W := 0) (by decide) (by decide) (by decide) (by decide) all0 pd_4 (argsL := []) rfl rfl rfl (Nat.le_of_eq rfl) at_45 fun v432 T432 h432 P432 K432 Q432 => ?_
      obtain ⟨hv432, hh432⟩ := Q432
      subst hv432
      rw [hh432] at P432
      show Go p e below _ (T432.setTop (mkF m 48 #[.val (.int p0), .val (.int p1), .val (.ref o269), .val (.ref o270), .val (.ref o397), .val (.ref o408), .val (.int (1 : Int32)), .val (.int (0 : Int32))] [(.int (2 : Int32))]))
      refine P432.xs (fun hA hx hy t k => XS.iload hA hx rfl (hb hy at_48) rfl  k) ?_
      show Go p e below _ (T432.setTop (mkF m 50 #[.val (.int p0), .val (.int p1), .val (.ref o269), .val (.ref o270), .val (.ref o397), .val (.ref o408), .val (.int (1 : Int32)), .val (.int (0 : Int32))] [(.int (1 : Int32)), (.int (2 : Int32))]))
      refine P432.xs (fun hA hx hy t k => XS.iconst hA hx rfl (hb hy at_50) k) ?_
      show Go p e below _ (T432.setTop (mkF m 51 #[.val (.int p0), .val (.int p1), .val (.ref o269), .val (.ref o270), .val (.ref o397), .val (.ref o408), .val (.int (1 : Int32)), .val (.int (0 : Int32))] [(.int (1 : Int32)), (.int (1 : Int32)), (.int (2 : Int32))]))
      refine P432.xs (fun hA hx hy t k => XS.iadd hA hx rfl (hb hy at_51) rfl k) ?_
      show Go p e below _ (T432.setTop (mkF m 52 #[.val (.int p0), .val (.int p1), .val (.ref o269), .val (.ref o270), .val (.ref o397), .val (.ref o408), .val (.int (1 : Int32)), .val (.int (0 : Int32))] [(.int (2 : Int32)), (.int (2 : Int32))]))
      refine P432.xs (fun hA hx hy t k => XS.iload hA hx rfl (hb hy at_52) rfl  k) ?_
      show Go p e below _ (T432.setTop (mkF m 54 #[.val (.int p0), .val (.int p1), .val (.ref o269), .val (.ref o270), .val (.ref o397), .val (.ref o408), .val (.int (1 : Int32)), .val (.int (0 : Int32))] [(.int (0 : Int32)), (.int (2 : Int32)), (.int (2 : Int32))]))
      refine P432.xs (fun hA hx hy t k => XS.iadd hA hx rfl (hb hy at_54) rfl k) ?_
      show Go p e below _ (T432.setTop (mkF m 55 #[.val (.int p0), .val (.int p1), .val (.ref o269), .val (.ref o270), .val (.ref o397), .val (.ref o408), .val (.int (1 : Int32)), .val (.int (0 : Int32))] [(.int (2 : Int32)), (.int (2 : Int32))]))
      refine P432.xs (fun hA hx hy t k => XS.icmpYes hA hx rfl (pc0 := 55) (pc' := 60) rfl (hb hy at_55) rfl (teq rfl).1 (by decide) (by decide) k) ?_
      show Go p e below _ (T432.setTop (mkF m 60 #[.val (.int p0), .val (.int p1), .val (.ref o269), .val (.ref o270), .val (.ref o397), .val (.ref o408), .val (.int (1 : Int32)), .val (.int (0 : Int32))] []))
      refine P432.xs (fun hA hx hy t k => XS.iload hA hx rfl (hb hy at_60) rfl  k) ?_
      show Go p e below _ (T432.setTop (mkF m 62 #[.val (.int p0), .val (.int p1), .val (.ref o269), .val (.ref o270), .val (.ref o397), .val (.ref o408), .val (.int (1 : Int32)), .val (.int (0 : Int32))] [(.int (1 : Int32))]))
      refine P432.xs (fun hA hx hy t k => XS.ifNo hA hx rfl (hb hy at_62) rfl ((if0 _ _).trans (tlt (by decide)).2.2.2) k) ?_
      show Go p e below _ (T432.setTop (mkF m 65 #[.val (.int p0), .val (.int p1), .val (.ref o269), .val (.ref o270), .val (.ref o397), .val (.ref o408), .val (.int (1 : Int32)), .val (.int (0 : Int32))] []))
      refine P432.xs (fun hA hx hy t k => XS.aload hA hx rfl (hb hy at_65) rfl rfl  k) ?_
      show Go p e below _ (T432.setTop (mkF m 67 #[.val (.int p0), .val (.int p1), .val (.ref o269), .val (.ref o270), .val (.ref o397), .val (.ref o408), .val (.int (1 : Int32)), .val (.int (0 : Int32))] [(.ref o408)]))
      refine P432.xs (fun hA hx hy t k => XS.iconst hA hx rfl (hb hy at_67) k) ?_
      show Go p e below _ (T432.setTop (mkF m 68 #[.val (.int p0), .val (.int p1), .val (.ref o269), .val (.ref o270), .val (.ref o397), .val (.ref o408), .val (.int (1 : Int32)), .val (.int (0 : Int32))] [(.int (0 : Int32)), (.ref o408)]))
      refine P432.strCh (W := 0) (hw _ (List.mem_of_getElem? (i := 173) rfl)) (hw _ (List.mem_of_getElem? (i := 174) rfl)) (hw _ (List.mem_of_getElem? (i := 176) rfl)) (hw _ (List.mem_of_getElem? (i := 175) rfl)) (wChN hw) (hw _ (List.mem_of_getElem? (i := 5) rfl)) S0 Pz S_f rf Ec422 V417 C417 A417 hl417 (Nat.le_of_ble_eq_true rfl) (i := 0) (Nat.le_of_ble_eq_true rfl) rfl (ch := ((p0 &&& (255 : Int32)).toUInt32.toUInt16.toUInt32.toInt32)) rfl (by decide) (by decide) (by decide) (by decide) pd_23 rfl rfl (Nat.le_of_eq rfl) at_68 fun T433 P433 => ?_
      show Go p e below _ (T433.setTop (mkF m 71 #[.val (.int p0), .val (.int p1), .val (.ref o269), .val (.ref o270), .val (.ref o397), .val (.ref o408), .val (.int (1 : Int32)), .val (.int (0 : Int32))] [(.int ((p0 &&& (255 : Int32)).toUInt32.toUInt16.toUInt32.toInt32))]))
      refine P433.xs (fun hA hx hy t k => XS.iloadN hA hx rfl (hb hy at_71) rfl  k) ?_
      show Go p e below _ (T433.setTop (mkF m 72 #[.val (.int p0), .val (.int p1), .val (.ref o269), .val (.ref o270), .val (.ref o397), .val (.ref o408), .val (.int (1 : Int32)), .val (.int (0 : Int32))] [(.int p0), (.int ((p0 &&& (255 : Int32)).toUInt32.toUInt16.toUInt32.toInt32))]))
      refine P433.xs (fun hA hx hy t k => XS.sipush hA hx rfl (hb hy at_72) k) ?_
      show Go p e below _ (T433.setTop (mkF m 75 #[.val (.int p0), .val (.int p1), .val (.ref o269), .val (.ref o270), .val (.ref o397), .val (.ref o408), .val (.int (1 : Int32)), .val (.int (0 : Int32))] [(.int (255 : Int32)), (.int p0), (.int ((p0 &&& (255 : Int32)).toUInt32.toUInt16.toUInt32.toInt32))]))
      refine P433.xs (fun hA hx hy t k => XS.iand hA hx rfl (hb hy at_75) rfl k) ?_
      show Go p e below _ (T433.setTop (mkF m 76 #[.val (.int p0), .val (.int p1), .val (.ref o269), .val (.ref o270), .val (.ref o397), .val (.ref o408), .val (.int (1 : Int32)), .val (.int (0 : Int32))] [(.int (p0 &&& (255 : Int32))), (.int ((p0 &&& (255 : Int32)).toUInt32.toUInt16.toUInt32.toInt32))]))
      refine P433.xs (fun hA hx hy t k => XS.i2c hA hx rfl (hb hy at_76) rfl k) ?_
      show Go p e below _ (T433.setTop (mkF m 77 #[.val (.int p0), .val (.int p1), .val (.ref o269), .val (.ref o270), .val (.ref o397), .val (.ref o408), .val (.int (1 : Int32)), .val (.int (0 : Int32))] [(.int ((p0 &&& (255 : Int32)).toUInt32.toUInt16.toUInt32.toInt32)), (.int ((p0 &&& (255 : Int32)).toUInt32.toUInt16.toUInt32.toInt32))]))
      refine P433.xs (fun hA hx hy t k => XS.icmpYes hA hx rfl (pc0 := 77) (pc' := 82) rfl (hb hy at_77) rfl (teq rfl).1 (by decide) (by decide) k) ?_
      show Go p e below _ (T433.setTop (mkF m 82 #[.val (.int p0), .val (.int p1), .val (.ref o269), .val (.ref o270), .val (.ref o397), .val (.ref o408), .val (.int (1 : Int32)), .val (.int (0 : Int32))] []))
      refine P433.xs (fun hA hx hy t k => XS.iload hA hx rfl (hb hy at_82) rfl  k) ?_
      show Go p e below _ (T433.setTop (mkF m 84 #[.val (.int p0), .val (.int p1), .val (.ref o269), .val (.ref o270), .val (.ref o397), .val (.ref o408), .val (.int (1 : Int32)), .val (.int (0 : Int32))] [(.int (1 : Int32))]))
      refine P433.xs (fun hA hx hy t k => XS.iconst hA hx rfl (hb hy at_84) k) ?_
      show Go p e below _ (T433.setTop (mkF m 85 #[.val (.int p0), .val (.int p1), .val (.ref o269), .val (.ref o270), .val (.ref o397), .val (.ref o408), .val (.int (1 : Int32)), .val (.int (0 : Int32))] [(.int (1 : Int32)), (.int (1 : Int32))]))
      refine P433.xs (fun hA hx hy t k => XS.icmpYes hA hx rfl (pc0 := 85) (pc' := 108) rfl (hb hy at_85) rfl (flt (by decide)).2.2.2 (by decide) (by decide) k) ?_
      show Go p e below _ (T433.setTop (mkF m 108 #[.val (.int p0), .val (.int p1), .val (.ref o269), .val (.ref o270), .val (.ref o397), .val (.ref o408), .val (.int (1 : Int32)), .val (.int (0 : Int32))] []))
      refine P433.xs (fun hA hx hy t k => XS.aload hA hx rfl (hb hy at_108) rfl rfl  k) ?_
      show Go p e below _ (T433.setTop (mkF m 110 #[.val (.int p0), .val (.int p1), .val (.ref o269), .val (.ref o270), .val (.ref o397), .val (.ref o408), .val (.int (1 : Int32)), .val (.int (0 : Int32))] [(.ref o408)]))
      refine P433.xs (fun hA hx hy t k => XS.iload hA hx rfl (hb hy at_110) rfl  k) ?_
      show Go p e below _ (T433.setTop (mkF m 112 #[.val (.int p0), .val (.int p1), .val (.ref o269), .val (.ref o270), .val (.ref o397), .val (.ref o408), .val (.int (1 : Int32)), .val (.int (0 : Int32))] [(.int (1 : Int32)), (.ref o408)]))
      refine P433.strCh (W := 0) (hw _ (List.mem_of_getElem? (i := 173) rfl)) (hw _ (List.mem_of_getElem? (i := 174) rfl)) (hw _ (List.mem_of_getElem? (i := 176) rfl)) (hw _ (List.mem_of_getElem? (i := 175) rfl)) (wChN hw) (hw _ (List.mem_of_getElem? (i := 5) rfl)) S0 Pz S_f rf Ec422 V417 C417 A417 hl417 (Nat.le_of_ble_eq_true rfl) (i := 1) (Nat.le_of_ble_eq_true rfl) rfl (ch := (47 : Int32)) rfl (by decide) (by decide) (by decide) (by decide) pd_23 rfl rfl (Nat.le_of_eq rfl) at_112 fun T434 P434 => ?_
      show Go p e below _ (T434.setTop (mkF m 115 #[.val (.int p0), .val (.int p1), .val (.ref o269), .val (.ref o270), .val (.ref o397), .val (.ref o408), .val (.int (1 : Int32)), .val (.int (0 : Int32))] [(.int (47 : Int32))]))
      refine P434.xs (fun hA hx hy t k => XS.bipush hA hx rfl (hb hy at_115) k) ?_
      show Go p e below _ (T434.setTop (mkF m 117 #[.val (.int p0), .val (.int p1), .val (.ref o269), .val (.ref o270), .val (.ref o397), .val (.ref o408), .val (.int (1 : Int32)), .val (.int (0 : Int32))] [(.int (47 : Int32)), (.int (47 : Int32))]))
      refine P434.xs (fun hA hx hy t k => XS.icmpYes hA hx rfl (pc0 := 117) (pc' := 122) rfl (hb hy at_117) rfl (teq rfl).1 (by decide) (by decide) k) ?_
      show Go p e below _ (T434.setTop (mkF m 122 #[.val (.int p0), .val (.int p1), .val (.ref o269), .val (.ref o270), .val (.ref o397), .val (.ref o408), .val (.int (1 : Int32)), .val (.int (0 : Int32))] []))
      refine P434.xs (fun hA hx hy t k => XS.iload hA hx rfl (hb hy at_122) rfl  k) ?_
      show Go p e below _ (T434.setTop (mkF m 124 #[.val (.int p0), .val (.int p1), .val (.ref o269), .val (.ref o270), .val (.ref o397), .val (.ref o408), .val (.int (1 : Int32)), .val (.int (0 : Int32))] [(.int (0 : Int32))]))
      refine P434.xs (fun hA hx hy t k => XS.ifYes hA hx rfl (pc0 := 124) (pc' := 147) rfl (hb hy at_124) rfl ((if0 _ _).trans (flt (by decide)).2.2.2) (by decide) (by decide) k) ?_
      show Go p e below _ (T434.setTop (mkF m 147 #[.val (.int p0), .val (.int p1), .val (.ref o269), .val (.ref o270), .val (.ref o397), .val (.ref o408), .val (.int (1 : Int32)), .val (.int (0 : Int32))] []))
      refine P434.xs (fun hA hx hy t k => XS.iload hA hx rfl (hb hy at_147) rfl  k) ?_
      show Go p e below _ (T434.setTop (mkF m 149 #[.val (.int p0), .val (.int p1), .val (.ref o269), .val (.ref o270), .val (.ref o397), .val (.ref o408), .val (.int (1 : Int32)), .val (.int (0 : Int32))] [(.int (0 : Int32))]))
      refine P434.xs (fun hA hx hy t k => XS.iconst hA hx rfl (hb hy at_149) k) ?_
      show Go p e below _ (T434.setTop (mkF m 150 #[.val (.int p0), .val (.int p1), .val (.ref o269), .val (.ref o270), .val (.ref o397), .val (.ref o408), .val (.int (1 : Int32)), .val (.int (0 : Int32))] [(.int (1 : Int32)), (.int (0 : Int32))]))
      refine P434.xs (fun hA hx hy t k => XS.icmpYes hA hx rfl (pc0 := 150) (pc' := 176) rfl (hb hy at_150) rfl (flt (by decide)).2.2.2 (by decide) (by decide) k) ?_
      show Go p e below _ (T434.setTop (mkF m 176 #[.val (.int p0), .val (.int p1), .val (.ref o269), .val (.ref o270), .val (.ref o397), .val (.ref o408), .val (.int (1 : Int32)), .val (.int (0 : Int32))] []))
      refine P434.xs (fun hA hx hy t k => XS.iconst hA hx rfl (hb hy at_176) k) ?_
      show Go p e below _ (T434.setTop (mkF m 177 #[.val (.int p0), .val (.int p1), .val (.ref o269), .val (.ref o270), .val (.ref o397), .val (.ref o408), .val (.int (1 : Int32)), .val (.int (0 : Int32))] [(.int (1 : Int32))]))
      exact P434.retN (t := .boolean) rfl (by simp) at_177 (by decide) (by decide) rfl
    · have So435 : Str Z h270 o269 ([((p0 &&& (255 : Int32)).toUInt32.toUInt16.toUInt32.toInt32)] : List Int32) := by have q := Sc274; rw [cs3_1 (n := 1) (by decide) rfl] at q; exact q
      have hl435 : ∀ c ∈ ([((p0 &&& (255 : Int32)).toUInt32.toUInt16.toUInt32.toInt32)] : List Int32), ¬ c < 0 ∧ ¬ (255 : Int32) < c := (latS (chr255 rfl).1 lat0)
      obtain ⟨tt435, kt435, V435, C435, A435⟩ := strLat So435 hl435
      have So436 : Str Z h270 o270 ([((p1 &&& (255 : Int32)).toUInt32.toUInt16.toUInt32.toInt32)] : List Int32) := by have q := Ss270; rw [cs3_1 (n := 1) (by decide) rfl] at q; exact q
      have hl436 : ∀ c ∈ ([((p1 &&& (255 : Int32)).toUInt32.toUInt16.toUInt32.toInt32)] : List Int32), ¬ c < 0 ∧ ¬ (255 : Int32) < c := (latS (chr255 rfl).1 lat0)
      obtain ⟨tt436, kt436, V436, C436, A436⟩ := strLat So436 hl436
      show Go p e below _ (T270.setTop (mkF m 10 #[.val (.int p0), .val (.int p1), .val (.ref o269), .val (.ref o270), .unset, .unset, .unset, .unset] []))
      refine P270.newO (hw _ (List.mem_of_getElem? (i := 26) rfl)) (hw _ (List.mem_of_getElem? (i := 27) rfl)) (hw _ (List.mem_of_getElem? (i := 28) rfl)) at_10 (by decide) (by decide) fun T437 h437 o437 g437 P437 E437 A437 D437 => ?_
      have ne_o269_o437 : o269 ≠ o437 := Nat.ne_of_lt (Nat.lt_of_lt_of_le So435.1.lt (Nat.le_of_eq g437.symm))
      have ne_o270_o437 : o270 ≠ o437 := Nat.ne_of_lt (Nat.lt_of_lt_of_le So436.1.lt (Nat.le_of_eq g437.symm))
      have ne_tt435_o437 : tt435 ≠ o437 := Nat.ne_of_lt (Nat.lt_of_lt_of_le A435.lt (Nat.le_of_eq g437.symm))
      have ne_tt436_o437 : tt436 ≠ o437 := Nat.ne_of_lt (Nat.lt_of_lt_of_le A436.lt (Nat.le_of_eq g437.symm))
      have gz_o437 : Z.heap.size ≤ o437 := Nat.le_trans P270.old.1 (Nat.le_of_eq g437.symm)
      have gw_o437 : h0.size ≤ o437 := Nat.le_trans P270.kept.1 (Nat.le_of_eq g437.symm)
      have F437_type : Fld Z h437 o437 "com/example/certain_answers/certainanswers/server/MediaType" "type" "Ljava/lang/String;" .null := D437 (Or.inr (hw _ (List.mem_of_getElem? (i := 50) rfl))) (ty := (.object "java/lang/String")) (by decide)
      have F437_subtype : Fld Z h437 o437 "com/example/certain_answers/certainanswers/server/MediaType" "subtype" "Ljava/lang/String;" .null := D437 (Or.inr (hw _ (List.mem_of_getElem? (i := 52) rfl))) (ty := (.object "java/lang/String")) (by decide)
      have F437_parameters : Fld Z h437 o437 "com/example/certain_answers/certainanswers/server/MediaType" "parameters" "Ljava/util/Map;" .null := D437 (Or.inr (hw _ (List.mem_of_getElem? (i := 54) rfl))) (ty := (.object "java/util/Map")) (by decide)
      show Go p e below _ (T437.setTop (mkF m 13 #[.val (.int p0), .val (.int p1), .val (.ref o269), .val (.ref o270), .unset, .unset, .unset, .unset] [(.ref o437)]))
      refine P437.xs (fun hA hx hy t k => XS.dup hA hx rfl (hb hy at_13) rfl rfl k) ?_
      show Go p e below _ (T437.setTop (mkF m 14 #[.val (.int p0), .val (.int p1), .val (.ref o269), .val (.ref o270), .unset, .unset, .unset, .unset] [(.ref o437), (.ref o437)]))
      refine P437.xs (fun hA hx hy t k => XS.aloadN hA hx rfl (hb hy at_14) rfl rfl  k) ?_
      show Go p e below _ (T437.setTop (mkF m 15 #[.val (.int p0), .val (.int p1), .val (.ref o269), .val (.ref o270), .unset, .unset, .unset, .unset] [(.ref o269), (.ref o437), (.ref o437)]))
      refine P437.xs (fun hA hx hy t k => XS.aloadN hA hx rfl (hb hy at_15) rfl rfl  k) ?_
      show Go p e below _ (T437.setTop (mkF m 16 #[.val (.int p0), .val (.int p1), .val (.ref o269), .val (.ref o270), .unset, .unset, .unset, .unset] [(.ref o270), (.ref o269), (.ref o437), (.ref o437)]))
      have Ec439 : Exa Z h437 o269 "java/lang/String" := (So435.1.ext E437)
      have Ec440 : Exa Z h437 o270 "java/lang/String" := (So436.1.ext E437)
      have Fc441 : Fld Z h437 o269 "java/lang/String" "value" "[B" (.ref tt435) := (V435.ext E437)
      have Fc442 : Fld Z h437 o269 "java/lang/String" "coder" "B" (.int (0 : Int32)) := (C435.ext E437)
      have Fc443 : Fld Z h437 o270 "java/lang/String" "value" "[B" (.ref tt436) := (V436.ext E437)
      have Fc444 : Fld Z h437 o270 "java/lang/String" "coder" "B" (.int (0 : Int32)) := (C436.ext E437)
      have Ac445 : Arv Z h437 tt435 kt435 .byte (Int32.ofNat ([((p0 &&& (255 : Int32)).toUInt32.toUInt16.toUInt32.toInt32)] : List Int32).length) ((([((p0 &&& (255 : Int32)).toUInt32.toUInt16.toUInt32.toInt32)] : List Int32).map StrChars.lo8).map Value.int) (.int 0) := (A435.ext E437)
      have Ac446 : Arv Z h437 tt436 kt436 .byte (Int32.ofNat ([((p1 &&& (255 : Int32)).toUInt32.toUInt16.toUInt32.toInt32)] : List Int32).length) ((([((p1 &&& (255 : Int32)).toUInt32.toUInt16.toUInt32.toInt32)] : List Int32).map StrChars.lo8).map Value.int) (.int 0) := (A436.ext E437)
      refine P437.callS (hw _ (List.mem_of_getElem? (i := 29) rfl)) (hw _ (List.mem_of_getElem? (i := 30) rfl)) (hw _ (List.mem_of_getElem? (i := 31) rfl)) (hw _ (List.mem_of_getElem? (i := 32) rfl)) (by decide) (mMof l Z a0 hw hEL zc S0 Pz w_M S_M E_M fm S_f rf  h437 P437.old) (W := 4) (by decide) (by decide) (by decide) (by decide) all0 pd_21 (argsL := []) rfl rfl rfl (Nat.le_of_eq rfl) at_16 fun v438 T438 h438 P438 K438 Q438 => ?_
      obtain ⟨hv438, hh438⟩ := Q438
      subst hv438
      rw [hh438] at P438
      show Go p e below _ (T438.setTop (mkF m 19 #[.val (.int p0), .val (.int p1), .val (.ref o269), .val (.ref o270), .unset, .unset, .unset, .unset] [(.ref w_M), (.ref o270), (.ref o269), (.ref o437), (.ref o437)]))
      refine P438.callI rfl (hw _ (List.mem_of_getElem? (i := 35) rfl)) (hw _ (List.mem_of_getElem? (i := 36) rfl)) (hw _ (List.mem_of_getElem? (i := 28) rfl)) (hw _ (List.mem_of_getElem? (i := 37) rfl)) (by decide) (mMT l Z a0 hw hEL zc S0 Pz w_M S_M E_M fm S_f rf o437 o269 o270 h437 P438.old A437 F437_type F437_subtype F437_parameters gz_o437) (W := 1) (by decide) (by decide) (by decide) (by decide) (allS (Or.inr gw_o437) all0) pd_22 (argsL := [(.ref o269), (.ref o270), (.ref w_M)]) rfl rfl rfl (Nat.le_of_eq rfl) at_19 fun v447 T447 h447 P447 K447 Q447 => ?_
      obtain ⟨rfl, E447, Ft447, Fu447⟩ := Q447
      show Go p e below _ (T447.setTop (mkF m 22 #[.val (.int p0), .val (.int p1), .val (.ref o269), .val (.ref o270), .unset, .unset, .unset, .unset] [(.ref o437)]))
      refine P447.xs (fun hA hx hy t k => XS.astore hA hx rfl (hb hy at_22) rfl rfl (l' := #[.val (.int p0), .val (.int p1), .val (.ref o269), .val (.ref o270), .val (.ref o437), .unset, .unset, .unset]) rfl k) ?_
      show Go p e below _ (T447.setTop (mkF m 24 #[.val (.int p0), .val (.int p1), .val (.ref o269), .val (.ref o270), .val (.ref o437), .unset, .unset, .unset] []))
      refine P447.xs (fun hA hx hy t k => XS.aload hA hx rfl (hb hy at_24) rfl rfl  k) ?_
      show Go p e below _ (T447.setTop (mkF m 26 #[.val (.int p0), .val (.int p1), .val (.ref o269), .val (.ref o270), .val (.ref o437), .unset, .unset, .unset] [(.ref o437)]))
      have Ec449 : Exa Z h447 o269 "java/lang/String" := (Ec439.keep K447)
      have Ec450 : Exa Z h447 o270 "java/lang/String" := (Ec440.keep K447)
      have Fc451 : Fld Z h447 o269 "java/lang/String" "value" "[B" (.ref tt435) := (Fc441.keep K447 (ninS ne_o269_o437 nin0))
      have Fc452 : Fld Z h447 o269 "java/lang/String" "coder" "B" (.int (0 : Int32)) := (Fc442.keep K447 (ninS ne_o269_o437 nin0))
      have Fc453 : Fld Z h447 o270 "java/lang/String" "value" "[B" (.ref tt436) := (Fc443.keep K447 (ninS ne_o270_o437 nin0))
      have Fc454 : Fld Z h447 o270 "java/lang/String" "coder" "B" (.int (0 : Int32)) := (Fc444.keep K447 (ninS ne_o270_o437 nin0))
      have Ac455 : Arv Z h447 tt435 kt435 .byte (Int32.ofNat ([((p0 &&& (255 : Int32)).toUInt32.toUInt16.toUInt32.toInt32)] : List Int32).length) ((([((p0 &&& (255 : Int32)).toUInt32.toUInt16.toUInt32.toInt32)] : List Int32).map StrChars.lo8).map Value.int) (.int 0) := (Ac445.keep K447 (ninS ne_tt435_o437 nin0))
      have Ac456 : Arv Z h447 tt436 kt436 .byte (Int32.ofNat ([((p1 &&& (255 : Int32)).toUInt32.toUInt16.toUInt32.toInt32)] : List Int32).length) ((([((p1 &&& (255 : Int32)).toUInt32.toUInt16.toUInt32.toInt32)] : List Int32).map StrChars.lo8).map Value.int) (.int 0) := (Ac446.keep K447 (ninS ne_tt436_o437 nin0))
      refine P447.callV (hw _ (List.mem_of_getElem? (i := 55) rfl)) (hw _ (List.mem_of_getElem? (i := 56) rfl)) (hw _ (List.mem_of_getElem? (i := 58) rfl)) (nfOf (hw _ (List.mem_of_getElem? (i := 58) rfl))) (hw _ (List.mem_of_getElem? (i := 57) rfl)) (hw _ (List.mem_of_getElem? (i := 28) rfl)) (hw _ (List.mem_of_getElem? (i := 59) rfl)) (by decide) E447 (mEss l Z a0 hw hEL zc S0 Pz w_M S_M E_M fm S_f rf o437 o269 tt435 o270 tt436 kt435 kt436 ([((p0 &&& (255 : Int32)).toUInt32.toUInt16.toUInt32.toInt32)] : List Int32) ([((p1 &&& (255 : Int32)).toUInt32.toUInt16.toUInt32.toInt32)] : List Int32) h447 P447.old E447 Ft447 Fu447 Ec449 Fc451 Fc452 Ac455 Ec450 Fc453 Fc454 Ac456 hl435 hl436 (Nat.le_of_ble_eq_true rfl) (Nat.le_of_ble_eq_true rfl)) (W := 0) (by decide) (by decide) (by decide) (by decide) all0 pd_18 (argsL := []) rfl rfl rfl (Nat.le_of_eq rfl) at_26 fun v448 T448 h448 P448 K448 Q448 => ?_
      obtain ⟨o448, rfl, g448, Ss448⟩ := Q448
      have ne_o269_o448 : o269 ≠ o448 := Nat.ne_of_lt (Nat.lt_of_lt_of_le Ec449.lt g448)
      have ne_o270_o448 : o270 ≠ o448 := Nat.ne_of_lt (Nat.lt_of_lt_of_le Ec450.lt g448)
      have ne_o437_o448 : o437 ≠ o448 := Nat.ne_of_lt (Nat.lt_of_lt_of_le E447.lt g448)
      have ne_tt435_o448 : tt435 ≠ o448 := Nat.ne_of_lt (Nat.lt_of_lt_of_le Ac455.lt g448)
      have ne_tt436_o448 : tt436 ≠ o448 := Nat.ne_of_lt (Nat.lt_of_lt_of_le Ac456.lt g448)
      have gz_o448 : Z.heap.size ≤ o448 := Nat.le_trans P447.old.1 g448
      have gw_o448 : h0.size ≤ o448 := Nat.le_trans P447.kept.1 g448
      have So457 : Str Z h448 o448 ([((p0 &&& (255 : Int32)).toUInt32.toUInt16.toUInt32.toInt32), (47 : Int32), ((p1 &&& (255 : Int32)).toUInt32.toUInt16.toUInt32.toInt32)] : List Int32) := Ss448
      have hl457 : ∀ c ∈ ([((p0 &&& (255 : Int32)).toUInt32.toUInt16.toUInt32.toInt32), (47 : Int32), ((p1 &&& (255 : Int32)).toUInt32.toUInt16.toUInt32.toInt32)] : List Int32), ¬ c < 0 ∧ ¬ (255 : Int32) < c := (latS (chr255 rfl).1 (latS (by decide) (latS (chr255 rfl).1 lat0)))
      obtain ⟨tt457, kt457, V457, C457, A457⟩ := strLat So457 hl457
      show Go p e below _ (T448.setTop (mkF m 29 #[.val (.int p0), .val (.int p1), .val (.ref o269), .val (.ref o270), .val (.ref o437), .unset, .unset, .unset] [(.ref o448)]))
      refine P448.xs (fun hA hx hy t k => XS.astore hA hx rfl (hb hy at_29) rfl rfl (l' := #[.val (.int p0), .val (.int p1), .val (.ref o269), .val (.ref o270), .val (.ref o437), .val (.ref o448), .unset, .unset]) rfl k) ?_
      show Go p e below _ (T448.setTop (mkF m 31 #[.val (.int p0), .val (.int p1), .val (.ref o269), .val (.ref o270), .val (.ref o437), .val (.ref o448), .unset, .unset] []))
      refine P448.xs (fun hA hx hy t k => XS.aloadN hA hx rfl (hb hy at_31) rfl rfl  k) ?_
      show Go p e below _ (T448.setTop (mkF m 32 #[.val (.int p0), .val (.int p1), .val (.ref o269), .val (.ref o270), .val (.ref o437), .val (.ref o448), .unset, .unset] [(.ref o269)]))
      have Ec459 : Exa Z h448 o269 "java/lang/String" := (Ec449.keep K448)
      have Ec460 : Exa Z h448 o270 "java/lang/String" := (Ec450.keep K448)
      have Ec461 : Exa Z h448 o437 "com/example/certain_answers/certainanswers/server/MediaType" := (E447.keep K448)
      have Ec462 : Exa Z h448 o448 "java/lang/String" := So457.1
      have Fc463 : Fld Z h448 o269 "java/lang/String" "value" "[B" (.ref tt435) := (Fc451.keep K448 nin0)
      have Fc464 : Fld Z h448 o269 "java/lang/String" "coder" "B" (.int (0 : Int32)) := (Fc452.keep K448 nin0)
      have Fc465 : Fld Z h448 o270 "java/lang/String" "value" "[B" (.ref tt436) := (Fc453.keep K448 nin0)
      have Fc466 : Fld Z h448 o270 "java/lang/String" "coder" "B" (.int (0 : Int32)) := (Fc454.keep K448 nin0)
      have Fc467 : Fld Z h448 o437 "com/example/certain_answers/certainanswers/server/MediaType" "type" "Ljava/lang/String;" (.ref o269) := (Ft447.keep K448 nin0)
      have Fc468 : Fld Z h448 o437 "com/example/certain_answers/certainanswers/server/MediaType" "subtype" "Ljava/lang/String;" (.ref o270) := (Fu447.keep K448 nin0)
      have Ac469 : Arv Z h448 tt435 kt435 .byte (Int32.ofNat ([((p0 &&& (255 : Int32)).toUInt32.toUInt16.toUInt32.toInt32)] : List Int32).length) ((([((p0 &&& (255 : Int32)).toUInt32.toUInt16.toUInt32.toInt32)] : List Int32).map StrChars.lo8).map Value.int) (.int 0) := (Ac455.keep K448 nin0)
      have Ac470 : Arv Z h448 tt436 kt436 .byte (Int32.ofNat ([((p1 &&& (255 : Int32)).toUInt32.toUInt16.toUInt32.toInt32)] : List Int32).length) ((([((p1 &&& (255 : Int32)).toUInt32.toUInt16.toUInt32.toInt32)] : List Int32).map StrChars.lo8).map Value.int) (.int 0) := (Ac456.keep K448 nin0)
      refine P448.callV (hw _ (List.mem_of_getElem? (i := 172) rfl)) (hw _ (List.mem_of_getElem? (i := 89) rfl)) (hw _ (List.mem_of_getElem? (i := 91) rfl)) (nfOf (hw _ (List.mem_of_getElem? (i := 91) rfl))) (hw _ (List.mem_of_getElem? (i := 90) rfl)) (hw _ (List.mem_of_getElem? (i := 6) rfl)) (hw _ (List.mem_of_getElem? (i := 92) rfl)) (by decide) Ec459 (mLen l Z a0 hw hEL zc S0 Pz w_M S_M E_M fm S_f rf o269 tt435 kt435 ([((p0 &&& (255 : Int32)).toUInt32.toUInt16.toUInt32.toInt32)] : List Int32) h448 P448.old Ec459 Fc463 Fc464 Ac469) (W := 0) (by decide) (by decide) (by decide) (by decide) all0 pd_4 (argsL := []) rfl rfl rfl (Nat.le_of_eq rfl) at_32 fun v458 T458 h458 P458 K458 Q458 => ?_
      obtain ⟨hv458, hh458⟩ := Q458
      subst hv458
      rw [hh458] at P458
      show Go p e below _ (T458.setTop (mkF m 35 #[.val (.int p0), .val (.int p1), .val (.ref o269), .val (.ref o270), .val (.ref o437), .val (.ref o448), .unset, .unset] [(.int (1 : Int32))]))
      refine P458.xs (fun hA hx hy t k => XS.istore hA hx rfl (hb hy at_35) rfl (l' := #[.val (.int p0), .val (.int p1), .val (.ref o269), .val (.ref o270), .val (.ref o437), .val (.ref o448), .val (.int (1 : Int32)), .unset]) rfl k) ?_
      show Go p e below _ (T458.setTop (mkF m 37 #[.val (.int p0), .val (.int p1), .val (.ref o269), .val (.ref o270), .val (.ref o437), .val (.ref o448), .val (.int (1 : Int32)), .unset] []))
      refine P458.xs (fun hA hx hy t k => XS.aloadN hA hx rfl (hb hy at_37) rfl rfl  k) ?_
      show Go p e below _ (T458.setTop (mkF m 38 #[.val (.int p0), .val (.int p1), .val (.ref o269), .val (.ref o270), .val (.ref o437), .val (.ref o448), .val (.int (1 : Int32)), .unset] [(.ref o270)]))
      refine P458.callV (hw _ (List.mem_of_getElem? (i := 172) rfl)) (hw _ (List.mem_of_getElem? (i := 89) rfl)) (hw _ (List.mem_of_getElem? (i := 91) rfl)) (nfOf (hw _ (List.mem_of_getElem? (i := 91) rfl))) (hw _ (List.mem_of_getElem? (i := 90) rfl)) (hw _ (List.mem_of_getElem? (i := 6) rfl)) (hw _ (List.mem_of_getElem? (i := 92) rfl)) (by decide) Ec460 (mLen l Z a0 hw hEL zc S0 Pz w_M S_M E_M fm S_f rf o270 tt436 kt436 ([((p1 &&& (255 : Int32)).toUInt32.toUInt16.toUInt32.toInt32)] : List Int32) h448 P458.old Ec460 Fc465 Fc466 Ac470) (W := 0) (by decide) (by decide) (by decide) (by decide) all0 pd_4 (argsL := []) rfl rfl rfl (Nat.le_of_eq rfl) at_38 fun v471 T471 h471 P471 K471 Q471 => ?_
      obtain ⟨hv471, hh471⟩ := Q471
      subst hv471
      rw [hh471] at P471
      show Go p e below _ (T471.setTop (mkF m 41 #[.val (.int p0), .val (.int p1), .val (.ref o269), .val (.ref o270), .val (.ref o437), .val (.ref o448), .val (.int (1 : Int32)), .unset] [(.int (1 : Int32))]))
      refine P471.xs (fun hA hx hy t k => XS.istore hA hx rfl (hb hy at_41) rfl (l' := #[.val (.int p0), .val (.int p1), .val (.ref o269), .val (.ref o270), .val (.ref o437), .val (.ref o448), .val (.int (1 : Int32)), .val (.int (1 : Int32))]) rfl k) ?_
      show Go p e below _ (T471.setTop (mkF m 43 #[.val (.int p0), .val (.int p1), .val (.ref o269), .val (.ref o270), .val (.ref o437), .val (.ref o448), .val (.int (1 : Int32)), .val (.int (1 : Int32))] []))
      refine P471.xs (fun hA hx hy t k => XS.aload hA hx rfl (hb hy at_43) rfl rfl  k) ?_
      show Go p e below _ (T471.setTop (mkF m 45 #[.val (.int p0), .val (.int p1), .val (.ref o269), .val (.ref o270), .val (.ref o437), .val (.ref o448), .val (.int (1 : Int32)), .val (.int (1 : Int32))] [(.ref o448)]))
      refine P471.callV (hw _ (List.mem_of_getElem? (i := 172) rfl)) (hw _ (List.mem_of_getElem? (i := 89) rfl)) (hw _ (List.mem_of_getElem? (i := 91) rfl)) (nfOf (hw _ (List.mem_of_getElem? (i := 91) rfl))) (hw _ (List.mem_of_getElem? (i := 90) rfl)) (hw _ (List.mem_of_getElem? (i := 6) rfl)) (hw _ (List.mem_of_getElem? (i := 92) rfl)) (by decide) Ec462 (mLen l Z a0 hw hEL zc S0 Pz w_M S_M E_M fm S_f rf o448 tt457 kt457 ([((p0 &&& (255 : Int32)).toUInt32.toUInt16.toUInt32.toInt32), (47 : Int32), ((p1 &&& (255 : Int32)).toUInt32.toUInt16.toUInt32.toInt32)] : List Int32) h448 P471.old Ec462 V457 C457 A457) (W := 0) (by decide) (by decide) (by decide) (by decide) all0 pd_4 (argsL := []) rfl rfl rfl (Nat.le_of_eq rfl) at_45 fun v472 T472 h472 P472 K472 Q472 => ?_
      obtain ⟨hv472, hh472⟩ := Q472
      subst hv472
      rw [hh472] at P472
      show Go p e below _ (T472.setTop (mkF m 48 #[.val (.int p0), .val (.int p1), .val (.ref o269), .val (.ref o270), .val (.ref o437), .val (.ref o448), .val (.int (1 : Int32)), .val (.int (1 : Int32))] [(.int (3 : Int32))]))
      refine P472.xs (fun hA hx hy t k => XS.iload hA hx rfl (hb hy at_48) rfl  k) ?_
      show Go p e below _ (T472.setTop (mkF m 50 #[.val (.int p0), .val (.int p1), .val (.ref o269), .val (.ref o270), .val (.ref o437), .val (.ref o448), .val (.int (1 : Int32)), .val (.int (1 : Int32))] [(.int (1 : Int32)), (.int (3 : Int32))]))
      refine P472.xs (fun hA hx hy t k => XS.iconst hA hx rfl (hb hy at_50) k) ?_
      show Go p e below _ (T472.setTop (mkF m 51 #[.val (.int p0), .val (.int p1), .val (.ref o269), .val (.ref o270), .val (.ref o437), .val (.ref o448), .val (.int (1 : Int32)), .val (.int (1 : Int32))] [(.int (1 : Int32)), (.int (1 : Int32)), (.int (3 : Int32))]))
      refine P472.xs (fun hA hx hy t k => XS.iadd hA hx rfl (hb hy at_51) rfl k) ?_
      show Go p e below _ (T472.setTop (mkF m 52 #[.val (.int p0), .val (.int p1), .val (.ref o269), .val (.ref o270), .val (.ref o437), .val (.ref o448), .val (.int (1 : Int32)), .val (.int (1 : Int32))] [(.int (2 : Int32)), (.int (3 : Int32))]))
      refine P472.xs (fun hA hx hy t k => XS.iload hA hx rfl (hb hy at_52) rfl  k) ?_
      show Go p e below _ (T472.setTop (mkF m 54 #[.val (.int p0), .val (.int p1), .val (.ref o269), .val (.ref o270), .val (.ref o437), .val (.ref o448), .val (.int (1 : Int32)), .val (.int (1 : Int32))] [(.int (1 : Int32)), (.int (2 : Int32)), (.int (3 : Int32))]))
      refine P472.xs (fun hA hx hy t k => XS.iadd hA hx rfl (hb hy at_54) rfl k) ?_
      show Go p e below _ (T472.setTop (mkF m 55 #[.val (.int p0), .val (.int p1), .val (.ref o269), .val (.ref o270), .val (.ref o437), .val (.ref o448), .val (.int (1 : Int32)), .val (.int (1 : Int32))] [(.int (3 : Int32)), (.int (3 : Int32))]))
      refine P472.xs (fun hA hx hy t k => XS.icmpYes hA hx rfl (pc0 := 55) (pc' := 60) rfl (hb hy at_55) rfl (teq rfl).1 (by decide) (by decide) k) ?_
      show Go p e below _ (T472.setTop (mkF m 60 #[.val (.int p0), .val (.int p1), .val (.ref o269), .val (.ref o270), .val (.ref o437), .val (.ref o448), .val (.int (1 : Int32)), .val (.int (1 : Int32))] []))
      refine P472.xs (fun hA hx hy t k => XS.iload hA hx rfl (hb hy at_60) rfl  k) ?_
      show Go p e below _ (T472.setTop (mkF m 62 #[.val (.int p0), .val (.int p1), .val (.ref o269), .val (.ref o270), .val (.ref o437), .val (.ref o448), .val (.int (1 : Int32)), .val (.int (1 : Int32))] [(.int (1 : Int32))]))
      refine P472.xs (fun hA hx hy t k => XS.ifNo hA hx rfl (hb hy at_62) rfl ((if0 _ _).trans (tlt (by decide)).2.2.2) k) ?_
      show Go p e below _ (T472.setTop (mkF m 65 #[.val (.int p0), .val (.int p1), .val (.ref o269), .val (.ref o270), .val (.ref o437), .val (.ref o448), .val (.int (1 : Int32)), .val (.int (1 : Int32))] []))
      refine P472.xs (fun hA hx hy t k => XS.aload hA hx rfl (hb hy at_65) rfl rfl  k) ?_
      show Go p e below _ (T472.setTop (mkF m 67 #[.val (.int p0), .val (.int p1), .val (.ref o269), .val (.ref o270), .val (.ref o437), .val (.ref o448), .val (.int (1 : Int32)), .val (.int (1 : Int32))] [(.ref o448)]))
      refine P472.xs (fun hA hx hy t k => XS.iconst hA hx rfl (hb hy at_67) k) ?_
      show Go p e below _ (T472.setTop (mkF m 68 #[.val (.int p0), .val (.int p1), .val (.ref o269), .val (.ref o270), .val (.ref o437), .val (.ref o448), .val (.int (1 : Int32)), .val (.int (1 : Int32))] [(.int (0 : Int32)), (.ref o448)]))
      refine P472.strCh (W := 0) (hw _ (List.mem_of_getElem? (i := 173) rfl)) (hw _ (List.mem_of_getElem? (i := 174) rfl)) (hw _ (List.mem_of_getElem? (i := 176) rfl)) (hw _ (List.mem_of_getElem? (i := 175) rfl)) (wChN hw) (hw _ (List.mem_of_getElem? (i := 5) rfl)) S0 Pz S_f rf Ec462 V457 C457 A457 hl457 (Nat.le_of_ble_eq_true rfl) (i := 0) (Nat.le_of_ble_eq_true rfl) rfl (ch := ((p0 &&& (255 : Int32)).toUInt32.toUInt16.toUInt32.toInt32)) rfl (by decide) (by decide) (by decide) (by decide) pd_23 rfl rfl (Nat.le_of_eq rfl) at_68 fun T473 P473 => ?_
      show Go p e below _ (T473.setTop (mkF m 71 #[.val (.int p0), .val (.int p1), .val (.ref o269), .val (.ref o270), .val (.ref o437), .val (.ref o448), .val (.int (1 : Int32)), .val (.int (1 : Int32))] [(.int ((p0 &&& (255 : Int32)).toUInt32.toUInt16.toUInt32.toInt32))]))
      refine P473.xs (fun hA hx hy t k => XS.iloadN hA hx rfl (hb hy at_71) rfl  k) ?_
      show Go p e below _ (T473.setTop (mkF m 72 #[.val (.int p0), .val (.int p1), .val (.ref o269), .val (.ref o270), .val (.ref o437), .val (.ref o448), .val (.int (1 : Int32)), .val (.int (1 : Int32))] [(.int p0), (.int ((p0 &&& (255 : Int32)).toUInt32.toUInt16.toUInt32.toInt32))]))
      refine P473.xs (fun hA hx hy t k => XS.sipush hA hx rfl (hb hy at_72) k) ?_
      show Go p e below _ (T473.setTop (mkF m 75 #[.val (.int p0), .val (.int p1), .val (.ref o269), .val (.ref o270), .val (.ref o437), .val (.ref o448), .val (.int (1 : Int32)), .val (.int (1 : Int32))] [(.int (255 : Int32)), (.int p0), (.int ((p0 &&& (255 : Int32)).toUInt32.toUInt16.toUInt32.toInt32))]))
      refine P473.xs (fun hA hx hy t k => XS.iand hA hx rfl (hb hy at_75) rfl k) ?_
      show Go p e below _ (T473.setTop (mkF m 76 #[.val (.int p0), .val (.int p1), .val (.ref o269), .val (.ref o270), .val (.ref o437), .val (.ref o448), .val (.int (1 : Int32)), .val (.int (1 : Int32))] [(.int (p0 &&& (255 : Int32))), (.int ((p0 &&& (255 : Int32)).toUInt32.toUInt16.toUInt32.toInt32))]))
      refine P473.xs (fun hA hx hy t k => XS.i2c hA hx rfl (hb hy at_76) rfl k) ?_
      show Go p e below _ (T473.setTop (mkF m 77 #[.val (.int p0), .val (.int p1), .val (.ref o269), .val (.ref o270), .val (.ref o437), .val (.ref o448), .val (.int (1 : Int32)), .val (.int (1 : Int32))] [(.int ((p0 &&& (255 : Int32)).toUInt32.toUInt16.toUInt32.toInt32)), (.int ((p0 &&& (255 : Int32)).toUInt32.toUInt16.toUInt32.toInt32))]))
      refine P473.xs (fun hA hx hy t k => XS.icmpYes hA hx rfl (pc0 := 77) (pc' := 82) rfl (hb hy at_77) rfl (teq rfl).1 (by decide) (by decide) k) ?_
      show Go p e below _ (T473.setTop (mkF m 82 #[.val (.int p0), .val (.int p1), .val (.ref o269), .val (.ref o270), .val (.ref o437), .val (.ref o448), .val (.int (1 : Int32)), .val (.int (1 : Int32))] []))
      refine P473.xs (fun hA hx hy t k => XS.iload hA hx rfl (hb hy at_82) rfl  k) ?_
      show Go p e below _ (T473.setTop (mkF m 84 #[.val (.int p0), .val (.int p1), .val (.ref o269), .val (.ref o270), .val (.ref o437), .val (.ref o448), .val (.int (1 : Int32)), .val (.int (1 : Int32))] [(.int (1 : Int32))]))
      refine P473.xs (fun hA hx hy t k => XS.iconst hA hx rfl (hb hy at_84) k) ?_
      show Go p e below _ (T473.setTop (mkF m 85 #[.val (.int p0), .val (.int p1), .val (.ref o269), .val (.ref o270), .val (.ref o437), .val (.ref o448), .val (.int (1 : Int32)), .val (.int (1 : Int32))] [(.int (1 : Int32)), (.int (1 : Int32))]))
      refine P473.xs (fun hA hx hy t k => XS.icmpYes hA hx rfl (pc0 := 85) (pc' := 108) rfl (hb hy at_85) rfl (flt (by decide)).2.2.2 (by decide) (by decide) k) ?_
      show Go p e below _ (T473.setTop (mkF m 108 #[.val (.int p0), .val (.int p1), .val (.ref o269), .val (.ref o270), .val (.ref o437), .val (.ref o448), .val (.int (1 : Int32)), .val (.int (1 : Int32))] []))
      refine P473.xs (fun hA hx hy t k => XS.aload hA hx rfl (hb hy at_108) rfl rfl  k) ?_
      show Go p e below _ (T473.setTop (mkF m 110 #[.val (.int p0), .val (.int p1), .val (.ref o269), .val (.ref o270), .val (.ref o437), .val (.ref o448), .val (.int (1 : Int32)), .val (.int (1 : Int32))] [(.ref o448)]))
      refine P473.xs (fun hA hx hy t k => XS.iload hA hx rfl (hb hy at_110) rfl  k) ?_
      show Go p e below _ (T473.setTop (mkF m 112 #[.val (.int p0), .val (.int p1), .val (.ref o269), .val (.ref o270), .val (.ref o437), .val (.ref o448), .val (.int (1 : Int32)), .val (.int (1 : Int32))] [(.int (1 : Int32)), (.ref o448)]))
      refine P473.strCh (W := 0) (hw _ (List.mem_of_getElem? (i := 173) rfl)) (hw _ (List.mem_of_getElem? (i := 174) rfl)) (hw _ (List.mem_of_getElem? (i := 176) rfl)) (hw _ (List.mem_of_getElem? (i := 175) rfl)) (wChN hw) (hw _ (List.mem_of_getElem? (i := 5) rfl)) S0 Pz S_f rf Ec462 V457 C457 A457 hl457 (Nat.le_of_ble_eq_true rfl) (i := 1) (Nat.le_of_ble_eq_true rfl) rfl (ch := (47 : Int32)) rfl (by decide) (by decide) (by decide) (by decide) pd_23 rfl rfl (Nat.le_of_eq rfl) at_112 fun T474 P474 => ?_
      show Go p e below _ (T474.setTop (mkF m 115 #[.val (.int p0), .val (.int p1), .val (.ref o269), .val (.ref o270), .val (.ref o437), .val (.ref o448), .val (.int (1 : Int32)), .val (.int (1 : Int32))] [(.int (47 : Int32))]))
      refine P474.xs (fun hA hx hy t k => XS.bipush hA hx rfl (hb hy at_115) k) ?_
      show Go p e below _ (T474.setTop (mkF m 117 #[.val (.int p0), .val (.int p1), .val (.ref o269), .val (.ref o270), .val (.ref o437), .val (.ref o448), .val (.int (1 : Int32)), .val (.int (1 : Int32))] [(.int (47 : Int32)), (.int (47 : Int32))]))
      refine P474.xs (fun hA hx hy t k => XS.icmpYes hA hx rfl (pc0 := 117) (pc' := 122) rfl (hb hy at_117) rfl (teq rfl).1 (by decide) (by decide) k) ?_
      show Go p e below _ (T474.setTop (mkF m 122 #[.val (.int p0), .val (.int p1), .val (.ref o269), .val (.ref o270), .val (.ref o437), .val (.ref o448), .val (.int (1 : Int32)), .val (.int (1 : Int32))] []))
      refine P474.xs (fun hA hx hy t k => XS.iload hA hx rfl (hb hy at_122) rfl  k) ?_
      show Go p e below _ (T474.setTop (mkF m 124 #[.val (.int p0), .val (.int p1), .val (.ref o269), .val (.ref o270), .val (.ref o437), .val (.ref o448), .val (.int (1 : Int32)), .val (.int (1 : Int32))] [(.int (1 : Int32))]))
      refine P474.xs (fun hA hx hy t k => XS.ifNo hA hx rfl (hb hy at_124) rfl ((if0 _ _).trans (tlt (by decide)).2.2.2) k) ?_
      show Go p e below _ (T474.setTop (mkF m 127 #[.val (.int p0), .val (.int p1), .val (.ref o269), .val (.ref o270), .val (.ref o437), .val (.ref o448), .val (.int (1 : Int32)), .val (.int (1 : Int32))] []))
      refine P474.xs (fun hA hx hy t k => XS.aload hA hx rfl (hb hy at_127) rfl rfl  k) ?_
      show Go p e below _ (T474.setTop (mkF m 129 #[.val (.int p0), .val (.int p1), .val (.ref o269), .val (.ref o270), .val (.ref o437), .val (.ref o448), .val (.int (1 : Int32)), .val (.int (1 : Int32))] [(.ref o448)]))
      refine P474.xs (fun hA hx hy t k => XS.iload hA hx rfl (hb hy at_129) rfl  k) ?_
      show Go p e below _ (T474.setTop (mkF m 131 #[.val (.int p0), .val (.int p1), .val (.ref o269), .val (.ref o270), .val (.ref o437), .val (.ref o448), .val (.int (1 : Int32)), .val (.int (1 : Int32))] [(.int (1 : Int32)), (.ref o448)]))
      refine P474.xs (fun hA hx hy t k => XS.iconst hA hx rfl (hb hy at_131) k) ?_
      show Go p e below _ (T474.setTop (mkF m 132 #[.val (.int p0), .val (.int p1), .val (.ref o269), .val (.ref o270), .val (.ref o437), .val (.ref o448), .val (.int (1 : Int32)), .val (.int (1 : Int32))] [(.int (1 : Int32)), (.int (1 : Int32)), (.ref o448)]))
      refine P474.xs (fun hA hx hy t k => XS.iadd hA hx rfl (hb hy at_132) rfl k) ?_
      show Go p e below _ (T474.setTop (mkF m 133 #[.val (.int p0), .val (.int p1), .val (.ref o269), .val (.ref o270), .val (.ref o437), .val (.ref o448), .val (.int (1 : Int32)), .val (.int (1 : Int32))] [(.int (2 : Int32)), (.ref o448)]))
      refine P474.strCh (W := 0) (hw _ (List.mem_of_getElem? (i := 173) rfl)) (hw _ (List.mem_of_getElem? (i := 174) rfl)) (hw _ (List.mem_of_getElem? (i := 176) rfl)) (hw _ (List.mem_of_getElem? (i := 175) rfl)) (wChN hw) (hw _ (List.mem_of_getElem? (i := 5) rfl)) S0 Pz S_f rf Ec462 V457 C457 A457 hl457 (Nat.le_of_ble_eq_true rfl) (i := 2) (Nat.le_of_ble_eq_true rfl) rfl (ch := ((p1 &&& (255 : Int32)).toUInt32.toUInt16.toUInt32.toInt32)) rfl (by decide) (by decide) (by decide) (by decide) pd_23 rfl rfl (Nat.le_of_eq rfl) at_133 fun T475 P475 => ?_
      show Go p e below _ (T475.setTop (mkF m 136 #[.val (.int p0), .val (.int p1), .val (.ref o269), .val (.ref o270), .val (.ref o437), .val (.ref o448), .val (.int (1 : Int32)), .val (.int (1 : Int32))] [(.int ((p1 &&& (255 : Int32)).toUInt32.toUInt16.toUInt32.toInt32))]))
      refine P475.xs (fun hA hx hy t k => XS.iloadN hA hx rfl (hb hy at_136) rfl  k) ?_
      show Go p e below _ (T475.setTop (mkF m 137 #[.val (.int p0), .val (.int p1), .val (.ref o269), .val (.ref o270), .val (.ref o437), .val (.ref o448), .val (.int (1 : Int32)), .val (.int (1 : Int32))] [(.int p1), (.int ((p1 &&& (255 : Int32)).toUInt32.toUInt16.toUInt32.toInt32))]))
      refine P475.xs (fun hA hx hy t k => XS.sipush hA hx rfl (hb hy at_137) k) ?_
      show Go p e below _ (T475.setTop (mkF m 140 #[.val (.int p0), .val (.int p1), .val (.ref o269), .val (.ref o270), .val (.ref o437), .val (.ref o448), .val (.int (1 : Int32)), .val (.int (1 : Int32))] [(.int (255 : Int32)), (.int p1), (.int ((p1 &&& (255 : Int32)).toUInt32.toUInt16.toUInt32.toInt32))]))
      refine P475.xs (fun hA hx hy t k => XS.iand hA hx rfl (hb hy at_140) rfl k) ?_
      show Go p e below _ (T475.setTop (mkF m 141 #[.val (.int p0), .val (.int p1), .val (.ref o269), .val (.ref o270), .val (.ref o437), .val (.ref o448), .val (.int (1 : Int32)), .val (.int (1 : Int32))] [(.int (p1 &&& (255 : Int32))), (.int ((p1 &&& (255 : Int32)).toUInt32.toUInt16.toUInt32.toInt32))]))
      refine P475.xs (fun hA hx hy t k => XS.i2c hA hx rfl (hb hy at_141) rfl k) ?_
      show Go p e below _ (T475.setTop (mkF m 142 #[.val (.int p0), .val (.int p1), .val (.ref o269), .val (.ref o270), .val (.ref o437), .val (.ref o448), .val (.int (1 : Int32)), .val (.int (1 : Int32))] [(.int ((p1 &&& (255 : Int32)).toUInt32.toUInt16.toUInt32.toInt32)), (.int ((p1 &&& (255 : Int32)).toUInt32.toUInt16.toUInt32.toInt32))]))
      refine P475.xs (fun hA hx hy t k => XS.icmpYes hA hx rfl (pc0 := 142) (pc' := 147) rfl (hb hy at_142) rfl (teq rfl).1 (by decide) (by decide) k) ?_
      show Go p e below _ (T475.setTop (mkF m 147 #[.val (.int p0), .val (.int p1), .val (.ref o269), .val (.ref o270), .val (.ref o437), .val (.ref o448), .val (.int (1 : Int32)), .val (.int (1 : Int32))] []))
      refine P475.xs (fun hA hx hy t k => XS.iload hA hx rfl (hb hy at_147) rfl  k) ?_
      show Go p e below _ (T475.setTop (mkF m 149 #[.val (.int p0), .val (.int p1), .val (.ref o269), .val (.ref o270), .val (.ref o437), .val (.ref o448), .val (.int (1 : Int32)), .val (.int (1 : Int32))] [(.int (1 : Int32))]))
      refine P475.xs (fun hA hx hy t k => XS.iconst hA hx rfl (hb hy at_149) k) ?_
      show Go p e below _ (T475.setTop (mkF m 150 #[.val (.int p0), .val (.int p1), .val (.ref o269), .val (.ref o270), .val (.ref o437), .val (.ref o448), .val (.int (1 : Int32)), .val (.int (1 : Int32))] [(.int (1 : Int32)), (.int (1 : Int32))]))
      refine P475.xs (fun hA hx hy t k => XS.icmpYes hA hx rfl (pc0 := 150) (pc' := 176) rfl (hb hy at_150) rfl (flt (by decide)).2.2.2 (by decide) (by decide) k) ?_
      show Go p e below _ (T475.setTop (mkF m 176 #[.val (.int p0), .val (.int p1), .val (.ref o269), .val (.ref o270), .val (.ref o437), .val (.ref o448), .val (.int (1 : Int32)), .val (.int (1 : Int32))] []))
      refine P475.xs (fun hA hx hy t k => XS.iconst hA hx rfl (hb hy at_176) k) ?_
      show Go p e below _ (T475.setTop (mkF m 177 #[.val (.int p0), .val (.int p1), .val (.ref o269), .val (.ref o270), .val (.ref o437), .val (.ref o448), .val (.int (1 : Int32)), .val (.int (1 : Int32))] [(.int (1 : Int32))]))
      exact P475.retN (t := .boolean) rfl (by simp) at_177 (by decide) (by decide) rfl
    · have So476 : Str Z h270 o269 ([((p0 &&& (255 : Int32)).toUInt32.toUInt16.toUInt32.toInt32)] : List Int32) := by have q := Sc274; rw [cs3_1 (n := 1) (by decide) rfl] at q; exact q
      have hl476 : ∀ c ∈ ([((p0 &&& (255 : Int32)).toUInt32.toUInt16.toUInt32.toInt32)] : List Int32), ¬ c < 0 ∧ ¬ (255 : Int32) < c := (latS (chr255 rfl).1 lat0)
      obtain ⟨tt476, kt476, V476, C476, A476⟩ := strLat So476 hl476
      have So477 : Str Z h270 o270 ([((p1 &&& (255 : Int32)).toUInt32.toUInt16.toUInt32.toInt32), ((((p1.toUInt32 >>> ((8 : Int32) &&& 31).toUInt32).toInt32) &&& (255 : Int32)).toUInt32.toUInt16.toUInt32.toInt32)] : List Int32) := by have q := Ss270; rw [cs3_2 (n := 2) (by decide) (by decide) rfl] at q; exact q
      have hl477 : ∀ c ∈ ([((p1 &&& (255 : Int32)).toUInt32.toUInt16.toUInt32.toInt32), ((((p1.toUInt32 >>> ((8 : Int32) &&& 31).toUInt32).toInt32) &&& (255 : Int32)).toUInt32.toUInt16.toUInt32.toInt32)] : List Int32), ¬ c < 0 ∧ ¬ (255 : Int32) < c := (latS (chr255 rfl).1 (latS (chr255 rfl).1 lat0))
      obtain ⟨tt477, kt477, V477, C477, A477⟩ := strLat So477 hl477
      show Go p e below _ (T270.setTop (mkF m 10 #[.val (.int p0), .val (.int p1), .val (.ref o269), .val (.ref o270), .unset, .unset, .unset, .unset] []))
      refine P270.newO (hw _ (List.mem_of_getElem? (i := 26) rfl)) (hw _ (List.mem_of_getElem? (i := 27) rfl)) (hw _ (List.mem_of_getElem? (i := 28) rfl)) at_10 (by decide) (by decide) fun T478 h478 o478 g478 P478 E478 A478 D478 => ?_
      have ne_o269_o478 : o269 ≠ o478 := Nat.ne_of_lt (Nat.lt_of_lt_of_le So476.1.lt (Nat.le_of_eq g478.symm))
      have ne_o270_o478 : o270 ≠ o478 := Nat.ne_of_lt (Nat.lt_of_lt_of_le So477.1.lt (Nat.le_of_eq g478.symm))
      have ne_tt476_o478 : tt476 ≠ o478 := Nat.ne_of_lt (Nat.lt_of_lt_of_le A476.lt (Nat.le_of_eq g478.symm))
      have ne_tt477_o478 : tt477 ≠ o478 := Nat.ne_of_lt (Nat.lt_of_lt_of_le A477.lt (Nat.le_of_eq g478.symm))
      have gz_o478 : Z.heap.size ≤ o478 := Nat.le_trans P270.old.1 (Nat.le_of_eq g478.symm)
      have gw_o478 : h0.size ≤ o478 := Nat.le_trans P270.kept.1 (Nat.le_of_eq g478.symm)
      have F478_type : Fld Z h478 o478 "com/example/certain_answers/certainanswers/server/MediaType" "type" "Ljava/lang/String;" .null := D478 (Or.inr (hw _ (List.mem_of_getElem? (i := 50) rfl))) (ty := (.object "java/lang/String")) (by decide)
      have F478_subtype : Fld Z h478 o478 "com/example/certain_answers/certainanswers/server/MediaType" "subtype" "Ljava/lang/String;" .null := D478 (Or.inr (hw _ (List.mem_of_getElem? (i := 52) rfl))) (ty := (.object "java/lang/String")) (by decide)
      have F478_parameters : Fld Z h478 o478 "com/example/certain_answers/certainanswers/server/MediaType" "parameters" "Ljava/util/Map;" .null := D478 (Or.inr (hw _ (List.mem_of_getElem? (i := 54) rfl))) (ty := (.object "java/util/Map")) (by decide)
      show Go p e below _ (T478.setTop (mkF m 13 #[.val (.int p0), .val (.int p1), .val (.ref o269), .val (.ref o270), .unset, .unset, .unset, .unset] [(.ref o478)]))
      refine P478.xs (fun hA hx hy t k => XS.dup hA hx rfl (hb hy at_13) rfl rfl k) ?_
      show Go p e below _ (T478.setTop (mkF m 14 #[.val (.int p0), .val (.int p1), .val (.ref o269), .val (.ref o270), .unset, .unset, .unset, .unset] [(.ref o478), (.ref o478)]))
      refine P478.xs (fun hA hx hy t k => XS.aloadN hA hx rfl (hb hy at_14) rfl rfl  k) ?_
      show Go p e below _ (T478.setTop (mkF m 15 #[.val (.int p0), .val (.int p1), .val (.ref o269), .val (.ref o270), .unset, .unset, .unset, .unset] [(.ref o269), (.ref o478), (.ref o478)]))
      refine P478.xs (fun hA hx hy t k => XS.aloadN hA hx rfl (hb hy at_15) rfl rfl  k) ?_
      show Go p e below _ (T478.setTop (mkF m 16 #[.val (.int p0), .val (.int p1), .val (.ref o269), .val (.ref o270), .unset, .unset, .unset, .unset] [(.ref o270), (.ref o269), (.ref o478), (.ref o478)]))
      have Ec480 : Exa Z h478 o269 "java/lang/String" := (So476.1.ext E478)
      have Ec481 : Exa Z h478 o270 "java/lang/String" := (So477.1.ext E478)
      have Fc482 : Fld Z h478 o269 "java/lang/String" "value" "[B" (.ref tt476) := (V476.ext E478)
      have Fc483 : Fld Z h478 o269 "java/lang/String" "coder" "B" (.int (0 : Int32)) := (C476.ext E478)
      have Fc484 : Fld Z h478 o270 "java/lang/String" "value" "[B" (.ref tt477) := (V477.ext E478)
      have Fc485 : Fld Z h478 o270 "java/lang/String" "coder" "B" (.int (0 : Int32)) := (C477.ext E478)
      have Ac486 : Arv Z h478 tt476 kt476 .byte (Int32.ofNat ([((p0 &&& (255 : Int32)).toUInt32.toUInt16.toUInt32.toInt32)] : List Int32).length) ((([((p0 &&& (255 : Int32)).toUInt32.toUInt16.toUInt32.toInt32)] : List Int32).map StrChars.lo8).map Value.int) (.int 0) := (A476.ext E478)
      have Ac487 : Arv Z h478 tt477 kt477 .byte (Int32.ofNat ([((p1 &&& (255 : Int32)).toUInt32.toUInt16.toUInt32.toInt32), ((((p1.toUInt32 >>> ((8 : Int32) &&& 31).toUInt32).toInt32) &&& (255 : Int32)).toUInt32.toUInt16.toUInt32.toInt32)] : List Int32).length) ((([((p1 &&& (255 : Int32)).toUInt32.toUInt16.toUInt32.toInt32), ((((p1.toUInt32 >>> ((8 : Int32) &&& 31).toUInt32).toInt32) &&& (255 : Int32)).toUInt32.toUInt16.toUInt32.toInt32)] : List Int32).map StrChars.lo8).map Value.int) (.int 0) := (A477.ext E478)
      refine P478.callS (hw _ (List.mem_of_getElem? (i := 29) rfl)) (hw _ (List.mem_of_getElem? (i := 30) rfl)) (hw _ (List.mem_of_getElem? (i := 31) rfl)) (hw _ (List.mem_of_getElem? (i := 32) rfl)) (by decide) (mMof l Z a0 hw hEL zc S0 Pz w_M S_M E_M fm S_f rf  h478 P478.old) (W := 4) (by decide) (by decide) (by decide) (by decide) all0 pd_21 (argsL := []) rfl rfl rfl (Nat.le_of_eq rfl) at_16 fun v479 T479 h479 P479 K479 Q479 => ?_
      obtain ⟨hv479, hh479⟩ := Q479
      subst hv479
      rw [hh479] at P479
      show Go p e below _ (T479.setTop (mkF m 19 #[.val (.int p0), .val (.int p1), .val (.ref o269), .val (.ref o270), .unset, .unset, .unset, .unset] [(.ref w_M), (.ref o270), (.ref o269), (.ref o478), (.ref o478)]))
      refine P479.callI rfl (hw _ (List.mem_of_getElem? (i := 35) rfl)) (hw _ (List.mem_of_getElem? (i := 36) rfl)) (hw _ (List.mem_of_getElem? (i := 28) rfl)) (hw _ (List.mem_of_getElem? (i := 37) rfl)) (by decide) (mMT l Z a0 hw hEL zc S0 Pz w_M S_M E_M fm S_f rf o478 o269 o270 h478 P479.old A478 F478_type F478_subtype F478_parameters gz_o478) (W := 1) (by decide) (by decide) (by decide) (by decide) (allS (Or.inr gw_o478) all0) pd_22 (argsL := [(.ref o269), (.ref o270), (.ref w_M)]) rfl rfl rfl (Nat.le_of_eq rfl) at_19 fun v488 T488 h488 P488 K488 Q488 => ?_
      obtain ⟨rfl, E488, Ft488, Fu488⟩ := Q488
      show Go p e below _ (T488.setTop (mkF m 22 #[.val (.int p0), .val (.int p1), .val (.ref o269), .val (.ref o270), .unset, .unset, .unset, .unset] [(.ref o478)]))
      refine P488.xs (fun hA hx hy t k => XS.astore hA hx rfl (hb hy at_22) rfl rfl (l' := #[.val (.int p0), .val (.int p1), .val (.ref o269), .val (.ref o270), .val (.ref o478), .unset, .unset, .unset]) rfl k) ?_
      show Go p e below _ (T488.setTop (mkF m 24 #[.val (.int p0), .val (.int p1), .val (.ref o269), .val (.ref o270), .val (.ref o478), .unset, .unset, .unset] []))
      refine P488.xs (fun hA hx hy t k => XS.aload hA hx rfl (hb hy at_24) rfl rfl  k) ?_
      show Go p e below _ (T488.setTop (mkF m 26 #[.val (.int p0), .val (.int p1), .val (.ref o269), .val (.ref o270), .val (.ref o478), .unset, .unset, .unset] [(.ref o478)]))
      have Ec490 : Exa Z h488 o269 "java/lang/String" := (Ec480.keep K488)
      have Ec491 : Exa Z h488 o270 "java/lang/String" := (Ec481.keep K488)
      have Fc492 : Fld Z h488 o269 "java/lang/String" "value" "[B" (.ref tt476) := (Fc482.keep K488 (ninS ne_o269_o478 nin0))
      have Fc493 : Fld Z h488 o269 "java/lang/String" "coder" "B" (.int (0 : Int32)) := (Fc483.keep K488 (ninS ne_o269_o478 nin0))
      have Fc494 : Fld Z h488 o270 "java/lang/String" "value" "[B" (.ref tt477) := (Fc484.keep K488 (ninS ne_o270_o478 nin0))
      have Fc495 : Fld Z h488 o270 "java/lang/String" "coder" "B" (.int (0 : Int32)) := (Fc485.keep K488 (ninS ne_o270_o478 nin0))
      have Ac496 : Arv Z h488 tt476 kt476 .byte (Int32.ofNat ([((p0 &&& (255 : Int32)).toUInt32.toUInt16.toUInt32.toInt32)] : List Int32).length) ((([((p0 &&& (255 : Int32)).toUInt32.toUInt16.toUInt32.toInt32)] : List Int32).map StrChars.lo8).map Value.int) (.int 0) := (Ac486.keep K488 (ninS ne_tt476_o478 nin0))
      have Ac497 : Arv Z h488 tt477 kt477 .byte (Int32.ofNat ([((p1 &&& (255 : Int32)).toUInt32.toUInt16.toUInt32.toInt32), ((((p1.toUInt32 >>> ((8 : Int32) &&& 31).toUInt32).toInt32) &&& (255 : Int32)).toUInt32.toUInt16.toUInt32.toInt32)] : List Int32).length) ((([((p1 &&& (255 : Int32)).toUInt32.toUInt16.toUInt32.toInt32), ((((p1.toUInt32 >>> ((8 : Int32) &&& 31).toUInt32).toInt32) &&& (255 : Int32)).toUInt32.toUInt16.toUInt32.toInt32)] : List Int32).map StrChars.lo8).map Value.int) (.int 0) := (Ac487.keep K488 (ninS ne_tt477_o478 nin0))
      refine P488.callV (hw _ (List.mem_of_getElem? (i := 55) rfl)) (hw _ (List.mem_of_getElem? (i := 56) rfl)) (hw _ (List.mem_of_getElem? (i := 58) rfl)) (nfOf (hw _ (List.mem_of_getElem? (i := 58) rfl))) (hw _ (List.mem_of_getElem? (i := 57) rfl)) (hw _ (List.mem_of_getElem? (i := 28) rfl)) (hw _ (List.mem_of_getElem? (i := 59) rfl)) (by decide) E488 (mEss l Z a0 hw hEL zc S0 Pz w_M S_M E_M fm S_f rf o478 o269 tt476 o270 tt477 kt476 kt477 ([((p0 &&& (255 : Int32)).toUInt32.toUInt16.toUInt32.toInt32)] : List Int32) ([((p1 &&& (255 : Int32)).toUInt32.toUInt16.toUInt32.toInt32), ((((p1.toUInt32 >>> ((8 : Int32) &&& 31).toUInt32).toInt32) &&& (255 : Int32)).toUInt32.toUInt16.toUInt32.toInt32)] : List Int32) h488 P488.old E488 Ft488 Fu488 Ec490 Fc492 Fc493 Ac496 Ec491 Fc494 Fc495 Ac497 hl476 hl477 (Nat.le_of_ble_eq_true rfl) (Nat.le_of_ble_eq_true rfl)) (W := 0) (by decide) (by decide) (by decide) (by decide) all0 pd_18 (argsL := []) rfl rfl rfl (Nat.le_of_eq rfl) at_26 fun v489 T489 h489 P489 K489 Q489 => ?_
      obtain ⟨o489, rfl, g489, Ss489⟩ := Q489
      have ne_o269_o489 : o269 ≠ o489 := Nat.ne_of_lt (Nat.lt_of_lt_of_le Ec490.lt g489)
      have ne_o270_o489 : o270 ≠ o489 := Nat.ne_of_lt (Nat.lt_of_lt_of_le Ec491.lt g489)
      have ne_o478_o489 : o478 ≠ o489 := Nat.ne_of_lt (Nat.lt_of_lt_of_le E488.lt g489)
      have ne_tt476_o489 : tt476 ≠ o489 := Nat.ne_of_lt (Nat.lt_of_lt_of_le Ac496.lt g489)
      have ne_tt477_o489 : tt477 ≠ o489 := Nat.ne_of_lt (Nat.lt_of_lt_of_le Ac497.lt g489)
      have gz_o489 : Z.heap.size ≤ o489 := Nat.le_trans P488.old.1 g489
      have gw_o489 : h0.size ≤ o489 := Nat.le_trans P488.kept.1 g489
      have So498 : Str Z h489 o489 ([((p0 &&& (255 : Int32)).toUInt32.toUInt16.toUInt32.toInt32), (47 : Int32), ((p1 &&& (255 : Int32)).toUInt32.toUInt16.toUInt32.toInt32), ((((p1.toUInt32 >>> ((8 : Int32) &&& 31).toUInt32).toInt32) &&& (255 : Int32)).toUInt32.toUInt16.toUInt32.toInt32)] : List Int32) := Ss489
      have hl498 : ∀ c ∈ ([((p0 &&& (255 : Int32)).toUInt32.toUInt16.toUInt32.toInt32), (47 : Int32), ((p1 &&& (255 : Int32)).toUInt32.toUInt16.toUInt32.toInt32), ((((p1.toUInt32 >>> ((8 : Int32) &&& 31).toUInt32).toInt32) &&& (255 : Int32)).toUInt32.toUInt16.toUInt32.toInt32)] : List Int32), ¬ c < 0 ∧ ¬ (255 : Int32) < c := (latS (chr255 rfl).1 (latS (by decide) (latS (chr255 rfl).1 (latS (chr255 rfl).1 lat0))))
      obtain ⟨tt498, kt498, V498, C498, A498⟩ := strLat So498 hl498
      show Go p e below _ (T489.setTop (mkF m 29 #[.val (.int p0), .val (.int p1), .val (.ref o269), .val (.ref o270), .val (.ref o478), .unset, .unset, .unset] [(.ref o489)]))
      refine P489.xs (fun hA hx hy t k => XS.astore hA hx rfl (hb hy at_29) rfl rfl (l' := #[.val (.int p0), .val (.int p1), .val (.ref o269), .val (.ref o270), .val (.ref o478), .val (.ref o489), .unset, .unset]) rfl k) ?_
      show Go p e below _ (T489.setTop (mkF m 31 #[.val (.int p0), .val (.int p1), .val (.ref o269), .val (.ref o270), .val (.ref o478), .val (.ref o489), .unset, .unset] []))
      refine P489.xs (fun hA hx hy t k => XS.aloadN hA hx rfl (hb hy at_31) rfl rfl  k) ?_
      show Go p e below _ (T489.setTop (mkF m 32 #[.val (.int p0), .val (.int p1), .val (.ref o269), .val (.ref o270), .val (.ref o478), .val (.ref o489), .unset, .unset] [(.ref o269)]))
      have Ec500 : Exa Z h489 o269 "java/lang/String" := (Ec490.keep K489)
      have Ec501 : Exa Z h489 o270 "java/lang/String" := (Ec491.keep K489)
      have Ec502 : Exa Z h489 o478 "com/example/certain_answers/certainanswers/server/MediaType" := (E488.keep K489)
      have Ec503 : Exa Z h489 o489 "java/lang/String" := So498.1
      have Fc504 : Fld Z h489 o269 "java/lang/String" "value" "[B" (.ref tt476) := (Fc492.keep K489 nin0)
      have Fc505 : Fld Z h489 o269 "java/lang/String" "coder" "B" (.int (0 : Int32)) := (Fc493.keep K489 nin0)
      have Fc506 : Fld Z h489 o270 "java/lang/String" "value" "[B" (.ref tt477) := (Fc494.keep K489 nin0)
      have Fc507 : Fld Z h489 o270 "java/lang/String" "coder" "B" (.int (0 : Int32)) := (Fc495.keep K489 nin0)
      have Fc508 : Fld Z h489 o478 "com/example/certain_answers/certainanswers/server/MediaType" "type" "Ljava/lang/String;" (.ref o269) := (Ft488.keep K489 nin0)
      have Fc509 : Fld Z h489 o478 "com/example/certain_answers/certainanswers/server/MediaType" "subtype" "Ljava/lang/String;" (.ref o270) := (Fu488.keep K489 nin0)
      have Ac510 : Arv Z h489 tt476 kt476 .byte (Int32.ofNat ([((p0 &&& (255 : Int32)).toUInt32.toUInt16.toUInt32.toInt32)] : List Int32).length) ((([((p0 &&& (255 : Int32)).toUInt32.toUInt16.toUInt32.toInt32)] : List Int32).map StrChars.lo8).map Value.int) (.int 0) := (Ac496.keep K489 nin0)
      have Ac511 : Arv Z h489 tt477 kt477 .byte (Int32.ofNat ([((p1 &&& (255 : Int32)).toUInt32.toUInt16.toUInt32.toInt32), ((((p1.toUInt32 >>> ((8 : Int32) &&& 31).toUInt32).toInt32) &&& (255 : Int32)).toUInt32.toUInt16.toUInt32.toInt32)] : List Int32).length) ((([((p1 &&& (255 : Int32)).toUInt32.toUInt16.toUInt32.toInt32), ((((p1.toUInt32 >>> ((8 : Int32) &&& 31).toUInt32).toInt32) &&& (255 : Int32)).toUInt32.toUInt16.toUInt32.toInt32)] : List Int32).map StrChars.lo8).map Value.int) (.int 0) := (Ac497.keep K489 nin0)
      refine P489.callV (hw _ (List.mem_of_getElem? (i := 172) rfl)) (hw _ (List.mem_of_getElem? (i := 89) rfl)) (hw _ (List.mem_of_getElem? (i := 91) rfl)) (nfOf (hw _ (List.mem_of_getElem? (i := 91) rfl))) (hw _ (List.mem_of_getElem? (i := 90) rfl)) (hw _ (List.mem_of_getElem? (i := 6) rfl)) (hw _ (List.mem_of_getElem? (i := 92) rfl)) (by decide) Ec500 (mLen l Z a0 hw hEL zc S0 Pz w_M S_M E_M fm S_f rf o269 tt476 kt476 ([((p0 &&& (255 : Int32)).toUInt32.toUInt16.toUInt32.toInt32)] : List Int32) h489 P489.old Ec500 Fc504 Fc505 Ac510) (W := 0) (by decide) (by decide) (by decide) (by decide) all0 pd_4 (argsL := []) rfl rfl rfl (Nat.le_of_eq rfl) at_32 fun v499 T499 h499 P499 K499 Q499 => ?_
      obtain ⟨hv499, hh499⟩ := Q499
      subst hv499
      rw [hh499] at P499
      show Go p e below _ (T499.setTop (mkF m 35 #[.val (.int p0), .val (.int p1), .val (.ref o269), .val (.ref o270), .val (.ref o478), .val (.ref o489), .unset, .unset] [(.int (1 : Int32))]))
      refine P499.xs (fun hA hx hy t k => XS.istore hA hx rfl (hb hy at_35) rfl (l' := #[.val (.int p0), .val (.int p1), .val (.ref o269), .val (.ref o270), .val (.ref o478), .val (.ref o489), .val (.int (1 : Int32)), .unset]) rfl k) ?_
      show Go p e below _ (T499.setTop (mkF m 37 #[.val (.int p0), .val (.int p1), .val (.ref o269), .val (.ref o270), .val (.ref o478), .val (.ref o489), .val (.int (1 : Int32)), .unset] []))
      refine P499.xs (fun hA hx hy t k => XS.aloadN hA hx rfl (hb hy at_37) rfl rfl  k) ?_
      show Go p e below _ (T499.setTop (mkF m 38 #[.val (.int p0), .val (.int p1), .val (.ref o269), .val (.ref o270), .val (.ref o478), .val (.ref o489), .val (.int (1 : Int32)), .unset] [(.ref o270)]))
      refine P499.callV (hw _ (List.mem_of_getElem? (i := 172) rfl)) (hw _ (List.mem_of_getElem? (i := 89) rfl)) (hw _ (List.mem_of_getElem? (i := 91) rfl)) (nfOf (hw _ (List.mem_of_getElem? (i := 91) rfl))) (hw _ (List.mem_of_getElem? (i := 90) rfl)) (hw _ (List.mem_of_getElem? (i := 6) rfl)) (hw _ (List.mem_of_getElem? (i := 92) rfl)) (by decide) Ec501 (mLen l Z a0 hw hEL zc S0 Pz w_M S_M E_M fm S_f rf o270 tt477 kt477 ([((p1 &&& (255 : Int32)).toUInt32.toUInt16.toUInt32.toInt32), ((((p1.toUInt32 >>> ((8 : Int32) &&& 31).toUInt32).toInt32) &&& (255 : Int32)).toUInt32.toUInt16.toUInt32.toInt32)] : List Int32) h489 P499.old Ec501 Fc506 Fc507 Ac511) (W := 0) (by decide) (by decide) (by decide) (by decide) all0 pd_4 (argsL := []) rfl rfl rfl (Nat.le_of_eq rfl) at_38 fun v512 T512 h512 P512 K512 Q512 => ?_
      obtain ⟨hv512, hh512⟩ := Q512
      subst hv512
      rw [hh512] at P512
      show Go p e below _ (T512.setTop (mkF m 41 #[.val (.int p0), .val (.int p1), .val (.ref o269), .val (.ref o270), .val (.ref o478), .val (.ref o489), .val (.int (1 : Int32)), .unset] [(.int (2 : Int32))]))
      refine P512.xs (fun hA hx hy t k => XS.istore hA hx rfl (hb hy at_41) rfl (l' := #[.val (.int p0), .val (.int p1), .val (.ref o269), .val (.ref o270), .val (.ref o478), .val (.ref o489), .val (.int (1 : Int32)), .val (.int (2 : Int32))]) rfl k) ?_
      show Go p e below _ (T512.setTop (mkF m 43 #[.val (.int p0), .val (.int p1), .val (.ref o269), .val (.ref o270), .val (.ref o478), .val (.ref o489), .val (.int (1 : Int32)), .val (.int (2 : Int32))] []))
      refine P512.xs (fun hA hx hy t k => XS.aload hA hx rfl (hb hy at_43) rfl rfl  k) ?_
      show Go p e below _ (T512.setTop (mkF m 45 #[.val (.int p0), .val (.int p1), .val (.ref o269), .val (.ref o270), .val (.ref o478), .val (.ref o489), .val (.int (1 : Int32)), .val (.int (2 : Int32))] [(.ref o489)]))
      refine P512.callV (hw _ (List.mem_of_getElem? (i := 172) rfl)) (hw _ (List.mem_of_getElem? (i := 89) rfl)) (hw _ (List.mem_of_getElem? (i := 91) rfl)) (nfOf (hw _ (List.mem_of_getElem? (i := 91) rfl))) (hw _ (List.mem_of_getElem? (i := 90) rfl)) (hw _ (List.mem_of_getElem? (i := 6) rfl)) (hw _ (List.mem_of_getElem? (i := 92) rfl)) (by decide) Ec503 (mLen l Z a0 hw hEL zc S0 Pz w_M S_M E_M fm S_f rf o489 tt498 kt498 ([((p0 &&& (255 : Int32)).toUInt32.toUInt16.toUInt32.toInt32), (47 : Int32), ((p1 &&& (255 : Int32)).toUInt32.toUInt16.toUInt32.toInt32), ((((p1.toUInt32 >>> ((8 : Int32) &&& 31).toUInt32).toInt32) &&& (255 : Int32)).toUInt32.toUInt16.toUInt32.toInt32)] : List Int32) h489 P512.old Ec503 V498 C498 A498) (W := 0) (by decide) (by decide) (by decide) (by decide) all0 pd_4 (argsL := []) rfl rfl rfl (Nat.le_of_eq rfl) at_45 fun v513 T513 h513 P513 K513 Q513 => ?_
      obtain ⟨hv513, hh513⟩ := Q513
      subst hv513
      rw [hh513] at P513
      show Go p e below _ (T513.setTop (mkF m 48 #[.val (.int p0), .val (.int p1), .val (.ref o269), .val (.ref o270), .val (.ref o478), .val (.ref o489), .val (.int (1 : Int32)), .val (.int (2 : Int32))] [(.int (4 : Int32))]))
      refine P513.xs (fun hA hx hy t k => XS.iload hA hx rfl (hb hy at_48) rfl  k) ?_
      show Go p e below _ (T513.setTop (mkF m 50 #[.val (.int p0), .val (.int p1), .val (.ref o269), .val (.ref o270), .val (.ref o478), .val (.ref o489), .val (.int (1 : Int32)), .val (.int (2 : Int32))] [(.int (1 : Int32)), (.int (4 : Int32))]))
      refine P513.xs (fun hA hx hy t k => XS.iconst hA hx rfl (hb hy at_50) k) ?_
      show Go p e below _ (T513.setTop (mkF m 51 #[.val (.int p0), .val (.int p1), .val (.ref o269), .val (.ref o270), .val (.ref o478), .val (.ref o489), .val (.int (1 : Int32)), .val (.int (2 : Int32))] [(.int (1 : Int32)), (.int (1 : Int32)), (.int (4 : Int32))]))
      refine P513.xs (fun hA hx hy t k => XS.iadd hA hx rfl (hb hy at_51) rfl k) ?_
      show Go p e below _ (T513.setTop (mkF m 52 #[.val (.int p0), .val (.int p1), .val (.ref o269), .val (.ref o270), .val (.ref o478), .val (.ref o489), .val (.int (1 : Int32)), .val (.int (2 : Int32))] [(.int (2 : Int32)), (.int (4 : Int32))]))
      refine P513.xs (fun hA hx hy t k => XS.iload hA hx rfl (hb hy at_52) rfl  k) ?_
      show Go p e below _ (T513.setTop (mkF m 54 #[.val (.int p0), .val (.int p1), .val (.ref o269), .val (.ref o270), .val (.ref o478), .val (.ref o489), .val (.int (1 : Int32)), .val (.int (2 : Int32))] [(.int (2 : Int32)), (.int (2 : Int32)), (.int (4 : Int32))]))
      refine P513.xs (fun hA hx hy t k => XS.iadd hA hx rfl (hb hy at_54) rfl k) ?_
      show Go p e below _ (T513.setTop (mkF m 55 #[.val (.int p0), .val (.int p1), .val (.ref o269), .val (.ref o270), .val (.ref o478), .val (.ref o489), .val (.int (1 : Int32)), .val (.int (2 : Int32))] [(.int (4 : Int32)), (.int (4 : Int32))]))
      refine P513.xs (fun hA hx hy t k => XS.icmpYes hA hx rfl (pc0 := 55) (pc' := 60) rfl (hb hy at_55) rfl (teq rfl).1 (by decide) (by decide) k) ?_
      show Go p e below _ (T513.setTop (mkF m 60 #[.val (.int p0), .val (.int p1), .val (.ref o269), .val (.ref o270), .val (.ref o478), .val (.ref o489), .val (.int (1 : Int32)), .val (.int (2 : Int32))] []))
      refine P513.xs (fun hA hx hy t k => XS.iload hA hx rfl (hb hy at_60) rfl  k) ?_
      show Go p e below _ (T513.setTop (mkF m 62 #[.val (.int p0), .val (.int p1), .val (.ref o269), .val (.ref o270), .val (.ref o478), .val (.ref o489), .val (.int (1 : Int32)), .val (.int (2 : Int32))] [(.int (1 : Int32))]))
      refine P513.xs (fun hA hx hy t k => XS.ifNo hA hx rfl (hb hy at_62) rfl ((if0 _ _).trans (tlt (by decide)).2.2.2) k) ?_
      show Go p e below _ (T513.setTop (mkF m 65 #[.val (.int p0), .val (.int p1), .val (.ref o269), .val (.ref o270), .val (.ref o478), .val (.ref o489), .val (.int (1 : Int32)), .val (.int (2 : Int32))] []))
      refine P513.xs (fun hA hx hy t k => XS.aload hA hx rfl (hb hy at_65) rfl rfl  k) ?_
      show Go p e below _ (T513.setTop (mkF m 67 #[.val (.int p0), .val (.int p1), .val (.ref o269), .val (.ref o270), .val (.ref o478), .val (.ref o489), .val (.int (1 : Int32)), .val (.int (2 : Int32))] [(.ref o489)]))
      refine P513.xs (fun hA hx hy t k => XS.iconst hA hx rfl (hb hy at_67) k) ?_
      show Go p e below _ (T513.setTop (mkF m 68 #[.val (.int p0), .val (.int p1), .val (.ref o269), .val (.ref o270), .val (.ref o478), .val (.ref o489), .val (.int (1 : Int32)), .val (.int (2 : Int32))] [(.int (0 : Int32)), (.ref o489)]))
      refine P513.strCh (W := 0) (hw _ (List.mem_of_getElem? (i := 173) rfl)) (hw _ (List.mem_of_getElem? (i := 174) rfl)) (hw _ (List.mem_of_getElem? (i := 176) rfl)) (hw _ (List.mem_of_getElem? (i := 175) rfl)) (wChN hw) (hw _ (List.mem_of_getElem? (i := 5) rfl)) S0 Pz S_f rf Ec503 V498 C498 A498 hl498 (Nat.le_of_ble_eq_true rfl) (i := 0) (Nat.le_of_ble_eq_true rfl) rfl (ch := ((p0 &&& (255 : Int32)).toUInt32.toUInt16.toUInt32.toInt32)) rfl (by decide) (by decide) (by decide) (by decide) pd_23 rfl rfl (Nat.le_of_eq rfl) at_68 fun T514 P514 => ?_
      show Go p e below _ (T514.setTop (mkF m 71 #[.val (.int p0), .val (.int p1), .val (.ref o269), .val (.ref o270), .val (.ref o478), .val (.ref o489), .val (.int (1 : Int32)), .val (.int (2 : Int32))] [(.int ((p0 &&& (255 : Int32)).toUInt32.toUInt16.toUInt32.toInt32))]))
      refine P514.xs (fun hA hx hy t k => XS.iloadN hA hx rfl (hb hy at_71) rfl  k) ?_
      show Go p e below _ (T514.setTop (mkF m 72 #[.val (.int p0), .val (.int p1), .val (.ref o269), .val (.ref o270), .val (.ref o478), .val (.ref o489), .val (.int (1 : Int32)), .val (.int (2 : Int32))] [(.int p0), (.int ((p0 &&& (255 : Int32)).toUInt32.toUInt16.toUInt32.toInt32))]))
      refine P514.xs (fun hA hx hy t k => XS.sipush hA hx rfl (hb hy at_72) k) ?_
      show Go p e below _ (T514.setTop (mkF m 75 #[.val (.int p0), .val (.int p1), .val (.ref o269), .val (.ref o270), .val (.ref o478), .val (.ref o489), .val (.int (1 : Int32)), .val (.int (2 : Int32))] [(.int (255 : Int32)), (.int p0), (.int ((p0 &&& (255 : Int32)).toUInt32.toUInt16.toUInt32.toInt32))]))
      refine P514.xs (fun hA hx hy t k => XS.iand hA hx rfl (hb hy at_75) rfl k) ?_
      show Go p e below _ (T514.setTop (mkF m 76 #[.val (.int p0), .val (.int p1), .val (.ref o269), .val (.ref o270), .val (.ref o478), .val (.ref o489), .val (.int (1 : Int32)), .val (.int (2 : Int32))] [(.int (p0 &&& (255 : Int32))), (.int ((p0 &&& (255 : Int32)).toUInt32.toUInt16.toUInt32.toInt32))]))
      refine P514.xs (fun hA hx hy t k => XS.i2c hA hx rfl (hb hy at_76) rfl k) ?_
      show Go p e below _ (T514.setTop (mkF m 77 #[.val (.int p0), .val (.int p1), .val (.ref o269), .val (.ref o270), .val (.ref o478), .val (.ref o489), .val (.int (1 : Int32)), .val (.int (2 : Int32))] [(.int ((p0 &&& (255 : Int32)).toUInt32.toUInt16.toUInt32.toInt32)), (.int ((p0 &&& (255 : Int32)).toUInt32.toUInt16.toUInt32.toInt32))]))
      refine P514.xs (fun hA hx hy t k => XS.icmpYes hA hx rfl (pc0 := 77) (pc' := 82) rfl (hb hy at_77) rfl (teq rfl).1 (by decide) (by decide) k) ?_
      show Go p e below _ (T514.setTop (mkF m 82 #[.val (.int p0), .val (.int p1), .val (.ref o269), .val (.ref o270), .val (.ref o478), .val (.ref o489), .val (.int (1 : Int32)), .val (.int (2 : Int32))] []))
      refine P514.xs (fun hA hx hy t k => XS.iload hA hx rfl (hb hy at_82) rfl  k) ?_
      show Go p e below _ (T514.setTop (mkF m 84 #[.val (.int p0), .val (.int p1), .val (.ref o269), .val (.ref o270), .val (.ref o478), .val (.ref o489), .val (.int (1 : Int32)), .val (.int (2 : Int32))] [(.int (1 : Int32))]))
      refine P514.xs (fun hA hx hy t k => XS.iconst hA hx rfl (hb hy at_84) k) ?_
      show Go p e below _ (T514.setTop (mkF m 85 #[.val (.int p0), .val (.int p1), .val (.ref o269), .val (.ref o270), .val (.ref o478), .val (.ref o489), .val (.int (1 : Int32)), .val (.int (2 : Int32))] [(.int (1 : Int32)), (.int (1 : Int32))]))
      refine P514.xs (fun hA hx hy t k => XS.icmpYes hA hx rfl (pc0 := 85) (pc' := 108) rfl (hb hy at_85) rfl (flt (by decide)).2.2.2 (by decide) (by decide) k) ?_
      show Go p e below _ (T514.setTop (mkF m 108 #[.val (.int p0), .val (.int p1), .val (.ref o269), .val (.ref o270), .val (.ref o478), .val (.ref o489), .val (.int (1 : Int32)), .val (.int (2 : Int32))] []))
      refine P514.xs (fun hA hx hy t k => XS.aload hA hx rfl (hb hy at_108) rfl rfl  k) ?_
      show Go p e below _ (T514.setTop (mkF m 110 #[.val (.int p0), .val (.int p1), .val (.ref o269), .val (.ref o270), .val (.ref o478), .val (.ref o489), .val (.int (1 : Int32)), .val (.int (2 : Int32))] [(.ref o489)]))
      refine P514.xs (fun hA hx hy t k => XS.iload hA hx rfl (hb hy at_110) rfl  k) ?_
      show Go p e below _ (T514.setTop (mkF m 112 #[.val (.int p0), .val (.int p1), .val (.ref o269), .val (.ref o270), .val (.ref o478), .val (.ref o489), .val (.int (1 : Int32)), .val (.int (2 : Int32))] [(.int (1 : Int32)), (.ref o489)]))
      refine P514.strCh (W := 0) (hw _ (List.mem_of_getElem? (i := 173) rfl)) (hw _ (List.mem_of_getElem? (i := 174) rfl)) (hw _ (List.mem_of_getElem? (i := 176) rfl)) (hw _ (List.mem_of_getElem? (i := 175) rfl)) (wChN hw) (hw _ (List.mem_of_getElem? (i := 5) rfl)) S0 Pz S_f rf Ec503 V498 C498 A498 hl498 (Nat.le_of_ble_eq_true rfl) (i := 1) (Nat.le_of_ble_eq_true rfl) rfl (ch := (47 : Int32)) rfl (by decide) (by decide) (by decide) (by decide) pd_23 rfl rfl (Nat.le_of_eq rfl) at_112 fun T515 P515 => ?_
      show Go p e below _ (T515.setTop (mkF m 115 #[.val (.int p0), .val (.int p1), .val (.ref o269), .val (.ref o270), .val (.ref o478), .val (.ref o489), .val (.int (1 : Int32)), .val (.int (2 : Int32))] [(.int (47 : Int32))]))
      refine P515.xs (fun hA hx hy t k => XS.bipush hA hx rfl (hb hy at_115) k) ?_
      show Go p e below _ (T515.setTop (mkF m 117 #[.val (.int p0), .val (.int p1), .val (.ref o269), .val (.ref o270), .val (.ref o478), .val (.ref o489), .val (.int (1 : Int32)), .val (.int (2 : Int32))] [(.int (47 : Int32)), (.int (47 : Int32))]))
      refine P515.xs (fun hA hx hy t k => XS.icmpYes hA hx rfl (pc0 := 117) (pc' := 122) rfl (hb hy at_117) rfl (teq rfl).1 (by decide) (by decide) k) ?_
      show Go p e below _ (T515.setTop (mkF m 122 #[.val (.int p0), .val (.int p1), .val (.ref o269), .val (.ref o270), .val (.ref o478), .val (.ref o489), .val (.int (1 : Int32)), .val (.int (2 : Int32))] []))
      refine P515.xs (fun hA hx hy t k => XS.iload hA hx rfl (hb hy at_122) rfl  k) ?_
      show Go p e below _ (T515.setTop (mkF m 124 #[.val (.int p0), .val (.int p1), .val (.ref o269), .val (.ref o270), .val (.ref o478), .val (.ref o489), .val (.int (1 : Int32)), .val (.int (2 : Int32))] [(.int (2 : Int32))]))
      refine P515.xs (fun hA hx hy t k => XS.ifNo hA hx rfl (hb hy at_124) rfl ((if0 _ _).trans (tlt (by decide)).2.2.2) k) ?_
      show Go p e below _ (T515.setTop (mkF m 127 #[.val (.int p0), .val (.int p1), .val (.ref o269), .val (.ref o270), .val (.ref o478), .val (.ref o489), .val (.int (1 : Int32)), .val (.int (2 : Int32))] []))
      refine P515.xs (fun hA hx hy t k => XS.aload hA hx rfl (hb hy at_127) rfl rfl  k) ?_
      show Go p e below _ (T515.setTop (mkF m 129 #[.val (.int p0), .val (.int p1), .val (.ref o269), .val (.ref o270), .val (.ref o478), .val (.ref o489), .val (.int (1 : Int32)), .val (.int (2 : Int32))] [(.ref o489)]))
      refine P515.xs (fun hA hx hy t k => XS.iload hA hx rfl (hb hy at_129) rfl  k) ?_
      show Go p e below _ (T515.setTop (mkF m 131 #[.val (.int p0), .val (.int p1), .val (.ref o269), .val (.ref o270), .val (.ref o478), .val (.ref o489), .val (.int (1 : Int32)), .val (.int (2 : Int32))] [(.int (1 : Int32)), (.ref o489)]))
      refine P515.xs (fun hA hx hy t k => XS.iconst hA hx rfl (hb hy at_131) k) ?_
      show Go p e below _ (T515.setTop (mkF m 132 #[.val (.int p0), .val (.int p1), .val (.ref o269), .val (.ref o270), .val (.ref o478), .val (.ref o489), .val (.int (1 : Int32)), .val (.int (2 : Int32))] [(.int (1 : Int32)), (.int (1 : Int32)), (.ref o489)]))
      refine P515.xs (fun hA hx hy t k => XS.iadd hA hx rfl (hb hy at_132) rfl k) ?_
      show Go p e below _ (T515.setTop (mkF m 133 #[.val (.int p0), .val (.int p1), .val (.ref o269), .val (.ref o270), .val (.ref o478), .val (.ref o489), .val (.int (1 : Int32)), .val (.int (2 : Int32))] [(.int (2 : Int32)), (.ref o489)]))
      refine P515.strCh (W := 0) (hw _ (List.mem_of_getElem? (i := 173) rfl)) (hw _ (List.mem_of_getElem? (i := 174) rfl)) (hw _ (List.mem_of_getElem? (i := 176) rfl)) (hw _ (List.mem_of_getElem? (i := 175) rfl)) (wChN hw) (hw _ (List.mem_of_getElem? (i := 5) rfl)) S0 Pz S_f rf Ec503 V498 C498 A498 hl498 (Nat.le_of_ble_eq_true rfl) (i := 2) (Nat.le_of_ble_eq_true rfl) rfl (ch := ((p1 &&& (255 : Int32)).toUInt32.toUInt16.toUInt32.toInt32)) rfl (by decide) (by decide) (by decide) (by decide) pd_23 rfl rfl (Nat.le_of_eq rfl) at_133 fun T516 P516 => ?_
      show Go p e below _ (T516.setTop (mkF m 136 #[.val (.int p0), .val (.int p1), .val (.ref o269), .val (.ref o270), .val (.ref o478), .val (.ref o489), .val (.int (1 : Int32)), .val (.int (2 : Int32))] [(.int ((p1 &&& (255 : Int32)).toUInt32.toUInt16.toUInt32.toInt32))]))
      refine P516.xs (fun hA hx hy t k => XS.iloadN hA hx rfl (hb hy at_136) rfl  k) ?_
      show Go p e below _ (T516.setTop (mkF m 137 #[.val (.int p0), .val (.int p1), .val (.ref o269), .val (.ref o270), .val (.ref o478), .val (.ref o489), .val (.int (1 : Int32)), .val (.int (2 : Int32))] [(.int p1), (.int ((p1 &&& (255 : Int32)).toUInt32.toUInt16.toUInt32.toInt32))]))
      refine P516.xs (fun hA hx hy t k => XS.sipush hA hx rfl (hb hy at_137) k) ?_
      show Go p e below _ (T516.setTop (mkF m 140 #[.val (.int p0), .val (.int p1), .val (.ref o269), .val (.ref o270), .val (.ref o478), .val (.ref o489), .val (.int (1 : Int32)), .val (.int (2 : Int32))] [(.int (255 : Int32)), (.int p1), (.int ((p1 &&& (255 : Int32)).toUInt32.toUInt16.toUInt32.toInt32))]))
      refine P516.xs (fun hA hx hy t k => XS.iand hA hx rfl (hb hy at_140) rfl k) ?_
      show Go p e below _ (T516.setTop (mkF m 141 #[.val (.int p0), .val (.int p1), .val (.ref o269), .val (.ref o270), .val (.ref o478), .val (.ref o489), .val (.int (1 : Int32)), .val (.int (2 : Int32))] [(.int (p1 &&& (255 : Int32))), (.int ((p1 &&& (255 : Int32)).toUInt32.toUInt16.toUInt32.toInt32))]))
      refine P516.xs (fun hA hx hy t k => XS.i2c hA hx rfl (hb hy at_141) rfl k) ?_
      show Go p e below _ (T516.setTop (mkF m 142 #[.val (.int p0), .val (.int p1), .val (.ref o269), .val (.ref o270), .val (.ref o478), .val (.ref o489), .val (.int (1 : Int32)), .val (.int (2 : Int32))] [(.int ((p1 &&& (255 : Int32)).toUInt32.toUInt16.toUInt32.toInt32)), (.int ((p1 &&& (255 : Int32)).toUInt32.toUInt16.toUInt32.toInt32))]))
      refine P516.xs (fun hA hx hy t k => XS.icmpYes hA hx rfl (pc0 := 142) (pc' := 147) rfl (hb hy at_142) rfl (teq rfl).1 (by decide) (by decide) k) ?_
      show Go p e below _ (T516.setTop (mkF m 147 #[.val (.int p0), .val (.int p1), .val (.ref o269), .val (.ref o270), .val (.ref o478), .val (.ref o489), .val (.int (1 : Int32)), .val (.int (2 : Int32))] []))
      refine P516.xs (fun hA hx hy t k => XS.iload hA hx rfl (hb hy at_147) rfl  k) ?_
      show Go p e below _ (T516.setTop (mkF m 149 #[.val (.int p0), .val (.int p1), .val (.ref o269), .val (.ref o270), .val (.ref o478), .val (.ref o489), .val (.int (1 : Int32)), .val (.int (2 : Int32))] [(.int (2 : Int32))]))
      refine P516.xs (fun hA hx hy t k => XS.iconst hA hx rfl (hb hy at_149) k) ?_
      show Go p e below _ (T516.setTop (mkF m 150 #[.val (.int p0), .val (.int p1), .val (.ref o269), .val (.ref o270), .val (.ref o478), .val (.ref o489), .val (.int (1 : Int32)), .val (.int (2 : Int32))] [(.int (1 : Int32)), (.int (2 : Int32))]))
      refine P516.xs (fun hA hx hy t k => XS.icmpNo hA hx rfl (hb hy at_150) rfl (tlt (by decide)).2.2.2 k) ?_
      show Go p e below _ (T516.setTop (mkF m 153 #[.val (.int p0), .val (.int p1), .val (.ref o269), .val (.ref o270), .val (.ref o478), .val (.ref o489), .val (.int (1 : Int32)), .val (.int (2 : Int32))] []))
      refine P516.xs (fun hA hx hy t k => XS.aload hA hx rfl (hb hy at_153) rfl rfl  k) ?_
      show Go p e below _ (T516.setTop (mkF m 155 #[.val (.int p0), .val (.int p1), .val (.ref o269), .val (.ref o270), .val (.ref o478), .val (.ref o489), .val (.int (1 : Int32)), .val (.int (2 : Int32))] [(.ref o489)]))
      refine P516.xs (fun hA hx hy t k => XS.iload hA hx rfl (hb hy at_155) rfl  k) ?_
      show Go p e below _ (T516.setTop (mkF m 157 #[.val (.int p0), .val (.int p1), .val (.ref o269), .val (.ref o270), .val (.ref o478), .val (.ref o489), .val (.int (1 : Int32)), .val (.int (2 : Int32))] [(.int (1 : Int32)), (.ref o489)]))
      refine P516.xs (fun hA hx hy t k => XS.iconst hA hx rfl (hb hy at_157) k) ?_
      show Go p e below _ (T516.setTop (mkF m 158 #[.val (.int p0), .val (.int p1), .val (.ref o269), .val (.ref o270), .val (.ref o478), .val (.ref o489), .val (.int (1 : Int32)), .val (.int (2 : Int32))] [(.int (2 : Int32)), (.int (1 : Int32)), (.ref o489)]))
      refine P516.xs (fun hA hx hy t k => XS.iadd hA hx rfl (hb hy at_158) rfl k) ?_
      show Go p e below _ (T516.setTop (mkF m 159 #[.val (.int p0), .val (.int p1), .val (.ref o269), .val (.ref o270), .val (.ref o478), .val (.ref o489), .val (.int (1 : Int32)), .val (.int (2 : Int32))] [(.int (3 : Int32)), (.ref o489)]))
      refine P516.strCh (W := 0) (hw _ (List.mem_of_getElem? (i := 173) rfl)) (hw _ (List.mem_of_getElem? (i := 174) rfl)) (hw _ (List.mem_of_getElem? (i := 176) rfl)) (hw _ (List.mem_of_getElem? (i := 175) rfl)) (wChN hw) (hw _ (List.mem_of_getElem? (i := 5) rfl)) S0 Pz S_f rf Ec503 V498 C498 A498 hl498 (Nat.le_of_ble_eq_true rfl) (i := 3) (Nat.le_of_ble_eq_true rfl) rfl (ch := ((((p1.toUInt32 >>> ((8 : Int32) &&& 31).toUInt32).toInt32) &&& (255 : Int32)).toUInt32.toUInt16.toUInt32.toInt32)) rfl (by decide) (by decide) (by decide) (by decide) pd_23 rfl rfl (Nat.le_of_eq rfl) at_159 fun T517 P517 => ?_
      show Go p e below _ (T517.setTop (mkF m 162 #[.val (.int p0), .val (.int p1), .val (.ref o269), .val (.ref o270), .val (.ref o478), .val (.ref o489), .val (.int (1 : Int32)), .val (.int (2 : Int32))] [(.int ((((p1.toUInt32 >>> ((8 : Int32) &&& 31).toUInt32).toInt32) &&& (255 : Int32)).toUInt32.toUInt16.toUInt32.toInt32))]))
      refine P517.xs (fun hA hx hy t k => XS.iloadN hA hx rfl (hb hy at_162) rfl  k) ?_
      show Go p e below _ (T517.setTop (mkF m 163 #[.val (.int p0), .val (.int p1), .val (.ref o269), .val (.ref o270), .val (.ref o478), .val (.ref o489), .val (.int (1 : Int32)), .val (.int (2 : Int32))] [(.int p1), (.int ((((p1.toUInt32 >>> ((8 : Int32) &&& 31).toUInt32).toInt32) &&& (255 : Int32)).toUInt32.toUInt16.toUInt32.toInt32))]))
      refine P517.xs (fun hA hx hy t k => XS.bipush hA hx rfl (hb hy at_163) k) ?_
      show Go p e below _ (T517.setTop (mkF m 165 #[.val (.int p0), .val (.int p1), .val (.ref o269), .val (.ref o270), .val (.ref o478), .val (.ref o489), .val (.int (1 : Int32)), .val (.int (2 : Int32))] [(.int (8 : Int32)), (.int p1), (.int ((((p1.toUInt32 >>> ((8 : Int32) &&& 31).toUInt32).toInt32) &&& (255 : Int32)).toUInt32.toUInt16.toUInt32.toInt32))]))
      refine P517.xs (fun hA hx hy t k => XS.iushr hA hx rfl (hb hy at_165) rfl k) ?_
      show Go p e below _ (T517.setTop (mkF m 166 #[.val (.int p0), .val (.int p1), .val (.ref o269), .val (.ref o270), .val (.ref o478), .val (.ref o489), .val (.int (1 : Int32)), .val (.int (2 : Int32))] [(.int ((p1.toUInt32 >>> ((8 : Int32) &&& 31).toUInt32).toInt32)), (.int ((((p1.toUInt32 >>> ((8 : Int32) &&& 31).toUInt32).toInt32) &&& (255 : Int32)).toUInt32.toUInt16.toUInt32.toInt32))]))
      refine P517.xs (fun hA hx hy t k => XS.sipush hA hx rfl (hb hy at_166) k) ?_
      show Go p e below _ (T517.setTop (mkF m 169 #[.val (.int p0), .val (.int p1), .val (.ref o269), .val (.ref o270), .val (.ref o478), .val (.ref o489), .val (.int (1 : Int32)), .val (.int (2 : Int32))] [(.int (255 : Int32)), (.int ((p1.toUInt32 >>> ((8 : Int32) &&& 31).toUInt32).toInt32)), (.int ((((p1.toUInt32 >>> ((8 : Int32) &&& 31).toUInt32).toInt32) &&& (255 : Int32)).toUInt32.toUInt16.toUInt32.toInt32))]))
      refine P517.xs (fun hA hx hy t k => XS.iand hA hx rfl (hb hy at_169) rfl k) ?_
      show Go p e below _ (T517.setTop (mkF m 170 #[.val (.int p0), .val (.int p1), .val (.ref o269), .val (.ref o270), .val (.ref o478), .val (.ref o489), .val (.int (1 : Int32)), .val (.int (2 : Int32))] [(.int (((p1.toUInt32 >>> ((8 : Int32) &&& 31).toUInt32).toInt32) &&& (255 : Int32))), (.int ((((p1.toUInt32 >>> ((8 : Int32) &&& 31).toUInt32).toInt32) &&& (255 : Int32)).toUInt32.toUInt16.toUInt32.toInt32))]))
      refine P517.xs (fun hA hx hy t k => XS.i2c hA hx rfl (hb hy at_170) rfl k) ?_
      show Go p e below _ (T517.setTop (mkF m 171 #[.val (.int p0), .val (.int p1), .val (.ref o269), .val (.ref o270), .val (.ref o478), .val (.ref o489), .val (.int (1 : Int32)), .val (.int (2 : Int32))] [(.int ((((p1.toUInt32 >>> ((8 : Int32) &&& 31).toUInt32).toInt32) &&& (255 : Int32)).toUInt32.toUInt16.toUInt32.toInt32)), (.int ((((p1.toUInt32 >>> ((8 : Int32) &&& 31).toUInt32).toInt32) &&& (255 : Int32)).toUInt32.toUInt16.toUInt32.toInt32))]))
      refine P517.xs (fun hA hx hy t k => XS.icmpYes hA hx rfl (pc0 := 171) (pc' := 176) rfl (hb hy at_171) rfl (teq rfl).1 (by decide) (by decide) k) ?_
      show Go p e below _ (T517.setTop (mkF m 176 #[.val (.int p0), .val (.int p1), .val (.ref o269), .val (.ref o270), .val (.ref o478), .val (.ref o489), .val (.int (1 : Int32)), .val (.int (2 : Int32))] []))
      refine P517.xs (fun hA hx hy t k => XS.iconst hA hx rfl (hb hy at_176) k) ?_
      show Go p e below _ (T517.setTop (mkF m 177 #[.val (.int p0), .val (.int p1), .val (.ref o269), .val (.ref o270), .val (.ref o478), .val (.ref o489), .val (.int (1 : Int32)), .val (.int (2 : Int32))] [(.int (1 : Int32))]))
      exact P517.retN (t := .boolean) rfl (by simp) at_177 (by decide) (by decide) rfl
  · rcases hn270 with rfl | rfl | rfl
    · have So518 : Str Z h270 o269 ([((p0 &&& (255 : Int32)).toUInt32.toUInt16.toUInt32.toInt32), ((((p0.toUInt32 >>> ((8 : Int32) &&& 31).toUInt32).toInt32) &&& (255 : Int32)).toUInt32.toUInt16.toUInt32.toInt32)] : List Int32) := by have q := Sc274; rw [cs3_2 (n := 2) (by decide) (by decide) rfl] at q; exact q
      have hl518 : ∀ c ∈ ([((p0 &&& (255 : Int32)).toUInt32.toUInt16.toUInt32.toInt32), ((((p0.toUInt32 >>> ((8 : Int32) &&& 31).toUInt32).toInt32) &&& (255 : Int32)).toUInt32.toUInt16.toUInt32.toInt32)] : List Int32), ¬ c < 0 ∧ ¬ (255 : Int32) < c := (latS (chr255 rfl).1 (latS (chr255 rfl).1 lat0))
      obtain ⟨tt518, kt518, V518, C518, A518⟩ := strLat So518 hl518
      have So519 : Str Z h270 o270 ([] : List Int32) := by have q := Ss270; rw [cs3_0 (n := 0) rfl] at q; exact q
      have hl519 : ∀ c ∈ ([] : List Int32), ¬ c < 0 ∧ ¬ (255 : Int32) < c := lat0
      obtain ⟨tt519, kt519, V519, C519, A519⟩ := strLat So519 hl519
      show Go p e below _ (T270.setTop (mkF m 10 #[.val (.int p0), .val (.int p1), .val (.ref o269), .val (.ref o270), .unset, .unset, .unset, .unset] []))
      refine P270.newO (hw _ (List.mem_of_getElem? (i := 26) rfl)) (hw _ (List.mem_of_getElem? (i := 27) rfl)) (hw _ (List.mem_of_getElem? (i := 28) rfl)) at_10 (by decide) (by decide) fun T520 h520 o520 g520 P520 E520 A520 D520 => ?_
      have ne_o269_o520 : o269 ≠ o520 := Nat.ne_of_lt (Nat.lt_of_lt_of_le So518.1.lt (Nat.le_of_eq g520.symm))
      have ne_o270_o520 : o270 ≠ o520 := Nat.ne_of_lt (Nat.lt_of_lt_of_le So519.1.lt (Nat.le_of_eq g520.symm))
      have ne_tt518_o520 : tt518 ≠ o520 := Nat.ne_of_lt (Nat.lt_of_lt_of_le A518.lt (Nat.le_of_eq g520.symm))
      have ne_tt519_o520 : tt519 ≠ o520 := Nat.ne_of_lt (Nat.lt_of_lt_of_le A519.lt (Nat.le_of_eq g520.symm))
      have gz_o520 : Z.heap.size ≤ o520 := Nat.le_trans P270.old.1 (Nat.le_of_eq g520.symm)
      have gw_o520 : h0.size ≤ o520 := Nat.le_trans P270.kept.1 (Nat.le_of_eq g520.symm)
      have F520_type : Fld Z h520 o520 "com/example/certain_answers/certainanswers/server/MediaType" "type" "Ljava/lang/String;" .null := D520 (Or.inr (hw _ (List.mem_of_getElem? (i := 50) rfl))) (ty := (.object "java/lang/String")) (by decide)
      have F520_subtype : Fld Z h520 o520 "com/example/certain_answers/certainanswers/server/MediaType" "subtype" "Ljava/lang/String;" .null := D520 (Or.inr (hw _ (List.mem_of_getElem? (i := 52) rfl))) (ty := (.object "java/lang/String")) (by decide)
      have F520_parameters : Fld Z h520 o520 "com/example/certain_answers/certainanswers/server/MediaType" "parameters" "Ljava/util/Map;" .null := D520 (Or.inr (hw _ (List.mem_of_getElem? (i := 54) rfl))) (ty := (.object "java/util/Map")) (by decide)
      show Go p e below _ (T520.setTop (mkF m 13 #[.val (.int p0), .val (.int p1), .val (.ref o269), .val (.ref o270), .unset, .unset, .unset, .unset] [(.ref o520)]))
      refine P520.xs (fun hA hx hy t k => XS.dup hA hx rfl (hb hy at_13) rfl rfl k) ?_
      show Go p e below _ (T520.setTop (mkF m 14 #[.val (.int p0), .val (.int p1), .val (.ref o269), .val (.ref o270), .unset, .unset, .unset, .unset] [(.ref o520), (.ref o520)]))
      refine P520.xs (fun hA hx hy t k => XS.aloadN hA hx rfl (hb hy at_14) rfl rfl  k) ?_
      show Go p e below _ (T520.setTop (mkF m 15 #[.val (.int p0), .val (.int p1), .val (.ref o269), .val (.ref o270), .unset, .unset, .unset, .unset] [(.ref o269), (.ref o520), (.ref o520)]))
      refine P520.xs (fun hA hx hy t k => XS.aloadN hA hx rfl (hb hy at_15) rfl rfl  k) ?_
      show Go p e below _ (T520.setTop (mkF m 16 #[.val (.int p0), .val (.int p1), .val (.ref o269), .val (.ref o270), .unset, .unset, .unset, .unset] [(.ref o270), (.ref o269), (.ref o520), (.ref o520)]))
      have Ec522 : Exa Z h520 o269 "java/lang/String" := (So518.1.ext E520)
      have Ec523 : Exa Z h520 o270 "java/lang/String" := (So519.1.ext E520)
      have Fc524 : Fld Z h520 o269 "java/lang/String" "value" "[B" (.ref tt518) := (V518.ext E520)
      have Fc525 : Fld Z h520 o269 "java/lang/String" "coder" "B" (.int (0 : Int32)) := (C518.ext E520)
      have Fc526 : Fld Z h520 o270 "java/lang/String" "value" "[B" (.ref tt519) := (V519.ext E520)
      have Fc527 : Fld Z h520 o270 "java/lang/String" "coder" "B" (.int (0 : Int32)) := (C519.ext E520)
      have Ac528 : Arv Z h520 tt518 kt518 .byte (Int32.ofNat ([((p0 &&& (255 : Int32)).toUInt32.toUInt16.toUInt32.toInt32), ((((p0.toUInt32 >>> ((8 : Int32) &&& 31).toUInt32).toInt32) &&& (255 : Int32)).toUInt32.toUInt16.toUInt32.toInt32)] : List Int32).length) ((([((p0 &&& (255 : Int32)).toUInt32.toUInt16.toUInt32.toInt32), ((((p0.toUInt32 >>> ((8 : Int32) &&& 31).toUInt32).toInt32) &&& (255 : Int32)).toUInt32.toUInt16.toUInt32.toInt32)] : List Int32).map StrChars.lo8).map Value.int) (.int 0) := (A518.ext E520)
      have Ac529 : Arv Z h520 tt519 kt519 .byte (Int32.ofNat ([] : List Int32).length) ((([] : List Int32).map StrChars.lo8).map Value.int) (.int 0) := (A519.ext E520)
      refine P520.callS (hw _ (List.mem_of_getElem? (i := 29) rfl)) (hw _ (List.mem_of_getElem? (i := 30) rfl)) (hw _ (List.mem_of_getElem? (i := 31) rfl)) (hw _ (List.mem_of_getElem? (i := 32) rfl)) (by decide) (mMof l Z a0 hw hEL zc S0 Pz w_M S_M E_M fm S_f rf  h520 P520.old) (W := 4) (by decide) (by decide) (by decide) (by decide) all0 pd_21 (argsL := []) rfl rfl rfl (Nat.le_of_eq rfl) at_16 fun v521 T521 h521 P521 K521 Q521 => ?_
      obtain ⟨hv521, hh521⟩ := Q521
      subst hv521
      rw [hh521] at P521
      show Go p e below _ (T521.setTop (mkF m 19 #[.val (.int p0), .val (.int p1), .val (.ref o269), .val (.ref o270), .unset, .unset, .unset, .unset] [(.ref w_M), (.ref o270), (.ref o269), (.ref o520), (.ref o520)]))
      refine P521.callI rfl (hw _ (List.mem_of_getElem? (i := 35) rfl)) (hw _ (List.mem_of_getElem? (i := 36) rfl)) (hw _ (List.mem_of_getElem? (i := 28) rfl)) (hw _ (List.mem_of_getElem? (i := 37) rfl)) (by decide) (mMT l Z a0 hw hEL zc S0 Pz w_M S_M E_M fm S_f rf o520 o269 o270 h520 P521.old A520 F520_type F520_subtype F520_parameters gz_o520) (W := 1) (by decide) (by decide) (by decide) (by decide) (allS (Or.inr gw_o520) all0) pd_22 (argsL := [(.ref o269), (.ref o270), (.ref w_M)]) rfl rfl rfl (Nat.le_of_eq rfl) at_19 fun v530 T530 h530 P530 K530 Q530 => ?_
      obtain ⟨rfl, E530, Ft530, Fu530⟩ := Q530
      show Go p e below _ (T530.setTop (mkF m 22 #[.val (.int p0), .val (.int p1), .val (.ref o269), .val (.ref o270), .unset, .unset, .unset, .unset] [(.ref o520)]))
      refine P530.xs (fun hA hx hy t k => XS.astore hA hx rfl (hb hy at_22) rfl rfl (l' := #[.val (.int p0), .val (.int p1), .val (.ref o269), .val (.ref o270), .val (.ref o520), .unset, .unset, .unset]) rfl k) ?_
      show Go p e below _ (T530.setTop (mkF m 24 #[.val (.int p0), .val (.int p1), .val (.ref o269), .val (.ref o270), .val (.ref o520), .unset, .unset, .unset] []))
      refine P530.xs (fun hA hx hy t k => XS.aload hA hx rfl (hb hy at_24) rfl rfl  k) ?_
      show Go p e below _ (T530.setTop (mkF m 26 #[.val (.int p0), .val (.int p1), .val (.ref o269), .val (.ref o270), .val (.ref o520), .unset, .unset, .unset] [(.ref o520)]))
      have Ec532 : Exa Z h530 o269 "java/lang/String" := (Ec522.keep K530)
      have Ec533 : Exa Z h530 o270 "java/lang/String" := (Ec523.keep K530)
      have Fc534 : Fld Z h530 o269 "java/lang/String" "value" "[B" (.ref tt518) := (Fc524.keep K530 (ninS ne_o269_o520 nin0))
      have Fc535 : Fld Z h530 o269 "java/lang/String" "coder" "B" (.int (0 : Int32)) := (Fc525.keep K530 (ninS ne_o269_o520 nin0))
      have Fc536 : Fld Z h530 o270 "java/lang/String" "value" "[B" (.ref tt519) := (Fc526.keep K530 (ninS ne_o270_o520 nin0))
      have Fc537 : Fld Z h530 o270 "java/lang/String" "coder" "B" (.int (0 : Int32)) := (Fc527.keep K530 (ninS ne_o270_o520 nin0))
      have Ac538 : Arv Z h530 tt518 kt518 .byte (Int32.ofNat ([((p0 &&& (255 : Int32)).toUInt32.toUInt16.toUInt32.toInt32), ((((p0.toUInt32 >>> ((8 : Int32) &&& 31).toUInt32).toInt32) &&& (255 : Int32)).toUInt32.toUInt16.toUInt32.toInt32)] : List Int32).length) ((([((p0 &&& (255 : Int32)).toUInt32.toUInt16.toUInt32.toInt32), ((((p0.toUInt32 >>> ((8 : Int32) &&& 31).toUInt32).toInt32) &&& (255 : Int32)).toUInt32.toUInt16.toUInt32.toInt32)] : List Int32).map StrChars.lo8).map Value.int) (.int 0) := (Ac528.keep K530 (ninS ne_tt518_o520 nin0))
      have Ac539 : Arv Z h530 tt519 kt519 .byte (Int32.ofNat ([] : List Int32).length) ((([] : List Int32).map StrChars.lo8).map Value.int) (.int 0) := (Ac529.keep K530 (ninS ne_tt519_o520 nin0))
      refine P530.callV (hw _ (List.mem_of_getElem? (i := 55) rfl)) (hw _ (List.mem_of_getElem? (i := 56) rfl)) (hw _ (List.mem_of_getElem? (i := 58) rfl)) (nfOf (hw _ (List.mem_of_getElem? (i := 58) rfl))) (hw _ (List.mem_of_getElem? (i := 57) rfl)) (hw _ (List.mem_of_getElem? (i := 28) rfl)) (hw _ (List.mem_of_getElem? (i := 59) rfl)) (by decide) E530 (mEss l Z a0 hw hEL zc S0 Pz w_M S_M E_M fm S_f rf o520 o269 tt518 o270 tt519 kt518 kt519 ([((p0 &&& (255 : Int32)).toUInt32.toUInt16.toUInt32.toInt32), ((((p0.toUInt32 >>> ((8 : Int32) &&& 31).toUInt32).toInt32) &&& (255 : Int32)).toUInt32.toUInt16.toUInt32.toInt32)] : List Int32) ([] : List Int32) h530 P530.old E530 Ft530 Fu530 Ec532 Fc534 Fc535 Ac538 Ec533 Fc536 Fc537 Ac539 hl518 hl519 (Nat.le_of_ble_eq_true rfl) (Nat.le_of_ble_eq_true rfl)) (W := 0) (by decide) (by decide) (by decide) (by decide) all0 pd_18 (argsL := []) rfl rfl rfl (Nat.le_of_eq rfl) at_26 fun v531 T531 h531 P531 K531 Q531 => ?_
      obtain ⟨o531, rfl, g531, Ss531⟩ := Q531
      have ne_o269_o531 : o269 ≠ o531 := Nat.ne_of_lt (Nat.lt_of_lt_of_le Ec532.lt g531)
      have ne_o270_o531 : o270 ≠ o531 := Nat.ne_of_lt (Nat.lt_of_lt_of_le Ec533.lt g531)
      have ne_o520_o531 : o520 ≠ o531 := Nat.ne_of_lt (Nat.lt_of_lt_of_le E530.lt g531)
      have ne_tt518_o531 : tt518 ≠ o531 := Nat.ne_of_lt (Nat.lt_of_lt_of_le Ac538.lt g531)
      have ne_tt519_o531 : tt519 ≠ o531 := Nat.ne_of_lt (Nat.lt_of_lt_of_le Ac539.lt g531)
      have gz_o531 : Z.heap.size ≤ o531 := Nat.le_trans P530.old.1 g531
      have gw_o531 : h0.size ≤ o531 := Nat.le_trans P530.kept.1 g531
      have So540 : Str Z h531 o531 ([((p0 &&& (255 : Int32)).toUInt32.toUInt16.toUInt32.toInt32), ((((p0.toUInt32 >>> ((8 : Int32) &&& 31).toUInt32).toInt32) &&& (255 : Int32)).toUInt32.toUInt16.toUInt32.toInt32), (47 : Int32)] : List Int32) := Ss531
      have hl540 : ∀ c ∈ ([((p0 &&& (255 : Int32)).toUInt32.toUInt16.toUInt32.toInt32), ((((p0.toUInt32 >>> ((8 : Int32) &&& 31).toUInt32).toInt32) &&& (255 : Int32)).toUInt32.toUInt16.toUInt32.toInt32), (47 : Int32)] : List Int32), ¬ c < 0 ∧ ¬ (255 : Int32) < c := (latS (chr255 rfl).1 (latS (chr255 rfl).1 (latS (by decide) lat0)))
      obtain ⟨tt540, kt540, V540, C540, A540⟩ := strLat So540 hl540
      show Go p e below _ (T531.setTop (mkF m 29 #[.val (.int p0), .val (.int p1), .val (.ref o269), .val (.ref o270), .val (.ref o520), .unset, .unset, .unset] [(.ref o531)]))
      refine P531.xs (fun hA hx hy t k => XS.astore hA hx rfl (hb hy at_29) rfl rfl (l' := #[.val (.int p0), .val (.int p1), .val (.ref o269), .val (.ref o270), .val (.ref o520), .val (.ref o531), .unset, .unset]) rfl k) ?_
      show Go p e below _ (T531.setTop (mkF m 31 #[.val (.int p0), .val (.int p1), .val (.ref o269), .val (.ref o270), .val (.ref o520), .val (.ref o531), .unset, .unset] []))
      refine P531.xs (fun hA hx hy t k => XS.aloadN hA hx rfl (hb hy at_31) rfl rfl  k) ?_
      show Go p e below _ (T531.setTop (mkF m 32 #[.val (.int p0), .val (.int p1), .val (.ref o269), .val (.ref o270), .val (.ref o520), .val (.ref o531), .unset, .unset] [(.ref o269)]))
      have Ec542 : Exa Z h531 o269 "java/lang/String" := (Ec532.keep K531)
      have Ec543 : Exa Z h531 o270 "java/lang/String" := (Ec533.keep K531)
      have Ec544 : Exa Z h531 o520 "com/example/certain_answers/certainanswers/server/MediaType" := (E530.keep K531)
      have Ec545 : Exa Z h531 o531 "java/lang/String" := So540.1
      have Fc546 : Fld Z h531 o269 "java/lang/String" "value" "[B" (.ref tt518) := (Fc534.keep K531 nin0)
      have Fc547 : Fld Z h531 o269 "java/lang/String" "coder" "B" (.int (0 : Int32)) := (Fc535.keep K531 nin0)
      have Fc548 : Fld Z h531 o270 "java/lang/String" "value" "[B" (.ref tt519) := (Fc536.keep K531 nin0)
      have Fc549 : Fld Z h531 o270 "java/lang/String" "coder" "B" (.int (0 : Int32)) := (Fc537.keep K531 nin0)
      have Fc550 : Fld Z h531 o520 "com/example/certain_answers/certainanswers/server/MediaType" "type" "Ljava/lang/String;" (.ref o269) := (Ft530.keep K531 nin0)
      have Fc551 : Fld Z h531 o520 "com/example/certain_answers/certainanswers/server/MediaType" "subtype" "Ljava/lang/String;" (.ref o270) := (Fu530.keep K531 nin0)
      have Ac552 : Arv Z h531 tt518 kt518 .byte (Int32.ofNat ([((p0 &&& (255 : Int32)).toUInt32.toUInt16.toUInt32.toInt32), ((((p0.toUInt32 >>> ((8 : Int32) &&& 31).toUInt32).toInt32) &&& (255 : Int32)).toUInt32.toUInt16.toUInt32.toInt32)] : List Int32).length) ((([((p0 &&& (255 : Int32)).toUInt32.toUInt16.toUInt32.toInt32), ((((p0.toUInt32 >>> ((8 : Int32) &&& 31).toUInt32).toInt32) &&& (255 : Int32)).toUInt32.toUInt16.toUInt32.toInt32)] : List Int32).map StrChars.lo8).map Value.int) (.int 0) := (Ac538.keep K531 nin0)
      have Ac553 : Arv Z h531 tt519 kt519 .byte (Int32.ofNat ([] : List Int32).length) ((([] : List Int32).map StrChars.lo8).map Value.int) (.int 0) := (Ac539.keep K531 nin0)
      refine P531.callV (hw _ (List.mem_of_getElem? (i := 172) rfl)) (hw _ (List.mem_of_getElem? (i := 89) rfl)) (hw _ (List.mem_of_getElem? (i := 91) rfl)) (nfOf (hw _ (List.mem_of_getElem? (i := 91) rfl))) (hw _ (List.mem_of_getElem? (i := 90) rfl)) (hw _ (List.mem_of_getElem? (i := 6) rfl)) (hw _ (List.mem_of_getElem? (i := 92) rfl)) (by decide) Ec542 (mLen l Z a0 hw hEL zc S0 Pz w_M S_M E_M fm S_f rf o269 tt518 kt518 ([((p0 &&& (255 : Int32)).toUInt32.toUInt16.toUInt32.toInt32), ((((p0.toUInt32 >>> ((8 : Int32) &&& 31).toUInt32).toInt32) &&& (255 : Int32)).toUInt32.toUInt16.toUInt32.toInt32)] : List Int32) h531 P531.old Ec542 Fc546 Fc547 Ac552) (W := 0) (by decide) (by decide) (by decide) (by decide) all0 pd_4 (argsL := []) rfl rfl rfl (Nat.le_of_eq rfl) at_32 fun v541 T541 h541 P541 K541 Q541 => ?_
      obtain ⟨hv541, hh541⟩ := Q541
      subst hv541
      rw [hh541] at P541
      show Go p e below _ (T541.setTop (mkF m 35 #[.val (.int p0), .val (.int p1), .val (.ref o269), .val (.ref o270), .val (.ref o520), .val (.ref o531), .unset, .unset] [(.int (2 : Int32))]))
      refine P541.xs (fun hA hx hy t k => XS.istore hA hx rfl (hb hy at_35) rfl (l' := #[.val (.int p0), .val (.int p1), .val (.ref o269), .val (.ref o270), .val (.ref o520), .val (.ref o531), .val (.int (2 : Int32)), .unset]) rfl k) ?_
      show Go p e below _ (T541.setTop (mkF m 37 #[.val (.int p0), .val (.int p1), .val (.ref o269), .val (.ref o270), .val (.ref o520), .val (.ref o531), .val (.int (2 : Int32)), .unset] []))
      refine P541.xs (fun hA hx hy t k => XS.aloadN hA hx rfl (hb hy at_37) rfl rfl  k) ?_
      show Go p e below _ (T541.setTop (mkF m 38 #[.val (.int p0), .val (.int p1), .val (.ref o269), .val (.ref o270), .val (.ref o520), .val (.ref o531), .val (.int (2 : Int32)), .unset] [(.ref o270)]))
      refine P541.callV (hw _ (List.mem_of_getElem? (i := 172) rfl)) (hw _ (List.mem_of_getElem? (i := 89) rfl)) (hw _ (List.mem_of_getElem? (i := 91) rfl)) (nfOf (hw _ (List.mem_of_getElem? (i := 91) rfl))) (hw _ (List.mem_of_getElem? (i := 90) rfl)) (hw _ (List.mem_of_getElem? (i := 6) rfl)) (hw _ (List.mem_of_getElem? (i := 92) rfl)) (by decide) Ec543 (mLen l Z a0 hw hEL zc S0 Pz w_M S_M E_M fm S_f rf o270 tt519 kt519 ([] : List Int32) h531 P541.old Ec543 Fc548 Fc549 Ac553) (W := 0) (by decide) (by decide) (by decide) (by decide) all0 pd_4 (argsL := []) rfl rfl rfl (Nat.le_of_eq rfl) at_38 fun v554 T554 h554 P554 K554 Q554 => ?_
      obtain ⟨hv554, hh554⟩ := Q554
      subst hv554
      rw [hh554] at P554
      show Go p e below _ (T554.setTop (mkF m 41 #[.val (.int p0), .val (.int p1), .val (.ref o269), .val (.ref o270), .val (.ref o520), .val (.ref o531), .val (.int (2 : Int32)), .unset] [(.int (0 : Int32))]))
      refine P554.xs (fun hA hx hy t k => XS.istore hA hx rfl (hb hy at_41) rfl (l' := #[.val (.int p0), .val (.int p1), .val (.ref o269), .val (.ref o270), .val (.ref o520), .val (.ref o531), .val (.int (2 : Int32)), .val (.int (0 : Int32))]) rfl k) ?_
      show Go p e below _ (T554.setTop (mkF m 43 #[.val (.int p0), .val (.int p1), .val (.ref o269), .val (.ref o270), .val (.ref o520), .val (.ref o531), .val (.int (2 : Int32)), .val (.int (0 : Int32))] []))
      refine P554.xs (fun hA hx hy t k => XS.aload hA hx rfl (hb hy at_43) rfl rfl  k) ?_
      show Go p e below _ (T554.setTop (mkF m 45 #[.val (.int p0), .val (.int p1), .val (.ref o269), .val (.ref o270), .val (.ref o520), .val (.ref o531), .val (.int (2 : Int32)), .val (.int (0 : Int32))] [(.ref o531)]))
      refine P554.callV (hw _ (List.mem_of_getElem? (i := 172) rfl)) (hw _ (List.mem_of_getElem? (i := 89) rfl)) (hw _ (List.mem_of_getElem? (i := 91) rfl)) (nfOf (hw _ (List.mem_of_getElem? (i := 91) rfl))) (hw _ (List.mem_of_getElem? (i := 90) rfl)) (hw _ (List.mem_of_getElem? (i := 6) rfl)) (hw _ (List.mem_of_getElem? (i := 92) rfl)) (by decide) Ec545 (mLen l Z a0 hw hEL zc S0 Pz w_M S_M E_M fm S_f rf o531 tt540 kt540 ([((p0 &&& (255 : Int32)).toUInt32.toUInt16.toUInt32.toInt32), ((((p0.toUInt32 >>> ((8 : Int32) &&& 31).toUInt32).toInt32) &&& (255 : Int32)).toUInt32.toUInt16.toUInt32.toInt32), (47 : Int32)] : List Int32) h531 P554.old Ec545 V540 C540 A540) (W := 0) (by decide) (by decide) (by decide) (by decide) all0 pd_4 (argsL := []) rfl rfl rfl (Nat.le_of_eq rfl) at_45 fun v555 T555 h555 P555 K555 Q555 => ?_
      obtain ⟨hv555, hh555⟩ := Q555
      subst hv555
      rw [hh555] at P555
      show Go p e below _ (T555.setTop (mkF m 48 #[.val (.int p0), .val (.int p1), .val (.ref o269), .val (.ref o270), .val (.ref o520), .val (.ref o531), .val (.int (2 : Int32)), .val (.int (0 : Int32))] [(.int (3 : Int32))]))
      refine P555.xs (fun hA hx hy t k => XS.iload hA hx rfl (hb hy at_48) rfl  k) ?_
      show Go p e below _ (T555.setTop (mkF m 50 #[.val (.int p0), .val (.int p1), .val (.ref o269), .val (.ref o270), .val (.ref o520), .val (.ref o531), .val (.int (2 : Int32)), .val (.int (0 : Int32))] [(.int (2 : Int32)), (.int (3 : Int32))]))
      refine P555.xs (fun hA hx hy t k => XS.iconst hA hx rfl (hb hy at_50) k) ?_
      show Go p e below _ (T555.setTop (mkF m 51 #[.val (.int p0), .val (.int p1), .val (.ref o269), .val (.ref o270), .val (.ref o520), .val (.ref o531), .val (.int (2 : Int32)), .val (.int (0 : Int32))] [(.int (1 : Int32)), (.int (2 : Int32)), (.int (3 : Int32))]))
      refine P555.xs (fun hA hx hy t k => XS.iadd hA hx rfl (hb hy at_51) rfl k) ?_
      show Go p e below _ (T555.setTop (mkF m 52 #[.val (.int p0), .val (.int p1), .val (.ref o269), .val (.ref o270), .val (.ref o520), .val (.ref o531), .val (.int (2 : Int32)), .val (.int (0 : Int32))] [(.int (3 : Int32)), (.int (3 : Int32))]))
      refine P555.xs (fun hA hx hy t k => XS.iload hA hx rfl (hb hy at_52) rfl  k) ?_
      show Go p e below _ (T555.setTop (mkF m 54 #[.val (.int p0), .val (.int p1), .val (.ref o269), .val (.ref o270), .val (.ref o520), .val (.ref o531), .val (.int (2 : Int32)), .val (.int (0 : Int32))] [(.int (0 : Int32)), (.int (3 : Int32)), (.int (3 : Int32))]))
      refine P555.xs (fun hA hx hy t k => XS.iadd hA hx rfl (hb hy at_54) rfl k) ?_
      show Go p e below _ (T555.setTop (mkF m 55 #[.val (.int p0), .val (.int p1), .val (.ref o269), .val (.ref o270), .val (.ref o520), .val (.ref o531), .val (.int (2 : Int32)), .val (.int (0 : Int32))] [(.int (3 : Int32)), (.int (3 : Int32))]))
      refine P555.xs (fun hA hx hy t k => XS.icmpYes hA hx rfl (pc0 := 55) (pc' := 60) rfl (hb hy at_55) rfl (teq rfl).1 (by decide) (by decide) k) ?_
      show Go p e below _ (T555.setTop (mkF m 60 #[.val (.int p0), .val (.int p1), .val (.ref o269), .val (.ref o270), .val (.ref o520), .val (.ref o531), .val (.int (2 : Int32)), .val (.int (0 : Int32))] []))
      refine P555.xs (fun hA hx hy t k => XS.iload hA hx rfl (hb hy at_60) rfl  k) ?_
      show Go p e below _ (T555.setTop (mkF m 62 #[.val (.int p0), .val (.int p1), .val (.ref o269), .val (.ref o270), .val (.ref o520), .val (.ref o531), .val (.int (2 : Int32)), .val (.int (0 : Int32))] [(.int (2 : Int32))]))
      refine P555.xs (fun hA hx hy t k => XS.ifNo hA hx rfl (hb hy at_62) rfl ((if0 _ _).trans (tlt (by decide)).2.2.2) k) ?_
      show Go p e below _ (T555.setTop (mkF m 65 #[.val (.int p0), .val (.int p1), .val (.ref o269), .val (.ref o270), .val (.ref o520), .val (.ref o531), .val (.int (2 : Int32)), .val (.int (0 : Int32))] []))
      refine P555.xs (fun hA hx hy t k => XS.aload hA hx rfl (hb hy at_65) rfl rfl  k) ?_
      show Go p e below _ (T555.setTop (mkF m 67 #[.val (.int p0), .val (.int p1), .val (.ref o269), .val (.ref o270), .val (.ref o520), .val (.ref o531), .val (.int (2 : Int32)), .val (.int (0 : Int32))] [(.ref o531)]))
      refine P555.xs (fun hA hx hy t k => XS.iconst hA hx rfl (hb hy at_67) k) ?_
      show Go p e below _ (T555.setTop (mkF m 68 #[.val (.int p0), .val (.int p1), .val (.ref o269), .val (.ref o270), .val (.ref o520), .val (.ref o531), .val (.int (2 : Int32)), .val (.int (0 : Int32))] [(.int (0 : Int32)), (.ref o531)]))
      refine P555.strCh (W := 0) (hw _ (List.mem_of_getElem? (i := 173) rfl)) (hw _ (List.mem_of_getElem? (i := 174) rfl)) (hw _ (List.mem_of_getElem? (i := 176) rfl)) (hw _ (List.mem_of_getElem? (i := 175) rfl)) (wChN hw) (hw _ (List.mem_of_getElem? (i := 5) rfl)) S0 Pz S_f rf Ec545 V540 C540 A540 hl540 (Nat.le_of_ble_eq_true rfl) (i := 0) (Nat.le_of_ble_eq_true rfl) rfl (ch := ((p0 &&& (255 : Int32)).toUInt32.toUInt16.toUInt32.toInt32)) rfl (by decide) (by decide) (by decide) (by decide) pd_23 rfl rfl (Nat.le_of_eq rfl) at_68 fun T556 P556 => ?_
      show Go p e below _ (T556.setTop (mkF m 71 #[.val (.int p0), .val (.int p1), .val (.ref o269), .val (.ref o270), .val (.ref o520), .val (.ref o531), .val (.int (2 : Int32)), .val (.int (0 : Int32))] [(.int ((p0 &&& (255 : Int32)).toUInt32.toUInt16.toUInt32.toInt32))]))
      refine P556.xs (fun hA hx hy t k => XS.iloadN hA hx rfl (hb hy at_71) rfl  k) ?_
      show Go p e below _ (T556.setTop (mkF m 72 #[.val (.int p0), .val (.int p1), .val (.ref o269), .val (.ref o270), .val (.ref o520), .val (.ref o531), .val (.int (2 : Int32)), .val (.int (0 : Int32))] [(.int p0), (.int ((p0 &&& (255 : Int32)).toUInt32.toUInt16.toUInt32.toInt32))]))
      refine P556.xs (fun hA hx hy t k => XS.sipush hA hx rfl (hb hy at_72) k) ?_
      show Go p e below _ (T556.setTop (mkF m 75 #[.val (.int p0), .val (.int p1), .val (.ref o269), .val (.ref o270), .val (.ref o520), .val (.ref o531), .val (.int (2 : Int32)), .val (.int (0 : Int32))] [(.int (255 : Int32)), (.int p0), (.int ((p0 &&& (255 : Int32)).toUInt32.toUInt16.toUInt32.toInt32))]))
      refine P556.xs (fun hA hx hy t k => XS.iand hA hx rfl (hb hy at_75) rfl k) ?_
      show Go p e below _ (T556.setTop (mkF m 76 #[.val (.int p0), .val (.int p1), .val (.ref o269), .val (.ref o270), .val (.ref o520), .val (.ref o531), .val (.int (2 : Int32)), .val (.int (0 : Int32))] [(.int (p0 &&& (255 : Int32))), (.int ((p0 &&& (255 : Int32)).toUInt32.toUInt16.toUInt32.toInt32))]))
      refine P556.xs (fun hA hx hy t k => XS.i2c hA hx rfl (hb hy at_76) rfl k) ?_
      show Go p e below _ (T556.setTop (mkF m 77 #[.val (.int p0), .val (.int p1), .val (.ref o269), .val (.ref o270), .val (.ref o520), .val (.ref o531), .val (.int (2 : Int32)), .val (.int (0 : Int32))] [(.int ((p0 &&& (255 : Int32)).toUInt32.toUInt16.toUInt32.toInt32)), (.int ((p0 &&& (255 : Int32)).toUInt32.toUInt16.toUInt32.toInt32))]))
      refine P556.xs (fun hA hx hy t k => XS.icmpYes hA hx rfl (pc0 := 77) (pc' := 82) rfl (hb hy at_77) rfl (teq rfl).1 (by decide) (by decide) k) ?_
      show Go p e below _ (T556.setTop (mkF m 82 #[.val (.int p0), .val (.int p1), .val (.ref o269), .val (.ref o270), .val (.ref o520), .val (.ref o531), .val (.int (2 : Int32)), .val (.int (0 : Int32))] []))
      refine P556.xs (fun hA hx hy t k => XS.iload hA hx rfl (hb hy at_82) rfl  k) ?_
      show Go p e below _ (T556.setTop (mkF m 84 #[.val (.int p0), .val (.int p1), .val (.ref o269), .val (.ref o270), .val (.ref o520), .val (.ref o531), .val (.int (2 : Int32)), .val (.int (0 : Int32))] [(.int (2 : Int32))]))
      refine P556.xs (fun hA hx hy t k => XS.iconst hA hx rfl (hb hy at_84) k) ?_
      show Go p e below _ (T556.setTop (mkF m 85 #[.val (.int p0), .val (.int p1), .val (.ref o269), .val (.ref o270), .val (.ref o520), .val (.ref o531), .val (.int (2 : Int32)), .val (.int (0 : Int32))] [(.int (1 : Int32)), (.int (2 : Int32))]))
      refine P556.xs (fun hA hx hy t k => XS.icmpNo hA hx rfl (hb hy at_85) rfl (tlt (by decide)).2.2.2 k) ?_
      show Go p e below _ (T556.setTop (mkF m 88 #[.val (.int p0), .val (.int p1), .val (.ref o269), .val (.ref o270), .val (.ref o520), .val (.ref o531), .val (.int (2 : Int32)), .val (.int (0 : Int32))] []))
      refine P556.xs (fun hA hx hy t k => XS.aload hA hx rfl (hb hy at_88) rfl rfl  k) ?_
      show Go p e below _ (T556.setTop (mkF m 90 #[.val (.int p0), .val (.int p1), .val (.ref o269), .val (.ref o270), .val (.ref o520), .val (.ref o531), .val (.int (2 : Int32)), .val (.int (0 : Int32))] [(.ref o531)]))
      refine P556.xs (fun hA hx hy t k => XS.iconst hA hx rfl (hb hy at_90) k) ?_
      show Go p e below _ (T556.setTop (mkF m 91 #[.val (.int p0), .val (.int p1), .val (.ref o269), .val (.ref o270), .val (.ref o520), .val (.ref o531), .val (.int (2 : Int32)), .val (.int (0 : Int32))] [(.int (1 : Int32)), (.ref o531)]))
      refine P556.strCh (W := 0) (hw _ (List.mem_of_getElem? (i := 173) rfl)) (hw _ (List.mem_of_getElem? (i := 174) rfl)) (hw _ (List.mem_of_getElem? (i := 176) rfl)) (hw _ (List.mem_of_getElem? (i := 175) rfl)) (wChN hw) (hw _ (List.mem_of_getElem? (i := 5) rfl)) S0 Pz S_f rf Ec545 V540 C540 A540 hl540 (Nat.le_of_ble_eq_true rfl) (i := 1) (Nat.le_of_ble_eq_true rfl) rfl (ch := ((((p0.toUInt32 >>> ((8 : Int32) &&& 31).toUInt32).toInt32) &&& (255 : Int32)).toUInt32.toUInt16.toUInt32.toInt32)) rfl (by decide) (by decide) (by decide) (by decide) pd_23 rfl rfl (Nat.le_of_eq rfl) at_91 fun T557 P557 => ?_
      show Go p e below _ (T557.setTop (mkF m 94 #[.val (.int p0), .val (.int p1), .val (.ref o269), .val (.ref o270), .val (.ref o520), .val (.ref o531), .val (.int (2 : Int32)), .val (.int (0 : Int32))] [(.int ((((p0.toUInt32 >>> ((8 : Int32) &&& 31).toUInt32).toInt32) &&& (255 : Int32)).toUInt32.toUInt16.toUInt32.toInt32))]))
      refine P557.xs (fun hA hx hy t k => XS.iloadN hA hx rfl (hb hy at_94) rfl  k) ?_
      show Go p e below _ (T557.setTop (mkF m 95 #[.val (.int p0), .val (.int p1), .val (.ref o269), .val (.ref o270), .val (.ref o520), .val (.ref o531), .val (.int (2 : Int32)), .val (.int (0 : Int32))] [(.int p0), (.int ((((p0.toUInt32 >>> ((8 : Int32) &&& 31).toUInt32).toInt32) &&& (255 : Int32)).toUInt32.toUInt16.toUInt32.toInt32))]))
      refine P557.xs (fun hA hx hy t k => XS.bipush hA hx rfl (hb hy at_95) k) ?_
      show Go p e below _ (T557.setTop (mkF m 97 #[.val (.int p0), .val (.int p1), .val (.ref o269), .val (.ref o270), .val (.ref o520), .val (.ref o531), .val (.int (2 : Int32)), .val (.int (0 : Int32))] [(.int (8 : Int32)), (.int p0), (.int ((((p0.toUInt32 >>> ((8 : Int32) &&& 31).toUInt32).toInt32) &&& (255 : Int32)).toUInt32.toUInt16.toUInt32.toInt32))]))
      refine P557.xs (fun hA hx hy t k => XS.iushr hA hx rfl (hb hy at_97) rfl k) ?_
      show Go p e below _ (T557.setTop (mkF m 98 #[.val (.int p0), .val (.int p1), .val (.ref o269), .val (.ref o270), .val (.ref o520), .val (.ref o531), .val (.int (2 : Int32)), .val (.int (0 : Int32))] [(.int ((p0.toUInt32 >>> ((8 : Int32) &&& 31).toUInt32).toInt32)), (.int ((((p0.toUInt32 >>> ((8 : Int32) &&& 31).toUInt32).toInt32) &&& (255 : Int32)).toUInt32.toUInt16.toUInt32.toInt32))]))
      refine P557.xs (fun hA hx hy t k => XS.sipush hA hx rfl (hb hy at_98) k) ?_
      show Go p e below _ (T557.setTop (mkF m 101 #[.val (.int p0), .val (.int p1), .val (.ref o269), .val (.ref o270), .val (.ref o520), .val (.ref o531), .val (.int (2 : Int32)), .val (.int (0 : Int32))] [(.int (255 : Int32)), (.int ((p0.toUInt32 >>> ((8 : Int32) &&& 31).toUInt32).toInt32)), (.int ((((p0.toUInt32 >>> ((8 : Int32) &&& 31).toUInt32).toInt32) &&& (255 : Int32)).toUInt32.toUInt16.toUInt32.toInt32))]))
      refine P557.xs (fun hA hx hy t k => XS.iand hA hx rfl (hb hy at_101) rfl k) ?_
      show Go p e below _ (T557.setTop (mkF m 102 #[.val (.int p0), .val (.int p1), .val (.ref o269), .val (.ref o270), .val (.ref o520), .val (.ref o531), .val (.int (2 : Int32)), .val (.int (0 : Int32))] [(.int (((p0.toUInt32 >>> ((8 : Int32) &&& 31).toUInt32).toInt32) &&& (255 : Int32))), (.int ((((p0.toUInt32 >>> ((8 : Int32) &&& 31).toUInt32).toInt32) &&& (255 : Int32)).toUInt32.toUInt16.toUInt32.toInt32))]))
      refine P557.xs (fun hA hx hy t k => XS.i2c hA hx rfl (hb hy at_102) rfl k) ?_
      show Go p e below _ (T557.setTop (mkF m 103 #[.val (.int p0), .val (.int p1), .val (.ref o269), .val (.ref o270), .val (.ref o520), .val (.ref o531), .val (.int (2 : Int32)), .val (.int (0 : Int32))] [(.int ((((p0.toUInt32 >>> ((8 : Int32) &&& 31).toUInt32).toInt32) &&& (255 : Int32)).toUInt32.toUInt16.toUInt32.toInt32)), (.int ((((p0.toUInt32 >>> ((8 : Int32) &&& 31).toUInt32).toInt32) &&& (255 : Int32)).toUInt32.toUInt16.toUInt32.toInt32))]))
      refine P557.xs (fun hA hx hy t k => XS.icmpYes hA hx rfl (pc0 := 103) (pc' := 108) rfl (hb hy at_103) rfl (teq rfl).1 (by decide) (by decide) k) ?_
      show Go p e below _ (T557.setTop (mkF m 108 #[.val (.int p0), .val (.int p1), .val (.ref o269), .val (.ref o270), .val (.ref o520), .val (.ref o531), .val (.int (2 : Int32)), .val (.int (0 : Int32))] []))
      refine P557.xs (fun hA hx hy t k => XS.aload hA hx rfl (hb hy at_108) rfl rfl  k) ?_
      show Go p e below _ (T557.setTop (mkF m 110 #[.val (.int p0), .val (.int p1), .val (.ref o269), .val (.ref o270), .val (.ref o520), .val (.ref o531), .val (.int (2 : Int32)), .val (.int (0 : Int32))] [(.ref o531)]))
      refine P557.xs (fun hA hx hy t k => XS.iload hA hx rfl (hb hy at_110) rfl  k) ?_
      show Go p e below _ (T557.setTop (mkF m 112 #[.val (.int p0), .val (.int p1), .val (.ref o269), .val (.ref o270), .val (.ref o520), .val (.ref o531), .val (.int (2 : Int32)), .val (.int (0 : Int32))] [(.int (2 : Int32)), (.ref o531)]))
      refine P557.strCh (W := 0) (hw _ (List.mem_of_getElem? (i := 173) rfl)) (hw _ (List.mem_of_getElem? (i := 174) rfl)) (hw _ (List.mem_of_getElem? (i := 176) rfl)) (hw _ (List.mem_of_getElem? (i := 175) rfl)) (wChN hw) (hw _ (List.mem_of_getElem? (i := 5) rfl)) S0 Pz S_f rf Ec545 V540 C540 A540 hl540 (Nat.le_of_ble_eq_true rfl) (i := 2) (Nat.le_of_ble_eq_true rfl) rfl (ch := (47 : Int32)) rfl (by decide) (by decide) (by decide) (by decide) pd_23 rfl rfl (Nat.le_of_eq rfl) at_112 fun T558 P558 => ?_
      show Go p e below _ (T558.setTop (mkF m 115 #[.val (.int p0), .val (.int p1), .val (.ref o269), .val (.ref o270), .val (.ref o520), .val (.ref o531), .val (.int (2 : Int32)), .val (.int (0 : Int32))] [(.int (47 : Int32))]))
      refine P558.xs (fun hA hx hy t k => XS.bipush hA hx rfl (hb hy at_115) k) ?_
      show Go p e below _ (T558.setTop (mkF m 117 #[.val (.int p0), .val (.int p1), .val (.ref o269), .val (.ref o270), .val (.ref o520), .val (.ref o531), .val (.int (2 : Int32)), .val (.int (0 : Int32))] [(.int (47 : Int32)), (.int (47 : Int32))]))
      refine P558.xs (fun hA hx hy t k => XS.icmpYes hA hx rfl (pc0 := 117) (pc' := 122) rfl (hb hy at_117) rfl (teq rfl).1 (by decide) (by decide) k) ?_
      show Go p e below _ (T558.setTop (mkF m 122 #[.val (.int p0), .val (.int p1), .val (.ref o269), .val (.ref o270), .val (.ref o520), .val (.ref o531), .val (.int (2 : Int32)), .val (.int (0 : Int32))] []))
      refine P558.xs (fun hA hx hy t k => XS.iload hA hx rfl (hb hy at_122) rfl  k) ?_
      show Go p e below _ (T558.setTop (mkF m 124 #[.val (.int p0), .val (.int p1), .val (.ref o269), .val (.ref o270), .val (.ref o520), .val (.ref o531), .val (.int (2 : Int32)), .val (.int (0 : Int32))] [(.int (0 : Int32))]))
      refine P558.xs (fun hA hx hy t k => XS.ifYes hA hx rfl (pc0 := 124) (pc' := 147) rfl (hb hy at_124) rfl ((if0 _ _).trans (flt (by decide)).2.2.2) (by decide) (by decide) k) ?_
      show Go p e below _ (T558.setTop (mkF m 147 #[.val (.int p0), .val (.int p1), .val (.ref o269), .val (.ref o270), .val (.ref o520), .val (.ref o531), .val (.int (2 : Int32)), .val (.int (0 : Int32))] []))
      refine P558.xs (fun hA hx hy t k => XS.iload hA hx rfl (hb hy at_147) rfl  k) ?_
      show Go p e below _ (T558.setTop (mkF m 149 #[.val (.int p0), .val (.int p1), .val (.ref o269), .val (.ref o270), .val (.ref o520), .val (.ref o531), .val (.int (2 : Int32)), .val (.int (0 : Int32))] [(.int (0 : Int32))]))
      refine P558.xs (fun hA hx hy t k => XS.iconst hA hx rfl (hb hy at_149) k) ?_
      show Go p e below _ (T558.setTop (mkF m 150 #[.val (.int p0), .val (.int p1), .val (.ref o269), .val (.ref o270), .val (.ref o520), .val (.ref o531), .val (.int (2 : Int32)), .val (.int (0 : Int32))] [(.int (1 : Int32)), (.int (0 : Int32))]))
      refine P558.xs (fun hA hx hy t k => XS.icmpYes hA hx rfl (pc0 := 150) (pc' := 176) rfl (hb hy at_150) rfl (flt (by decide)).2.2.2 (by decide) (by decide) k) ?_
      show Go p e below _ (T558.setTop (mkF m 176 #[.val (.int p0), .val (.int p1), .val (.ref o269), .val (.ref o270), .val (.ref o520), .val (.ref o531), .val (.int (2 : Int32)), .val (.int (0 : Int32))] []))
      refine P558.xs (fun hA hx hy t k => XS.iconst hA hx rfl (hb hy at_176) k) ?_
      show Go p e below _ (T558.setTop (mkF m 177 #[.val (.int p0), .val (.int p1), .val (.ref o269), .val (.ref o270), .val (.ref o520), .val (.ref o531), .val (.int (2 : Int32)), .val (.int (0 : Int32))] [(.int (1 : Int32))]))
      exact P558.retN (t := .boolean) rfl (by simp) at_177 (by decide) (by decide) rfl
    · have So559 : Str Z h270 o269 ([((p0 &&& (255 : Int32)).toUInt32.toUInt16.toUInt32.toInt32), ((((p0.toUInt32 >>> ((8 : Int32) &&& 31).toUInt32).toInt32) &&& (255 : Int32)).toUInt32.toUInt16.toUInt32.toInt32)] : List Int32) := by have q := Sc274; rw [cs3_2 (n := 2) (by decide) (by decide) rfl] at q; exact q
      have hl559 : ∀ c ∈ ([((p0 &&& (255 : Int32)).toUInt32.toUInt16.toUInt32.toInt32), ((((p0.toUInt32 >>> ((8 : Int32) &&& 31).toUInt32).toInt32) &&& (255 : Int32)).toUInt32.toUInt16.toUInt32.toInt32)] : List Int32), ¬ c < 0 ∧ ¬ (255 : Int32) < c := (latS (chr255 rfl).1 (latS (chr255 rfl).1 lat0))
      obtain ⟨tt559, kt559, V559, C559, A559⟩ := strLat So559 hl559
      have So560 : Str Z h270 o270 ([((p1 &&& (255 : Int32)).toUInt32.toUInt16.toUInt32.toInt32)] : List Int32) := by have q := Ss270; rw [cs3_1 (n := 1) (by decide) rfl] at q; exact q
      have hl560 : ∀ c ∈ ([((p1 &&& (255 : Int32)).toUInt32.toUInt16.toUInt32.toInt32)] : List Int32), ¬ c < 0 ∧ ¬ (255 : Int32) < c := (latS (chr255 rfl).1 lat0)
      obtain ⟨tt560, kt560, V560, C560, A560⟩ := strLat So560 hl560
      show Go p e below _ (T270.setTop (mkF m 10 #[.val (.int p0), .val (.int p1), .val (.ref o269), .val (.ref o270), .unset, .unset, .unset, .unset] []))
      refine P270.newO (hw _ (List.mem_of_getElem? (i := 26) rfl)) (hw _ (List.mem_of_getElem? (i := 27) rfl)) (hw _ (List.mem_of_getElem? (i := 28) rfl)) at_10 (by decide) (by decide) fun T561 h561 o561 g561 P561 E561 A561 D561 => ?_
      have ne_o269_o561 : o269 ≠ o561 := Nat.ne_of_lt (Nat.lt_of_lt_of_le So559.1.lt (Nat.le_of_eq g561.symm))
      have ne_o270_o561 : o270 ≠ o561 := Nat.ne_of_lt (Nat.lt_of_lt_of_le So560.1.lt (Nat.le_of_eq g561.symm))
      have ne_tt559_o561 : tt559 ≠ o561 := Nat.ne_of_lt (Nat.lt_of_lt_of_le A559.lt (Nat.le_of_eq g561.symm))
      have ne_tt560_o561 : tt560 ≠ o561 := Nat.ne_of_lt (Nat.lt_of_lt_of_le A560.lt (Nat.le_of_eq g561.symm))
      have gz_o561 : Z.heap.size ≤ o561 := Nat.le_trans P270.old.1 (Nat.le_of_eq g561.symm)
      have gw_o561 : h0.size ≤ o561 := Nat.le_trans P270.kept.1 (Nat.le_of_eq g561.symm)
      have F561_type : Fld Z h561 o561 "com/example/certain_answers/certainanswers/server/MediaType" "type" "Ljava/lang/String;" .null := D561 (Or.inr (hw _ (List.mem_of_getElem? (i := 50) rfl))) (ty := (.object "java/lang/String")) (by decide)
      have F561_subtype : Fld Z h561 o561 "com/example/certain_answers/certainanswers/server/MediaType" "subtype" "Ljava/lang/String;" .null := D561 (Or.inr (hw _ (List.mem_of_getElem? (i := 52) rfl))) (ty := (.object "java/lang/String")) (by decide)
      have F561_parameters : Fld Z h561 o561 "com/example/certain_answers/certainanswers/server/MediaType" "parameters" "Ljava/util/Map;" .null := D561 (Or.inr (hw _ (List.mem_of_getElem? (i := 54) rfl))) (ty := (.object "java/util/Map")) (by decide)
      show Go p e below _ (T561.setTop (mkF m 13 #[.val (.int p0), .val (.int p1), .val (.ref o269), .val (.ref o270), .unset, .unset, .unset, .unset] [(.ref o561)]))
      refine P561.xs (fun hA hx hy t k => XS.dup hA hx rfl (hb hy at_13) rfl rfl k) ?_
      show Go p e below _ (T561.setTop (mkF m 14 #[.val (.int p0), .val (.int p1), .val (.ref o269), .val (.ref o270), .unset, .unset, .unset, .unset] [(.ref o561), (.ref o561)]))
      refine P561.xs (fun hA hx hy t k => XS.aloadN hA hx rfl (hb hy at_14) rfl rfl  k) ?_
      show Go p e below _ (T561.setTop (mkF m 15 #[.val (.int p0), .val (.int p1), .val (.ref o269), .val (.ref o270), .unset, .unset, .unset, .unset] [(.ref o269), (.ref o561), (.ref o561)]))
      refine P561.xs (fun hA hx hy t k => XS.aloadN hA hx rfl (hb hy at_15) rfl rfl  k) ?_
      show Go p e below _ (T561.setTop (mkF m 16 #[.val (.int p0), .val (.int p1), .val (.ref o269), .val (.ref o270), .unset, .unset, .unset, .unset] [(.ref o270), (.ref o269), (.ref o561), (.ref o561)]))
      have Ec563 : Exa Z h561 o269 "java/lang/String" := (So559.1.ext E561)
      have Ec564 : Exa Z h561 o270 "java/lang/String" := (So560.1.ext E561)
      have Fc565 : Fld Z h561 o269 "java/lang/String" "value" "[B" (.ref tt559) := (V559.ext E561)
      have Fc566 : Fld Z h561 o269 "java/lang/String" "coder" "B" (.int (0 : Int32)) := (C559.ext E561)
      have Fc567 : Fld Z h561 o270 "java/lang/String" "value" "[B" (.ref tt560) := (V560.ext E561)
      have Fc568 : Fld Z h561 o270 "java/lang/String" "coder" "B" (.int (0 : Int32)) := (C560.ext E561)
      have Ac569 : Arv Z h561 tt559 kt559 .byte (Int32.ofNat ([((p0 &&& (255 : Int32)).toUInt32.toUInt16.toUInt32.toInt32), ((((p0.toUInt32 >>> ((8 : Int32) &&& 31).toUInt32).toInt32) &&& (255 : Int32)).toUInt32.toUInt16.toUInt32.toInt32)] : List Int32).length) ((([((p0 &&& (255 : Int32)).toUInt32.toUInt16.toUInt32.toInt32), ((((p0.toUInt32 >>> ((8 : Int32) &&& 31).toUInt32).toInt32) &&& (255 : Int32)).toUInt32.toUInt16.toUInt32.toInt32)] : List Int32).map StrChars.lo8).map Value.int) (.int 0) := (A559.ext E561)
      have Ac570 : Arv Z h561 tt560 kt560 .byte (Int32.ofNat ([((p1 &&& (255 : Int32)).toUInt32.toUInt16.toUInt32.toInt32)] : List Int32).length) ((([((p1 &&& (255 : Int32)).toUInt32.toUInt16.toUInt32.toInt32)] : List Int32).map StrChars.lo8).map Value.int) (.int 0) := (A560.ext E561)
      refine P561.callS (hw _ (List.mem_of_getElem? (i := 29) rfl)) (hw _ (List.mem_of_getElem? (i := 30) rfl)) (hw _ (List.mem_of_getElem? (i := 31) rfl)) (hw _ (List.mem_of_getElem? (i := 32) rfl)) (by decide) (mMof l Z a0 hw hEL zc S0 Pz w_M S_M E_M fm S_f rf  h561 P561.old) (W := 4) (by decide) (by decide) (by decide) (by decide) all0 pd_21 (argsL := []) rfl rfl rfl (Nat.le_of_eq rfl) at_16 fun v562 T562 h562 P562 K562 Q562 => ?_
      obtain ⟨hv562, hh562⟩ := Q562
      subst hv562
      rw [hh562] at P562
      show Go p e below _ (T562.setTop (mkF m 19 #[.val (.int p0), .val (.int p1), .val (.ref o269), .val (.ref o270), .unset, .unset, .unset, .unset] [(.ref w_M), (.ref o270), (.ref o269), (.ref o561), (.ref o561)]))
      refine P562.callI rfl (hw _ (List.mem_of_getElem? (i := 35) rfl)) (hw _ (List.mem_of_getElem? (i := 36) rfl)) (hw _ (List.mem_of_getElem? (i := 28) rfl)) (hw _ (List.mem_of_getElem? (i := 37) rfl)) (by decide) (mMT l Z a0 hw hEL zc S0 Pz w_M S_M E_M fm S_f rf o561 o269 o270 h561 P562.old A561 F561_type F561_subtype F561_parameters gz_o561) (W := 1) (by decide) (by decide) (by decide) (by decide) (allS (Or.inr gw_o561) all0) pd_22 (argsL := [(.ref o269), (.ref o270), (.ref w_M)]) rfl rfl rfl (Nat.le_of_eq rfl) at_19 fun v571 T571 h571 P571 K571 Q571 => ?_
      obtain ⟨rfl, E571, Ft571, Fu571⟩ := Q571
      show Go p e below _ (T571.setTop (mkF m 22 #[.val (.int p0), .val (.int p1), .val (.ref o269), .val (.ref o270), .unset, .unset, .unset, .unset] [(.ref o561)]))
      refine P571.xs (fun hA hx hy t k => XS.astore hA hx rfl (hb hy at_22) rfl rfl (l' := #[.val (.int p0), .val (.int p1), .val (.ref o269), .val (.ref o270), .val (.ref o561), .unset, .unset, .unset]) rfl k) ?_
      show Go p e below _ (T571.setTop (mkF m 24 #[.val (.int p0), .val (.int p1), .val (.ref o269), .val (.ref o270), .val (.ref o561), .unset, .unset, .unset] []))
      refine P571.xs (fun hA hx hy t k => XS.aload hA hx rfl (hb hy at_24) rfl rfl  k) ?_
      show Go p e below _ (T571.setTop (mkF m 26 #[.val (.int p0), .val (.int p1), .val (.ref o269), .val (.ref o270), .val (.ref o561), .unset, .unset, .unset] [(.ref o561)]))
      have Ec573 : Exa Z h571 o269 "java/lang/String" := (Ec563.keep K571)
      have Ec574 : Exa Z h571 o270 "java/lang/String" := (Ec564.keep K571)
      have Fc575 : Fld Z h571 o269 "java/lang/String" "value" "[B" (.ref tt559) := (Fc565.keep K571 (ninS ne_o269_o561 nin0))
      have Fc576 : Fld Z h571 o269 "java/lang/String" "coder" "B" (.int (0 : Int32)) := (Fc566.keep K571 (ninS ne_o269_o561 nin0))
      have Fc577 : Fld Z h571 o270 "java/lang/String" "value" "[B" (.ref tt560) := (Fc567.keep K571 (ninS ne_o270_o561 nin0))
      have Fc578 : Fld Z h571 o270 "java/lang/String" "coder" "B" (.int (0 : Int32)) := (Fc568.keep K571 (ninS ne_o270_o561 nin0))
      have Ac579 : Arv Z h571 tt559 kt559 .byte (Int32.ofNat ([((p0 &&& (255 : Int32)).toUInt32.toUInt16.toUInt32.toInt32), ((((p0.toUInt32 >>> ((8 : Int32) &&& 31).toUInt32).toInt32) &&& (255 : Int32)).toUInt32.toUInt16.toUInt32.toInt32)] : List Int32).length) ((([((p0 &&& (255 : Int32)).toUInt32.toUInt16.toUInt32.toInt32), ((((p0.toUInt32 >>> ((8 : Int32) &&& 31).toUInt32).toInt32) &&& (255 : Int32)).toUInt32.toUInt16.toUInt32.toInt32)] : List Int32).map StrChars.lo8).map Value.int) (.int 0) := (Ac569.keep K571 (ninS ne_tt559_o561 nin0))
      have Ac580 : Arv Z h571 tt560 kt560 .byte (Int32.ofNat ([((p1 &&& (255 : Int32)).toUInt32.toUInt16.toUInt32.toInt32)] : List Int32).length) ((([((p1 &&& (255 : Int32)).toUInt32.toUInt16.toUInt32.toInt32)] : List Int32).map StrChars.lo8).map Value.int) (.int 0) := (Ac570.keep K571 (ninS ne_tt560_o561 nin0))
      refine P571.callV (hw _ (List.mem_of_getElem? (i := 55) rfl)) (hw _ (List.mem_of_getElem? (i := 56) rfl)) (hw _ (List.mem_of_getElem? (i := 58) rfl)) (nfOf (hw _ (List.mem_of_getElem? (i := 58) rfl))) (hw _ (List.mem_of_getElem? (i := 57) rfl)) (hw _ (List.mem_of_getElem? (i := 28) rfl)) (hw _ (List.mem_of_getElem? (i := 59) rfl)) (by decide) E571 (mEss l Z a0 hw hEL zc S0 Pz w_M S_M E_M fm S_f rf o561 o269 tt559 o270 tt560 kt559 kt560 ([((p0 &&& (255 : Int32)).toUInt32.toUInt16.toUInt32.toInt32), ((((p0.toUInt32 >>> ((8 : Int32) &&& 31).toUInt32).toInt32) &&& (255 : Int32)).toUInt32.toUInt16.toUInt32.toInt32)] : List Int32) ([((p1 &&& (255 : Int32)).toUInt32.toUInt16.toUInt32.toInt32)] : List Int32) h571 P571.old E571 Ft571 Fu571 Ec573 Fc575 Fc576 Ac579 Ec574 Fc577 Fc578 Ac580 hl559 hl560 (Nat.le_of_ble_eq_true rfl) (Nat.le_of_ble_eq_true rfl)) (W := 0) (by decide) (by decide) (by decide) (by decide) all0 pd_18 (argsL := []) rfl rfl rfl (Nat.le_of_eq rfl) at_26 fun v572 T572 h572 P572 K572 Q572 => ?_
      obtain ⟨o572, rfl, g572, Ss572⟩ := Q572
      have ne_o269_o572 : o269 ≠ o572 := Nat.ne_of_lt (Nat.lt_of_lt_of_le Ec573.lt g572)
      have ne_o270_o572 : o270 ≠ o572 := Nat.ne_of_lt (Nat.lt_of_lt_of_le Ec574.lt g572)
      have ne_o561_o572 : o561 ≠ o572 := Nat.ne_of_lt (Nat.lt_of_lt_of_le E571.lt g572)
      have ne_tt559_o572 : tt559 ≠ o572 := Nat.ne_of_lt (Nat.lt_of_lt_of_le Ac579.lt g572)
      have ne_tt560_o572 : tt560 ≠ o572 := Nat.ne_of_lt (Nat.lt_of_lt_of_le Ac580.lt g572)
      have gz_o572 : Z.heap.size ≤ o572 := Nat.le_trans P571.old.1 g572
      have gw_o572 : h0.size ≤ o572 := Nat.le_trans P571.kept.1 g572
      have So581 : Str Z h572 o572 ([((p0 &&& (255 : Int32)).toUInt32.toUInt16.toUInt32.toInt32), ((((p0.toUInt32 >>> ((8 : Int32) &&& 31).toUInt32).toInt32) &&& (255 : Int32)).toUInt32.toUInt16.toUInt32.toInt32), (47 : Int32), ((p1 &&& (255 : Int32)).toUInt32.toUInt16.toUInt32.toInt32)] : List Int32) := Ss572
      have hl581 : ∀ c ∈ ([((p0 &&& (255 : Int32)).toUInt32.toUInt16.toUInt32.toInt32), ((((p0.toUInt32 >>> ((8 : Int32) &&& 31).toUInt32).toInt32) &&& (255 : Int32)).toUInt32.toUInt16.toUInt32.toInt32), (47 : Int32), ((p1 &&& (255 : Int32)).toUInt32.toUInt16.toUInt32.toInt32)] : List Int32), ¬ c < 0 ∧ ¬ (255 : Int32) < c := (latS (chr255 rfl).1 (latS (chr255 rfl).1 (latS (by decide) (latS (chr255 rfl).1 lat0))))
      obtain ⟨tt581, kt581, V581, C581, A581⟩ := strLat So581 hl581
      show Go p e below _ (T572.setTop (mkF m 29 #[.val (.int p0), .val (.int p1), .val (.ref o269), .val (.ref o270), .val (.ref o561), .unset, .unset, .unset] [(.ref o572)]))
      refine P572.xs (fun hA hx hy t k => XS.astore hA hx rfl (hb hy at_29) rfl rfl (l' := #[.val (.int p0), .val (.int p1), .val (.ref o269), .val (.ref o270), .val (.ref o561), .val (.ref o572), .unset, .unset]) rfl k) ?_
      show Go p e below _ (T572.setTop (mkF m 31 #[.val (.int p0), .val (.int p1), .val (.ref o269), .val (.ref o270), .val (.ref o561), .val (.ref o572), .unset, .unset] []))
      refine P572.xs (fun hA hx hy t k => XS.aloadN hA hx rfl (hb hy at_31) rfl rfl  k) ?_
      show Go p e below _ (T572.setTop (mkF m 32 #[.val (.int p0), .val (.int p1), .val (.ref o269), .val (.ref o270), .val (.ref o561), .val (.ref o572), .unset, .unset] [(.ref o269)]))
      have Ec583 : Exa Z h572 o269 "java/lang/String" := (Ec573.keep K572)
      have Ec584 : Exa Z h572 o270 "java/lang/String" := (Ec574.keep K572)
      have Ec585 : Exa Z h572 o561 "com/example/certain_answers/certainanswers/server/MediaType" := (E571.keep K572)
      have Ec586 : Exa Z h572 o572 "java/lang/String" := So581.1
      have Fc587 : Fld Z h572 o269 "java/lang/String" "value" "[B" (.ref tt559) := (Fc575.keep K572 nin0)
      have Fc588 : Fld Z h572 o269 "java/lang/String" "coder" "B" (.int (0 : Int32)) := (Fc576.keep K572 nin0)
      have Fc589 : Fld Z h572 o270 "java/lang/String" "value" "[B" (.ref tt560) := (Fc577.keep K572 nin0)
      have Fc590 : Fld Z h572 o270 "java/lang/String" "coder" "B" (.int (0 : Int32)) := (Fc578.keep K572 nin0)
      have Fc591 : Fld Z h572 o561 "com/example/certain_answers/certainanswers/server/MediaType" "type" "Ljava/lang/String;" (.ref o269) := (Ft571.keep K572 nin0)
      have Fc592 : Fld Z h572 o561 "com/example/certain_answers/certainanswers/server/MediaType" "subtype" "Ljava/lang/String;" (.ref o270) := (Fu571.keep K572 nin0)
      have Ac593 : Arv Z h572 tt559 kt559 .byte (Int32.ofNat ([((p0 &&& (255 : Int32)).toUInt32.toUInt16.toUInt32.toInt32), ((((p0.toUInt32 >>> ((8 : Int32) &&& 31).toUInt32).toInt32) &&& (255 : Int32)).toUInt32.toUInt16.toUInt32.toInt32)] : List Int32).length) ((([((p0 &&& (255 : Int32)).toUInt32.toUInt16.toUInt32.toInt32), ((((p0.toUInt32 >>> ((8 : Int32) &&& 31).toUInt32).toInt32) &&& (255 : Int32)).toUInt32.toUInt16.toUInt32.toInt32)] : List Int32).map StrChars.lo8).map Value.int) (.int 0) := (Ac579.keep K572 nin0)
      have Ac594 : Arv Z h572 tt560 kt560 .byte (Int32.ofNat ([((p1 &&& (255 : Int32)).toUInt32.toUInt16.toUInt32.toInt32)] : List Int32).length) ((([((p1 &&& (255 : Int32)).toUInt32.toUInt16.toUInt32.toInt32)] : List Int32).map StrChars.lo8).map Value.int) (.int 0) := (Ac580.keep K572 nin0)
      refine P572.callV (hw _ (List.mem_of_getElem? (i := 172) rfl)) (hw _ (List.mem_of_getElem? (i := 89) rfl)) (hw _ (List.mem_of_getElem? (i := 91) rfl)) (nfOf (hw _ (List.mem_of_getElem? (i := 91) rfl))) (hw _ (List.mem_of_getElem? (i := 90) rfl)) (hw _ (List.mem_of_getElem? (i := 6) rfl)) (hw _ (List.mem_of_getElem? (i := 92) rfl)) (by decide) Ec583 (mLen l Z a0 hw hEL zc S0 Pz w_M S_M E_M fm S_f rf o269 tt559 kt559 ([((p0 &&& (255 : Int32)).toUInt32.toUInt16.toUInt32.toInt32), ((((p0.toUInt32 >>> ((8 : Int32) &&& 31).toUInt32).toInt32) &&& (255 : Int32)).toUInt32.toUInt16.toUInt32.toInt32)] : List Int32) h572 P572.old Ec583 Fc587 Fc588 Ac593) (W := 0) (by decide) (by decide) (by decide) (by decide) all0 pd_4 (argsL := []) rfl rfl rfl (Nat.le_of_eq rfl) at_32 fun v582 T582 h582 P582 K582 Q582 => ?_
      obtain ⟨hv582, hh582⟩ := Q582
      subst hv582
      rw [hh582] at P582
      show Go p e below _ (T582.setTop (mkF m 35 #[.val (.int p0), .val (.int p1), .val (.ref o269), .val (.ref o270), .val (.ref o561), .val (.ref o572), .unset, .unset] [(.int (2 : Int32))]))
      refine P582.xs (fun hA hx hy t k => XS.istore hA hx rfl (hb hy at_35) rfl (l' := #[.val (.int p0), .val (.int p1), .val (.ref o269), .val (.ref o270), .val (.ref o561), .val (.ref o572), .val (.int (2 : Int32)), .unset]) rfl k) ?_
      show Go p e below _ (T582.setTop (mkF m 37 #[.val (.int p0), .val (.int p1), .val (.ref o269), .val (.ref o270), .val (.ref o561), .val (.ref o572), .val (.int (2 : Int32)), .unset] []))
      refine P582.xs (fun hA hx hy t k => XS.aloadN hA hx rfl (hb hy at_37) rfl rfl  k) ?_
      show Go p e below _ (T582.setTop (mkF m 38 #[.val (.int p0), .val (.int p1), .val (.ref o269), .val (.ref o270), .val (.ref o561), .val (.ref o572), .val (.int (2 : Int32)), .unset] [(.ref o270)]))
      refine P582.callV (hw _ (List.mem_of_getElem? (i := 172) rfl)) (hw _ (List.mem_of_getElem? (i := 89) rfl)) (hw _ (List.mem_of_getElem? (i := 91) rfl)) (nfOf (hw _ (List.mem_of_getElem? (i := 91) rfl))) (hw _ (List.mem_of_getElem? (i := 90) rfl)) (hw _ (List.mem_of_getElem? (i := 6) rfl)) (hw _ (List.mem_of_getElem? (i := 92) rfl)) (by decide) Ec584 (mLen l Z a0 hw hEL zc S0 Pz w_M S_M E_M fm S_f rf o270 tt560 kt560 ([((p1 &&& (255 : Int32)).toUInt32.toUInt16.toUInt32.toInt32)] : List Int32) h572 P582.old Ec584 Fc589 Fc590 Ac594) (W := 0) (by decide) (by decide) (by decide) (by decide) all0 pd_4 (argsL := []) rfl rfl rfl (Nat.le_of_eq rfl) at_38 fun v595 T595 h595 P595 K595 Q595 => ?_
      obtain ⟨hv595, hh595⟩ := Q595
      subst hv595
      rw [hh595] at P595
      show Go p e below _ (T595.setTop (mkF m 41 #[.val (.int p0), .val (.int p1), .val (.ref o269), .val (.ref o270), .val (.ref o561), .val (.ref o572), .val (.int (2 : Int32)), .unset] [(.int (1 : Int32))]))
      refine P595.xs (fun hA hx hy t k => XS.istore hA hx rfl (hb hy at_41) rfl (l' := #[.val (.int p0), .val (.int p1), .val (.ref o269), .val (.ref o270), .val (.ref o561), .val (.ref o572), .val (.int (2 : Int32)), .val (.int (1 : Int32))]) rfl k) ?_
      show Go p e below _ (T595.setTop (mkF m 43 #[.val (.int p0), .val (.int p1), .val (.ref o269), .val (.ref o270), .val (.ref o561), .val (.ref o572), .val (.int (2 : Int32)), .val (.int (1 : Int32))] []))
      refine P595.xs (fun hA hx hy t k => XS.aload hA hx rfl (hb hy at_43) rfl rfl  k) ?_
      show Go p e below _ (T595.setTop (mkF m 45 #[.val (.int p0), .val (.int p1), .val (.ref o269), .val (.ref o270), .val (.ref o561), .val (.ref o572), .val (.int (2 : Int32)), .val (.int (1 : Int32))] [(.ref o572)]))
      refine P595.callV (hw _ (List.mem_of_getElem? (i := 172) rfl)) (hw _ (List.mem_of_getElem? (i := 89) rfl)) (hw _ (List.mem_of_getElem? (i := 91) rfl)) (nfOf (hw _ (List.mem_of_getElem? (i := 91) rfl))) (hw _ (List.mem_of_getElem? (i := 90) rfl)) (hw _ (List.mem_of_getElem? (i := 6) rfl)) (hw _ (List.mem_of_getElem? (i := 92) rfl)) (by decide) Ec586 (mLen l Z a0 hw hEL zc S0 Pz w_M S_M E_M fm S_f rf o572 tt581 kt581 ([((p0 &&& (255 : Int32)).toUInt32.toUInt16.toUInt32.toInt32), ((((p0.toUInt32 >>> ((8 : Int32) &&& 31).toUInt32).toInt32) &&& (255 : Int32)).toUInt32.toUInt16.toUInt32.toInt32), (47 : Int32), ((p1 &&& (255 : Int32)).toUInt32.toUInt16.toUInt32.toInt32)] : List Int32) h572 P595.old Ec586 V581 C581 A581) (W := 0) (by decide) (by decide) (by decide) (by decide) all0 pd_4 (argsL := []) rfl rfl rfl (Nat.le_of_eq rfl) at_45 fun v596 T596 h596 P596 K596 Q596 => ?_
      obtain ⟨hv596, hh596⟩ := Q596
      subst hv596
      rw [hh596] at P596
      show Go p e below _ (T596.setTop (mkF m 48 #[.val (.int p0), .val (.int p1), .val (.ref o269), .val (.ref o270), .val (.ref o561), .val (.ref o572), .val (.int (2 : Int32)), .val (.int (1 : Int32))] [(.int (4 : Int32))]))
      refine P596.xs (fun hA hx hy t k => XS.iload hA hx rfl (hb hy at_48) rfl  k) ?_
      show Go p e below _ (T596.setTop (mkF m 50 #[.val (.int p0), .val (.int p1), .val (.ref o269), .val (.ref o270), .val (.ref o561), .val (.ref o572), .val (.int (2 : Int32)), .val (.int (1 : Int32))] [(.int (2 : Int32)), (.int (4 : Int32))]))
      refine P596.xs (fun hA hx hy t k => XS.iconst hA hx rfl (hb hy at_50) k) ?_
      show Go p e below _ (T596.setTop (mkF m 51 #[.val (.int p0), .val (.int p1), .val (.ref o269), .val (.ref o270), .val (.ref o561), .val (.ref o572), .val (.int (2 : Int32)), .val (.int (1 : Int32))] [(.int (1 : Int32)), (.int (2 : Int32)), (.int (4 : Int32))]))
      refine P596.xs (fun hA hx hy t k => XS.iadd hA hx rfl (hb hy at_51) rfl k) ?_
      show Go p e below _ (T596.setTop (mkF m 52 #[.val (.int p0), .val (.int p1), .val (.ref o269), .val (.ref o270), .val (.ref o561), .val (.ref o572), .val (.int (2 : Int32)), .val (.int (1 : Int32))] [(.int (3 : Int32)), (.int (4 : Int32))]))
      refine P596.xs (fun hA hx hy t k => XS.iload hA hx rfl (hb hy at_52) rfl  k) ?_
      show Go p e below _ (T596.setTop (mkF m 54 #[.val (.int p0), .val (.int p1), .val (.ref o269), .val (.ref o270), .val (.ref o561), .val (.ref o572), .val (.int (2 : Int32)), .val (.int (1 : Int32))] [(.int (1 : Int32)), (.int (3 : Int32)), (.int (4 : Int32))]))
      refine P596.xs (fun hA hx hy t k => XS.iadd hA hx rfl (hb hy at_54) rfl k) ?_
      show Go p e below _ (T596.setTop (mkF m 55 #[.val (.int p0), .val (.int p1), .val (.ref o269), .val (.ref o270), .val (.ref o561), .val (.ref o572), .val (.int (2 : Int32)), .val (.int (1 : Int32))] [(.int (4 : Int32)), (.int (4 : Int32))]))
      refine P596.xs (fun hA hx hy t k => XS.icmpYes hA hx rfl (pc0 := 55) (pc' := 60) rfl (hb hy at_55) rfl (teq rfl).1 (by decide) (by decide) k) ?_
      show Go p e below _ (T596.setTop (mkF m 60 #[.val (.int p0), .val (.int p1), .val (.ref o269), .val (.ref o270), .val (.ref o561), .val (.ref o572), .val (.int (2 : Int32)), .val (.int (1 : Int32))] []))
      refine P596.xs (fun hA hx hy t k => XS.iload hA hx rfl (hb hy at_60) rfl  k) ?_
      show Go p e below _ (T596.setTop (mkF m 62 #[.val (.int p0), .val (.int p1), .val (.ref o269), .val (.ref o270), .val (.ref o561), .val (.ref o572), .val (.int (2 : Int32)), .val (.int (1 : Int32))] [(.int (2 : Int32))]))
      refine P596.xs (fun hA hx hy t k => XS.ifNo hA hx rfl (hb hy at_62) rfl ((if0 _ _).trans (tlt (by decide)).2.2.2) k) ?_
      show Go p e below _ (T596.setTop (mkF m 65 #[.val (.int p0), .val (.int p1), .val (.ref o269), .val (.ref o270), .val (.ref o561), .val (.ref o572), .val (.int (2 : Int32)), .val (.int (1 : Int32))] []))
      refine P596.xs (fun hA hx hy t k => XS.aload hA hx rfl (hb hy at_65) rfl rfl  k) ?_
      show Go p e below _ (T596.setTop (mkF m 67 #[.val (.int p0), .val (.int p1), .val (.ref o269), .val (.ref o270), .val (.ref o561), .val (.ref o572), .val (.int (2 : Int32)), .val (.int (1 : Int32))] [(.ref o572)]))
      refine P596.xs (fun hA hx hy t k => XS.iconst hA hx rfl (hb hy at_67) k) ?_
      show Go p e below _ (T596.setTop (mkF m 68 #[.val (.int p0), .val (.int p1), .val (.ref o269), .val (.ref o270), .val (.ref o561), .val (.ref o572), .val (.int (2 : Int32)), .val (.int (1 : Int32))] [(.int (0 : Int32)), (.ref o572)]))
      refine P596.strCh (W := 0) (hw _ (List.mem_of_getElem? (i := 173) rfl)) (hw _ (List.mem_of_getElem? (i := 174) rfl)) (hw _ (List.mem_of_getElem? (i := 176) rfl)) (hw _ (List.mem_of_getElem? (i := 175) rfl)) (wChN hw) (hw _ (List.mem_of_getElem? (i := 5) rfl)) S0 Pz S_f rf Ec586 V581 C581 A581 hl581 (Nat.le_of_ble_eq_true rfl) (i := 0) (Nat.le_of_ble_eq_true rfl) rfl (ch := ((p0 &&& (255 : Int32)).toUInt32.toUInt16.toUInt32.toInt32)) rfl (by decide) (by decide) (by decide) (by decide) pd_23 rfl rfl (Nat.le_of_eq rfl) at_68 fun T597 P597 => ?_
      show Go p e below _ (T597.setTop (mkF m 71 #[.val (.int p0), .val (.int p1), .val (.ref o269), .val (.ref o270), .val (.ref o561), .val (.ref o572), .val (.int (2 : Int32)), .val (.int (1 : Int32))] [(.int ((p0 &&& (255 : Int32)).toUInt32.toUInt16.toUInt32.toInt32))]))
      refine P597.xs (fun hA hx hy t k => XS.iloadN hA hx rfl (hb hy at_71) rfl  k) ?_
      show Go p e below _ (T597.setTop (mkF m 72 #[.val (.int p0), .val (.int p1), .val (.ref o269), .val (.ref o270), .val (.ref o561), .val (.ref o572), .val (.int (2 : Int32)), .val (.int (1 : Int32))] [(.int p0), (.int ((p0 &&& (255 : Int32)).toUInt32.toUInt16.toUInt32.toInt32))]))
      refine P597.xs (fun hA hx hy t k => XS.sipush hA hx rfl (hb hy at_72) k) ?_
      show Go p e below _ (T597.setTop (mkF m 75 #[.val (.int p0), .val (.int p1), .val (.ref o269), .val (.ref o270), .val (.ref o561), .val (.ref o572), .val (.int (2 : Int32)), .val (.int (1 : Int32))] [(.int (255 : Int32)), (.int p0), (.int ((p0 &&& (255 : Int32)).toUInt32.toUInt16.toUInt32.toInt32))]))
      refine P597.xs (fun hA hx hy t k => XS.iand hA hx rfl (hb hy at_75) rfl k) ?_
      show Go p e below _ (T597.setTop (mkF m 76 #[.val (.int p0), .val (.int p1), .val (.ref o269), .val (.ref o270), .val (.ref o561), .val (.ref o572), .val (.int (2 : Int32)), .val (.int (1 : Int32))] [(.int (p0 &&& (255 : Int32))), (.int ((p0 &&& (255 : Int32)).toUInt32.toUInt16.toUInt32.toInt32))]))
      refine P597.xs (fun hA hx hy t k => XS.i2c hA hx rfl (hb hy at_76) rfl k) ?_
      show Go p e below _ (T597.setTop (mkF m 77 #[.val (.int p0), .val (.int p1), .val (.ref o269), .val (.ref o270), .val (.ref o561), .val (.ref o572), .val (.int (2 : Int32)), .val (.int (1 : Int32))] [(.int ((p0 &&& (255 : Int32)).toUInt32.toUInt16.toUInt32.toInt32)), (.int ((p0 &&& (255 : Int32)).toUInt32.toUInt16.toUInt32.toInt32))]))
      refine P597.xs (fun hA hx hy t k => XS.icmpYes hA hx rfl (pc0 := 77) (pc' := 82) rfl (hb hy at_77) rfl (teq rfl).1 (by decide) (by decide) k) ?_
      show Go p e below _ (T597.setTop (mkF m 82 #[.val (.int p0), .val (.int p1), .val (.ref o269), .val (.ref o270), .val (.ref o561), .val (.ref o572), .val (.int (2 : Int32)), .val (.int (1 : Int32))] []))
      refine P597.xs (fun hA hx hy t k => XS.iload hA hx rfl (hb hy at_82) rfl  k) ?_
      show Go p e below _ (T597.setTop (mkF m 84 #[.val (.int p0), .val (.int p1), .val (.ref o269), .val (.ref o270), .val (.ref o561), .val (.ref o572), .val (.int (2 : Int32)), .val (.int (1 : Int32))] [(.int (2 : Int32))]))
      refine P597.xs (fun hA hx hy t k => XS.iconst hA hx rfl (hb hy at_84) k) ?_
      show Go p e below _ (T597.setTop (mkF m 85 #[.val (.int p0), .val (.int p1), .val (.ref o269), .val (.ref o270), .val (.ref o561), .val (.ref o572), .val (.int (2 : Int32)), .val (.int (1 : Int32))] [(.int (1 : Int32)), (.int (2 : Int32))]))
      refine P597.xs (fun hA hx hy t k => XS.icmpNo hA hx rfl (hb hy at_85) rfl (tlt (by decide)).2.2.2 k) ?_
      show Go p e below _ (T597.setTop (mkF m 88 #[.val (.int p0), .val (.int p1), .val (.ref o269), .val (.ref o270), .val (.ref o561), .val (.ref o572), .val (.int (2 : Int32)), .val (.int (1 : Int32))] []))
      refine P597.xs (fun hA hx hy t k => XS.aload hA hx rfl (hb hy at_88) rfl rfl  k) ?_
      show Go p e below _ (T597.setTop (mkF m 90 #[.val (.int p0), .val (.int p1), .val (.ref o269), .val (.ref o270), .val (.ref o561), .val (.ref o572), .val (.int (2 : Int32)), .val (.int (1 : Int32))] [(.ref o572)]))
      refine P597.xs (fun hA hx hy t k => XS.iconst hA hx rfl (hb hy at_90) k) ?_
      show Go p e below _ (T597.setTop (mkF m 91 #[.val (.int p0), .val (.int p1), .val (.ref o269), .val (.ref o270), .val (.ref o561), .val (.ref o572), .val (.int (2 : Int32)), .val (.int (1 : Int32))] [(.int (1 : Int32)), (.ref o572)]))
      refine P597.strCh (W := 0) (hw _ (List.mem_of_getElem? (i := 173) rfl)) (hw _ (List.mem_of_getElem? (i := 174) rfl)) (hw _ (List.mem_of_getElem? (i := 176) rfl)) (hw _ (List.mem_of_getElem? (i := 175) rfl)) (wChN hw) (hw _ (List.mem_of_getElem? (i := 5) rfl)) S0 Pz S_f rf Ec586 V581 C581 A581 hl581 (Nat.le_of_ble_eq_true rfl) (i := 1) (Nat.le_of_ble_eq_true rfl) rfl (ch := ((((p0.toUInt32 >>> ((8 : Int32) &&& 31).toUInt32).toInt32) &&& (255 : Int32)).toUInt32.toUInt16.toUInt32.toInt32)) rfl (by decide) (by decide) (by decide) (by decide) pd_23 rfl rfl (Nat.le_of_eq rfl) at_91 fun T598 P598 => ?_
      show Go p e below _ (T598.setTop (mkF m 94 #[.val (.int p0), .val (.int p1), .val (.ref o269), .val (.ref o270), .val (.ref o561), .val (.ref o572), .val (.int (2 : Int32)), .val (.int (1 : Int32))] [(.int ((((p0.toUInt32 >>> ((8 : Int32) &&& 31).toUInt32).toInt32) &&& (255 : Int32)).toUInt32.toUInt16.toUInt32.toInt32))]))
      refine P598.xs (fun hA hx hy t k => XS.iloadN hA hx rfl (hb hy at_94) rfl  k) ?_
      show Go p e below _ (T598.setTop (mkF m 95 #[.val (.int p0), .val (.int p1), .val (.ref o269), .val (.ref o270), .val (.ref o561), .val (.ref o572), .val (.int (2 : Int32)), .val (.int (1 : Int32))] [(.int p0), (.int ((((p0.toUInt32 >>> ((8 : Int32) &&& 31).toUInt32).toInt32) &&& (255 : Int32)).toUInt32.toUInt16.toUInt32.toInt32))]))
      refine P598.xs (fun hA hx hy t k => XS.bipush hA hx rfl (hb hy at_95) k) ?_
      show Go p e below _ (T598.setTop (mkF m 97 #[.val (.int p0), .val (.int p1), .val (.ref o269), .val (.ref o270), .val (.ref o561), .val (.ref o572), .val (.int (2 : Int32)), .val (.int (1 : Int32))] [(.int (8 : Int32)), (.int p0), (.int ((((p0.toUInt32 >>> ((8 : Int32) &&& 31).toUInt32).toInt32) &&& (255 : Int32)).toUInt32.toUInt16.toUInt32.toInt32))]))
      refine P598.xs (fun hA hx hy t k => XS.iushr hA hx rfl (hb hy at_97) rfl k) ?_
      show Go p e below _ (T598.setTop (mkF m 98 #[.val (.int p0), .val (.int p1), .val (.ref o269), .val (.ref o270), .val (.ref o561), .val (.ref o572), .val (.int (2 : Int32)), .val (.int (1 : Int32))] [(.int ((p0.toUInt32 >>> ((8 : Int32) &&& 31).toUInt32).toInt32)), (.int ((((p0.toUInt32 >>> ((8 : Int32) &&& 31).toUInt32).toInt32) &&& (255 : Int32)).toUInt32.toUInt16.toUInt32.toInt32))]))
      refine P598.xs (fun hA hx hy t k => XS.sipush hA hx rfl (hb hy at_98) k) ?_
      show Go p e below _ (T598.setTop (mkF m 101 #[.val (.int p0), .val (.int p1), .val (.ref o269), .val (.ref o270), .val (.ref o561), .val (.ref o572), .val (.int (2 : Int32)), .val (.int (1 : Int32))] [(.int (255 : Int32)), (.int ((p0.toUInt32 >>> ((8 : Int32) &&& 31).toUInt32).toInt32)), (.int ((((p0.toUInt32 >>> ((8 : Int32) &&& 31).toUInt32).toInt32) &&& (255 : Int32)).toUInt32.toUInt16.toUInt32.toInt32))]))
      refine P598.xs (fun hA hx hy t k => XS.iand hA hx rfl (hb hy at_101) rfl k) ?_
      show Go p e below _ (T598.setTop (mkF m 102 #[.val (.int p0), .val (.int p1), .val (.ref o269), .val (.ref o270), .val (.ref o561), .val (.ref o572), .val (.int (2 : Int32)), .val (.int (1 : Int32))] [(.int (((p0.toUInt32 >>> ((8 : Int32) &&& 31).toUInt32).toInt32) &&& (255 : Int32))), (.int ((((p0.toUInt32 >>> ((8 : Int32) &&& 31).toUInt32).toInt32) &&& (255 : Int32)).toUInt32.toUInt16.toUInt32.toInt32))]))
      refine P598.xs (fun hA hx hy t k => XS.i2c hA hx rfl (hb hy at_102) rfl k) ?_
      show Go p e below _ (T598.setTop (mkF m 103 #[.val (.int p0), .val (.int p1), .val (.ref o269), .val (.ref o270), .val (.ref o561), .val (.ref o572), .val (.int (2 : Int32)), .val (.int (1 : Int32))] [(.int ((((p0.toUInt32 >>> ((8 : Int32) &&& 31).toUInt32).toInt32) &&& (255 : Int32)).toUInt32.toUInt16.toUInt32.toInt32)), (.int ((((p0.toUInt32 >>> ((8 : Int32) &&& 31).toUInt32).toInt32) &&& (255 : Int32)).toUInt32.toUInt16.toUInt32.toInt32))]))
      refine P598.xs (fun hA hx hy t k => XS.icmpYes hA hx rfl (pc0 := 103) (pc' := 108) rfl (hb hy at_103) rfl (teq rfl).1 (by decide) (by decide) k) ?_
      show Go p e below _ (T598.setTop (mkF m 108 #[.val (.int p0), .val (.int p1), .val (.ref o269), .val (.ref o270), .val (.ref o561), .val (.ref o572), .val (.int (2 : Int32)), .val (.int (1 : Int32))] []))
      refine P598.xs (fun hA hx hy t k => XS.aload hA hx rfl (hb hy at_108) rfl rfl  k) ?_
      show Go p e below _ (T598.setTop (mkF m 110 #[.val (.int p0), .val (.int p1), .val (.ref o269), .val (.ref o270), .val (.ref o561), .val (.ref o572), .val (.int (2 : Int32)), .val (.int (1 : Int32))] [(.ref o572)]))
      refine P598.xs (fun hA hx hy t k => XS.iload hA hx rfl (hb hy at_110) rfl  k) ?_
      show Go p e below _ (T598.setTop (mkF m 112 #[.val (.int p0), .val (.int p1), .val (.ref o269), .val (.ref o270), .val (.ref o561), .val (.ref o572), .val (.int (2 : Int32)), .val (.int (1 : Int32))] [(.int (2 : Int32)), (.ref o572)]))
      refine P598.strCh (W := 0) (hw _ (List.mem_of_getElem? (i := 173) rfl)) (hw _ (List.mem_of_getElem? (i := 174) rfl)) (hw _ (List.mem_of_getElem? (i := 176) rfl)) (hw _ (List.mem_of_getElem? (i := 175) rfl)) (wChN hw) (hw _ (List.mem_of_getElem? (i := 5) rfl)) S0 Pz S_f rf Ec586 V581 C581 A581 hl581 (Nat.le_of_ble_eq_true rfl) (i := 2) (Nat.le_of_ble_eq_true rfl) rfl (ch := (47 : Int32)) rfl (by decide) (by decide) (by decide) (by decide) pd_23 rfl rfl (Nat.le_of_eq rfl) at_112 fun T599 P599 => ?_
      show Go p e below _ (T599.setTop (mkF m 115 #[.val (.int p0), .val (.int p1), .val (.ref o269), .val (.ref o270), .val (.ref o561), .val (.ref o572), .val (.int (2 : Int32)), .val (.int (1 : Int32))] [(.int (47 : Int32))]))
      refine P599.xs (fun hA hx hy t k => XS.bipush hA hx rfl (hb hy at_115) k) ?_
      show Go p e below _ (T599.setTop (mkF m 117 #[.val (.int p0), .val (.int p1), .val (.ref o269), .val (.ref o270), .val (.ref o561), .val (.ref o572), .val (.int (2 : Int32)), .val (.int (1 : Int32))] [(.int (47 : Int32)), (.int (47 : Int32))]))
      refine P599.xs (fun hA hx hy t k => XS.icmpYes hA hx rfl (pc0 := 117) (pc' := 122) rfl (hb hy at_117) rfl (teq rfl).1 (by decide) (by decide) k) ?_
      show Go p e below _ (T599.setTop (mkF m 122 #[.val (.int p0), .val (.int p1), .val (.ref o269), .val (.ref o270), .val (.ref o561), .val (.ref o572), .val (.int (2 : Int32)), .val (.int (1 : Int32))] []))
      refine P599.xs (fun hA hx hy t k => XS.iload hA hx rfl (hb hy at_122) rfl  k) ?_
      show Go p e below _ (T599.setTop (mkF m 124 #[.val (.int p0), .val (.int p1), .val (.ref o269), .val (.ref o270), .val (.ref o561), .val (.ref o572), .val (.int (2 : Int32)), .val (.int (1 : Int32))] [(.int (1 : Int32))]))
      refine P599.xs (fun hA hx hy t k => XS.ifNo hA hx rfl (hb hy at_124) rfl ((if0 _ _).trans (tlt (by decide)).2.2.2) k) ?_
      show Go p e below _ (T599.setTop (mkF m 127 #[.val (.int p0), .val (.int p1), .val (.ref o269), .val (.ref o270), .val (.ref o561), .val (.ref o572), .val (.int (2 : Int32)), .val (.int (1 : Int32))] []))
      refine P599.xs (fun hA hx hy t k => XS.aload hA hx rfl (hb hy at_127) rfl rfl  k) ?_
      show Go p e below _ (T599.setTop (mkF m 129 #[.val (.int p0), .val (.int p1), .val (.ref o269), .val (.ref o270), .val (.ref o561), .val (.ref o572), .val (.int (2 : Int32)), .val (.int (1 : Int32))] [(.ref o572)]))
      refine P599.xs (fun hA hx hy t k => XS.iload hA hx rfl (hb hy at_129) rfl  k) ?_
      show Go p e below _ (T599.setTop (mkF m 131 #[.val (.int p0), .val (.int p1), .val (.ref o269), .val (.ref o270), .val (.ref o561), .val (.ref o572), .val (.int (2 : Int32)), .val (.int (1 : Int32))] [(.int (2 : Int32)), (.ref o572)]))
      refine P599.xs (fun hA hx hy t k => XS.iconst hA hx rfl (hb hy at_131) k) ?_
      show Go p e below _ (T599.setTop (mkF m 132 #[.val (.int p0), .val (.int p1), .val (.ref o269), .val (.ref o270), .val (.ref o561), .val (.ref o572), .val (.int (2 : Int32)), .val (.int (1 : Int32))] [(.int (1 : Int32)), (.int (2 : Int32)), (.ref o572)]))
      refine P599.xs (fun hA hx hy t k => XS.iadd hA hx rfl (hb hy at_132) rfl k) ?_
      show Go p e below _ (T599.setTop (mkF m 133 #[.val (.int p0), .val (.int p1), .val (.ref o269), .val (.ref o270), .val (.ref o561), .val (.ref o572), .val (.int (2 : Int32)), .val (.int (1 : Int32))] [(.int (3 : Int32)), (.ref o572)]))
      refine P599.strCh (W := 0) (hw _ (List.mem_of_getElem? (i := 173) rfl)) (hw _ (List.mem_of_getElem? (i := 174) rfl)) (hw _ (List.mem_of_getElem? (i := 176) rfl)) (hw _ (List.mem_of_getElem? (i := 175) rfl)) (wChN hw) (hw _ (List.mem_of_getElem? (i := 5) rfl)) S0 Pz S_f rf Ec586 V581 C581 A581 hl581 (Nat.le_of_ble_eq_true rfl) (i := 3) (Nat.le_of_ble_eq_true rfl) rfl (ch := ((p1 &&& (255 : Int32)).toUInt32.toUInt16.toUInt32.toInt32)) rfl (by decide) (by decide) (by decide) (by decide) pd_23 rfl rfl (Nat.le_of_eq rfl) at_133 fun T600 P600 => ?_
      show Go p e below _ (T600.setTop (mkF m 136 #[.val (.int p0), .val (.int p1), .val (.ref o269), .val (.ref o270), .val (.ref o561), .val (.ref o572), .val (.int (2 : Int32)), .val (.int (1 : Int32))] [(.int ((p1 &&& (255 : Int32)).toUInt32.toUInt16.toUInt32.toInt32))]))
      refine P600.xs (fun hA hx hy t k => XS.iloadN hA hx rfl (hb hy at_136) rfl  k) ?_
      show Go p e below _ (T600.setTop (mkF m 137 #[.val (.int p0), .val (.int p1), .val (.ref o269), .val (.ref o270), .val (.ref o561), .val (.ref o572), .val (.int (2 : Int32)), .val (.int (1 : Int32))] [(.int p1), (.int ((p1 &&& (255 : Int32)).toUInt32.toUInt16.toUInt32.toInt32))]))
      refine P600.xs (fun hA hx hy t k => XS.sipush hA hx rfl (hb hy at_137) k) ?_
      show Go p e below _ (T600.setTop (mkF m 140 #[.val (.int p0), .val (.int p1), .val (.ref o269), .val (.ref o270), .val (.ref o561), .val (.ref o572), .val (.int (2 : Int32)), .val (.int (1 : Int32))] [(.int (255 : Int32)), (.int p1), (.int ((p1 &&& (255 : Int32)).toUInt32.toUInt16.toUInt32.toInt32))]))
      refine P600.xs (fun hA hx hy t k => XS.iand hA hx rfl (hb hy at_140) rfl k) ?_
      show Go p e below _ (T600.setTop (mkF m 141 #[.val (.int p0), .val (.int p1), .val (.ref o269), .val (.ref o270), .val (.ref o561), .val (.ref o572), .val (.int (2 : Int32)), .val (.int (1 : Int32))] [(.int (p1 &&& (255 : Int32))), (.int ((p1 &&& (255 : Int32)).toUInt32.toUInt16.toUInt32.toInt32))]))
      refine P600.xs (fun hA hx hy t k => XS.i2c hA hx rfl (hb hy at_141) rfl k) ?_
      show Go p e below _ (T600.setTop (mkF m 142 #[.val (.int p0), .val (.int p1), .val (.ref o269), .val (.ref o270), .val (.ref o561), .val (.ref o572), .val (.int (2 : Int32)), .val (.int (1 : Int32))] [(.int ((p1 &&& (255 : Int32)).toUInt32.toUInt16.toUInt32.toInt32)), (.int ((p1 &&& (255 : Int32)).toUInt32.toUInt16.toUInt32.toInt32))]))
      refine P600.xs (fun hA hx hy t k => XS.icmpYes hA hx rfl (pc0 := 142) (pc' := 147) rfl (hb hy at_142) rfl (teq rfl).1 (by decide) (by decide) k) ?_
      show Go p e below _ (T600.setTop (mkF m 147 #[.val (.int p0), .val (.int p1), .val (.ref o269), .val (.ref o270), .val (.ref o561), .val (.ref o572), .val (.int (2 : Int32)), .val (.int (1 : Int32))] []))
      refine P600.xs (fun hA hx hy t k => XS.iload hA hx rfl (hb hy at_147) rfl  k) ?_
      show Go p e below _ (T600.setTop (mkF m 149 #[.val (.int p0), .val (.int p1), .val (.ref o269), .val (.ref o270), .val (.ref o561), .val (.ref o572), .val (.int (2 : Int32)), .val (.int (1 : Int32))] [(.int (1 : Int32))]))
      refine P600.xs (fun hA hx hy t k => XS.iconst hA hx rfl (hb hy at_149) k) ?_
      show Go p e below _ (T600.setTop (mkF m 150 #[.val (.int p0), .val (.int p1), .val (.ref o269), .val (.ref o270), .val (.ref o561), .val (.ref o572), .val (.int (2 : Int32)), .val (.int (1 : Int32))] [(.int (1 : Int32)), (.int (1 : Int32))]))
      refine P600.xs (fun hA hx hy t k => XS.icmpYes hA hx rfl (pc0 := 150) (pc' := 176) rfl (hb hy at_150) rfl (flt (by decide)).2.2.2 (by decide) (by decide) k) ?_
      show Go p e below _ (T600.setTop (mkF m 176 #[.val (.int p0), .val (.int p1), .val (.ref o269), .val (.ref o270), .val (.ref o561), .val (.ref o572), .val (.int (2 : Int32)), .val (.int (1 : Int32))] []))
      refine P600.xs (fun hA hx hy t k => XS.iconst hA hx rfl (hb hy at_176) k) ?_
      show Go p e below _ (T600.setTop (mkF m 177 #[.val (.int p0), .val (.int p1), .val (.ref o269), .val (.ref o270), .val (.ref o561), .val (.ref o572), .val (.int (2 : Int32)), .val (.int (1 : Int32))] [(.int (1 : Int32))]))
      exact P600.retN (t := .boolean) rfl (by simp) at_177 (by decide) (by decide) rfl
    · have So601 : Str Z h270 o269 ([((p0 &&& (255 : Int32)).toUInt32.toUInt16.toUInt32.toInt32), ((((p0.toUInt32 >>> ((8 : Int32) &&& 31).toUInt32).toInt32) &&& (255 : Int32)).toUInt32.toUInt16.toUInt32.toInt32)] : List Int32) := by have q := Sc274; rw [cs3_2 (n := 2) (by decide) (by decide) rfl] at q; exact q
      have hl601 : ∀ c ∈ ([((p0 &&& (255 : Int32)).toUInt32.toUInt16.toUInt32.toInt32), ((((p0.toUInt32 >>> ((8 : Int32) &&& 31).toUInt32).toInt32) &&& (255 : Int32)).toUInt32.toUInt16.toUInt32.toInt32)] : List Int32), ¬ c < 0 ∧ ¬ (255 : Int32) < c := (latS (chr255 rfl).1 (latS (chr255 rfl).1 lat0))
      obtain ⟨tt601, kt601, V601, C601, A601⟩ := strLat So601 hl601
      have So602 : Str Z h270 o270 ([((p1 &&& (255 : Int32)).toUInt32.toUInt16.toUInt32.toInt32), ((((p1.toUInt32 >>> ((8 : Int32) &&& 31).toUInt32).toInt32) &&& (255 : Int32)).toUInt32.toUInt16.toUInt32.toInt32)] : List Int32) := by have q := Ss270; rw [cs3_2 (n := 2) (by decide) (by decide) rfl] at q; exact q
      have hl602 : ∀ c ∈ ([((p1 &&& (255 : Int32)).toUInt32.toUInt16.toUInt32.toInt32), ((((p1.toUInt32 >>> ((8 : Int32) &&& 31).toUInt32).toInt32) &&& (255 : Int32)).toUInt32.toUInt16.toUInt32.toInt32)] : List Int32), ¬ c < 0 ∧ ¬ (255 : Int32) < c := (latS (chr255 rfl).1 (latS (chr255 rfl).1 lat0))
      obtain ⟨tt602, kt602, V602, C602, A602⟩ := strLat So602 hl602
      show Go p e below _ (T270.setTop (mkF m 10 #[.val (.int p0), .val (.int p1), .val (.ref o269), .val (.ref o270), .unset, .unset, .unset, .unset] []))
      refine P270.newO (hw _ (List.mem_of_getElem? (i := 26) rfl)) (hw _ (List.mem_of_getElem? (i := 27) rfl)) (hw _ (List.mem_of_getElem? (i := 28) rfl)) at_10 (by decide) (by decide) fun T603 h603 o603 g603 P603 E603 A603 D603 => ?_
      have ne_o269_o603 : o269 ≠ o603 := Nat.ne_of_lt (Nat.lt_of_lt_of_le So601.1.lt (Nat.le_of_eq g603.symm))
      have ne_o270_o603 : o270 ≠ o603 := Nat.ne_of_lt (Nat.lt_of_lt_of_le So602.1.lt (Nat.le_of_eq g603.symm))
      have ne_tt601_o603 : tt601 ≠ o603 := Nat.ne_of_lt (Nat.lt_of_lt_of_le A601.lt (Nat.le_of_eq g603.symm))
      have ne_tt602_o603 : tt602 ≠ o603 := Nat.ne_of_lt (Nat.lt_of_lt_of_le A602.lt (Nat.le_of_eq g603.symm))
      have gz_o603 : Z.heap.size ≤ o603 := Nat.le_trans P270.old.1 (Nat.le_of_eq g603.symm)
      have gw_o603 : h0.size ≤ o603 := Nat.le_trans P270.kept.1 (Nat.le_of_eq g603.symm)
      have F603_type : Fld Z h603 o603 "com/example/certain_answers/certainanswers/server/MediaType" "type" "Ljava/lang/String;" .null := D603 (Or.inr (hw _ (List.mem_of_getElem? (i := 50) rfl))) (ty := (.object "java/lang/String")) (by decide)
      have F603_subtype : Fld Z h603 o603 "com/example/certain_answers/certainanswers/server/MediaType" "subtype" "Ljava/lang/String;" .null := D603 (Or.inr (hw _ (List.mem_of_getElem? (i := 52) rfl))) (ty := (.object "java/lang/String")) (by decide)
      have F603_parameters : Fld Z h603 o603 "com/example/certain_answers/certainanswers/server/MediaType" "parameters" "Ljava/util/Map;" .null := D603 (Or.inr (hw _ (List.mem_of_getElem? (i := 54) rfl))) (ty := (.object "java/util/Map")) (by decide)
      show Go p e below _ (T603.setTop (mkF m 13 #[.val (.int p0), .val (.int p1), .val (.ref o269), .val (.ref o270), .unset, .unset, .unset, .unset] [(.ref o603)]))
      refine P603.xs (fun hA hx hy t k => XS.dup hA hx rfl (hb hy at_13) rfl rfl k) ?_
      show Go p e below _ (T603.setTop (mkF m 14 #[.val (.int p0), .val (.int p1), .val (.ref o269), .val (.ref o270), .unset, .unset, .unset, .unset] [(.ref o603), (.ref o603)]))
      refine P603.xs (fun hA hx hy t k => XS.aloadN hA hx rfl (hb hy at_14) rfl rfl  k) ?_
      show Go p e below _ (T603.setTop (mkF m 15 #[.val (.int p0), .val (.int p1), .val (.ref o269), .val (.ref o270), .unset, .unset, .unset, .unset] [(.ref o269), (.ref o603), (.ref o603)]))
      refine P603.xs (fun hA hx hy t k => XS.aloadN hA hx rfl (hb hy at_15) rfl rfl  k) ?_
      show Go p e below _ (T603.setTop (mkF m 16 #[.val (.int p0), .val (.int p1), .val (.ref o269), .val (.ref o270), .unset, .unset, .unset, .unset] [(.ref o270), (.ref o269), (.ref o603), (.ref o603)]))
      have Ec605 : Exa Z h603 o269 "java/lang/String" := (So601.1.ext E603)
      have Ec606 : Exa Z h603 o270 "java/lang/String" := (So602.1.ext E603)
      have Fc607 : Fld Z h603 o269 "java/lang/String" "value" "[B" (.ref tt601) := (V601.ext E603)
      have Fc608 : Fld Z h603 o269 "java/lang/String" "coder" "B" (.int (0 : Int32)) := (C601.ext E603)
      have Fc609 : Fld Z h603 o270 "java/lang/String" "value" "[B" (.ref tt602) := (V602.ext E603)
      have Fc610 : Fld Z h603 o270 "java/lang/String" "coder" "B" (.int (0 : Int32)) := (C602.ext E603)
      have Ac611 : Arv Z h603 tt601 kt601 .byte (Int32.ofNat ([((p0 &&& (255 : Int32)).toUInt32.toUInt16.toUInt32.toInt32), ((((p0.toUInt32 >>> ((8 : Int32) &&& 31).toUInt32).toInt32) &&& (255 : Int32)).toUInt32.toUInt16.toUInt32.toInt32)] : List Int32).length) ((([((p0 &&& (255 : Int32)).toUInt32.toUInt16.toUInt32.toInt32), ((((p0.toUInt32 >>> ((8 : Int32) &&& 31).toUInt32).toInt32) &&& (255 : Int32)).toUInt32.toUInt16.toUInt32.toInt32)] : List Int32).map StrChars.lo8).map Value.int) (.int 0) := (A601.ext E603)
      have Ac612 : Arv Z h603 tt602 kt602 .byte (Int32.ofNat ([((p1 &&& (255 : Int32)).toUInt32.toUInt16.toUInt32.toInt32), ((((p1.toUInt32 >>> ((8 : Int32) &&& 31).toUInt32).toInt32) &&& (255 : Int32)).toUInt32.toUInt16.toUInt32.toInt32)] : List Int32).length) ((([((p1 &&& (255 : Int32)).toUInt32.toUInt16.toUInt32.toInt32), ((((p1.toUInt32 >>> ((8 : Int32) &&& 31).toUInt32).toInt32) &&& (255 : Int32)).toUInt32.toUInt16.toUInt32.toInt32)] : List Int32).map StrChars.lo8).map Value.int) (.int 0) := (A602.ext E603)
      refine P603.callS (hw _ (List.mem_of_getElem? (i := 29) rfl)) (hw _ (List.mem_of_getElem? (i := 30) rfl)) (hw _ (List.mem_of_getElem? (i := 31) rfl)) (hw _ (List.mem_of_getElem? (i := 32) rfl)) (by decide) (mMof l Z a0 hw hEL zc S0 Pz w_M S_M E_M fm S_f rf  h603 P603.old) (W := 4) (by decide) (by decide) (by decide) (by decide) all0 pd_21 (argsL := []) rfl rfl rfl (Nat.le_of_eq rfl) at_16 fun v604 T604 h604 P604 K604 Q604 => ?_
      obtain ⟨hv604, hh604⟩ := Q604
      subst hv604
      rw [hh604] at P604
      show Go p e below _ (T604.setTop (mkF m 19 #[.val (.int p0), .val (.int p1), .val (.ref o269), .val (.ref o270), .unset, .unset, .unset, .unset] [(.ref w_M), (.ref o270), (.ref o269), (.ref o603), (.ref o603)]))
      refine P604.callI rfl (hw _ (List.mem_of_getElem? (i := 35) rfl)) (hw _ (List.mem_of_getElem? (i := 36) rfl)) (hw _ (List.mem_of_getElem? (i := 28) rfl)) (hw _ (List.mem_of_getElem? (i := 37) rfl)) (by decide) (mMT l Z a0 hw hEL zc S0 Pz w_M S_M E_M fm S_f rf o603 o269 o270 h603 P604.old A603 F603_type F603_subtype F603_parameters gz_o603) (W := 1) (by decide) (by decide) (by decide) (by decide) (allS (Or.inr gw_o603) all0) pd_22 (argsL := [(.ref o269), (.ref o270), (.ref w_M)]) rfl rfl rfl (Nat.le_of_eq rfl) at_19 fun v613 T613 h613 P613 K613 Q613 => ?_
      obtain ⟨rfl, E613, Ft613, Fu613⟩ := Q613
      show Go p e below _ (T613.setTop (mkF m 22 #[.val (.int p0), .val (.int p1), .val (.ref o269), .val (.ref o270), .unset, .unset, .unset, .unset] [(.ref o603)]))
      refine P613.xs (fun hA hx hy t k => XS.astore hA hx rfl (hb hy at_22) rfl rfl (l' := #[.val (.int p0), .val (.int p1), .val (.ref o269), .val (.ref o270), .val (.ref o603), .unset, .unset, .unset]) rfl k) ?_
      show Go p e below _ (T613.setTop (mkF m 24 #[.val (.int p0), .val (.int p1), .val (.ref o269), .val (.ref o270), .val (.ref o603), .unset, .unset, .unset] []))
      refine P613.xs (fun hA hx hy t k => XS.aload hA hx rfl (hb hy at_24) rfl rfl  k) ?_
      show Go p e below _ (T613.setTop (mkF m 26 #[.val (.int p0), .val (.int p1), .val (.ref o269), .val (.ref o270), .val (.ref o603), .unset, .unset, .unset] [(.ref o603)]))
      have Ec615 : Exa Z h613 o269 "java/lang/String" := (Ec605.keep K613)
      have Ec616 : Exa Z h613 o270 "java/lang/String" := (Ec606.keep K613)
      have Fc617 : Fld Z h613 o269 "java/lang/String" "value" "[B" (.ref tt601) := (Fc607.keep K613 (ninS ne_o269_o603 nin0))
      have Fc618 : Fld Z h613 o269 "java/lang/String" "coder" "B" (.int (0 : Int32)) := (Fc608.keep K613 (ninS ne_o269_o603 nin0))
      have Fc619 : Fld Z h613 o270 "java/lang/String" "value" "[B" (.ref tt602) := (Fc609.keep K613 (ninS ne_o270_o603 nin0))
      have Fc620 : Fld Z h613 o270 "java/lang/String" "coder" "B" (.int (0 : Int32)) := (Fc610.keep K613 (ninS ne_o270_o603 nin0))
      have Ac621 : Arv Z h613 tt601 kt601 .byte (Int32.ofNat ([((p0 &&& (255 : Int32)).toUInt32.toUInt16.toUInt32.toInt32), ((((p0.toUInt32 >>> ((8 : Int32) &&& 31).toUInt32).toInt32) &&& (255 : Int32)).toUInt32.toUInt16.toUInt32.toInt32)] : List Int32).length) ((([((p0 &&& (255 : Int32)).toUInt32.toUInt16.toUInt32.toInt32), ((((p0.toUInt32 >>> ((8 : Int32) &&& 31).toUInt32).toInt32) &&& (255 : Int32)).toUInt32.toUInt16.toUInt32.toInt32)] : List Int32).map StrChars.lo8).map Value.int) (.int 0) := (Ac611.keep K613 (ninS ne_tt601_o603 nin0))
      have Ac622 : Arv Z h613 tt602 kt602 .byte (Int32.ofNat ([((p1 &&& (255 : Int32)).toUInt32.toUInt16.toUInt32.toInt32), ((((p1.toUInt32 >>> ((8 : Int32) &&& 31).toUInt32).toInt32) &&& (255 : Int32)).toUInt32.toUInt16.toUInt32.toInt32)] : List Int32).length) ((([((p1 &&& (255 : Int32)).toUInt32.toUInt16.toUInt32.toInt32), ((((p1.toUInt32 >>> ((8 : Int32) &&& 31).toUInt32).toInt32) &&& (255 : Int32)).toUInt32.toUInt16.toUInt32.toInt32)] : List Int32).map StrChars.lo8).map Value.int) (.int 0) := (Ac612.keep K613 (ninS ne_tt602_o603 nin0))
      refine P613.callV (hw _ (List.mem_of_getElem? (i := 55) rfl)) (hw _ (List.mem_of_getElem? (i := 56) rfl)) (hw _ (List.mem_of_getElem? (i := 58) rfl)) (nfOf (hw _ (List.mem_of_getElem? (i := 58) rfl))) (hw _ (List.mem_of_getElem? (i := 57) rfl)) (hw _ (List.mem_of_getElem? (i := 28) rfl)) (hw _ (List.mem_of_getElem? (i := 59) rfl)) (by decide) E613 (mEss l Z a0 hw hEL zc S0 Pz w_M S_M E_M fm S_f rf o603 o269 tt601 o270 tt602 kt601 kt602 ([((p0 &&& (255 : Int32)).toUInt32.toUInt16.toUInt32.toInt32), ((((p0.toUInt32 >>> ((8 : Int32) &&& 31).toUInt32).toInt32) &&& (255 : Int32)).toUInt32.toUInt16.toUInt32.toInt32)] : List Int32) ([((p1 &&& (255 : Int32)).toUInt32.toUInt16.toUInt32.toInt32), ((((p1.toUInt32 >>> ((8 : Int32) &&& 31).toUInt32).toInt32) &&& (255 : Int32)).toUInt32.toUInt16.toUInt32.toInt32)] : List Int32) h613 P613.old E613 Ft613 Fu613 Ec615 Fc617 Fc618 Ac621 Ec616 Fc619 Fc620 Ac622 hl601 hl602 (Nat.le_of_ble_eq_true rfl) (Nat.le_of_ble_eq_true rfl)) (W := 0) (by decide) (by decide) (by decide) (by decide) all0 pd_18 (argsL := []) rfl rfl rfl (Nat.le_of_eq rfl) at_26 fun v614 T614 h614 P614 K614 Q614 => ?_
      obtain ⟨o614, rfl, g614, Ss614⟩ := Q614
      have ne_o269_o614 : o269 ≠ o614 := Nat.ne_of_lt (Nat.lt_of_lt_of_le Ec615.lt g614)
      have ne_o270_o614 : o270 ≠ o614 := Nat.ne_of_lt (Nat.lt_of_lt_of_le Ec616.lt g614)
      have ne_o603_o614 : o603 ≠ o614 := Nat.ne_of_lt (Nat.lt_of_lt_of_le E613.lt g614)
      have ne_tt601_o614 : tt601 ≠ o614 := Nat.ne_of_lt (Nat.lt_of_lt_of_le Ac621.lt g614)
      have ne_tt602_o614 : tt602 ≠ o614 := Nat.ne_of_lt (Nat.lt_of_lt_of_le Ac622.lt g614)
      have gz_o614 : Z.heap.size ≤ o614 := Nat.le_trans P613.old.1 g614
      have gw_o614 : h0.size ≤ o614 := Nat.le_trans P613.kept.1 g614
      have So623 : Str Z h614 o614 ([((p0 &&& (255 : Int32)).toUInt32.toUInt16.toUInt32.toInt32), ((((p0.toUInt32 >>> ((8 : Int32) &&& 31).toUInt32).toInt32) &&& (255 : Int32)).toUInt32.toUInt16.toUInt32.toInt32), (47 : Int32), ((p1 &&& (255 : Int32)).toUInt32.toUInt16.toUInt32.toInt32), ((((p1.toUInt32 >>> ((8 : Int32) &&& 31).toUInt32).toInt32) &&& (255 : Int32)).toUInt32.toUInt16.toUInt32.toInt32)] : List Int32) := Ss614
      have hl623 : ∀ c ∈ ([((p0 &&& (255 : Int32)).toUInt32.toUInt16.toUInt32.toInt32), ((((p0.toUInt32 >>> ((8 : Int32) &&& 31).toUInt32).toInt32) &&& (255 : Int32)).toUInt32.toUInt16.toUInt32.toInt32), (47 : Int32), ((p1 &&& (255 : Int32)).toUInt32.toUInt16.toUInt32.toInt32), ((((p1.toUInt32 >>> ((8 : Int32) &&& 31).toUInt32).toInt32) &&& (255 : Int32)).toUInt32.toUInt16.toUInt32.toInt32)] : List Int32), ¬ c < 0 ∧ ¬ (255 : Int32) < c := (latS (chr255 rfl).1 (latS (chr255 rfl).1 (latS (by decide) (latS (chr255 rfl).1 (latS (chr255 rfl).1 lat0)))))
      obtain ⟨tt623, kt623, V623, C623, A623⟩ := strLat So623 hl623
      show Go p e below _ (T614.setTop (mkF m 29 #[.val (.int p0), .val (.int p1), .val (.ref o269), .val (.ref o270), .val (.ref o603), .unset, .unset, .unset] [(.ref o614)]))
      refine P614.xs (fun hA hx hy t k => XS.astore hA hx rfl (hb hy at_29) rfl rfl (l' := #[.val (.int p0), .val (.int p1), .val (.ref o269), .val (.ref o270), .val (.ref o603), .val (.ref o614), .unset, .unset]) rfl k) ?_
      show Go p e below _ (T614.setTop (mkF m 31 #[.val (.int p0), .val (.int p1), .val (.ref o269), .val (.ref o270), .val (.ref o603), .val (.ref o614), .unset, .unset] []))
      refine P614.xs (fun hA hx hy t k => XS.aloadN hA hx rfl (hb hy at_31) rfl rfl  k) ?_
      show Go p e below _ (T614.setTop (mkF m 32 #[.val (.int p0), .val (.int p1), .val (.ref o269), .val (.ref o270), .val (.ref o603), .val (.ref o614), .unset, .unset] [(.ref o269)]))
      have Ec625 : Exa Z h614 o269 "java/lang/String" := (Ec615.keep K614)
      have Ec626 : Exa Z h614 o270 "java/lang/String" := (Ec616.keep K614)
      have Ec627 : Exa Z h614 o603 "com/example/certain_answers/certainanswers/server/MediaType" := (E613.keep K614)
      have Ec628 : Exa Z h614 o614 "java/lang/String" := So623.1
      have Fc629 : Fld Z h614 o269 "java/lang/String" "value" "[B" (.ref tt601) := (Fc617.keep K614 nin0)
      have Fc630 : Fld Z h614 o269 "java/lang/String" "coder" "B" (.int (0 : Int32)) := (Fc618.keep K614 nin0)
      have Fc631 : Fld Z h614 o270 "java/lang/String" "value" "[B" (.ref tt602) := (Fc619.keep K614 nin0)
      have Fc632 : Fld Z h614 o270 "java/lang/String" "coder" "B" (.int (0 : Int32)) := (Fc620.keep K614 nin0)
      have Fc633 : Fld Z h614 o603 "com/example/certain_answers/certainanswers/server/MediaType" "type" "Ljava/lang/String;" (.ref o269) := (Ft613.keep K614 nin0)
      have Fc634 : Fld Z h614 o603 "com/example/certain_answers/certainanswers/server/MediaType" "subtype" "Ljava/lang/String;" (.ref o270) := (Fu613.keep K614 nin0)
      have Ac635 : Arv Z h614 tt601 kt601 .byte (Int32.ofNat ([((p0 &&& (255 : Int32)).toUInt32.toUInt16.toUInt32.toInt32), ((((p0.toUInt32 >>> ((8 : Int32) &&& 31).toUInt32).toInt32) &&& (255 : Int32)).toUInt32.toUInt16.toUInt32.toInt32)] : List Int32).length) ((([((p0 &&& (255 : Int32)).toUInt32.toUInt16.toUInt32.toInt32), ((((p0.toUInt32 >>> ((8 : Int32) &&& 31).toUInt32).toInt32) &&& (255 : Int32)).toUInt32.toUInt16.toUInt32.toInt32)] : List Int32).map StrChars.lo8).map Value.int) (.int 0) := (Ac621.keep K614 nin0)
      have Ac636 : Arv Z h614 tt602 kt602 .byte (Int32.ofNat ([((p1 &&& (255 : Int32)).toUInt32.toUInt16.toUInt32.toInt32), ((((p1.toUInt32 >>> ((8 : Int32) &&& 31).toUInt32).toInt32) &&& (255 : Int32)).toUInt32.toUInt16.toUInt32.toInt32)] : List Int32).length) ((([((p1 &&& (255 : Int32)).toUInt32.toUInt16.toUInt32.toInt32), ((((p1.toUInt32 >>> ((8 : Int32) &&& 31).toUInt32).toInt32) &&& (255 : Int32)).toUInt32.toUInt16.toUInt32.toInt32)] : List Int32).map StrChars.lo8).map Value.int) (.int 0) := (Ac622.keep K614 nin0)
      refine P614.callV (hw _ (List.mem_of_getElem? (i := 172) rfl)) (hw _ (List.mem_of_getElem? (i := 89) rfl)) (hw _ (List.mem_of_getElem? (i := 91) rfl)) (nfOf (hw _ (List.mem_of_getElem? (i := 91) rfl))) (hw _ (List.mem_of_getElem? (i := 90) rfl)) (hw _ (List.mem_of_getElem? (i := 6) rfl)) (hw _ (List.mem_of_getElem? (i := 92) rfl)) (by decide) Ec625 (mLen l Z a0 hw hEL zc S0 Pz w_M S_M E_M fm S_f rf o269 tt601 kt601 ([((p0 &&& (255 : Int32)).toUInt32.toUInt16.toUInt32.toInt32), ((((p0.toUInt32 >>> ((8 : Int32) &&& 31).toUInt32).toInt32) &&& (255 : Int32)).toUInt32.toUInt16.toUInt32.toInt32)] : List Int32) h614 P614.old Ec625 Fc629 Fc630 Ac635) (W := 0) (by decide) (by decide) (by decide) (by decide) all0 pd_4 (argsL := []) rfl rfl rfl (Nat.le_of_eq rfl) at_32 fun v624 T624 h624 P624 K624 Q624 => ?_
      obtain ⟨hv624, hh624⟩ := Q624
      subst hv624
      rw [hh624] at P624
      show Go p e below _ (T624.setTop (mkF m 35 #[.val (.int p0), .val (.int p1), .val (.ref o269), .val (.ref o270), .val (.ref o603), .val (.ref o614), .unset, .unset] [(.int (2 : Int32))]))
      refine P624.xs (fun hA hx hy t k => XS.istore hA hx rfl (hb hy at_35) rfl (l' := #[.val (.int p0), .val (.int p1), .val (.ref o269), .val (.ref o270), .val (.ref o603), .val (.ref o614), .val (.int (2 : Int32)), .unset]) rfl k) ?_
      show Go p e below _ (T624.setTop (mkF m 37 #[.val (.int p0), .val (.int p1), .val (.ref o269), .val (.ref o270), .val (.ref o603), .val (.ref o614), .val (.int (2 : Int32)), .unset] []))
      refine P624.xs (fun hA hx hy t k => XS.aloadN hA hx rfl (hb hy at_37) rfl rfl  k) ?_
      show Go p e below _ (T624.setTop (mkF m 38 #[.val (.int p0), .val (.int p1), .val (.ref o269), .val (.ref o270), .val (.ref o603), .val (.ref o614), .val (.int (2 : Int32)), .unset] [(.ref o270)]))
      refine P624.callV (hw _ (List.mem_of_getElem? (i := 172) rfl)) (hw _ (List.mem_of_getElem? (i := 89) rfl)) (hw _ (List.mem_of_getElem? (i := 91) rfl)) (nfOf (hw _ (List.mem_of_getElem? (i := 91) rfl))) (hw _ (List.mem_of_getElem? (i := 90) rfl)) (hw _ (List.mem_of_getElem? (i := 6) rfl)) (hw _ (List.mem_of_getElem? (i := 92) rfl)) (by decide) Ec626 (mLen l Z a0 hw hEL zc S0 Pz w_M S_M E_M fm S_f rf o270 tt602 kt602 ([((p1 &&& (255 : Int32)).toUInt32.toUInt16.toUInt32.toInt32), ((((p1.toUInt32 >>> ((8 : Int32) &&& 31).toUInt32).toInt32) &&& (255 : Int32)).toUInt32.toUInt16.toUInt32.toInt32)] : List Int32) h614 P624.old Ec626 Fc631 Fc632 Ac636) (W := 0) (by decide) (by decide) (by decide) (by decide) all0 pd_4 (argsL := []) rfl rfl rfl (Nat.le_of_eq rfl) at_38 fun v637 T637 h637 P637 K637 Q637 => ?_
      obtain ⟨hv637, hh637⟩ := Q637
      subst hv637
      rw [hh637] at P637
      show Go p e below _ (T637.setTop (mkF m 41 #[.val (.int p0), .val (.int p1), .val (.ref o269), .val (.ref o270), .val (.ref o603), .val (.ref o614), .val (.int (2 : Int32)), .unset] [(.int (2 : Int32))]))
      refine P637.xs (fun hA hx hy t k => XS.istore hA hx rfl (hb hy at_41) rfl (l' := #[.val (.int p0), .val (.int p1), .val (.ref o269), .val (.ref o270), .val (.ref o603), .val (.ref o614), .val (.int (2 : Int32)), .val (.int (2 : Int32))]) rfl k) ?_
      show Go p e below _ (T637.setTop (mkF m 43 #[.val (.int p0), .val (.int p1), .val (.ref o269), .val (.ref o270), .val (.ref o603), .val (.ref o614), .val (.int (2 : Int32)), .val (.int (2 : Int32))] []))
      refine P637.xs (fun hA hx hy t k => XS.aload hA hx rfl (hb hy at_43) rfl rfl  k) ?_
      show Go p e below _ (T637.setTop (mkF m 45 #[.val (.int p0), .val (.int p1), .val (.ref o269), .val (.ref o270), .val (.ref o603), .val (.ref o614), .val (.int (2 : Int32)), .val (.int (2 : Int32))] [(.ref o614)]))
      refine P637.callV (hw _ (List.mem_of_getElem? (i := 172) rfl)) (hw _ (List.mem_of_getElem? (i := 89) rfl)) (hw _ (List.mem_of_getElem? (i := 91) rfl)) (nfOf (hw _ (List.mem_of_getElem? (i := 91) rfl))) (hw _ (List.mem_of_getElem? (i := 90) rfl)) (hw _ (List.mem_of_getElem? (i := 6) rfl)) (hw _ (List.mem_of_getElem? (i := 92) rfl)) (by decide) Ec628 (mLen l Z a0 hw hEL zc S0 Pz w_M S_M E_M fm S_f rf o614 tt623 kt623 ([((p0 &&& (255 : Int32)).toUInt32.toUInt16.toUInt32.toInt32), ((((p0.toUInt32 >>> ((8 : Int32) &&& 31).toUInt32).toInt32) &&& (255 : Int32)).toUInt32.toUInt16.toUInt32.toInt32), (47 : Int32), ((p1 &&& (255 : Int32)).toUInt32.toUInt16.toUInt32.toInt32), ((((p1.toUInt32 >>> ((8 : Int32) &&& 31).toUInt32).toInt32) &&& (255 : Int32)).toUInt32.toUInt16.toUInt32.toInt32)] : List Int32) h614 P637.old Ec628 V623 C623 A623) (W := 0) (by decide) (by decide) (by decide) (by decide) all0 pd_4 (argsL := []) rfl rfl rfl (Nat.le_of_eq rfl) at_45 fun v638 T638 h638 P638 K638 Q638 => ?_
      obtain ⟨hv638, hh638⟩ := Q638
      subst hv638
      rw [hh638] at P638
      show Go p e below _ (T638.setTop (mkF m 48 #[.val (.int p0), .val (.int p1), .val (.ref o269), .val (.ref o270), .val (.ref o603), .val (.ref o614), .val (.int (2 : Int32)), .val (.int (2 : Int32))] [(.int (5 : Int32))]))
      refine P638.xs (fun hA hx hy t k => XS.iload hA hx rfl (hb hy at_48) rfl  k) ?_
      show Go p e below _ (T638.setTop (mkF m 50 #[.val (.int p0), .val (.int p1), .val (.ref o269), .val (.ref o270), .val (.ref o603), .val (.ref o614), .val (.int (2 : Int32)), .val (.int (2 : Int32))] [(.int (2 : Int32)), (.int (5 : Int32))]))
      refine P638.xs (fun hA hx hy t k => XS.iconst hA hx rfl (hb hy at_50) k) ?_
      show Go p e below _ (T638.setTop (mkF m 51 #[.val (.int p0), .val (.int p1), .val (.ref o269), .val (.ref o270), .val (.ref o603), .val (.ref o614), .val (.int (2 : Int32)), .val (.int (2 : Int32))] [(.int (1 : Int32)), (.int (2 : Int32)), (.int (5 : Int32))]))
      refine P638.xs (fun hA hx hy t k => XS.iadd hA hx rfl (hb hy at_51) rfl k) ?_
      show Go p e below _ (T638.setTop (mkF m 52 #[.val (.int p0), .val (.int p1), .val (.ref o269), .val (.ref o270), .val (.ref o603), .val (.ref o614), .val (.int (2 : Int32)), .val (.int (2 : Int32))] [(.int (3 : Int32)), (.int (5 : Int32))]))
      refine P638.xs (fun hA hx hy t k => XS.iload hA hx rfl (hb hy at_52) rfl  k) ?_
      show Go p e below _ (T638.setTop (mkF m 54 #[.val (.int p0), .val (.int p1), .val (.ref o269), .val (.ref o270), .val (.ref o603), .val (.ref o614), .val (.int (2 : Int32)), .val (.int (2 : Int32))] [(.int (2 : Int32)), (.int (3 : Int32)), (.int (5 : Int32))]))
      refine P638.xs (fun hA hx hy t k => XS.iadd hA hx rfl (hb hy at_54) rfl k) ?_
      show Go p e below _ (T638.setTop (mkF m 55 #[.val (.int p0), .val (.int p1), .val (.ref o269), .val (.ref o270), .val (.ref o603), .val (.ref o614), .val (.int (2 : Int32)), .val (.int (2 : Int32))] [(.int (5 : Int32)), (.int (5 : Int32))]))
      refine P638.xs (fun hA hx hy t k => XS.icmpYes hA hx rfl (pc0 := 55) (pc' := 60) rfl (hb hy at_55) rfl (teq rfl).1 (by decide) (by decide) k) ?_
      show Go p e below _ (T638.setTop (mkF m 60 #[.val (.int p0), .val (.int p1), .val (.ref o269), .val (.ref o270), .val (.ref o603), .val (.ref o614), .val (.int (2 : Int32)), .val (.int (2 : Int32))] []))
      refine P638.xs (fun hA hx hy t k => XS.iload hA hx rfl (hb hy at_60) rfl  k) ?_
      show Go p e below _ (T638.setTop (mkF m 62 #[.val (.int p0), .val (.int p1), .val (.ref o269), .val (.ref o270), .val (.ref o603), .val (.ref o614), .val (.int (2 : Int32)), .val (.int (2 : Int32))] [(.int (2 : Int32))]))
      refine P638.xs (fun hA hx hy t k => XS.ifNo hA hx rfl (hb hy at_62) rfl ((if0 _ _).trans (tlt (by decide)).2.2.2) k) ?_
      show Go p e below _ (T638.setTop (mkF m 65 #[.val (.int p0), .val (.int p1), .val (.ref o269), .val (.ref o270), .val (.ref o603), .val (.ref o614), .val (.int (2 : Int32)), .val (.int (2 : Int32))] []))
      refine P638.xs (fun hA hx hy t k => XS.aload hA hx rfl (hb hy at_65) rfl rfl  k) ?_
      show Go p e below _ (T638.setTop (mkF m 67 #[.val (.int p0), .val (.int p1), .val (.ref o269), .val (.ref o270), .val (.ref o603), .val (.ref o614), .val (.int (2 : Int32)), .val (.int (2 : Int32))] [(.ref o614)]))
      refine P638.xs (fun hA hx hy t k => XS.iconst hA hx rfl (hb hy at_67) k) ?_
      show Go p e below _ (T638.setTop (mkF m 68 #[.val (.int p0), .val (.int p1), .val (.ref o269), .val (.ref o270), .val (.ref o603), .val (.ref o614), .val (.int (2 : Int32)), .val (.int (2 : Int32))] [(.int (0 : Int32)), (.ref o614)]))
      refine P638.strCh (W := 0) (hw _ (List.mem_of_getElem? (i := 173) rfl)) (hw _ (List.mem_of_getElem? (i := 174) rfl)) (hw _ (List.mem_of_getElem? (i := 176) rfl)) (hw _ (List.mem_of_getElem? (i := 175) rfl)) (wChN hw) (hw _ (List.mem_of_getElem? (i := 5) rfl)) S0 Pz S_f rf Ec628 V623 C623 A623 hl623 (Nat.le_of_ble_eq_true rfl) (i := 0) (Nat.le_of_ble_eq_true rfl) rfl (ch := ((p0 &&& (255 : Int32)).toUInt32.toUInt16.toUInt32.toInt32)) rfl (by decide) (by decide) (by decide) (by decide) pd_23 rfl rfl (Nat.le_of_eq rfl) at_68 fun T639 P639 => ?_
      show Go p e below _ (T639.setTop (mkF m 71 #[.val (.int p0), .val (.int p1), .val (.ref o269), .val (.ref o270), .val (.ref o603), .val (.ref o614), .val (.int (2 : Int32)), .val (.int (2 : Int32))] [(.int ((p0 &&& (255 : Int32)).toUInt32.toUInt16.toUInt32.toInt32))]))
      refine P639.xs (fun hA hx hy t k => XS.iloadN hA hx rfl (hb hy at_71) rfl  k) ?_
      show Go p e below _ (T639.setTop (mkF m 72 #[.val (.int p0), .val (.int p1), .val (.ref o269), .val (.ref o270), .val (.ref o603), .val (.ref o614), .val (.int (2 : Int32)), .val (.int (2 : Int32))] [(.int p0), (.int ((p0 &&& (255 : Int32)).toUInt32.toUInt16.toUInt32.toInt32))]))
      refine P639.xs (fun hA hx hy t k => XS.sipush hA hx rfl (hb hy at_72) k) ?_
      show Go p e below _ (T639.setTop (mkF m 75 #[.val (.int p0), .val (.int p1), .val (.ref o269), .val (.ref o270), .val (.ref o603), .val (.ref o614), .val (.int (2 : Int32)), .val (.int (2 : Int32))] [(.int (255 : Int32)), (.int p0), (.int ((p0 &&& (255 : Int32)).toUInt32.toUInt16.toUInt32.toInt32))]))
      refine P639.xs (fun hA hx hy t k => XS.iand hA hx rfl (hb hy at_75) rfl k) ?_
      show Go p e below _ (T639.setTop (mkF m 76 #[.val (.int p0), .val (.int p1), .val (.ref o269), .val (.ref o270), .val (.ref o603), .val (.ref o614), .val (.int (2 : Int32)), .val (.int (2 : Int32))] [(.int (p0 &&& (255 : Int32))), (.int ((p0 &&& (255 : Int32)).toUInt32.toUInt16.toUInt32.toInt32))]))
      refine P639.xs (fun hA hx hy t k => XS.i2c hA hx rfl (hb hy at_76) rfl k) ?_
      show Go p e below _ (T639.setTop (mkF m 77 #[.val (.int p0), .val (.int p1), .val (.ref o269), .val (.ref o270), .val (.ref o603), .val (.ref o614), .val (.int (2 : Int32)), .val (.int (2 : Int32))] [(.int ((p0 &&& (255 : Int32)).toUInt32.toUInt16.toUInt32.toInt32)), (.int ((p0 &&& (255 : Int32)).toUInt32.toUInt16.toUInt32.toInt32))]))
      refine P639.xs (fun hA hx hy t k => XS.icmpYes hA hx rfl (pc0 := 77) (pc' := 82) rfl (hb hy at_77) rfl (teq rfl).1 (by decide) (by decide) k) ?_
      show Go p e below _ (T639.setTop (mkF m 82 #[.val (.int p0), .val (.int p1), .val (.ref o269), .val (.ref o270), .val (.ref o603), .val (.ref o614), .val (.int (2 : Int32)), .val (.int (2 : Int32))] []))
      refine P639.xs (fun hA hx hy t k => XS.iload hA hx rfl (hb hy at_82) rfl  k) ?_
      show Go p e below _ (T639.setTop (mkF m 84 #[.val (.int p0), .val (.int p1), .val (.ref o269), .val (.ref o270), .val (.ref o603), .val (.ref o614), .val (.int (2 : Int32)), .val (.int (2 : Int32))] [(.int (2 : Int32))]))
      refine P639.xs (fun hA hx hy t k => XS.iconst hA hx rfl (hb hy at_84) k) ?_
      show Go p e below _ (T639.setTop (mkF m 85 #[.val (.int p0), .val (.int p1), .val (.ref o269), .val (.ref o270), .val (.ref o603), .val (.ref o614), .val (.int (2 : Int32)), .val (.int (2 : Int32))] [(.int (1 : Int32)), (.int (2 : Int32))]))
      refine P639.xs (fun hA hx hy t k => XS.icmpNo hA hx rfl (hb hy at_85) rfl (tlt (by decide)).2.2.2 k) ?_
      show Go p e below _ (T639.setTop (mkF m 88 #[.val (.int p0), .val (.int p1), .val (.ref o269), .val (.ref o270), .val (.ref o603), .val (.ref o614), .val (.int (2 : Int32)), .val (.int (2 : Int32))] []))
      refine P639.xs (fun hA hx hy t k => XS.aload hA hx rfl (hb hy at_88) rfl rfl  k) ?_
      show Go p e below _ (T639.setTop (mkF m 90 #[.val (.int p0), .val (.int p1), .val (.ref o269), .val (.ref o270), .val (.ref o603), .val (.ref o614), .val (.int (2 : Int32)), .val (.int (2 : Int32))] [(.ref o614)]))
      refine P639.xs (fun hA hx hy t k => XS.iconst hA hx rfl (hb hy at_90) k) ?_
      show Go p e below _ (T639.setTop (mkF m 91 #[.val (.int p0), .val (.int p1), .val (.ref o269), .val (.ref o270), .val (.ref o603), .val (.ref o614), .val (.int (2 : Int32)), .val (.int (2 : Int32))] [(.int (1 : Int32)), (.ref o614)]))
      refine P639.strCh (W := 0) (hw _ (List.mem_of_getElem? (i := 173) rfl)) (hw _ (List.mem_of_getElem? (i := 174) rfl)) (hw _ (List.mem_of_getElem? (i := 176) rfl)) (hw _ (List.mem_of_getElem? (i := 175) rfl)) (wChN hw) (hw _ (List.mem_of_getElem? (i := 5) rfl)) S0 Pz S_f rf Ec628 V623 C623 A623 hl623 (Nat.le_of_ble_eq_true rfl) (i := 1) (Nat.le_of_ble_eq_true rfl) rfl (ch := ((((p0.toUInt32 >>> ((8 : Int32) &&& 31).toUInt32).toInt32) &&& (255 : Int32)).toUInt32.toUInt16.toUInt32.toInt32)) rfl (by decide) (by decide) (by decide) (by decide) pd_23 rfl rfl (Nat.le_of_eq rfl) at_91 fun T640 P640 => ?_
      show Go p e below _ (T640.setTop (mkF m 94 #[.val (.int p0), .val (.int p1), .val (.ref o269), .val (.ref o270), .val (.ref o603), .val (.ref o614), .val (.int (2 : Int32)), .val (.int (2 : Int32))] [(.int ((((p0.toUInt32 >>> ((8 : Int32) &&& 31).toUInt32).toInt32) &&& (255 : Int32)).toUInt32.toUInt16.toUInt32.toInt32))]))
      refine P640.xs (fun hA hx hy t k => XS.iloadN hA hx rfl (hb hy at_94) rfl  k) ?_
      show Go p e below _ (T640.setTop (mkF m 95 #[.val (.int p0), .val (.int p1), .val (.ref o269), .val (.ref o270), .val (.ref o603), .val (.ref o614), .val (.int (2 : Int32)), .val (.int (2 : Int32))] [(.int p0), (.int ((((p0.toUInt32 >>> ((8 : Int32) &&& 31).toUInt32).toInt32) &&& (255 : Int32)).toUInt32.toUInt16.toUInt32.toInt32))]))
      refine P640.xs (fun hA hx hy t k => XS.bipush hA hx rfl (hb hy at_95) k) ?_
      show Go p e below _ (T640.setTop (mkF m 97 #[.val (.int p0), .val (.int p1), .val (.ref o269), .val (.ref o270), .val (.ref o603), .val (.ref o614), .val (.int (2 : Int32)), .val (.int (2 : Int32))] [(.int (8 : Int32)), (.int p0), (.int ((((p0.toUInt32 >>> ((8 : Int32) &&& 31).toUInt32).toInt32) &&& (255 : Int32)).toUInt32.toUInt16.toUInt32.toInt32))]))
      refine P640.xs (fun hA hx hy t k => XS.iushr hA hx rfl (hb hy at_97) rfl k) ?_
      show Go p e below _ (T640.setTop (mkF m 98 #[.val (.int p0), .val (.int p1), .val (.ref o269), .val (.ref o270), .val (.ref o603), .val (.ref o614), .val (.int (2 : Int32)), .val (.int (2 : Int32))] [(.int ((p0.toUInt32 >>> ((8 : Int32) &&& 31).toUInt32).toInt32)), (.int ((((p0.toUInt32 >>> ((8 : Int32) &&& 31).toUInt32).toInt32) &&& (255 : Int32)).toUInt32.toUInt16.toUInt32.toInt32))]))
      refine P640.xs (fun hA hx hy t k => XS.sipush hA hx rfl (hb hy at_98) k) ?_
      show Go p e below _ (T640.setTop (mkF m 101 #[.val (.int p0), .val (.int p1), .val (.ref o269), .val (.ref o270), .val (.ref o603), .val (.ref o614), .val (.int (2 : Int32)), .val (.int (2 : Int32))] [(.int (255 : Int32)), (.int ((p0.toUInt32 >>> ((8 : Int32) &&& 31).toUInt32).toInt32)), (.int ((((p0.toUInt32 >>> ((8 : Int32) &&& 31).toUInt32).toInt32) &&& (255 : Int32)).toUInt32.toUInt16.toUInt32.toInt32))]))
      refine P640.xs (fun hA hx hy t k => XS.iand hA hx rfl (hb hy at_101) rfl k) ?_
      show Go p e below _ (T640.setTop (mkF m 102 #[.val (.int p0), .val (.int p1), .val (.ref o269), .val (.ref o270), .val (.ref o603), .val (.ref o614), .val (.int (2 : Int32)), .val (.int (2 : Int32))] [(.int (((p0.toUInt32 >>> ((8 : Int32) &&& 31).toUInt32).toInt32) &&& (255 : Int32))), (.int ((((p0.toUInt32 >>> ((8 : Int32) &&& 31).toUInt32).toInt32) &&& (255 : Int32)).toUInt32.toUInt16.toUInt32.toInt32))]))
      refine P640.xs (fun hA hx hy t k => XS.i2c hA hx rfl (hb hy at_102) rfl k) ?_
      show Go p e below _ (T640.setTop (mkF m 103 #[.val (.int p0), .val (.int p1), .val (.ref o269), .val (.ref o270), .val (.ref o603), .val (.ref o614), .val (.int (2 : Int32)), .val (.int (2 : Int32))] [(.int ((((p0.toUInt32 >>> ((8 : Int32) &&& 31).toUInt32).toInt32) &&& (255 : Int32)).toUInt32.toUInt16.toUInt32.toInt32)), (.int ((((p0.toUInt32 >>> ((8 : Int32) &&& 31).toUInt32).toInt32) &&& (255 : Int32)).toUInt32.toUInt16.toUInt32.toInt32))]))
      refine P640.xs (fun hA hx hy t k => XS.icmpYes hA hx rfl (pc0 := 103) (pc' := 108) rfl (hb hy at_103) rfl (teq rfl).1 (by decide) (by decide) k) ?_
      show Go p e below _ (T640.setTop (mkF m 108 #[.val (.int p0), .val (.int p1), .val (.ref o269), .val (.ref o270), .val (.ref o603), .val (.ref o614), .val (.int (2 : Int32)), .val (.int (2 : Int32))] []))
      refine P640.xs (fun hA hx hy t k => XS.aload hA hx rfl (hb hy at_108) rfl rfl  k) ?_
      show Go p e below _ (T640.setTop (mkF m 110 #[.val (.int p0), .val (.int p1), .val (.ref o269), .val (.ref o270), .val (.ref o603), .val (.ref o614), .val (.int (2 : Int32)), .val (.int (2 : Int32))] [(.ref o614)]))
      refine P640.xs (fun hA hx hy t k => XS.iload hA hx rfl (hb hy at_110) rfl  k) ?_
      show Go p e below _ (T640.setTop (mkF m 112 #[.val (.int p0), .val (.int p1), .val (.ref o269), .val (.ref o270), .val (.ref o603), .val (.ref o614), .val (.int (2 : Int32)), .val (.int (2 : Int32))] [(.int (2 : Int32)), (.ref o614)]))
      refine P640.strCh (W := 0) (hw _ (List.mem_of_getElem? (i := 173) rfl)) (hw _ (List.mem_of_getElem? (i := 174) rfl)) (hw _ (List.mem_of_getElem? (i := 176) rfl)) (hw _ (List.mem_of_getElem? (i := 175) rfl)) (wChN hw) (hw _ (List.mem_of_getElem? (i := 5) rfl)) S0 Pz S_f rf Ec628 V623 C623 A623 hl623 (Nat.le_of_ble_eq_true rfl) (i := 2) (Nat.le_of_ble_eq_true rfl) rfl (ch := (47 : Int32)) rfl (by decide) (by decide) (by decide) (by decide) pd_23 rfl rfl (Nat.le_of_eq rfl) at_112 fun T641 P641 => ?_
      show Go p e below _ (T641.setTop (mkF m 115 #[.val (.int p0), .val (.int p1), .val (.ref o269), .val (.ref o270), .val (.ref o603), .val (.ref o614), .val (.int (2 : Int32)), .val (.int (2 : Int32))] [(.int (47 : Int32))]))
      refine P641.xs (fun hA hx hy t k => XS.bipush hA hx rfl (hb hy at_115) k) ?_
      show Go p e below _ (T641.setTop (mkF m 117 #[.val (.int p0), .val (.int p1), .val (.ref o269), .val (.ref o270), .val (.ref o603), .val (.ref o614), .val (.int (2 : Int32)), .val (.int (2 : Int32))] [(.int (47 : Int32)), (.int (47 : Int32))]))
      refine P641.xs (fun hA hx hy t k => XS.icmpYes hA hx rfl (pc0 := 117) (pc' := 122) rfl (hb hy at_117) rfl (teq rfl).1 (by decide) (by decide) k) ?_
      show Go p e below _ (T641.setTop (mkF m 122 #[.val (.int p0), .val (.int p1), .val (.ref o269), .val (.ref o270), .val (.ref o603), .val (.ref o614), .val (.int (2 : Int32)), .val (.int (2 : Int32))] []))
      refine P641.xs (fun hA hx hy t k => XS.iload hA hx rfl (hb hy at_122) rfl  k) ?_
      show Go p e below _ (T641.setTop (mkF m 124 #[.val (.int p0), .val (.int p1), .val (.ref o269), .val (.ref o270), .val (.ref o603), .val (.ref o614), .val (.int (2 : Int32)), .val (.int (2 : Int32))] [(.int (2 : Int32))]))
      refine P641.xs (fun hA hx hy t k => XS.ifNo hA hx rfl (hb hy at_124) rfl ((if0 _ _).trans (tlt (by decide)).2.2.2) k) ?_
      show Go p e below _ (T641.setTop (mkF m 127 #[.val (.int p0), .val (.int p1), .val (.ref o269), .val (.ref o270), .val (.ref o603), .val (.ref o614), .val (.int (2 : Int32)), .val (.int (2 : Int32))] []))
      refine P641.xs (fun hA hx hy t k => XS.aload hA hx rfl (hb hy at_127) rfl rfl  k) ?_
      show Go p e below _ (T641.setTop (mkF m 129 #[.val (.int p0), .val (.int p1), .val (.ref o269), .val (.ref o270), .val (.ref o603), .val (.ref o614), .val (.int (2 : Int32)), .val (.int (2 : Int32))] [(.ref o614)]))
      refine P641.xs (fun hA hx hy t k => XS.iload hA hx rfl (hb hy at_129) rfl  k) ?_
      show Go p e below _ (T641.setTop (mkF m 131 #[.val (.int p0), .val (.int p1), .val (.ref o269), .val (.ref o270), .val (.ref o603), .val (.ref o614), .val (.int (2 : Int32)), .val (.int (2 : Int32))] [(.int (2 : Int32)), (.ref o614)]))
      refine P641.xs (fun hA hx hy t k => XS.iconst hA hx rfl (hb hy at_131) k) ?_
      show Go p e below _ (T641.setTop (mkF m 132 #[.val (.int p0), .val (.int p1), .val (.ref o269), .val (.ref o270), .val (.ref o603), .val (.ref o614), .val (.int (2 : Int32)), .val (.int (2 : Int32))] [(.int (1 : Int32)), (.int (2 : Int32)), (.ref o614)]))
      refine P641.xs (fun hA hx hy t k => XS.iadd hA hx rfl (hb hy at_132) rfl k) ?_
      show Go p e below _ (T641.setTop (mkF m 133 #[.val (.int p0), .val (.int p1), .val (.ref o269), .val (.ref o270), .val (.ref o603), .val (.ref o614), .val (.int (2 : Int32)), .val (.int (2 : Int32))] [(.int (3 : Int32)), (.ref o614)]))
      refine P641.strCh (W := 0) (hw _ (List.mem_of_getElem? (i := 173) rfl)) (hw _ (List.mem_of_getElem? (i := 174) rfl)) (hw _ (List.mem_of_getElem? (i := 176) rfl)) (hw _ (List.mem_of_getElem? (i := 175) rfl)) (wChN hw) (hw _ (List.mem_of_getElem? (i := 5) rfl)) S0 Pz S_f rf Ec628 V623 C623 A623 hl623 (Nat.le_of_ble_eq_true rfl) (i := 3) (Nat.le_of_ble_eq_true rfl) rfl (ch := ((p1 &&& (255 : Int32)).toUInt32.toUInt16.toUInt32.toInt32)) rfl (by decide) (by decide) (by decide) (by decide) pd_23 rfl rfl (Nat.le_of_eq rfl) at_133 fun T642 P642 => ?_
      show Go p e below _ (T642.setTop (mkF m 136 #[.val (.int p0), .val (.int p1), .val (.ref o269), .val (.ref o270), .val (.ref o603), .val (.ref o614), .val (.int (2 : Int32)), .val (.int (2 : Int32))] [(.int ((p1 &&& (255 : Int32)).toUInt32.toUInt16.toUInt32.toInt32))]))
      refine P642.xs (fun hA hx hy t k => XS.iloadN hA hx rfl (hb hy at_136) rfl  k) ?_
      show Go p e below _ (T642.setTop (mkF m 137 #[.val (.int p0), .val (.int p1), .val (.ref o269), .val (.ref o270), .val (.ref o603), .val (.ref o614), .val (.int (2 : Int32)), .val (.int (2 : Int32))] [(.int p1), (.int ((p1 &&& (255 : Int32)).toUInt32.toUInt16.toUInt32.toInt32))]))
      refine P642.xs (fun hA hx hy t k => XS.sipush hA hx rfl (hb hy at_137) k) ?_
      show Go p e below _ (T642.setTop (mkF m 140 #[.val (.int p0), .val (.int p1), .val (.ref o269), .val (.ref o270), .val (.ref o603), .val (.ref o614), .val (.int (2 : Int32)), .val (.int (2 : Int32))] [(.int (255 : Int32)), (.int p1), (.int ((p1 &&& (255 : Int32)).toUInt32.toUInt16.toUInt32.toInt32))]))
      refine P642.xs (fun hA hx hy t k => XS.iand hA hx rfl (hb hy at_140) rfl k) ?_
      show Go p e below _ (T642.setTop (mkF m 141 #[.val (.int p0), .val (.int p1), .val (.ref o269), .val (.ref o270), .val (.ref o603), .val (.ref o614), .val (.int (2 : Int32)), .val (.int (2 : Int32))] [(.int (p1 &&& (255 : Int32))), (.int ((p1 &&& (255 : Int32)).toUInt32.toUInt16.toUInt32.toInt32))]))
      refine P642.xs (fun hA hx hy t k => XS.i2c hA hx rfl (hb hy at_141) rfl k) ?_
      show Go p e below _ (T642.setTop (mkF m 142 #[.val (.int p0), .val (.int p1), .val (.ref o269), .val (.ref o270), .val (.ref o603), .val (.ref o614), .val (.int (2 : Int32)), .val (.int (2 : Int32))] [(.int ((p1 &&& (255 : Int32)).toUInt32.toUInt16.toUInt32.toInt32)), (.int ((p1 &&& (255 : Int32)).toUInt32.toUInt16.toUInt32.toInt32))]))
      refine P642.xs (fun hA hx hy t k => XS.icmpYes hA hx rfl (pc0 := 142) (pc' := 147) rfl (hb hy at_142) rfl (teq rfl).1 (by decide) (by decide) k) ?_
      show Go p e below _ (T642.setTop (mkF m 147 #[.val (.int p0), .val (.int p1), .val (.ref o269), .val (.ref o270), .val (.ref o603), .val (.ref o614), .val (.int (2 : Int32)), .val (.int (2 : Int32))] []))
      refine P642.xs (fun hA hx hy t k => XS.iload hA hx rfl (hb hy at_147) rfl  k) ?_
      show Go p e below _ (T642.setTop (mkF m 149 #[.val (.int p0), .val (.int p1), .val (.ref o269), .val (.ref o270), .val (.ref o603), .val (.ref o614), .val (.int (2 : Int32)), .val (.int (2 : Int32))] [(.int (2 : Int32))]))
      refine P642.xs (fun hA hx hy t k => XS.iconst hA hx rfl (hb hy at_149) k) ?_
      show Go p e below _ (T642.setTop (mkF m 150 #[.val (.int p0), .val (.int p1), .val (.ref o269), .val (.ref o270), .val (.ref o603), .val (.ref o614), .val (.int (2 : Int32)), .val (.int (2 : Int32))] [(.int (1 : Int32)), (.int (2 : Int32))]))
      refine P642.xs (fun hA hx hy t k => XS.icmpNo hA hx rfl (hb hy at_150) rfl (tlt (by decide)).2.2.2 k) ?_
      show Go p e below _ (T642.setTop (mkF m 153 #[.val (.int p0), .val (.int p1), .val (.ref o269), .val (.ref o270), .val (.ref o603), .val (.ref o614), .val (.int (2 : Int32)), .val (.int (2 : Int32))] []))
      refine P642.xs (fun hA hx hy t k => XS.aload hA hx rfl (hb hy at_153) rfl rfl  k) ?_
      show Go p e below _ (T642.setTop (mkF m 155 #[.val (.int p0), .val (.int p1), .val (.ref o269), .val (.ref o270), .val (.ref o603), .val (.ref o614), .val (.int (2 : Int32)), .val (.int (2 : Int32))] [(.ref o614)]))
      refine P642.xs (fun hA hx hy t k => XS.iload hA hx rfl (hb hy at_155) rfl  k) ?_
      show Go p e below _ (T642.setTop (mkF m 157 #[.val (.int p0), .val (.int p1), .val (.ref o269), .val (.ref o270), .val (.ref o603), .val (.ref o614), .val (.int (2 : Int32)), .val (.int (2 : Int32))] [(.int (2 : Int32)), (.ref o614)]))
      refine P642.xs (fun hA hx hy t k => XS.iconst hA hx rfl (hb hy at_157) k) ?_
      show Go p e below _ (T642.setTop (mkF m 158 #[.val (.int p0), .val (.int p1), .val (.ref o269), .val (.ref o270), .val (.ref o603), .val (.ref o614), .val (.int (2 : Int32)), .val (.int (2 : Int32))] [(.int (2 : Int32)), (.int (2 : Int32)), (.ref o614)]))
      refine P642.xs (fun hA hx hy t k => XS.iadd hA hx rfl (hb hy at_158) rfl k) ?_
      show Go p e below _ (T642.setTop (mkF m 159 #[.val (.int p0), .val (.int p1), .val (.ref o269), .val (.ref o270), .val (.ref o603), .val (.ref o614), .val (.int (2 : Int32)), .val (.int (2 : Int32))] [(.int (4 : Int32)), (.ref o614)]))
      refine P642.strCh (W := 0) (hw _ (List.mem_of_getElem? (i := 173) rfl)) (hw _ (List.mem_of_getElem? (i := 174) rfl)) (hw _ (List.mem_of_getElem? (i := 176) rfl)) (hw _ (List.mem_of_getElem? (i := 175) rfl)) (wChN hw) (hw _ (List.mem_of_getElem? (i := 5) rfl)) S0 Pz S_f rf Ec628 V623 C623 A623 hl623 (Nat.le_of_ble_eq_true rfl) (i := 4) (Nat.le_of_ble_eq_true rfl) rfl (ch := ((((p1.toUInt32 >>> ((8 : Int32) &&& 31).toUInt32).toInt32) &&& (255 : Int32)).toUInt32.toUInt16.toUInt32.toInt32)) rfl (by decide) (by decide) (by decide) (by decide) pd_23 rfl rfl (Nat.le_of_eq rfl) at_159 fun T643 P643 => ?_
      show Go p e below _ (T643.setTop (mkF m 162 #[.val (.int p0), .val (.int p1), .val (.ref o269), .val (.ref o270), .val (.ref o603), .val (.ref o614), .val (.int (2 : Int32)), .val (.int (2 : Int32))] [(.int ((((p1.toUInt32 >>> ((8 : Int32) &&& 31).toUInt32).toInt32) &&& (255 : Int32)).toUInt32.toUInt16.toUInt32.toInt32))]))
      refine P643.xs (fun hA hx hy t k => XS.iloadN hA hx rfl (hb hy at_162) rfl  k) ?_
      show Go p e below _ (T643.setTop (mkF m 163 #[.val (.int p0), .val (.int p1), .val (.ref o269), .val (.ref o270), .val (.ref o603), .val (.ref o614), .val (.int (2 : Int32)), .val (.int (2 : Int32))] [(.int p1), (.int ((((p1.toUInt32 >>> ((8 : Int32) &&& 31).toUInt32).toInt32) &&& (255 : Int32)).toUInt32.toUInt16.toUInt32.toInt32))]))
      refine P643.xs (fun hA hx hy t k => XS.bipush hA hx rfl (hb hy at_163) k) ?_
      show Go p e below _ (T643.setTop (mkF m 165 #[.val (.int p0), .val (.int p1), .val (.ref o269), .val (.ref o270), .val (.ref o603), .val (.ref o614), .val (.int (2 : Int32)), .val (.int (2 : Int32))] [(.int (8 : Int32)), (.int p1), (.int ((((p1.toUInt32 >>> ((8 : Int32) &&& 31).toUInt32).toInt32) &&& (255 : Int32)).toUInt32.toUInt16.toUInt32.toInt32))]))
      refine P643.xs (fun hA hx hy t k => XS.iushr hA hx rfl (hb hy at_165) rfl k) ?_
      show Go p e below _ (T643.setTop (mkF m 166 #[.val (.int p0), .val (.int p1), .val (.ref o269), .val (.ref o270), .val (.ref o603), .val (.ref o614), .val (.int (2 : Int32)), .val (.int (2 : Int32))] [(.int ((p1.toUInt32 >>> ((8 : Int32) &&& 31).toUInt32).toInt32)), (.int ((((p1.toUInt32 >>> ((8 : Int32) &&& 31).toUInt32).toInt32) &&& (255 : Int32)).toUInt32.toUInt16.toUInt32.toInt32))]))
      refine P643.xs (fun hA hx hy t k => XS.sipush hA hx rfl (hb hy at_166) k) ?_
      show Go p e below _ (T643.setTop (mkF m 169 #[.val (.int p0), .val (.int p1), .val (.ref o269), .val (.ref o270), .val (.ref o603), .val (.ref o614), .val (.int (2 : Int32)), .val (.int (2 : Int32))] [(.int (255 : Int32)), (.int ((p1.toUInt32 >>> ((8 : Int32) &&& 31).toUInt32).toInt32)), (.int ((((p1.toUInt32 >>> ((8 : Int32) &&& 31).toUInt32).toInt32) &&& (255 : Int32)).toUInt32.toUInt16.toUInt32.toInt32))]))
      refine P643.xs (fun hA hx hy t k => XS.iand hA hx rfl (hb hy at_169) rfl k) ?_
      show Go p e below _ (T643.setTop (mkF m 170 #[.val (.int p0), .val (.int p1), .val (.ref o269), .val (.ref o270), .val (.ref o603), .val (.ref o614), .val (.int (2 : Int32)), .val (.int (2 : Int32))] [(.int (((p1.toUInt32 >>> ((8 : Int32) &&& 31).toUInt32).toInt32) &&& (255 : Int32))), (.int ((((p1.toUInt32 >>> ((8 : Int32) &&& 31).toUInt32).toInt32) &&& (255 : Int32)).toUInt32.toUInt16.toUInt32.toInt32))]))
      refine P643.xs (fun hA hx hy t k => XS.i2c hA hx rfl (hb hy at_170) rfl k) ?_
      show Go p e below _ (T643.setTop (mkF m 171 #[.val (.int p0), .val (.int p1), .val (.ref o269), .val (.ref o270), .val (.ref o603), .val (.ref o614), .val (.int (2 : Int32)), .val (.int (2 : Int32))] [(.int ((((p1.toUInt32 >>> ((8 : Int32) &&& 31).toUInt32).toInt32) &&& (255 : Int32)).toUInt32.toUInt16.toUInt32.toInt32)), (.int ((((p1.toUInt32 >>> ((8 : Int32) &&& 31).toUInt32).toInt32) &&& (255 : Int32)).toUInt32.toUInt16.toUInt32.toInt32))]))
      refine P643.xs (fun hA hx hy t k => XS.icmpYes hA hx rfl (pc0 := 171) (pc' := 176) rfl (hb hy at_171) rfl (teq rfl).1 (by decide) (by decide) k) ?_
      show Go p e below _ (T643.setTop (mkF m 176 #[.val (.int p0), .val (.int p1), .val (.ref o269), .val (.ref o270), .val (.ref o603), .val (.ref o614), .val (.int (2 : Int32)), .val (.int (2 : Int32))] []))
      refine P643.xs (fun hA hx hy t k => XS.iconst hA hx rfl (hb hy at_176) k) ?_
      show Go p e below _ (T643.setTop (mkF m 177 #[.val (.int p0), .val (.int p1), .val (.ref o269), .val (.ref o270), .val (.ref o603), .val (.ref o614), .val (.int (2 : Int32)), .val (.int (2 : Int32))] [(.int (1 : Int32))]))
      exact P643.retN (t := .boolean) rfl (by simp) at_177 (by decide) (by decide) rfl

theorem hELof {Z : State} {a0 : Array Value} (hw : ∀ d ∈ tables_1, d.before a0 Z = true) : EW Z a0 EL0 := (EW.cons (hw _ (List.mem_of_getElem? (i := 126) rfl)) (by decide) (EW.cons (hw _ (List.mem_of_getElem? (i := 18) rfl)) (by decide) EW.nil))
set_option maxRecDepth 65536 in
set_option maxHeartbeats 40000000 in
theorem comes_1 {Post : Tables → Env → Array Value → State → Outcome → State → Prop} (hpost : ∀ tb e args s v u, (limb_1_1.after args s (.returned v) u = true ∧ limb_1_2.after args s (.returned v) u = true ∧ True) → ReturnedEndW s (.returned v) u (Jvm.fieldLocs frame_1_writes args s ++ Jvm.arrayLocs frame_1_arrays args s ++ Jvm.staticLocs frame_1_statics s) 40 2240 → Post tb e args s (.returned v) u) :
    ArmFor flags0 classFile x code maxLocals ret World_1 tables_1 room_1 Calls_1 rest_1 Pre_1 Post := by
  intro l hfl _ _ p e ha hc hk s m args below hf hA hF happ hP
  obtain ⟨hcalls, hrest, hpre⟩ := hP
  obtain ⟨-, -, -, hnamed, -, -, -, hat⟩ := (Spec.applies_iff hf).mp happ
  obtain ⟨hg, hn⟩ := and_e (Cond.before_iff.mp (show (Jvm.Cond.and given_1 narrow_1).before args s = true from hpre))
  obtain ⟨hcount, a0_⟩ := and_e hg
  obtain ⟨q0, a1_⟩ := and_e a0_
  have q1 := a1_
  obtain ⟨w0, w1, rfl⟩ : ∃ w0 w1 : Value, args = #[w0, w1] := by
    have hs : args.size = 2 := by simpa [Cond.value, given_1] using hcount
    obtain ⟨L⟩ := args
    match L, hs with
    | [w0, w1], _ => exact ⟨w0, w1, rfl⟩
  have hw := fun d (hd : d ∈ tables_1) => atoms_spec (ws := Jvm.Cond.code x code maxLocals ret :: tables_1) hat d (List.mem_cons_of_mem _ hd)
  obtain ⟨hsets, hown0⟩ := atoms_of _ (rest_1_c_eq ▸ (show rest_1_c.before _ s = true from hrest))
  have hfit : Fit s := fun {y c} hc i hi => by
    obtain ⟨ha, rfl⟩ := Array.getElem?_eq_some_iff.mp hc
    have q := List.all_eq_true.mp ((Array.all_eq_true_iff_forall_mem.mp hF) _ (Array.getElem_mem ha)) i (List.mem_range.mpr hi)
    simpa [Array.getElem?_eq_getElem hi] using q
  have n5 := not_v (Cond.before_iff.mp (hsets _ (List.mem_of_getElem? (i := 9) rfl)))
  obtain ⟨i0, e0⟩ := is_v q0
  obtain rfl : w0 = (.int i0) := Option.some.inj e0
  obtain ⟨i1, e1⟩ := is_v q1
  obtain rfl : w1 = (.int i1) := Option.some.inj e1
  obtain ⟨zc, ez⟩ := is_v (Cond.before_iff.mp (hsets _ (List.mem_of_getElem? (i := 8) rfl)))
  have S0 : Sta s s.heap "java/lang/String" "COMPACT_STRINGS" "Z" (.int zc) := Sta.start ez (Or.inl (hsets _ (List.mem_of_getElem? (i := 7) rfl)))
  have Pz : ¬ (zc = (0 : Int32)) := gotF (Cond.eq_ints ez (Term.int_eval (0))) n5
  have k2 := Cond.before_iff.mp (hsets _ (List.mem_of_getElem? (i := 2) rfl))
  obtain ⟨w_M, ev_M⟩ := exa_v k2
  have E_M : Exa s s.heap w_M "java/util/ImmutableCollections$MapN" := Exa.start ev_M k2
  have S_M : Sta s s.heap "java/util/ImmutableCollections" "EMPTY_MAP" "Ljava/util/ImmutableCollections$MapN;" (.ref w_M) := Sta.start ev_M (Or.inl (hsets _ (List.mem_of_getElem? (i := 1) rfl)))
  obtain ⟨fm, efm, rf⟩ := isR_v (Cond.before_iff.mp (hsets _ (List.mem_of_getElem? (i := 15) rfl)))
  have S_f : Sta s s.heap "jdk/internal/util/Preconditions" "SIOOBE_FORMATTER" "Ljava/util/function/BiFunction;" fm := Sta.start efm (Or.inl (hsets _ (List.mem_of_getElem? (i := 14) rfl)))
  obtain ⟨n, o, h1, h2, h3, _, L, rfl, ⟨N, K, O, hv⟩, -, hq⟩ := mLaw l s _ hw (hELof hw) zc S0 Pz w_M S_M E_M fm S_f rf i0 i1 s.heap ⟨Nat.le_refl _, fun _ _ q => q⟩  p e ha hc hk s m _ below hf ((Spec.applies_iff_loose hf).mp happ).1 ⟨rfl, State.Warmed39.refl s, rfl, (CHv.start (hELof hw) (fun p hp => hcalls.1 p hp) (hsets _ (List.mem_of_getElem? (i := 9) rfl)) (hw _ (List.mem_of_getElem? (i := 19) rfl)) (hw _ (List.mem_of_getElem? (i := 5) rfl)))⟩ trivial
  cases hv
  refine ⟨n, _, h1, h2, h3, hpost _ _ _ _ _ _ ⟨Cond.after_iff.mpr rfl, Cond.after_iff.mpr (eq_i res_at (Term.int_eval (1)) rfl), trivial⟩ ⟨hq.1, hq.2.1, hq.2.2.1, (hq.2.2.2.sift fun y hy => Or.inr (N y hy)).mono (by decide) (by decide)⟩⟩
theorem main_1_1 : Claimed_1_1 := comes_1 fun _ _ _ _ _ _ h hF => ⟨h.1, hF⟩
theorem main_1_2 : Claimed_1_2 := comes_1 fun _ _ _ _ _ _ h hF => ⟨h.2.1, hF⟩
end Jvm.Pilot.@@N@@
namespace Jvm.Pilot.@@N@@
open Jvm Jvm.ClassFile Sem Op Lib Jvm.Free Jvm.Stand Jvm.Pilot.@@N@@.Jvm.D
/-! MADE BY PROGRAM (witnessworld.py) out of the Statement's table words and the real class files: 33 classes; the members and pool entries that the words name. The judged class is class 1, her method 2. -/
namespace start1
open Jvm.ClassFile
def u (s : String) : CpInfo := .utf8 (stringToUtf16 s)
/-- a pool by its gaps: so many unusable entries, then the entry; so many at the end -/
def gap : Nat → List CpInfo → List CpInfo
  | 0, r => r
  | n + 1, r => .unusable :: gap n r
def poolList (es : List (Nat × CpInfo)) (last : Nat) : List CpInfo := es.foldr (fun e r => gap e.1 (e.2 :: r)) (gap last [])
def pool (es : List (Nat × CpInfo)) (last : Nat) : Array CpInfo := ⟨poolList es last⟩
def fileOf (pool : Array CpInfo) (this : Nat) (attrs : Array Attribute := #[]) (ms : Array MethodInfo := #[]) (fl : Nat := 33) (sup : Nat := 0) (ifs : Array Nat := #[]) (fds : Array FieldInfo := #[]) : ClassFile where
  minorVersion := 0
  majorVersion := 65
  constantPool := pool
  accessFlags := fl
  thisClass := this
  superClass := sup
  interfaces := ifs
  fields := fds
  methods := ms
  attributes := attrs
def plain (name : String) (sup : Option ClassId) : Class where
  name := name
  kind := .ordinary
  loader := none
  accessFlags := 33
  super := sup
  interfaces := #[]
  cf := none
  fields := #[]
  methods := #[]
  instanceTypes := #[]
  staticTypes := #[]
  resolved := #[]
  callSites := []
  init := .initialized
  statics := none
  mirror := none

def pool0 : Array CpInfo := pool [(5, u "<init>"), (0, u "()V"), (1, .class_ 10), (1, u "java/lang/Object")] 113

def k0c0 : Code := { maxStack := 0, maxLocals := 1, code := object_method_1_code, exceptionTable := #[], attributes := #[] }
def k0m0 : Method := { name := "<init>", desc := "()V", sig := { parameters := [], returnType := none }, accessFlags := 1, code := some k0c0 }
/-- java/lang/Object -/
def k0 : Class := { plain "java/lang/Object" none with
  accessFlags := 33
  interfaces := #[]
  cf := some (fileOf pool0 8 #[] #[{ accessFlags := 1, nameIndex := 5, descriptorIndex := 6, attributes := #[] }] 33 0 #[] #[])
  fields := #[]
  methods := #[k0m0]
  instanceTypes := #[]
  staticTypes := #[]
  resolved := Array.replicate 124 none
  statics := none }

def pool1 : Array CpInfo := pool [(2, .class_ 4), (1, u "java/lang/Object"), (0, u "<init>"), (0, u "()V"), (0, .class_ 8), (0, u "java/lang/String"), (0, .methodref 7 10), (0, .nameAndType 5 11), (0, u "([C)V"), (0, .methodref 13 14), (0, .class_ 15), (0, .nameAndType 16 17), (0, u "com/example/certain_answers/certainanswers/server/MediaTypeEssencePinLaw"), (0, u "str"), (0, u "(I)Ljava/lang/String;"), (0, .class_ 19), (0, u "com/example/certain_answers/certainanswers/server/MediaType"), (0, .interfaceMethodref 21 22), (0, .class_ 23), (0, .nameAndType 24 25), (0, u "java/util/Map"), (0, u "of"), (0, u "()Ljava/util/Map;"), (0, .methodref 18 27), (0, .nameAndType 5 28), (0, u "(Ljava/lang/String;Ljava/lang/String;Ljava/util/Map;)V"), (0, .methodref 18 30), (0, .nameAndType 31 32), (0, u "essence"), (0, u "()Ljava/lang/String;"), (0, .methodref 7 34), (0, .nameAndType 35 36), (0, u "length"), (0, u "()I"), (0, .methodref 7 38), (0, .nameAndType 39 40), (0, u "charAt"), (0, u "(I)C"), (3, u "law"), (0, u "(II)Z")] 2

def k1m0 : Method := { name := "<init>", desc := "()V", sig := { parameters := [], returnType := none }, accessFlags := 1, code := none }
def k1c1 : Code := { maxStack := 6, maxLocals := 4, code := method_2_code, exceptionTable := #[], attributes := #[] }
def k1m1 : Method := { name := "str", desc := "(I)Ljava/lang/String;", sig := { parameters := [.int], returnType := some (.object "java/lang/String") }, accessFlags := 10, code := some k1c1 }
def k1c2 : Code := { maxStack := 5, maxLocals := 8, code := code, exceptionTable := #[], attributes := #[] }
def k1m2 : Method := { name := "law", desc := "(II)Z", sig := { parameters := [.int, .int], returnType := some .boolean }, accessFlags := 9, code := some k1c2 }
/-- com/example/certain_answers/certainanswers/server/MediaTypeEssencePinLaw -/
def k1 : Class := { plain "com/example/certain_answers/certainanswers/server/MediaTypeEssencePinLaw" (some 0) with
  accessFlags := 49
  interfaces := #[]
  cf := some (fileOf pool1 13 #[] #[{ accessFlags := 1, nameIndex := 5, descriptorIndex := 6, attributes := #[] }, { accessFlags := 10, nameIndex := 16, descriptorIndex := 17, attributes := #[] }, { accessFlags := 9, nameIndex := 44, descriptorIndex := 45, attributes := #[] }] 49 2 #[] #[])
  fields := #[]
  methods := #[k1m0, k1m1, k1m2]
  instanceTypes := #[]
  staticTypes := #[]
  resolved := Array.replicate 48 none
  statics := none }

def pool2 : Array CpInfo := pool [(1, .class_ 2), (0, u "java/io/Serializable"), (0, .class_ 4), (0, u "java/lang/Object")] 2

/-- java/io/Serializable -/
def k2 : Class := { plain "java/io/Serializable" (some 0) with
  accessFlags := 1537
  interfaces := #[]
  cf := some (fileOf pool2 1 #[] #[] 1537 3 #[] #[])
  fields := #[]
  methods := #[]
  instanceTypes := #[]
  staticTypes := #[]
  resolved := Array.replicate 7 none
  statics := none }

def pool3 : Array CpInfo := pool [(1, .class_ 2), (0, u "java/lang/Comparable"), (0, .class_ 4), (0, u "java/lang/Object")] 7

/-- java/lang/Comparable -/
def k3 : Class := { plain "java/lang/Comparable" (some 0) with
  accessFlags := 1537
  interfaces := #[]
  cf := some (fileOf pool3 1 #[] #[] 1537 3 #[] #[])
  fields := #[]
  methods := #[]
  instanceTypes := #[]
  staticTypes := #[]
  resolved := Array.replicate 12 none
  statics := none }

def pool4 : Array CpInfo := pool [(2, .class_ 4), (1, u "java/lang/CharSequence"), (42, .class_ 48), (0, u "java/lang/CharSequence$1CodePointIterator"), (10, .class_ 60), (0, u "java/lang/CharSequence$1CharIterator"), (5, .class_ 67), (0, u "java/lang/Object")] 63

/-- java/lang/CharSequence -/
def k4 : Class := { plain "java/lang/CharSequence" (some 0) with
  accessFlags := 1537
  interfaces := #[]
  cf := some (fileOf pool4 2 #[.nestMembers #[47, 59]] #[] 1537 66 #[] #[])
  fields := #[]
  methods := #[]
  instanceTypes := #[]
  staticTypes := #[]
  resolved := Array.replicate 131 none
  statics := none }

def pool5 : Array CpInfo := pool [(1, .class_ 2), (0, u "java/lang/constant/Constable"), (0, .class_ 4), (0, u "java/lang/Object")] 6

/-- java/lang/constant/Constable -/
def k5 : Class := { plain "java/lang/constant/Constable" (some 0) with
  accessFlags := 1537
  interfaces := #[]
  cf := some (fileOf pool5 1 #[] #[] 1537 3 #[] #[])
  fields := #[]
  methods := #[]
  instanceTypes := #[]
  staticTypes := #[]
  resolved := Array.replicate 11 none
  statics := none }

def pool6 : Array CpInfo := pool [(1, .class_ 2), (0, u "java/lang/constant/ConstantDesc"), (0, .class_ 4), (0, u "java/lang/Object")] 32

/-- java/lang/constant/ConstantDesc -/
def k6 : Class := { plain "java/lang/constant/ConstantDesc" (some 0) with
  accessFlags := 1537
  interfaces := #[]
  cf := some (fileOf pool6 1 #[] #[] 1537 3 #[] #[])
  fields := #[]
  methods := #[]
  instanceTypes := #[]
  staticTypes := #[]
  resolved := Array.replicate 37 none
  statics := none }

def pool7 : Array CpInfo := pool [(1, .methodref 2 3), (0, .class_ 4), (0, .nameAndType 5 6), (0, u "java/lang/Object"), (0, u "<init>"), (0, u "()V"), (0, .string 8), (0, u ""), (0, .fieldref 10 11), (0, .class_ 12), (0, .nameAndType 13 14), (0, u "java/lang/String"), (0, u "value"), (0, u "[B"), (0, .fieldref 10 16), (0, .nameAndType 17 18), (0, u "coder"), (0, u "B"), (2, u "hash"), (0, u "I"), (2, u "hashIsZero"), (0, u "Z"), (0, .methodref 10 28), (0, .nameAndType 5 29), (0, u "([CIILjava/lang/Void;)V"), (8, .fieldref 10 39), (0, .nameAndType 40 26), (0, u "COMPACT_STRINGS"), (1, .class_ 44), (1, u "java/lang/StringUTF16"), (0, u "compress"), (1, .methodref 42 48), (0, .nameAndType 49 50), (0, u "coderFromArrayLen"), (0, u "([BI)B"), (3, .methodref 55 56), (0, .class_ 57), (0, .nameAndType 58 59), (0, u "java/util/Arrays"), (0, u "copyOfRange"), (0, u "([BII)[B"), (47, .class_ 109), (1, u "java/lang/StringLatin1"), (32, u "()Z"), (34, .methodref 42 178), (0, .nameAndType 45 179), (0, u "([CII)[B"), (13, .class_ 195), (1, u "java/lang/System"), (16, .methodref 193 213), (0, .nameAndType 214 215), (0, u "arraycopy"), (0, u "(Ljava/lang/Object;ILjava/lang/Object;II)V"), (118, u "()I"), (0, .methodref 10 336), (0, .nameAndType 17 337), (0, u "()B"), (2, u "()[B"), (22, u "([BI)C"), (27, u "(II)V"), (35, u "(I)C"), (61, .methodref 10 490), (0, .nameAndType 5 491), (0, u "(Ljava/lang/AbstractStringBuilder;Ljava/lang/Void;)V"), (0, .methodref 10 493), (0, .nameAndType 494 142), (0, u "isLatin1"), (0, .methodref 107 496), (0, .nameAndType 497 363), (0, u "charAt"), (3, u "checkIndex"), (4, .nameAndType 507 334), (0, u "length"), (24, u "getBytes"), (16, .methodref 550 506), (0, .class_ 551), (0, u "java/lang/AbstractStringBuilder"), (0, .methodref 550 553), (0, .nameAndType 554 340), (0, u "getValue"), (20, .class_ 576), (0, u "java/lang/CharSequence"), (22, u "CASE_INSENSITIVE_ORDER"), (0, u "Ljava/util/Comparator;"), (220, u "([BIB)V"), (188, u "([C)V"), (36, .methodref 550 493), (5, .fieldref 1054 1055), (0, .class_ 1056), (0, .nameAndType 1057 1058), (0, u "jdk/internal/util/Preconditions"), (0, u "SIOOBE_FORMATTER"), (0, u "Ljava/util/function/BiFunction;"), (0, .methodref 1054 1060), (0, .nameAndType 501 1061), (0, u "(IILjava/util/function/BiFunction;)I"), (39, u "serialPersistentFields"), (0, u "[Ljava/io/ObjectStreamField;"), (0, .class_ 1104), (0, u "java/lang/String$CaseInsensitiveComparator"), (1, .class_ 1107), (0, u "java/io/Serializable"), (0, .class_ 1109), (0, u "java/lang/Comparable"), (0, .class_ 1111), (0, u "java/lang/constant/Constable"), (0, .class_ 1113), (0, u "java/lang/constant/ConstantDesc"), (2, u "serialVersionUID"), (0, u "J"), (3, u "REPL"), (0, u "C"), (2, u "LATIN1"), (1, u "UTF16"), (105, u "(Ljava/lang/StringBuilder;)V")] 217

def k7m0 : Method := { name := "<init>", desc := "()V", sig := { parameters := [], returnType := none }, accessFlags := 1, code := none }
def k7c1 : Code := { maxStack := 5, maxLocals := 2, code := jdk_42_method_3_code, exceptionTable := #[], attributes := #[] }
def k7m1 : Method := { name := "<init>", desc := "([C)V", sig := { parameters := [(.array .char)], returnType := none }, accessFlags := 1, code := some k7c1 }
def k7c2 : Code := { maxStack := 3, maxLocals := 2, code := jdk_42_method_53_code, exceptionTable := #[], attributes := #[] }
def k7m2 : Method := { name := "<init>", desc := "(Ljava/lang/StringBuilder;)V", sig := { parameters := [(.object "java/lang/StringBuilder")], returnType := none }, accessFlags := 1, code := some k7c2 }
def k7c3 : Code := { maxStack := 2, maxLocals := 1, code := jdk_42_method_54_code, exceptionTable := #[], attributes := #[] }
def k7m3 : Method := { name := "length", desc := "()I", sig := { parameters := [], returnType := some .int }, accessFlags := 1, code := some k7c3 }
def k7c4 : Code := { maxStack := 2, maxLocals := 2, code := jdk_42_method_56_code, exceptionTable := #[], attributes := #[] }
def k7m4 : Method := { name := "charAt", desc := "(I)C", sig := { parameters := [.int], returnType := some .char }, accessFlags := 1, code := some k7c4 }
def k7c5 : Code := { maxStack := 5, maxLocals := 4, code := jdk_42_method_147_code, exceptionTable := #[], attributes := #[] }
def k7m5 : Method := { name := "getBytes", desc := "([BIB)V", sig := { parameters := [(.array .byte), .int, .byte], returnType := none }, accessFlags := 0, code := some k7c5 }
def k7c6 : Code := { maxStack := 4, maxLocals := 6, code := jdk_42_method_149_code, exceptionTable := #[], attributes := #[] }
def k7m6 : Method := { name := "<init>", desc := "([CIILjava/lang/Void;)V", sig := { parameters := [(.array .char), .int, .int, (.object "java/lang/Void")], returnType := none }, accessFlags := 2, code := some k7c6 }
def k7c7 : Code := { maxStack := 5, maxLocals := 5, code := jdk_42_method_150_code, exceptionTable := #[], attributes := #[] }
def k7m7 : Method := { name := "<init>", desc := "(Ljava/lang/AbstractStringBuilder;Ljava/lang/Void;)V", sig := { parameters := [(.object "java/lang/AbstractStringBuilder"), (.object "java/lang/Void")], returnType := none }, accessFlags := 0, code := some k7c7 }
def k7c8 : Code := { maxStack := 1, maxLocals := 1, code := jdk_42_method_152_code, exceptionTable := #[], attributes := #[] }
def k7m8 : Method := { name := "coder", desc := "()B", sig := { parameters := [], returnType := some .byte }, accessFlags := 0, code := some k7c8 }
def k7c9 : Code := { maxStack := 1, maxLocals := 1, code := jdk_42_method_154_code, exceptionTable := #[], attributes := #[] }
def k7m9 : Method := { name := "isLatin1", desc := "()Z", sig := { parameters := [], returnType := some .boolean }, accessFlags := 0, code := some k7c9 }
def k7c10 : Code := { maxStack := 3, maxLocals := 2, code := jdk_42_method_155_code, exceptionTable := #[], attributes := #[] }
def k7m10 : Method := { name := "checkIndex", desc := "(II)V", sig := { parameters := [.int, .int], returnType := none }, accessFlags := 8, code := some k7c10 }
/-- java/lang/String -/
def k7 : Class := { plain "java/lang/String" (some 0) with
  accessFlags := 49
  interfaces := #[2, 3, 4, 5, 6]
  cf := some (fileOf pool7 10 #[.nestMembers #[1103]] #[{ accessFlags := 1, nameIndex := 5, descriptorIndex := 6, attributes := #[] }, { accessFlags := 1, nameIndex := 5, descriptorIndex := 1010, attributes := #[] }, { accessFlags := 1, nameIndex := 5, descriptorIndex := 1233, attributes := #[] }, { accessFlags := 1, nameIndex := 507, descriptorIndex := 334, attributes := #[] }, { accessFlags := 1, nameIndex := 497, descriptorIndex := 427, attributes := #[] }, { accessFlags := 0, nameIndex := 532, descriptorIndex := 821, attributes := #[] }, { accessFlags := 2, nameIndex := 5, descriptorIndex := 29, attributes := #[] }, { accessFlags := 0, nameIndex := 5, descriptorIndex := 491, attributes := #[] }, { accessFlags := 0, nameIndex := 17, descriptorIndex := 337, attributes := #[] }, { accessFlags := 0, nameIndex := 494, descriptorIndex := 142, attributes := #[] }, { accessFlags := 8, nameIndex := 501, descriptorIndex := 391, attributes := #[] }] 49 2 #[1106, 1108, 575, 1110, 1112] #[{ accessFlags := 18, nameIndex := 13, descriptorIndex := 14, attributes := #[] }, { accessFlags := 18, nameIndex := 17, descriptorIndex := 18, attributes := #[] }, { accessFlags := 2, nameIndex := 21, descriptorIndex := 22, attributes := #[] }, { accessFlags := 2, nameIndex := 25, descriptorIndex := 26, attributes := #[] }, { accessFlags := 26, nameIndex := 1116, descriptorIndex := 1117, attributes := #[] }, { accessFlags := 24, nameIndex := 40, descriptorIndex := 26, attributes := #[] }, { accessFlags := 26, nameIndex := 1101, descriptorIndex := 1102, attributes := #[] }, { accessFlags := 26, nameIndex := 1121, descriptorIndex := 1122, attributes := #[] }, { accessFlags := 25, nameIndex := 599, descriptorIndex := 600, attributes := #[] }, { accessFlags := 24, nameIndex := 1125, descriptorIndex := 18, attributes := #[] }, { accessFlags := 24, nameIndex := 1127, descriptorIndex := 18, attributes := #[] }])
  fields := #[{ name := "value", type := (.array .byte), accessFlags := 18, slot := 0, constantValue := 0 }, { name := "coder", type := .byte, accessFlags := 18, slot := 1, constantValue := 0 }, { name := "hash", type := .int, accessFlags := 2, slot := 2, constantValue := 0 }, { name := "hashIsZero", type := .boolean, accessFlags := 2, slot := 3, constantValue := 0 }, { name := "serialVersionUID", type := .long, accessFlags := 26, slot := 0, constantValue := 0 }, { name := "COMPACT_STRINGS", type := .boolean, accessFlags := 24, slot := 1, constantValue := 0 }, { name := "serialPersistentFields", type := (.array (.object "java/io/ObjectStreamField")), accessFlags := 26, slot := 2, constantValue := 0 }, { name := "REPL", type := .char, accessFlags := 26, slot := 3, constantValue := 0 }, { name := "CASE_INSENSITIVE_ORDER", type := (.object "java/util/Comparator"), accessFlags := 25, slot := 4, constantValue := 0 }, { name := "LATIN1", type := .byte, accessFlags := 24, slot := 5, constantValue := 0 }, { name := "UTF16", type := .byte, accessFlags := 24, slot := 6, constantValue := 0 }]
  methods := #[k7m0, k7m1, k7m2, k7m3, k7m4, k7m5, k7m6, k7m7, k7m8, k7m9, k7m10]
  instanceTypes := #[(.array .byte), .byte, .int, .boolean]
  staticTypes := #[.long, .boolean, (.array (.object "java/io/ObjectStreamField")), .char, (.object "java/util/Comparator"), .byte, .byte]
  resolved := Array.replicate 1451 none
  statics := some 0 }

def pool8 : Array CpInfo := pool [(1, .methodref 2 3), (0, .class_ 4), (0, .nameAndType 5 6), (0, u "java/lang/Object"), (0, u "<init>"), (0, u "()V"), (0, .class_ 8), (0, u "java/lang/Record")] 13

def k8c0 : Code := { maxStack := 1, maxLocals := 1, code := jdk_30_method_1_code, exceptionTable := #[], attributes := #[] }
def k8m0 : Method := { name := "<init>", desc := "()V", sig := { parameters := [], returnType := none }, accessFlags := 4, code := some k8c0 }
/-- java/lang/Record -/
def k8 : Class := { plain "java/lang/Record" (some 0) with
  accessFlags := 1057
  interfaces := #[]
  cf := some (fileOf pool8 7 #[] #[{ accessFlags := 4, nameIndex := 5, descriptorIndex := 6, attributes := #[] }] 1057 2 #[] #[])
  fields := #[]
  methods := #[k8m0]
  instanceTypes := #[]
  staticTypes := #[]
  resolved := Array.replicate 22 none
  statics := none }

def pool9 : Array CpInfo := pool [(1, .methodref 2 3), (0, .class_ 4), (0, .nameAndType 5 6), (0, u "java/lang/Record"), (0, u "<init>"), (0, u "()V"), (0, .interfaceMethodref 8 9), (0, .class_ 10), (0, .nameAndType 11 12), (0, u "java/util/Map"), (0, u "copyOf"), (0, u "(Ljava/util/Map;)Ljava/util/Map;"), (0, .fieldref 14 15), (0, .class_ 16), (0, .nameAndType 17 18), (0, u "com/example/certain_answers/certainanswers/server/MediaType"), (0, u "type"), (0, u "Ljava/lang/String;"), (0, .fieldref 14 20), (0, .nameAndType 21 18), (0, u "subtype"), (0, .fieldref 14 23), (0, .nameAndType 24 25), (0, u "parameters"), (0, u "Ljava/util/Map;"), (11, u "()Ljava/lang/String;"), (10, .string 49), (0, u "/"), (46, u "(Ljava/lang/String;Ljava/lang/String;Ljava/util/Map;)V"), (4, .class_ 102), (0, u "java/lang/StringBuilder"), (0, .methodref 101 3), (0, .methodref 101 105), (0, .nameAndType 106 107), (0, u "append"), (0, u "(Ljava/lang/String;)Ljava/lang/StringBuilder;"), (0, .methodref 101 109), (0, .nameAndType 110 37), (0, u "toString"), (42, u "essence")] 28

def k9c0 : Code := { maxStack := 2, maxLocals := 4, code := prog_8_method_1_code, exceptionTable := #[], attributes := #[] }
def k9m0 : Method := { name := "<init>", desc := "(Ljava/lang/String;Ljava/lang/String;Ljava/util/Map;)V", sig := { parameters := [(.object "java/lang/String"), (.object "java/lang/String"), (.object "java/util/Map")], returnType := none }, accessFlags := 0, code := some k9c0 }
def k9c1 : Code := { maxStack := 2, maxLocals := 1, code := prog_8_method_3_code, exceptionTable := #[], attributes := #[] }
def k9m1 : Method := { name := "essence", desc := "()Ljava/lang/String;", sig := { parameters := [], returnType := some (.object "java/lang/String") }, accessFlags := 0, code := some k9c1 }
/-- com/example/certain_answers/certainanswers/server/MediaType -/
def k9 : Class := { plain "com/example/certain_answers/certainanswers/server/MediaType" (some 8) with
  accessFlags := 48
  interfaces := #[]
  cf := some (fileOf pool9 14 #[] #[{ accessFlags := 0, nameIndex := 5, descriptorIndex := 96, attributes := #[] }, { accessFlags := 0, nameIndex := 153, descriptorIndex := 37, attributes := #[] }] 48 2 #[] #[{ accessFlags := 18, nameIndex := 17, descriptorIndex := 18, attributes := #[] }, { accessFlags := 18, nameIndex := 21, descriptorIndex := 18, attributes := #[] }, { accessFlags := 18, nameIndex := 24, descriptorIndex := 25, attributes := #[] }])
  fields := #[{ name := "type", type := (.object "java/lang/String"), accessFlags := 18, slot := 0, constantValue := 0 }, { name := "subtype", type := (.object "java/lang/String"), accessFlags := 18, slot := 1, constantValue := 0 }, { name := "parameters", type := (.object "java/util/Map"), accessFlags := 18, slot := 2, constantValue := 0 }]
  methods := #[k9m0, k9m1]
  instanceTypes := #[(.object "java/lang/String"), (.object "java/lang/String"), (.object "java/util/Map")]
  staticTypes := #[]
  resolved := Array.replicate 182 none
  statics := none }

def pool10 : Array CpInfo := pool [(2, .class_ 4), (1, u "java/util/Map"), (31, .class_ 37), (0, u "java/util/Map$Entry"), (43, .fieldref 82 83), (0, .class_ 84), (0, .nameAndType 85 86), (0, u "java/util/ImmutableCollections"), (0, u "EMPTY_MAP"), (0, u "Ljava/util/ImmutableCollections$MapN;"), (6, .class_ 94), (0, u "java/lang/Object"), (6, .class_ 102), (0, u "java/util/ImmutableCollections$AbstractImmutableMap"), (5, u "of"), (0, u "()Ljava/util/Map;"), (140, u "copyOf"), (0, u "(Ljava/util/Map;)Ljava/util/Map;")] 11

def k10c0 : Code := { maxStack := 1, maxLocals := 0, code := jdk_72_method_26_code, exceptionTable := #[], attributes := #[] }
def k10m0 : Method := { name := "of", desc := "()Ljava/util/Map;", sig := { parameters := [], returnType := some (.object "java/util/Map") }, accessFlags := 9, code := some k10c0 }
def k10c1 : Code := { maxStack := 2, maxLocals := 1, code := jdk_72_method_39_code, exceptionTable := #[], attributes := #[] }
def k10m1 : Method := { name := "copyOf", desc := "(Ljava/util/Map;)Ljava/util/Map;", sig := { parameters := [(.object "java/util/Map")], returnType := some (.object "java/util/Map") }, accessFlags := 9, code := some k10c1 }
/-- java/util/Map -/
def k10 : Class := { plain "java/util/Map" (some 0) with
  accessFlags := 1537
  interfaces := #[]
  cf := some (fileOf pool10 2 #[.nestMembers #[36]] #[{ accessFlags := 9, nameIndex := 108, descriptorIndex := 109, attributes := #[] }, { accessFlags := 9, nameIndex := 250, descriptorIndex := 251, attributes := #[] }] 1537 93 #[] #[])
  fields := #[]
  methods := #[k10m0, k10m1]
  instanceTypes := #[]
  staticTypes := #[]
  resolved := Array.replicate 263 none
  statics := none }

def pool11 : Array CpInfo := pool [(2, .class_ 4), (1, u "java/lang/Object"), (0, u "<init>"), (0, u "()V"), (3, .class_ 11), (0, u "java/util/ImmutableCollections$List12"), (0, .class_ 13), (0, u "java/util/ImmutableCollections$ListN"), (3, u "Z"), (29, .class_ 49), (1, u "java/util/ImmutableCollections"), (0, u "$assertionsDisabled"), (5, u "[Ljava/lang/Object;"), (5, u "EMPTY_LIST"), (0, u "Ljava/util/ImmutableCollections$ListN;"), (8, u "EMPTY_LIST_NULLS"), (22, u "SALT32L"), (0, u "J"), (2, u "REVERSE"), (6, u "archivedObjects"), (2, u "EMPTY"), (0, u "Ljava/lang/Object;"), (0, .class_ 112), (0, u "java/util/ImmutableCollections$SetN"), (5, u "EMPTY_SET"), (0, u "Ljava/util/ImmutableCollections$SetN;"), (0, .class_ 121), (0, u "java/util/ImmutableCollections$MapN"), (3, u "EMPTY_MAP"), (0, u "Ljava/util/ImmutableCollections$MapN;"), (4, u "EXPAND_FACTOR"), (0, u "I"), (36, .class_ 170), (0, u "java/util/ImmutableCollections$MapN$MapNIterator"), (0, .class_ 172), (0, u "java/util/ImmutableCollections$MapN$1"), (0, .class_ 174), (0, u "java/util/ImmutableCollections$Map1"), (0, .class_ 176), (0, u "java/util/ImmutableCollections$AbstractImmutableMap"), (0, .class_ 178), (0, u "java/util/ImmutableCollections$SetN$SetNIterator"), (0, .class_ 180), (0, u "java/util/ImmutableCollections$Set12"), (0, .class_ 182), (0, u "java/util/ImmutableCollections$Set12$1"), (0, .class_ 184), (0, u "java/util/ImmutableCollections$AbstractImmutableSet"), (0, .class_ 186), (0, u "java/util/ImmutableCollections$SubList"), (0, .class_ 188), (0, u "java/util/ImmutableCollections$ListItr"), (0, .class_ 190), (0, u "java/util/ImmutableCollections$AbstractImmutableList"), (0, .class_ 192), (0, u "java/util/ImmutableCollections$AbstractImmutableCollection"), (0, .class_ 194), (0, u "java/util/ImmutableCollections$Access"), (0, .class_ 196), (0, u "java/util/ImmutableCollections$Access$1")] 16

def k11m0 : Method := { name := "<init>", desc := "()V", sig := { parameters := [], returnType := none }, accessFlags := 2, code := none }
/-- java/util/ImmutableCollections -/
def k11 : Class := { plain "java/util/ImmutableCollections" (some 0) with
  accessFlags := 32
  interfaces := #[]
  cf := some (fileOf pool11 47 #[.nestMembers #[120, 169, 171, 173, 175, 111, 177, 179, 181, 183, 12, 10, 185, 187, 189, 191, 193, 195]] #[{ accessFlags := 2, nameIndex := 5, descriptorIndex := 6, attributes := #[] }] 32 2 #[] #[{ accessFlags := 26, nameIndex := 95, descriptorIndex := 96, attributes := #[] }, { accessFlags := 26, nameIndex := 99, descriptorIndex := 17, attributes := #[] }, { accessFlags := 10, nameIndex := 106, descriptorIndex := 56, attributes := #[] }, { accessFlags := 26, nameIndex := 109, descriptorIndex := 110, attributes := #[] }, { accessFlags := 24, nameIndex := 62, descriptorIndex := 63, attributes := #[] }, { accessFlags := 24, nameIndex := 72, descriptorIndex := 63, attributes := #[] }, { accessFlags := 24, nameIndex := 118, descriptorIndex := 119, attributes := #[] }, { accessFlags := 24, nameIndex := 125, descriptorIndex := 126, attributes := #[] }, { accessFlags := 24, nameIndex := 131, descriptorIndex := 132, attributes := #[] }, { accessFlags := 4120, nameIndex := 50, descriptorIndex := 17, attributes := #[] }])
  fields := #[{ name := "SALT32L", type := .long, accessFlags := 26, slot := 0, constantValue := 0 }, { name := "REVERSE", type := .boolean, accessFlags := 26, slot := 1, constantValue := 0 }, { name := "archivedObjects", type := (.array (.object "java/lang/Object")), accessFlags := 10, slot := 2, constantValue := 0 }, { name := "EMPTY", type := (.object "java/lang/Object"), accessFlags := 26, slot := 3, constantValue := 0 }, { name := "EMPTY_LIST", type := (.object "java/util/ImmutableCollections$ListN"), accessFlags := 24, slot := 4, constantValue := 0 }, { name := "EMPTY_LIST_NULLS", type := (.object "java/util/ImmutableCollections$ListN"), accessFlags := 24, slot := 5, constantValue := 0 }, { name := "EMPTY_SET", type := (.object "java/util/ImmutableCollections$SetN"), accessFlags := 24, slot := 6, constantValue := 0 }, { name := "EMPTY_MAP", type := (.object "java/util/ImmutableCollections$MapN"), accessFlags := 24, slot := 7, constantValue := 0 }, { name := "EXPAND_FACTOR", type := .int, accessFlags := 24, slot := 8, constantValue := 0 }, { name := "$assertionsDisabled", type := .boolean, accessFlags := 4120, slot := 9, constantValue := 0 }]
  methods := #[k11m0]
  instanceTypes := #[]
  staticTypes := #[.long, .boolean, (.array (.object "java/lang/Object")), (.object "java/lang/Object"), (.object "java/util/ImmutableCollections$ListN"), (.object "java/util/ImmutableCollections$ListN"), (.object "java/util/ImmutableCollections$SetN"), (.object "java/util/ImmutableCollections$MapN"), .int, .boolean]
  resolved := Array.replicate 213 none
  statics := some 1 }

def pool12 : Array CpInfo := pool [(2, .class_ 4), (1, u "java/lang/Object"), (0, u "<init>"), (0, u "()V"), (1, .class_ 10), (1, u "java/util/AbstractMap"), (42, .class_ 54), (0, u "java/util/Map"), (9, u "keySet"), (0, u "Ljava/util/Set;"), (0, .class_ 67), (0, u "java/util/AbstractMap$1"), (5, u "values"), (0, u "Ljava/util/Collection;"), (0, .class_ 76), (0, u "java/util/AbstractMap$2"), (104, .class_ 182), (0, u "java/util/AbstractMap$ViewCollection"), (0, .class_ 184), (0, u "java/util/AbstractMap$SimpleImmutableEntry"), (0, .class_ 186), (0, u "java/util/AbstractMap$SimpleEntry"), (0, .class_ 188), (0, u "java/util/AbstractMap$2$1"), (0, .class_ 190), (0, u "java/util/AbstractMap$1$1")] 5

def k12m0 : Method := { name := "<init>", desc := "()V", sig := { parameters := [], returnType := none }, accessFlags := 4, code := none }
/-- java/util/AbstractMap -/
def k12 : Class := { plain "java/util/AbstractMap" (some 0) with
  accessFlags := 1057
  interfaces := #[10]
  cf := some (fileOf pool12 8 #[.nestMembers #[181, 183, 185, 75, 187, 66, 189]] #[{ accessFlags := 4, nameIndex := 5, descriptorIndex := 6, attributes := #[] }] 1057 2 #[53] #[{ accessFlags := 128, nameIndex := 64, descriptorIndex := 65, attributes := #[] }, { accessFlags := 128, nameIndex := 73, descriptorIndex := 74, attributes := #[] }])
  fields := #[{ name := "keySet", type := (.object "java/util/Set"), accessFlags := 128, slot := 0, constantValue := 0 }, { name := "values", type := (.object "java/util/Collection"), accessFlags := 128, slot := 1, constantValue := 0 }]
  methods := #[k12m0]
  instanceTypes := #[(.object "java/util/Set"), (.object "java/util/Collection")]
  staticTypes := #[]
  resolved := Array.replicate 196 none
  statics := none }

def pool13 : Array CpInfo := pool [(2, .class_ 4), (1, u "java/util/AbstractMap"), (0, u "<init>"), (0, u "()V"), (1, .class_ 10), (1, u "java/util/ImmutableCollections"), (3, .class_ 16), (1, u "java/util/ImmutableCollections$AbstractImmutableMap"), (2, .class_ 20), (0, u "java/io/Serializable")] 66

def k13m0 : Method := { name := "<init>", desc := "()V", sig := { parameters := [], returnType := none }, accessFlags := 0, code := none }
/-- java/util/ImmutableCollections$AbstractImmutableMap -/
def k13 : Class := { plain "java/util/ImmutableCollections$AbstractImmutableMap" (some 12) with
  accessFlags := 1056
  interfaces := #[2]
  cf := some (fileOf pool13 14 #[.nestHost 8] #[{ accessFlags := 0, nameIndex := 5, descriptorIndex := 6, attributes := #[] }] 1056 2 #[19] #[])
  fields := #[]
  methods := #[k13m0]
  instanceTypes := #[(.object "java/util/Set"), (.object "java/util/Collection")]
  staticTypes := #[]
  resolved := Array.replicate 87 none
  statics := none }

def pool14 : Array CpInfo := pool [(1, .class_ 2), (0, u "java/util/ImmutableCollections"), (1, .class_ 6), (1, u "java/util/ImmutableCollections$AbstractImmutableMap"), (10, .class_ 19), (1, u "java/util/ImmutableCollections$MapN"), (0, u "size"), (0, u "I"), (4, u "table"), (0, u "[Ljava/lang/Object;")] 121

/-- java/util/ImmutableCollections$MapN -/
def k14 : Class := { plain "java/util/ImmutableCollections$MapN" (some 13) with
  accessFlags := 48
  interfaces := #[]
  cf := some (fileOf pool14 17 #[.nestHost 1] #[] 48 4 #[] #[{ accessFlags := 16, nameIndex := 26, descriptorIndex := 27, attributes := #[] }, { accessFlags := 16, nameIndex := 20, descriptorIndex := 21, attributes := #[] }])
  fields := #[{ name := "table", type := (.array (.object "java/lang/Object")), accessFlags := 16, slot := 2, constantValue := 0 }, { name := "size", type := .int, accessFlags := 16, slot := 3, constantValue := 0 }]
  methods := #[]
  instanceTypes := #[(.object "java/util/Set"), (.object "java/util/Collection"), (.array (.object "java/lang/Object")), .int]
  staticTypes := #[]
  resolved := Array.replicate 149 none
  statics := none }

def pool15 : Array CpInfo := pool [(1, .class_ 2), (0, u "java/lang/Appendable"), (0, .class_ 4), (0, u "java/lang/Object")] 9

/-- java/lang/Appendable -/
def k15 : Class := { plain "java/lang/Appendable" (some 0) with
  accessFlags := 1537
  interfaces := #[]
  cf := some (fileOf pool15 1 #[] #[] 1537 3 #[] #[])
  fields := #[]
  methods := #[]
  instanceTypes := #[]
  staticTypes := #[]
  resolved := Array.replicate 14 none
  statics := none }

def pool16 : Array CpInfo := pool [(1, .class_ 2), (0, u "java/lang/String"), (0, .methodref 4 5), (0, .class_ 6), (0, .nameAndType 7 8), (0, u "java/lang/Object"), (0, u "<init>"), (0, u "()V"), (1, .class_ 12), (1, u "java/lang/AbstractStringBuilder"), (0, u "EMPTYVALUE"), (0, u "[B"), (0, .fieldref 10 16), (0, .nameAndType 17 14), (0, u "value"), (0, .fieldref 1 19), (0, .nameAndType 20 21), (0, u "COMPACT_STRINGS"), (0, u "Z"), (0, .fieldref 10 23), (0, .nameAndType 24 25), (0, u "coder"), (0, u "B"), (6, .methodref 1 33), (0, .nameAndType 34 35), (0, u "length"), (0, u "()I"), (4, .methodref 1 41), (0, .nameAndType 24 42), (0, u "()B"), (2, u "append"), (0, u "(Ljava/lang/String;)Ljava/lang/AbstractStringBuilder;"), (1, .class_ 49), (0, u "java/lang/CharSequence"), (19, u "(Ljava/lang/String;)V"), (5, u "maybeLatin1"), (3, .fieldref 10 80), (0, .nameAndType 81 82), (0, u "count"), (0, u "I"), (2, u "isLatin1"), (0, u "()Z"), (13, .methodref 10 101), (0, .nameAndType 102 103), (0, u "ensureCapacityInternal"), (0, u "(I)V"), (104, .methodref 10 209), (0, .nameAndType 210 211), (0, u "putStringAt"), (0, u "(ILjava/lang/String;)V"), (5, u "inflateIfNeededFor"), (2, .nameAndType 221 222), (0, u "getBytes"), (0, u "([BIB)V"), (174, .methodref 10 398), (0, .nameAndType 217 69), (0, .methodref 1 220), (3, u "()[B"), (40, .class_ 445), (0, u "java/lang/Appendable"), (106, u "getValue")] 56

def k16m0 : Method := { name := "<init>", desc := "()V", sig := { parameters := [], returnType := none }, accessFlags := 0, code := none }
def k16c1 : Code := { maxStack := 2, maxLocals := 2, code := jdk_68_method_2_code, exceptionTable := #[], attributes := #[] }
def k16m1 : Method := { name := "<init>", desc := "(I)V", sig := { parameters := [.int], returnType := none }, accessFlags := 0, code := some k16c1 }
def k16c2 : Code := { maxStack := 1, maxLocals := 1, code := jdk_68_method_6_code, exceptionTable := #[], attributes := #[] }
def k16m2 : Method := { name := "length", desc := "()I", sig := { parameters := [], returnType := some .int }, accessFlags := 1, code := some k16c2 }
def k16c3 : Code := { maxStack := 4, maxLocals := 3, code := jdk_68_method_9_code, exceptionTable := #[], attributes := #[] }
def k16m3 : Method := { name := "ensureCapacityInternal", desc := "(I)V", sig := { parameters := [.int], returnType := none }, accessFlags := 2, code := some k16c3 }
def k16c4 : Code := { maxStack := 3, maxLocals := 3, code := jdk_68_method_22_code, exceptionTable := #[], attributes := #[] }
def k16m4 : Method := { name := "append", desc := "(Ljava/lang/String;)Ljava/lang/AbstractStringBuilder;", sig := { parameters := [(.object "java/lang/String")], returnType := some (.object "java/lang/AbstractStringBuilder") }, accessFlags := 1, code := some k16c4 }
def k16c5 : Code := { maxStack := 1, maxLocals := 1, code := jdk_68_method_64_code, exceptionTable := #[], attributes := #[] }
def k16m5 : Method := { name := "getValue", desc := "()[B", sig := { parameters := [], returnType := some (.array .byte) }, accessFlags := 16, code := some k16c5 }
def k16c6 : Code := { maxStack := 1, maxLocals := 1, code := jdk_68_method_68_code, exceptionTable := #[], attributes := #[] }
def k16m6 : Method := { name := "isLatin1", desc := "()Z", sig := { parameters := [], returnType := some .boolean }, accessFlags := 16, code := some k16c6 }
def k16c7 : Code := { maxStack := 2, maxLocals := 2, code := jdk_68_method_71_code, exceptionTable := #[], attributes := #[] }
def k16m7 : Method := { name := "inflateIfNeededFor", desc := "(Ljava/lang/String;)V", sig := { parameters := [(.object "java/lang/String")], returnType := none }, accessFlags := 2, code := some k16c7 }
def k16c8 : Code := { maxStack := 4, maxLocals := 3, code := jdk_68_method_73_code, exceptionTable := #[], attributes := #[] }
def k16m8 : Method := { name := "putStringAt", desc := "(ILjava/lang/String;)V", sig := { parameters := [.int, (.object "java/lang/String")], returnType := none }, accessFlags := 2, code := some k16c8 }
/-- java/lang/AbstractStringBuilder -/
def k16 : Class := { plain "java/lang/AbstractStringBuilder" (some 0) with
  accessFlags := 1056
  interfaces := #[15, 4]
  cf := some (fileOf pool16 10 #[] #[{ accessFlags := 0, nameIndex := 7, descriptorIndex := 8, attributes := #[] }, { accessFlags := 0, nameIndex := 7, descriptorIndex := 103, attributes := #[] }, { accessFlags := 1, nameIndex := 34, descriptorIndex := 35, attributes := #[] }, { accessFlags := 2, nameIndex := 102, descriptorIndex := 103, attributes := #[] }, { accessFlags := 1, nameIndex := 45, descriptorIndex := 46, attributes := #[] }, { accessFlags := 16, nameIndex := 552, descriptorIndex := 403, attributes := #[] }, { accessFlags := 16, nameIndex := 85, descriptorIndex := 86, attributes := #[] }, { accessFlags := 2, nameIndex := 217, descriptorIndex := 69, attributes := #[] }, { accessFlags := 2, nameIndex := 210, descriptorIndex := 211, attributes := #[] }] 1056 4 #[444, 48] #[{ accessFlags := 0, nameIndex := 17, descriptorIndex := 14, attributes := #[] }, { accessFlags := 0, nameIndex := 24, descriptorIndex := 25, attributes := #[] }, { accessFlags := 0, nameIndex := 75, descriptorIndex := 21, attributes := #[] }, { accessFlags := 0, nameIndex := 81, descriptorIndex := 82, attributes := #[] }, { accessFlags := 26, nameIndex := 13, descriptorIndex := 14, attributes := #[] }])
  fields := #[{ name := "value", type := (.array .byte), accessFlags := 0, slot := 0, constantValue := 0 }, { name := "coder", type := .byte, accessFlags := 0, slot := 1, constantValue := 0 }, { name := "maybeLatin1", type := .boolean, accessFlags := 0, slot := 2, constantValue := 0 }, { name := "count", type := .int, accessFlags := 0, slot := 3, constantValue := 0 }, { name := "EMPTYVALUE", type := (.array .byte), accessFlags := 26, slot := 0, constantValue := 0 }]
  methods := #[k16m0, k16m1, k16m2, k16m3, k16m4, k16m5, k16m6, k16m7, k16m8]
  instanceTypes := #[(.array .byte), .byte, .boolean, .int]
  staticTypes := #[(.array .byte)]
  resolved := Array.replicate 609 none
  statics := none }

def pool17 : Array CpInfo := pool [(1, .methodref 2 3), (0, .class_ 4), (0, .nameAndType 5 6), (0, u "java/lang/AbstractStringBuilder"), (0, u "<init>"), (0, u "(I)V"), (11, .class_ 20), (1, u "java/lang/String"), (3, .class_ 26), (1, u "java/lang/StringBuilder"), (0, u "append"), (0, u "(Ljava/lang/String;)Ljava/lang/StringBuilder;"), (0, .methodref 2 30), (0, .nameAndType 27 31), (0, u "(Ljava/lang/String;)Ljava/lang/AbstractStringBuilder;"), (105, .methodref 18 138), (0, .nameAndType 5 139), (0, u "(Ljava/lang/StringBuilder;)V"), (5, u "()V"), (10, u "()I"), (186, .methodref 2 344), (0, .nameAndType 345 156), (0, u "length"), (3, .class_ 350), (0, u "java/lang/Appendable"), (0, .class_ 352), (0, u "java/io/Serializable"), (0, .class_ 354), (0, u "java/lang/Comparable"), (0, .class_ 356), (0, u "java/lang/CharSequence"), (0, u "serialVersionUID"), (0, u "J"), (40, u "toString"), (0, u "()Ljava/lang/String;")] 21

def k17c0 : Code := { maxStack := 2, maxLocals := 1, code := jdk_67_method_1_code, exceptionTable := #[], attributes := #[] }
def k17m0 : Method := { name := "<init>", desc := "()V", sig := { parameters := [], returnType := none }, accessFlags := 1, code := some k17c0 }
def k17c1 : Code := { maxStack := 2, maxLocals := 2, code := jdk_67_method_7_code, exceptionTable := #[], attributes := #[] }
def k17m1 : Method := { name := "append", desc := "(Ljava/lang/String;)Ljava/lang/StringBuilder;", sig := { parameters := [(.object "java/lang/String")], returnType := some (.object "java/lang/StringBuilder") }, accessFlags := 1, code := some k17c1 }
def k17c2 : Code := { maxStack := 3, maxLocals := 1, code := jdk_67_method_42_code, exceptionTable := #[], attributes := #[] }
def k17m2 : Method := { name := "toString", desc := "()Ljava/lang/String;", sig := { parameters := [], returnType := some (.object "java/lang/String") }, accessFlags := 1, code := some k17c2 }
def k17c3 : Code := { maxStack := 1, maxLocals := 1, code := jdk_67_method_93_code, exceptionTable := #[], attributes := #[] }
def k17m3 : Method := { name := "length", desc := "()I", sig := { parameters := [], returnType := some .int }, accessFlags := 4161, code := some k17c3 }
/-- java/lang/StringBuilder -/
def k17 : Class := { plain "java/lang/StringBuilder" (some 16) with
  accessFlags := 49
  interfaces := #[15, 2, 3, 4]
  cf := some (fileOf pool17 24 #[] #[{ accessFlags := 1, nameIndex := 5, descriptorIndex := 145, attributes := #[] }, { accessFlags := 1, nameIndex := 27, descriptorIndex := 28, attributes := #[] }, { accessFlags := 1, nameIndex := 399, descriptorIndex := 400, attributes := #[] }, { accessFlags := 4161, nameIndex := 345, descriptorIndex := 156, attributes := #[] }] 49 2 #[349, 351, 353, 355] #[{ accessFlags := 24, nameIndex := 357, descriptorIndex := 358, attributes := #[] }])
  fields := #[{ name := "serialVersionUID", type := .long, accessFlags := 24, slot := 0, constantValue := 0 }]
  methods := #[k17m0, k17m1, k17m2, k17m3]
  instanceTypes := #[(.array .byte), .byte, .boolean, .int]
  staticTypes := #[.long]
  resolved := Array.replicate 422 none
  statics := none }

def pool18 : Array CpInfo := pool [(2, .class_ 4), (1, u "java/lang/Object"), (0, u "<init>"), (0, u "()V"), (1, .class_ 10), (1, u "java/lang/System"), (0, u "allowSecurityManager"), (0, u "I"), (16, u "cons"), (0, u "Ljava/io/Console;"), (77, .class_ 110), (1, u "java/lang/System$CallersHolder"), (43, u "initialErrStream"), (0, u "Ljava/io/PrintStream;"), (19, u "security"), (0, u "Ljava/lang/SecurityManager;"), (31, .class_ 209), (0, u "java/lang/System$1"), (7, u "props"), (0, u "Ljava/util/Properties;"), (2, u "lineSeparator"), (0, u "Ljava/lang/String;"), (96, .class_ 321), (1, u "java/lang/System$LoggerFinder"), (5, .class_ 328), (0, u "java/lang/System$Logger"), (67, u "err"), (2, u "out"), (91, u "notSupportedJnuEncoding"), (15, u "in"), (17, u "initialIn"), (0, u "Ljava/io/InputStream;"), (35, u "bootLayer"), (0, u "Ljava/lang/ModuleLayer;"), (99, .class_ 664), (0, u "java/lang/System$2"), (9, u "NEVER"), (2, u "MAYBE"), (49, u "arraycopy"), (0, u "(Ljava/lang/Object;ILjava/lang/Object;II)V"), (72, .class_ 802), (0, u "java/lang/System$Logger$Level")] 31

def k18m0 : Method := { name := "<init>", desc := "()V", sig := { parameters := [], returnType := none }, accessFlags := 2, code := none }
def k18m1 : Method := { name := "arraycopy", desc := "(Ljava/lang/Object;ILjava/lang/Object;II)V", sig := { parameters := [(.object "java/lang/Object"), .int, (.object "java/lang/Object"), .int, .int], returnType := none }, accessFlags := 265, code := none }
/-- java/lang/System -/
def k18 : Class := { plain "java/lang/System" (some 0) with
  accessFlags := 49
  interfaces := #[]
  cf := some (fileOf pool18 8 #[.nestMembers #[319, 327, 801, 108, 663, 208]] #[{ accessFlags := 2, nameIndex := 5, descriptorIndex := 6, attributes := #[] }, { accessFlags := 265, nameIndex := 727, descriptorIndex := 728, attributes := #[] }] 49 2 #[] #[{ accessFlags := 25, nameIndex := 507, descriptorIndex := 526, attributes := #[] }, { accessFlags := 25, nameIndex := 399, descriptorIndex := 155, attributes := #[] }, { accessFlags := 25, nameIndex := 396, descriptorIndex := 155, attributes := #[] }, { accessFlags := 10, nameIndex := 525, descriptorIndex := 526, attributes := #[] }, { accessFlags := 26, nameIndex := 674, descriptorIndex := 12, attributes := #[] }, { accessFlags := 26, nameIndex := 677, descriptorIndex := 12, attributes := #[] }, { accessFlags := 10, nameIndex := 11, descriptorIndex := 12, attributes := #[] }, { accessFlags := 74, nameIndex := 175, descriptorIndex := 176, attributes := #[] }, { accessFlags := 10, nameIndex := 491, descriptorIndex := 222, attributes := #[] }, { accessFlags := 74, nameIndex := 29, descriptorIndex := 30, attributes := #[] }, { accessFlags := 74, nameIndex := 154, descriptorIndex := 155, attributes := #[] }, { accessFlags := 10, nameIndex := 217, descriptorIndex := 218, attributes := #[] }, { accessFlags := 10, nameIndex := 221, descriptorIndex := 222, attributes := #[] }, { accessFlags := 8, nameIndex := 562, descriptorIndex := 563, attributes := #[] }])
  fields := #[{ name := "in", type := (.object "java/io/InputStream"), accessFlags := 25, slot := 0, constantValue := 0 }, { name := "out", type := (.object "java/io/PrintStream"), accessFlags := 25, slot := 1, constantValue := 0 }, { name := "err", type := (.object "java/io/PrintStream"), accessFlags := 25, slot := 2, constantValue := 0 }, { name := "initialIn", type := (.object "java/io/InputStream"), accessFlags := 10, slot := 3, constantValue := 0 }, { name := "NEVER", type := .int, accessFlags := 26, slot := 4, constantValue := 0 }, { name := "MAYBE", type := .int, accessFlags := 26, slot := 5, constantValue := 0 }, { name := "allowSecurityManager", type := .int, accessFlags := 10, slot := 6, constantValue := 0 }, { name := "security", type := (.object "java/lang/SecurityManager"), accessFlags := 74, slot := 7, constantValue := 0 }, { name := "notSupportedJnuEncoding", type := (.object "java/lang/String"), accessFlags := 10, slot := 8, constantValue := 0 }, { name := "cons", type := (.object "java/io/Console"), accessFlags := 74, slot := 9, constantValue := 0 }, { name := "initialErrStream", type := (.object "java/io/PrintStream"), accessFlags := 74, slot := 10, constantValue := 0 }, { name := "props", type := (.object "java/util/Properties"), accessFlags := 10, slot := 11, constantValue := 0 }, { name := "lineSeparator", type := (.object "java/lang/String"), accessFlags := 10, slot := 12, constantValue := 0 }, { name := "bootLayer", type := (.object "java/lang/ModuleLayer"), accessFlags := 8, slot := 13, constantValue := 0 }]
  methods := #[k18m0, k18m1]
  instanceTypes := #[]
  staticTypes := #[(.object "java/io/InputStream"), (.object "java/io/PrintStream"), (.object "java/io/PrintStream"), (.object "java/io/InputStream"), .int, .int, .int, (.object "java/lang/SecurityManager"), (.object "java/lang/String"), (.object "java/io/Console"), (.object "java/io/PrintStream"), (.object "java/util/Properties"), (.object "java/lang/String"), (.object "java/lang/ModuleLayer")]
  resolved := Array.replicate 834 none
  statics := none }

def pool19 : Array CpInfo := pool [(2, .class_ 4), (1, u "java/lang/Object"), (0, u "<init>"), (0, u "()V"), (7, .class_ 16), (1, u "java/util/Arrays"), (57, .class_ 76), (1, u "java/util/Arrays$NaturalOrder"), (36, .class_ 115), (1, u "java/util/Arrays$LegacyMergeSort"), (1, u "Z"), (21, u "copyOfRange"), (10, .methodref 151 152), (0, .class_ 153), (0, .nameAndType 154 155), (0, u "java/lang/System"), (0, u "arraycopy"), (0, u "(Ljava/lang/Object;ILjava/lang/Object;II)V"), (148, .methodref 305 306), (0, .class_ 307), (0, .nameAndType 308 309), (0, u "java/lang/Math"), (0, u "min"), (0, u "(II)I"), (29, .methodref 14 340), (0, .nameAndType 341 342), (0, u "copyOfRangeByte"), (0, u "([BII)[B"), (0, .methodref 14 344), (0, .nameAndType 345 346), (0, u "checkLength"), (0, u "(II)V"), (28, .class_ 376), (0, u "java/util/Arrays$ArrayList"), (68, u "$assertionsDisabled"), (269, u "MIN_ARRAY_SORT_GRAN"), (0, u "I"), (2, u "INSERTIONSORT_THRESHOLD"), (255, .class_ 976), (0, u "java/util/Arrays$ArrayItr")] 52

def k19m0 : Method := { name := "<init>", desc := "()V", sig := { parameters := [], returnType := none }, accessFlags := 2, code := none }
def k19c1 : Code := { maxStack := 4, maxLocals := 2, code := jdk_65_method_131_code, exceptionTable := #[], attributes := #[] }
def k19m1 : Method := { name := "checkLength", desc := "(II)V", sig := { parameters := [.int, .int], returnType := none }, accessFlags := 10, code := some k19c1 }
def k19c2 : Code := { maxStack := 3, maxLocals := 3, code := jdk_65_method_132_code, exceptionTable := #[], attributes := #[] }
def k19m2 : Method := { name := "copyOfRange", desc := "([BII)[B", sig := { parameters := [(.array .byte), .int, .int], returnType := some (.array .byte) }, accessFlags := 9, code := some k19c2 }
def k19c3 : Code := { maxStack := 6, maxLocals := 5, code := jdk_65_method_133_code, exceptionTable := #[], attributes := #[] }
def k19m3 : Method := { name := "copyOfRangeByte", desc := "([BII)[B", sig := { parameters := [(.array .byte), .int, .int], returnType := some (.array .byte) }, accessFlags := 10, code := some k19c3 }
/-- java/util/Arrays -/
def k19 : Class := { plain "java/util/Arrays" (some 0) with
  accessFlags := 49
  interfaces := #[]
  cf := some (fileOf pool19 14 #[.nestMembers #[975, 375, 113, 74]] #[{ accessFlags := 2, nameIndex := 5, descriptorIndex := 6, attributes := #[] }, { accessFlags := 10, nameIndex := 345, descriptorIndex := 346, attributes := #[] }, { accessFlags := 9, nameIndex := 139, descriptorIndex := 342, attributes := #[] }, { accessFlags := 10, nameIndex := 341, descriptorIndex := 342, attributes := #[] }] 49 2 #[] #[{ accessFlags := 26, nameIndex := 715, descriptorIndex := 716, attributes := #[] }, { accessFlags := 26, nameIndex := 719, descriptorIndex := 716, attributes := #[] }, { accessFlags := 4120, nameIndex := 445, descriptorIndex := 117, attributes := #[] }])
  fields := #[{ name := "MIN_ARRAY_SORT_GRAN", type := .int, accessFlags := 26, slot := 0, constantValue := 0 }, { name := "INSERTIONSORT_THRESHOLD", type := .int, accessFlags := 26, slot := 1, constantValue := 0 }, { name := "$assertionsDisabled", type := .boolean, accessFlags := 4120, slot := 2, constantValue := 0 }]
  methods := #[k19m0, k19m1, k19m2, k19m3]
  instanceTypes := #[]
  staticTypes := #[.int, .int, .boolean]
  resolved := Array.replicate 1029 none
  statics := none }

def pool20 : Array CpInfo := pool [(1, .class_ 2), (0, u "java/lang/Math"), (1, .class_ 6), (1, u "java/lang/Object"), (0, u "<init>"), (0, u "()V"), (89, .class_ 100), (1, u "java/lang/Math$RandomNumberGeneratorHolder"), (71, u "negativeZeroFloatBits"), (0, u "J"), (2, u "negativeZeroDoubleBits"), (24, u "min"), (43, u "$assertionsDisabled"), (0, u "Z"), (88, u "(II)I"), (2, u "twoToTheDoubleScaleDown"), (0, u "D"), (4, u "twoToTheDoubleScaleUp"), (9, u "E"), (3, u "PI"), (2, u "TAU"), (2, u "DEGREES_TO_RADIANS"), (0, u "RADIANS_TO_DEGREES")] 94

def k20m0 : Method := { name := "<init>", desc := "()V", sig := { parameters := [], returnType := none }, accessFlags := 2, code := none }
def k20c1 : Code := { maxStack := 2, maxLocals := 2, code := jdk_29_method_69_code, exceptionTable := #[], attributes := #[] }
def k20m1 : Method := { name := "min", desc := "(II)I", sig := { parameters := [.int, .int], returnType := some .int }, accessFlags := 9, code := some k20c1 }
/-- java/lang/Math -/
def k20 : Class := { plain "java/lang/Math" (some 0) with
  accessFlags := 49
  interfaces := #[]
  cf := some (fileOf pool20 1 #[.nestMembers #[98]] #[{ accessFlags := 2, nameIndex := 7, descriptorIndex := 8, attributes := #[] }, { accessFlags := 9, nameIndex := 201, descriptorIndex := 335, attributes := #[] }] 49 4 #[] #[{ accessFlags := 25, nameIndex := 354, descriptorIndex := 339, attributes := #[] }, { accessFlags := 25, nameIndex := 358, descriptorIndex := 339, attributes := #[] }, { accessFlags := 25, nameIndex := 361, descriptorIndex := 339, attributes := #[] }, { accessFlags := 26, nameIndex := 364, descriptorIndex := 339, attributes := #[] }, { accessFlags := 26, nameIndex := 365, descriptorIndex := 339, attributes := #[] }, { accessFlags := 26, nameIndex := 172, descriptorIndex := 173, attributes := #[] }, { accessFlags := 26, nameIndex := 176, descriptorIndex := 173, attributes := #[] }, { accessFlags := 8, nameIndex := 344, descriptorIndex := 339, attributes := #[] }, { accessFlags := 8, nameIndex := 338, descriptorIndex := 339, attributes := #[] }, { accessFlags := 4120, nameIndex := 245, descriptorIndex := 246, attributes := #[] }])
  fields := #[{ name := "E", type := .double, accessFlags := 25, slot := 0, constantValue := 0 }, { name := "PI", type := .double, accessFlags := 25, slot := 1, constantValue := 0 }, { name := "TAU", type := .double, accessFlags := 25, slot := 2, constantValue := 0 }, { name := "DEGREES_TO_RADIANS", type := .double, accessFlags := 26, slot := 3, constantValue := 0 }, { name := "RADIANS_TO_DEGREES", type := .double, accessFlags := 26, slot := 4, constantValue := 0 }, { name := "negativeZeroFloatBits", type := .long, accessFlags := 26, slot := 5, constantValue := 0 }, { name := "negativeZeroDoubleBits", type := .long, accessFlags := 26, slot := 6, constantValue := 0 }, { name := "twoToTheDoubleScaleUp", type := .double, accessFlags := 8, slot := 7, constantValue := 0 }, { name := "twoToTheDoubleScaleDown", type := .double, accessFlags := 8, slot := 8, constantValue := 0 }, { name := "$assertionsDisabled", type := .boolean, accessFlags := 4120, slot := 9, constantValue := 0 }]
  methods := #[k20m0, k20m1]
  instanceTypes := #[]
  staticTypes := #[.double, .double, .double, .double, .double, .long, .long, .double, .double, .boolean]
  resolved := Array.replicate 460 none
  statics := none }

def pool21 : Array CpInfo := pool [(1, .class_ 2), (0, u "java/lang/String"), (1, .class_ 6), (1, u "java/lang/Object"), (0, u "<init>"), (0, u "()V"), (0, .methodref 1 10), (0, .nameAndType 11 12), (0, u "checkIndex"), (0, u "(II)V"), (1, .class_ 16), (1, u "java/lang/StringLatin1"), (36, u "([BI)C"), (67, u "$assertionsDisabled"), (0, u "Z"), (98, .class_ 223), (1, u "java/lang/StringLatin1$LinesSpliterator"), (28, u "charAt"), (137, .class_ 391), (0, u "java/lang/StringLatin1$CharsSpliterator")] 3

def k21m0 : Method := { name := "<init>", desc := "()V", sig := { parameters := [], returnType := none }, accessFlags := 0, code := none }
def k21c1 : Code := { maxStack := 2, maxLocals := 2, code := jdk_43_method_2_code, exceptionTable := #[], attributes := #[] }
def k21m1 : Method := { name := "charAt", desc := "([BI)C", sig := { parameters := [(.array .byte), .int], returnType := some .char }, accessFlags := 9, code := some k21c1 }
/-- java/lang/StringLatin1 -/
def k21 : Class := { plain "java/lang/StringLatin1" (some 0) with
  accessFlags := 48
  interfaces := #[]
  cf := some (fileOf pool21 14 #[.nestMembers #[390, 221]] #[{ accessFlags := 0, nameIndex := 7, descriptorIndex := 8, attributes := #[] }, { accessFlags := 9, nameIndex := 252, descriptorIndex := 53, attributes := #[] }] 48 4 #[] #[{ accessFlags := 4120, nameIndex := 121, descriptorIndex := 122, attributes := #[] }])
  fields := #[{ name := "$assertionsDisabled", type := .boolean, accessFlags := 4120, slot := 0, constantValue := 0 }]
  methods := #[k21m0, k21m1]
  instanceTypes := #[]
  staticTypes := #[.boolean]
  resolved := Array.replicate 395 none
  statics := none }

def pool22 : Array CpInfo := pool [(2, .class_ 4), (1, u "java/lang/Object"), (0, u "<init>"), (0, u "()V"), (17, .class_ 26), (1, u "jdk/internal/util/Preconditions"), (6, u "checkIndex"), (21, .class_ 56), (0, u "jdk/internal/util/Preconditions$4"), (57, .class_ 115), (0, u "jdk/internal/util/Preconditions$1"), (7, u "SIOOBE_FORMATTER"), (0, u "Ljava/util/function/BiFunction;"), (0, .class_ 126), (0, u "jdk/internal/util/Preconditions$2"), (3, u "AIOOBE_FORMATTER"), (0, .class_ 132), (0, u "jdk/internal/util/Preconditions$3"), (3, u "IOOBE_FORMATTER"), (41, u "(IILjava/util/function/BiFunction;)I")] 15

def k22m0 : Method := { name := "<init>", desc := "()V", sig := { parameters := [], returnType := none }, accessFlags := 1, code := none }
def k22c1 : Code := { maxStack := 3, maxLocals := 3, code := jdk_41_method_11_code, exceptionTable := #[], attributes := #[] }
def k22m1 : Method := { name := "checkIndex", desc := "(IILjava/util/function/BiFunction;)I", sig := { parameters := [.int, .int, (.object "java/util/function/BiFunction")], returnType := some .int }, accessFlags := 9, code := some k22c1 }
/-- jdk/internal/util/Preconditions -/
def k22 : Class := { plain "jdk/internal/util/Preconditions" (some 0) with
  accessFlags := 33
  interfaces := #[]
  cf := some (fileOf pool22 24 #[.nestMembers #[55, 131, 125, 114]] #[{ accessFlags := 1, nameIndex := 5, descriptorIndex := 6, attributes := #[] }, { accessFlags := 9, nameIndex := 33, descriptorIndex := 178, attributes := #[] }] 33 2 #[] #[{ accessFlags := 25, nameIndex := 123, descriptorIndex := 124, attributes := #[] }, { accessFlags := 25, nameIndex := 130, descriptorIndex := 124, attributes := #[] }, { accessFlags := 25, nameIndex := 136, descriptorIndex := 124, attributes := #[] }])
  fields := #[{ name := "SIOOBE_FORMATTER", type := (.object "java/util/function/BiFunction"), accessFlags := 25, slot := 0, constantValue := 0 }, { name := "AIOOBE_FORMATTER", type := (.object "java/util/function/BiFunction"), accessFlags := 25, slot := 1, constantValue := 0 }, { name := "IOOBE_FORMATTER", type := (.object "java/util/function/BiFunction"), accessFlags := 25, slot := 2, constantValue := 0 }]
  methods := #[k22m0, k22m1]
  instanceTypes := #[]
  staticTypes := #[(.object "java/util/function/BiFunction"), (.object "java/util/function/BiFunction"), (.object "java/util/function/BiFunction")]
  resolved := Array.replicate 194 none
  statics := some 2 }

def pool23 : Array CpInfo := pool [(6, .class_ 8), (1, u "java/lang/Object"), (0, u "<init>"), (0, u "()V"), (1, .class_ 14), (1, u "java/lang/StringUTF16"), (31, u "$assertionsDisabled"), (0, u "Z"), (13, u "HI_BYTE_SHIFT"), (0, u "I"), (2, u "LO_BYTE_SHIFT"), (49, .methodref 12 116), (0, .nameAndType 117 118), (0, u "compress"), (0, u "([CI[BII)I"), (3, u "([CII)[B"), (138, u "coderFromArrayLen"), (0, u "([BI)B"), (106, .class_ 371), (1, u "java/lang/StringUTF16$LinesSpliterator"), (58, u "MAX_LENGTH"), (196, .class_ 628), (0, u "java/lang/StringUTF16$CodePointsSpliterator"), (0, .class_ 630), (0, u "java/lang/StringUTF16$CharsSpliterator")] 4

def k23m0 : Method := { name := "<init>", desc := "()V", sig := { parameters := [], returnType := none }, accessFlags := 0, code := none }
def k23c1 : Code := { maxStack := 2, maxLocals := 2, code := jdk_52_method_15_code, exceptionTable := #[], attributes := #[] }
def k23m1 : Method := { name := "coderFromArrayLen", desc := "([BI)B", sig := { parameters := [(.array .byte), .int], returnType := some .byte }, accessFlags := 8, code := some k23c1 }
def k23c2 : Code := { maxStack := 5, maxLocals := 6, code := jdk_52_method_16_code, exceptionTable := #[], attributes := #[] }
def k23m2 : Method := { name := "compress", desc := "([CII)[B", sig := { parameters := [(.array .char), .int, .int], returnType := some (.array .byte) }, accessFlags := 9, code := some k23c2 }
def k23c3 : Code := { maxStack := 3, maxLocals := 7, code := jdk_52_method_21_code, exceptionTable := #[], attributes := #[] }
def k23m3 : Method := { name := "compress", desc := "([CI[BII)I", sig := { parameters := [(.array .char), .int, (.array .byte), .int, .int], returnType := some .int }, accessFlags := 9, code := some k23c3 }
/-- java/lang/StringUTF16 -/
def k23 : Class := { plain "java/lang/StringUTF16" (some 0) with
  accessFlags := 48
  interfaces := #[]
  cf := some (fileOf pool23 12 #[.nestMembers #[627, 629, 369]] #[{ accessFlags := 0, nameIndex := 9, descriptorIndex := 10, attributes := #[] }, { accessFlags := 8, nameIndex := 261, descriptorIndex := 262, attributes := #[] }, { accessFlags := 9, nameIndex := 117, descriptorIndex := 122, attributes := #[] }, { accessFlags := 9, nameIndex := 117, descriptorIndex := 118, attributes := #[] }] 48 6 #[] #[{ accessFlags := 26, nameIndex := 61, descriptorIndex := 62, attributes := #[] }, { accessFlags := 26, nameIndex := 65, descriptorIndex := 62, attributes := #[] }, { accessFlags := 24, nameIndex := 430, descriptorIndex := 62, attributes := #[] }, { accessFlags := 4120, nameIndex := 46, descriptorIndex := 47, attributes := #[] }])
  fields := #[{ name := "HI_BYTE_SHIFT", type := .int, accessFlags := 26, slot := 0, constantValue := 0 }, { name := "LO_BYTE_SHIFT", type := .int, accessFlags := 26, slot := 1, constantValue := 0 }, { name := "MAX_LENGTH", type := .int, accessFlags := 24, slot := 2, constantValue := 0 }, { name := "$assertionsDisabled", type := .boolean, accessFlags := 4120, slot := 3, constantValue := 0 }]
  methods := #[k23m0, k23m1, k23m2, k23m3]
  instanceTypes := #[]
  staticTypes := #[.int, .int, .int, .boolean]
  resolved := Array.replicate 635 none
  statics := none }

def pool24 : Array CpInfo := pool [(9, u "<init>"), (6, .class_ 18), (1, u "java/lang/Object"), (0, u "()V"), (1, .class_ 23), (1, u "jdk/internal/util/ArraysSupport"), (0, u "LOG2_ARRAY_LONG_INDEX_SCALE"), (0, u "I"), (2, u "U"), (0, u "Ljdk/internal/misc/Unsafe;"), (8, u "BIG_ENDIAN"), (0, u "Z"), (8, u "LOG2_BYTE_BIT_SIZE"), (4, u "LOG2_ARRAY_INT_INDEX_SCALE"), (54, u "JLA"), (0, u "Ljdk/internal/access/JavaLangAccess;"), (11, u "LOG2_ARRAY_BOOLEAN_INDEX_SCALE"), (9, u "LOG2_ARRAY_BYTE_INDEX_SCALE"), (5, u "LOG2_ARRAY_CHAR_INDEX_SCALE"), (5, u "LOG2_ARRAY_SHORT_INDEX_SCALE"), (18, u "LOG2_ARRAY_FLOAT_INDEX_SCALE"), (24, u "LOG2_ARRAY_DOUBLE_INDEX_SCALE"), (89, u "T_BOOLEAN"), (2, u "T_CHAR"), (1, u "T_FLOAT"), (1, u "T_DOUBLE"), (1, u "T_BYTE"), (1, u "T_SHORT"), (1, u "T_INT"), (1, u "T_LONG"), (1, u "SOFT_MAX_ARRAY_LENGTH")] 83

def k24m0 : Method := { name := "<init>", desc := "()V", sig := { parameters := [], returnType := none }, accessFlags := 2, code := none }
/-- jdk/internal/util/ArraysSupport -/
def k24 : Class := { plain "jdk/internal/util/ArraysSupport" (some 0) with
  accessFlags := 33
  interfaces := #[]
  cf := some (fileOf pool24 21 #[] #[{ accessFlags := 2, nameIndex := 9, descriptorIndex := 19, attributes := #[] }] 33 16 #[] #[{ accessFlags := 24, nameIndex := 28, descriptorIndex := 29, attributes := #[] }, { accessFlags := 26, nameIndex := 38, descriptorIndex := 39, attributes := #[] }, { accessFlags := 25, nameIndex := 121, descriptorIndex := 25, attributes := #[] }, { accessFlags := 25, nameIndex := 131, descriptorIndex := 25, attributes := #[] }, { accessFlags := 25, nameIndex := 137, descriptorIndex := 25, attributes := #[] }, { accessFlags := 25, nameIndex := 143, descriptorIndex := 25, attributes := #[] }, { accessFlags := 25, nameIndex := 53, descriptorIndex := 25, attributes := #[] }, { accessFlags := 25, nameIndex := 24, descriptorIndex := 25, attributes := #[] }, { accessFlags := 25, nameIndex := 162, descriptorIndex := 25, attributes := #[] }, { accessFlags := 25, nameIndex := 187, descriptorIndex := 25, attributes := #[] }, { accessFlags := 26, nameIndex := 48, descriptorIndex := 25, attributes := #[] }, { accessFlags := 25, nameIndex := 277, descriptorIndex := 25, attributes := #[] }, { accessFlags := 25, nameIndex := 280, descriptorIndex := 25, attributes := #[] }, { accessFlags := 25, nameIndex := 282, descriptorIndex := 25, attributes := #[] }, { accessFlags := 25, nameIndex := 284, descriptorIndex := 25, attributes := #[] }, { accessFlags := 25, nameIndex := 286, descriptorIndex := 25, attributes := #[] }, { accessFlags := 25, nameIndex := 288, descriptorIndex := 25, attributes := #[] }, { accessFlags := 25, nameIndex := 290, descriptorIndex := 25, attributes := #[] }, { accessFlags := 25, nameIndex := 292, descriptorIndex := 25, attributes := #[] }, { accessFlags := 26, nameIndex := 108, descriptorIndex := 109, attributes := #[] }, { accessFlags := 25, nameIndex := 294, descriptorIndex := 25, attributes := #[] }])
  fields := #[{ name := "U", type := (.object "jdk/internal/misc/Unsafe"), accessFlags := 24, slot := 0, constantValue := 0 }, { name := "BIG_ENDIAN", type := .boolean, accessFlags := 26, slot := 1, constantValue := 0 }, { name := "LOG2_ARRAY_BOOLEAN_INDEX_SCALE", type := .int, accessFlags := 25, slot := 2, constantValue := 0 }, { name := "LOG2_ARRAY_BYTE_INDEX_SCALE", type := .int, accessFlags := 25, slot := 3, constantValue := 0 }, { name := "LOG2_ARRAY_CHAR_INDEX_SCALE", type := .int, accessFlags := 25, slot := 4, constantValue := 0 }, { name := "LOG2_ARRAY_SHORT_INDEX_SCALE", type := .int, accessFlags := 25, slot := 5, constantValue := 0 }, { name := "LOG2_ARRAY_INT_INDEX_SCALE", type := .int, accessFlags := 25, slot := 6, constantValue := 0 }, { name := "LOG2_ARRAY_LONG_INDEX_SCALE", type := .int, accessFlags := 25, slot := 7, constantValue := 0 }, { name := "LOG2_ARRAY_FLOAT_INDEX_SCALE", type := .int, accessFlags := 25, slot := 8, constantValue := 0 }, { name := "LOG2_ARRAY_DOUBLE_INDEX_SCALE", type := .int, accessFlags := 25, slot := 9, constantValue := 0 }, { name := "LOG2_BYTE_BIT_SIZE", type := .int, accessFlags := 26, slot := 10, constantValue := 0 }, { name := "T_BOOLEAN", type := .int, accessFlags := 25, slot := 11, constantValue := 0 }, { name := "T_CHAR", type := .int, accessFlags := 25, slot := 12, constantValue := 0 }, { name := "T_FLOAT", type := .int, accessFlags := 25, slot := 13, constantValue := 0 }, { name := "T_DOUBLE", type := .int, accessFlags := 25, slot := 14, constantValue := 0 }, { name := "T_BYTE", type := .int, accessFlags := 25, slot := 15, constantValue := 0 }, { name := "T_SHORT", type := .int, accessFlags := 25, slot := 16, constantValue := 0 }, { name := "T_INT", type := .int, accessFlags := 25, slot := 17, constantValue := 0 }, { name := "T_LONG", type := .int, accessFlags := 25, slot := 18, constantValue := 0 }, { name := "JLA", type := (.object "jdk/internal/access/JavaLangAccess"), accessFlags := 26, slot := 19, constantValue := 0 }, { name := "SOFT_MAX_ARRAY_LENGTH", type := .int, accessFlags := 25, slot := 20, constantValue := 0 }]
  methods := #[k24m0]
  instanceTypes := #[]
  staticTypes := #[(.object "jdk/internal/misc/Unsafe"), .boolean, .int, .int, .int, .int, .int, .int, .int, .int, .int, .int, .int, .int, .int, .int, .int, .int, .int, (.object "jdk/internal/access/JavaLangAccess"), .int]
  resolved := Array.replicate 378 none
  statics := none }

def pool25 : Array CpInfo := pool [(1, u "java/lang/Cloneable"), (0, .class_ 1), (0, u "java/lang/Object"), (0, .class_ 3)] 3

/-- java/lang/Cloneable -/
def k25 : Class := { plain "java/lang/Cloneable" (some 0) with
  accessFlags := 1537
  interfaces := #[]
  cf := some (fileOf pool25 2 #[] #[] 1537 4 #[] #[])
  fields := #[]
  methods := #[]
  instanceTypes := #[]
  staticTypes := #[]
  resolved := Array.replicate 8 none
  statics := none }

/-- the primitive byte -/
def k26 : Class := { plain "byte" none with kind := .primitive 'B', accessFlags := 0x411 }
/-- [B -/
def k27 : Class := { plain "[B" (some 0) with kind := .array 26 .byte, interfaces := #[25, 2], accessFlags := 1041 }

/-- the primitive char -/
def k28 : Class := { plain "char" none with kind := .primitive 'C', accessFlags := 0x411 }
/-- [C -/
def k29 : Class := { plain "[C" (some 0) with kind := .array 28 .char, interfaces := #[25, 2], accessFlags := 1041 }

/-- the primitive int -/
def k30 : Class := { plain "int" none with kind := .primitive 'I', accessFlags := 0x411 }
/-- [I -/
def k31 : Class := { plain "[I" (some 0) with kind := .array 30 .int, interfaces := #[25, 2], accessFlags := 1041 }

/-- [Ljava/lang/Object; -/
def k32 : Class := { plain "[Ljava/lang/Object;" (some 0) with kind := .array 0 (.object "java/lang/Object"), interfaces := #[25, 2], accessFlags := 1041 }

def heap : Heap := #[{ cls := 7, slots := #[.long 0, .int 1, .null, .int 0, .null, .int 0, .int 0], vm := .statics 7 },
  { cls := 11, slots := #[.long 0, .int 0, .null, .null, .null, .null, .null, .ref 4, .int 0, .int 0], vm := .statics 11 },
  { cls := 22, slots := #[.null, .null, .null], vm := .statics 22 },
  { cls := 32, slots := #[], vm := .none },
  { cls := 14, slots := #[.null, .null, .ref 3, .int 0], vm := .none }]
def classes : Array Class := #[k0, k1, k2, k3, k4, k5, k6, k7, k8, k9, k10, k11, k12, k13, k14, k15, k16, k17, k18, k19, k20, k21, k22, k23, k24, k25, k26, k27, k28, k29, k30, k31, k32]
def interned : List (Array UInt16 × Addr) := []
def slotsUsed : Nat := 24
def theMethod : MethodId := ⟨1, 2⟩
def args0 : Array Value := #[.int 5, .int 6]
def aboutOver (below : List Frame) : State where
  vm := { classes := classes, interned := interned.toArray }
  heap := heap
  slotsUsed := slotsUsed
  threads := #[{ frames := .invoking theMethod args0 :: below }]
def below0 : List Frame := [.native { method := ⟨0, 0⟩, args := #[] }]
def about1 : State := aboutOver below0
def p0 : Program := .bare "" "" ""
def e0 : Env := launch0.env 0 0 0
theorem w_frames : about1.frames = Frame.invoking theMethod args0 :: below0 := rfl
set_option maxRecDepth 65536 in
theorem w_args : argsFit about1.vm theMethod args0 = true := by decide +kernel
set_option maxRecDepth 65536 in
theorem w_heap : heapFits about1 = true := by decide +kernel
set_option maxRecDepth 65536 in
theorem w_runnable : about1.curStatus? = some .runnable := by decide +kernel
set_option maxRecDepth 65536 in
theorem w_alone : about1.alone = true := by decide +kernel
set_option maxRecDepth 65536 in
theorem w_named : about1.methodNamed? x = some theMethod := by decide +kernel
set_option maxRecDepth 65536 in
theorem w_hears : about1.hears theMethod below0 = true := by decide +kernel
set_option maxRecDepth 65536 in
theorem w_ripe : about1.ripe theMethod args0 below0 = true := by decide +kernel
theorem w_running : about1.status = .running := rfl
set_option maxRecDepth 65536 in
theorem w_room : about1.hasRoom e0.platform room_1 = true :=
  launch0.hasRoom_least _ room_1 (by decide +kernel) (by decide +kernel) (by decide +kernel) (by decide +kernel) (by decide +kernel) (by decide +kernel)
theorem allAtoms_all (ts : List Jvm.Cond) (a : Array Jvm.Value) (st : Jvm.State) : (allAtoms ts).before a st = ts.all (fun c => c.before a st) := by
  induction ts with
  | nil => rfl
  | cons c t ih =>
    show (Jvm.Cond.and c (allAtoms t)).before a st = _
    rw [Jvm.Cond.before_and, ih, List.all_cons]
def words1 : List Jvm.Cond := Jvm.Cond.code x code maxLocals ret :: tables_1
/-- a 'code' word, met by the world's own term for the bytes: nothing is compared byte by byte -/
theorem code_word {y : MethodName} {bytes : ByteArray} {mx : Nat} {rt : Option FieldType} {a : Array Value} {s : State} {m : MethodId} {meth : Method} {c : Code} (h1 : s.methodNamed? y = some m) (h2 : s.vm.method? m = some meth) (h3 : meth.code = some c) (h4 : c.code = bytes)
    (h5 : (c.maxLocals == mx && c.exceptionTable.isEmpty && decide (c.maxStack ≤ mostOperands) && decide (meth.sig.returnType = rt) && !meth.locks && decide (parseMethodDescriptor y.desc = some meth.sig)) = true) : (Jvm.Cond.code y bytes mx rt).before a s = true := by
  simp only [Bool.and_eq_true, beq_iff_eq, Bool.not_eq_true', decide_eq_true_eq] at h5
  obtain ⟨⟨⟨⟨⟨g1, g2⟩, g3⟩, g4⟩, g5⟩, g6⟩ := h5
  simp [Cond.before, Cond.holds, Cond.value, h1, h2, h3, h4, g1, g2, g3, g4, g5, g6]
def isCode : Jvm.Cond → Bool
  | .code _ _ _ _ => true
  | _ => false
theorem all_split {L : List Jvm.Cond} {P : Jvm.Cond → Bool} (h1 : L.all (fun c => isCode c || P c) = true) (h2 : ∀ c ∈ L.filter isCode, P c = true) : L.all P = true := by
  refine List.all_eq_true.mpr fun c hc => ?_
  have h := List.all_eq_true.mp h1 c hc
  rcases Bool.eq_false_or_eq_true (isCode c) with hi | hi
  · exact h2 c (List.mem_filter.mpr ⟨hc, hi⟩)
  · simpa [hi] using h
set_option maxRecDepth 65536 in
theorem w_c0 : (Jvm.Cond.code x code maxLocals ret).before args0 about1 = true := code_word (m := ⟨1, 2⟩) (meth := k1m2) (c := k1c2) (by decide +kernel) rfl rfl rfl (by decide +kernel)
set_option maxRecDepth 65536 in
theorem w_c1 : (Jvm.Cond.code ({ cls := "com/example/certain_answers/certainanswers/server/MediaTypeEssencePinLaw", name := "str", desc := "(I)Ljava/lang/String;" } : Jvm.MethodName) method_2_code (4 : Nat) (Option.some (Jvm.ClassFile.FieldType.object "java/lang/String"))).before args0 about1 = true := code_word (m := ⟨1, 1⟩) (meth := k1m1) (c := k1c1) (by decide +kernel) rfl rfl rfl (by decide +kernel)
set_option maxRecDepth 65536 in
theorem w_c2 : (Jvm.Cond.code ({ cls := "java/lang/String", name := "<init>", desc := "([C)V" } : Jvm.MethodName) jdk_42_method_3_code (2 : Nat) (Option.none : Option Jvm.ClassFile.FieldType)).before args0 about1 = true := code_word (m := ⟨7, 1⟩) (meth := k7m1) (c := k7c1) (by decide +kernel) rfl rfl rfl (by decide +kernel)
set_option maxRecDepth 65536 in
theorem w_c3 : (Jvm.Cond.code ({ cls := "java/lang/String", name := "<init>", desc := "([CIILjava/lang/Void;)V" } : Jvm.MethodName) jdk_42_method_149_code (6 : Nat) (Option.none : Option Jvm.ClassFile.FieldType)).before args0 about1 = true := code_word (m := ⟨7, 6⟩) (meth := k7m6) (c := k7c6) (by decide +kernel) rfl rfl rfl (by decide +kernel)
set_option maxRecDepth 65536 in
theorem w_c4 : (Jvm.Cond.code ({ cls := "java/lang/Object", name := "<init>", desc := "()V" } : Jvm.MethodName) object_method_1_code (1 : Nat) (Option.none : Option Jvm.ClassFile.FieldType)).before args0 about1 = true := code_word (m := ⟨0, 0⟩) (meth := k0m0) (c := k0c0) (by decide +kernel) rfl rfl rfl (by decide +kernel)
set_option maxRecDepth 65536 in
theorem w_c5 : (Jvm.Cond.code ({ cls := "java/util/Map", name := "of", desc := "()Ljava/util/Map;" } : Jvm.MethodName) jdk_72_method_26_code (0 : Nat) (Option.some (Jvm.ClassFile.FieldType.object "java/util/Map"))).before args0 about1 = true := code_word (m := ⟨10, 0⟩) (meth := k10m0) (c := k10c0) (by decide +kernel) rfl rfl rfl (by decide +kernel)
set_option maxRecDepth 65536 in
theorem w_c6 : (Jvm.Cond.code ({ cls := "com/example/certain_answers/certainanswers/server/MediaType", name := "<init>", desc := "(Ljava/lang/String;Ljava/lang/String;Ljava/util/Map;)V" } : Jvm.MethodName) prog_8_method_1_code (4 : Nat) (Option.none : Option Jvm.ClassFile.FieldType)).before args0 about1 = true := code_word (m := ⟨9, 0⟩) (meth := k9m0) (c := k9c0) (by decide +kernel) rfl rfl rfl (by decide +kernel)
set_option maxRecDepth 65536 in
theorem w_c7 : (Jvm.Cond.code ({ cls := "java/lang/Record", name := "<init>", desc := "()V" } : Jvm.MethodName) jdk_30_method_1_code (1 : Nat) (Option.none : Option Jvm.ClassFile.FieldType)).before args0 about1 = true := code_word (m := ⟨8, 0⟩) (meth := k8m0) (c := k8c0) (by decide +kernel) rfl rfl rfl (by decide +kernel)
set_option maxRecDepth 65536 in
theorem w_c8 : (Jvm.Cond.code ({ cls := "java/util/Map", name := "copyOf", desc := "(Ljava/util/Map;)Ljava/util/Map;" } : Jvm.MethodName) jdk_72_method_39_code (1 : Nat) (Option.some (Jvm.ClassFile.FieldType.object "java/util/Map"))).before args0 about1 = true := code_word (m := ⟨10, 1⟩) (meth := k10m1) (c := k10c1) (by decide +kernel) rfl rfl rfl (by decide +kernel)
set_option maxRecDepth 65536 in
theorem w_c9 : (Jvm.Cond.code ({ cls := "com/example/certain_answers/certainanswers/server/MediaType", name := "essence", desc := "()Ljava/lang/String;" } : Jvm.MethodName) prog_8_method_3_code (1 : Nat) (Option.some (Jvm.ClassFile.FieldType.object "java/lang/String"))).before args0 about1 = true := code_word (m := ⟨9, 1⟩) (meth := k9m1) (c := k9c1) (by decide +kernel) rfl rfl rfl (by decide +kernel)
set_option maxRecDepth 65536 in
theorem w_c10 : (Jvm.Cond.code ({ cls := "java/lang/StringBuilder", name := "<init>", desc := "()V" } : Jvm.MethodName) jdk_67_method_1_code (1 : Nat) (Option.none : Option Jvm.ClassFile.FieldType)).before args0 about1 = true := code_word (m := ⟨17, 0⟩) (meth := k17m0) (c := k17c0) (by decide +kernel) rfl rfl rfl (by decide +kernel)
set_option maxRecDepth 65536 in
theorem w_c11 : (Jvm.Cond.code ({ cls := "java/lang/AbstractStringBuilder", name := "<init>", desc := "(I)V" } : Jvm.MethodName) jdk_68_method_2_code (2 : Nat) (Option.none : Option Jvm.ClassFile.FieldType)).before args0 about1 = true := code_word (m := ⟨16, 1⟩) (meth := k16m1) (c := k16c1) (by decide +kernel) rfl rfl rfl (by decide +kernel)
set_option maxRecDepth 65536 in
theorem w_c12 : (Jvm.Cond.code ({ cls := "java/lang/StringBuilder", name := "append", desc := "(Ljava/lang/String;)Ljava/lang/StringBuilder;" } : Jvm.MethodName) jdk_67_method_7_code (2 : Nat) (Option.some (Jvm.ClassFile.FieldType.object "java/lang/StringBuilder"))).before args0 about1 = true := code_word (m := ⟨17, 1⟩) (meth := k17m1) (c := k17c1) (by decide +kernel) rfl rfl rfl (by decide +kernel)
set_option maxRecDepth 65536 in
theorem w_c13 : (Jvm.Cond.code ({ cls := "java/lang/AbstractStringBuilder", name := "append", desc := "(Ljava/lang/String;)Ljava/lang/AbstractStringBuilder;" } : Jvm.MethodName) jdk_68_method_22_code (3 : Nat) (Option.some (Jvm.ClassFile.FieldType.object "java/lang/AbstractStringBuilder"))).before args0 about1 = true := code_word (m := ⟨16, 4⟩) (meth := k16m4) (c := k16c4) (by decide +kernel) rfl rfl rfl (by decide +kernel)
set_option maxRecDepth 65536 in
theorem w_c14 : (Jvm.Cond.code ({ cls := "java/lang/String", name := "length", desc := "()I" } : Jvm.MethodName) jdk_42_method_54_code (1 : Nat) (Option.some Jvm.ClassFile.FieldType.int)).before args0 about1 = true := code_word (m := ⟨7, 3⟩) (meth := k7m3) (c := k7c3) (by decide +kernel) rfl rfl rfl (by decide +kernel)
set_option maxRecDepth 65536 in
theorem w_c15 : (Jvm.Cond.code ({ cls := "java/lang/String", name := "coder", desc := "()B" } : Jvm.MethodName) jdk_42_method_152_code (1 : Nat) (Option.some Jvm.ClassFile.FieldType.byte)).before args0 about1 = true := code_word (m := ⟨7, 8⟩) (meth := k7m8) (c := k7c8) (by decide +kernel) rfl rfl rfl (by decide +kernel)
set_option maxRecDepth 65536 in
theorem w_c16 : (Jvm.Cond.code ({ cls := "java/lang/AbstractStringBuilder", name := "ensureCapacityInternal", desc := "(I)V" } : Jvm.MethodName) jdk_68_method_9_code (3 : Nat) (Option.none : Option Jvm.ClassFile.FieldType)).before args0 about1 = true := code_word (m := ⟨16, 3⟩) (meth := k16m3) (c := k16c3) (by decide +kernel) rfl rfl rfl (by decide +kernel)
set_option maxRecDepth 65536 in
theorem w_c17 : (Jvm.Cond.code ({ cls := "java/lang/AbstractStringBuilder", name := "putStringAt", desc := "(ILjava/lang/String;)V" } : Jvm.MethodName) jdk_68_method_73_code (3 : Nat) (Option.none : Option Jvm.ClassFile.FieldType)).before args0 about1 = true := code_word (m := ⟨16, 8⟩) (meth := k16m8) (c := k16c8) (by decide +kernel) rfl rfl rfl (by decide +kernel)
set_option maxRecDepth 65536 in
theorem w_c18 : (Jvm.Cond.code ({ cls := "java/lang/AbstractStringBuilder", name := "inflateIfNeededFor", desc := "(Ljava/lang/String;)V" } : Jvm.MethodName) jdk_68_method_71_code (2 : Nat) (Option.none : Option Jvm.ClassFile.FieldType)).before args0 about1 = true := code_word (m := ⟨16, 7⟩) (meth := k16m7) (c := k16c7) (by decide +kernel) rfl rfl rfl (by decide +kernel)
set_option maxRecDepth 65536 in
theorem w_c19 : (Jvm.Cond.code ({ cls := "java/lang/String", name := "getBytes", desc := "([BIB)V" } : Jvm.MethodName) jdk_42_method_147_code (4 : Nat) (Option.none : Option Jvm.ClassFile.FieldType)).before args0 about1 = true := code_word (m := ⟨7, 5⟩) (meth := k7m5) (c := k7c5) (by decide +kernel) rfl rfl rfl (by decide +kernel)
set_option maxRecDepth 65536 in
theorem w_c20 : (Jvm.Cond.code ({ cls := "java/lang/StringBuilder", name := "toString", desc := "()Ljava/lang/String;" } : Jvm.MethodName) jdk_67_method_42_code (1 : Nat) (Option.some (Jvm.ClassFile.FieldType.object "java/lang/String"))).before args0 about1 = true := code_word (m := ⟨17, 2⟩) (meth := k17m2) (c := k17c2) (by decide +kernel) rfl rfl rfl (by decide +kernel)
set_option maxRecDepth 65536 in
theorem w_c21 : (Jvm.Cond.code ({ cls := "java/lang/String", name := "<init>", desc := "(Ljava/lang/StringBuilder;)V" } : Jvm.MethodName) jdk_42_method_53_code (2 : Nat) (Option.none : Option Jvm.ClassFile.FieldType)).before args0 about1 = true := code_word (m := ⟨7, 2⟩) (meth := k7m2) (c := k7c2) (by decide +kernel) rfl rfl rfl (by decide +kernel)
set_option maxRecDepth 65536 in
theorem w_c22 : (Jvm.Cond.code ({ cls := "java/lang/String", name := "<init>", desc := "(Ljava/lang/AbstractStringBuilder;Ljava/lang/Void;)V" } : Jvm.MethodName) jdk_42_method_150_code (5 : Nat) (Option.none : Option Jvm.ClassFile.FieldType)).before args0 about1 = true := code_word (m := ⟨7, 7⟩) (meth := k7m7) (c := k7c7) (by decide +kernel) rfl rfl rfl (by decide +kernel)
set_option maxRecDepth 65536 in
theorem w_c23 : (Jvm.Cond.code ({ cls := "java/lang/AbstractStringBuilder", name := "getValue", desc := "()[B" } : Jvm.MethodName) jdk_68_method_64_code (1 : Nat) (Option.some (Jvm.ClassFile.FieldType.array Jvm.ClassFile.FieldType.byte))).before args0 about1 = true := code_word (m := ⟨16, 5⟩) (meth := k16m5) (c := k16c5) (by decide +kernel) rfl rfl rfl (by decide +kernel)
set_option maxRecDepth 65536 in
theorem w_c24 : (Jvm.Cond.code ({ cls := "java/lang/StringBuilder", name := "length", desc := "()I" } : Jvm.MethodName) jdk_67_method_93_code (1 : Nat) (Option.some Jvm.ClassFile.FieldType.int)).before args0 about1 = true := code_word (m := ⟨17, 3⟩) (meth := k17m3) (c := k17c3) (by decide +kernel) rfl rfl rfl (by decide +kernel)
set_option maxRecDepth 65536 in
theorem w_c25 : (Jvm.Cond.code ({ cls := "java/lang/AbstractStringBuilder", name := "length", desc := "()I" } : Jvm.MethodName) jdk_68_method_6_code (1 : Nat) (Option.some Jvm.ClassFile.FieldType.int)).before args0 about1 = true := code_word (m := ⟨16, 2⟩) (meth := k16m2) (c := k16c2) (by decide +kernel) rfl rfl rfl (by decide +kernel)
set_option maxRecDepth 65536 in
theorem w_c26 : (Jvm.Cond.code ({ cls := "java/lang/AbstractStringBuilder", name := "isLatin1", desc := "()Z" } : Jvm.MethodName) jdk_68_method_68_code (1 : Nat) (Option.some Jvm.ClassFile.FieldType.boolean)).before args0 about1 = true := code_word (m := ⟨16, 6⟩) (meth := k16m6) (c := k16c6) (by decide +kernel) rfl rfl rfl (by decide +kernel)
set_option maxRecDepth 65536 in
theorem w_c27 : (Jvm.Cond.code ({ cls := "java/util/Arrays", name := "copyOfRange", desc := "([BII)[B" } : Jvm.MethodName) jdk_65_method_132_code (3 : Nat) (Option.some (Jvm.ClassFile.FieldType.array Jvm.ClassFile.FieldType.byte))).before args0 about1 = true := code_word (m := ⟨19, 2⟩) (meth := k19m2) (c := k19c2) (by decide +kernel) rfl rfl rfl (by decide +kernel)
set_option maxRecDepth 65536 in
theorem w_c28 : (Jvm.Cond.code ({ cls := "java/util/Arrays", name := "copyOfRangeByte", desc := "([BII)[B" } : Jvm.MethodName) jdk_65_method_133_code (5 : Nat) (Option.some (Jvm.ClassFile.FieldType.array Jvm.ClassFile.FieldType.byte))).before args0 about1 = true := code_word (m := ⟨19, 3⟩) (meth := k19m3) (c := k19c3) (by decide +kernel) rfl rfl rfl (by decide +kernel)
set_option maxRecDepth 65536 in
theorem w_c29 : (Jvm.Cond.code ({ cls := "java/util/Arrays", name := "checkLength", desc := "(II)V" } : Jvm.MethodName) jdk_65_method_131_code (2 : Nat) (Option.none : Option Jvm.ClassFile.FieldType)).before args0 about1 = true := code_word (m := ⟨19, 1⟩) (meth := k19m1) (c := k19c1) (by decide +kernel) rfl rfl rfl (by decide +kernel)
set_option maxRecDepth 65536 in
theorem w_c30 : (Jvm.Cond.code ({ cls := "java/lang/Math", name := "min", desc := "(II)I" } : Jvm.MethodName) jdk_29_method_69_code (2 : Nat) (Option.some Jvm.ClassFile.FieldType.int)).before args0 about1 = true := code_word (m := ⟨20, 1⟩) (meth := k20m1) (c := k20c1) (by decide +kernel) rfl rfl rfl (by decide +kernel)
set_option maxRecDepth 65536 in
theorem w_c31 : (Jvm.Cond.code ({ cls := "java/lang/String", name := "charAt", desc := "(I)C" } : Jvm.MethodName) jdk_42_method_56_code (2 : Nat) (Option.some Jvm.ClassFile.FieldType.char)).before args0 about1 = true := code_word (m := ⟨7, 4⟩) (meth := k7m4) (c := k7c4) (by decide +kernel) rfl rfl rfl (by decide +kernel)
set_option maxRecDepth 65536 in
theorem w_c32 : (Jvm.Cond.code ({ cls := "java/lang/String", name := "isLatin1", desc := "()Z" } : Jvm.MethodName) jdk_42_method_154_code (1 : Nat) (Option.some Jvm.ClassFile.FieldType.boolean)).before args0 about1 = true := code_word (m := ⟨7, 9⟩) (meth := k7m9) (c := k7c9) (by decide +kernel) rfl rfl rfl (by decide +kernel)
set_option maxRecDepth 65536 in
theorem w_c33 : (Jvm.Cond.code ({ cls := "java/lang/StringLatin1", name := "charAt", desc := "([BI)C" } : Jvm.MethodName) jdk_43_method_2_code (2 : Nat) (Option.some Jvm.ClassFile.FieldType.char)).before args0 about1 = true := code_word (m := ⟨21, 1⟩) (meth := k21m1) (c := k21c1) (by decide +kernel) rfl rfl rfl (by decide +kernel)
set_option maxRecDepth 65536 in
theorem w_c34 : (Jvm.Cond.code ({ cls := "java/lang/String", name := "checkIndex", desc := "(II)V" } : Jvm.MethodName) jdk_42_method_155_code (2 : Nat) (Option.none : Option Jvm.ClassFile.FieldType)).before args0 about1 = true := code_word (m := ⟨7, 10⟩) (meth := k7m10) (c := k7c10) (by decide +kernel) rfl rfl rfl (by decide +kernel)
set_option maxRecDepth 65536 in
theorem w_c35 : (Jvm.Cond.code ({ cls := "jdk/internal/util/Preconditions", name := "checkIndex", desc := "(IILjava/util/function/BiFunction;)I" } : Jvm.MethodName) jdk_41_method_11_code (3 : Nat) (Option.some Jvm.ClassFile.FieldType.int)).before args0 about1 = true := code_word (m := ⟨22, 1⟩) (meth := k22m1) (c := k22c1) (by decide +kernel) rfl rfl rfl (by decide +kernel)
set_option maxRecDepth 65536 in
theorem w_c36 : (Jvm.Cond.code ({ cls := "java/lang/StringUTF16", name := "compress", desc := "([CII)[B" } : Jvm.MethodName) jdk_52_method_16_code (6 : Nat) (Option.some (Jvm.ClassFile.FieldType.array Jvm.ClassFile.FieldType.byte))).before args0 about1 = true := code_word (m := ⟨23, 2⟩) (meth := k23m2) (c := k23c2) (by decide +kernel) rfl rfl rfl (by decide +kernel)
set_option maxRecDepth 65536 in
theorem w_c37 : (Jvm.Cond.code ({ cls := "java/lang/StringUTF16", name := "compress", desc := "([CI[BII)I" } : Jvm.MethodName) jdk_52_method_21_code (7 : Nat) (Option.some Jvm.ClassFile.FieldType.int)).before args0 about1 = true := code_word (m := ⟨23, 3⟩) (meth := k23m3) (c := k23c3) (by decide +kernel) rfl rfl rfl (by decide +kernel)
set_option maxRecDepth 65536 in
theorem w_c38 : (Jvm.Cond.code ({ cls := "java/lang/StringUTF16", name := "coderFromArrayLen", desc := "([BI)B" } : Jvm.MethodName) jdk_52_method_15_code (2 : Nat) (Option.some Jvm.ClassFile.FieldType.byte)).before args0 about1 = true := code_word (m := ⟨23, 1⟩) (meth := k23m1) (c := k23c1) (by decide +kernel) rfl rfl rfl (by decide +kernel)
def codes1 : List Jvm.Cond := [Jvm.Cond.code x code maxLocals ret, Jvm.Cond.code ({ cls := "com/example/certain_answers/certainanswers/server/MediaTypeEssencePinLaw", name := "str", desc := "(I)Ljava/lang/String;" } : Jvm.MethodName) method_2_code (4 : Nat) (Option.some (Jvm.ClassFile.FieldType.object "java/lang/String")), Jvm.Cond.code ({ cls := "java/lang/String", name := "<init>", desc := "([C)V" } : Jvm.MethodName) jdk_42_method_3_code (2 : Nat) (Option.none : Option Jvm.ClassFile.FieldType), Jvm.Cond.code ({ cls := "java/lang/String", name := "<init>", desc := "([CIILjava/lang/Void;)V" } : Jvm.MethodName) jdk_42_method_149_code (6 : Nat) (Option.none : Option Jvm.ClassFile.FieldType), Jvm.Cond.code ({ cls := "java/lang/Object", name := "<init>", desc := "()V" } : Jvm.MethodName) object_method_1_code (1 : Nat) (Option.none : Option Jvm.ClassFile.FieldType), Jvm.Cond.code ({ cls := "java/util/Map", name := "of", desc := "()Ljava/util/Map;" } : Jvm.MethodName) jdk_72_method_26_code (0 : Nat) (Option.some (Jvm.ClassFile.FieldType.object "java/util/Map")), Jvm.Cond.code ({ cls := "com/example/certain_answers/certainanswers/server/MediaType", name := "<init>", desc := "(Ljava/lang/String;Ljava/lang/String;Ljava/util/Map;)V" } : Jvm.MethodName) prog_8_method_1_code (4 : Nat) (Option.none : Option Jvm.ClassFile.FieldType), Jvm.Cond.code ({ cls := "java/lang/Record", name := "<init>", desc := "()V" } : Jvm.MethodName) jdk_30_method_1_code (1 : Nat) (Option.none : Option Jvm.ClassFile.FieldType), Jvm.Cond.code ({ cls := "java/util/Map", name := "copyOf", desc := "(Ljava/util/Map;)Ljava/util/Map;" } : Jvm.MethodName) jdk_72_method_39_code (1 : Nat) (Option.some (Jvm.ClassFile.FieldType.object "java/util/Map")), Jvm.Cond.code ({ cls := "com/example/certain_answers/certainanswers/server/MediaType", name := "essence", desc := "()Ljava/lang/String;" } : Jvm.MethodName) prog_8_method_3_code (1 : Nat) (Option.some (Jvm.ClassFile.FieldType.object "java/lang/String")), Jvm.Cond.code ({ cls := "java/lang/StringBuilder", name := "<init>", desc := "()V" } : Jvm.MethodName) jdk_67_method_1_code (1 : Nat) (Option.none : Option Jvm.ClassFile.FieldType), Jvm.Cond.code ({ cls := "java/lang/AbstractStringBuilder", name := "<init>", desc := "(I)V" } : Jvm.MethodName) jdk_68_method_2_code (2 : Nat) (Option.none : Option Jvm.ClassFile.FieldType), Jvm.Cond.code ({ cls := "java/lang/StringBuilder", name := "append", desc := "(Ljava/lang/String;)Ljava/lang/StringBuilder;" } : Jvm.MethodName) jdk_67_method_7_code (2 : Nat) (Option.some (Jvm.ClassFile.FieldType.object "java/lang/StringBuilder")), Jvm.Cond.code ({ cls := "java/lang/AbstractStringBuilder", name := "append", desc := "(Ljava/lang/String;)Ljava/lang/AbstractStringBuilder;" } : Jvm.MethodName) jdk_68_method_22_code (3 : Nat) (Option.some (Jvm.ClassFile.FieldType.object "java/lang/AbstractStringBuilder")), Jvm.Cond.code ({ cls := "java/lang/String", name := "length", desc := "()I" } : Jvm.MethodName) jdk_42_method_54_code (1 : Nat) (Option.some Jvm.ClassFile.FieldType.int), Jvm.Cond.code ({ cls := "java/lang/String", name := "coder", desc := "()B" } : Jvm.MethodName) jdk_42_method_152_code (1 : Nat) (Option.some Jvm.ClassFile.FieldType.byte), Jvm.Cond.code ({ cls := "java/lang/AbstractStringBuilder", name := "ensureCapacityInternal", desc := "(I)V" } : Jvm.MethodName) jdk_68_method_9_code (3 : Nat) (Option.none : Option Jvm.ClassFile.FieldType), Jvm.Cond.code ({ cls := "java/lang/AbstractStringBuilder", name := "putStringAt", desc := "(ILjava/lang/String;)V" } : Jvm.MethodName) jdk_68_method_73_code (3 : Nat) (Option.none : Option Jvm.ClassFile.FieldType), Jvm.Cond.code ({ cls := "java/lang/AbstractStringBuilder", name := "inflateIfNeededFor", desc := "(Ljava/lang/String;)V" } : Jvm.MethodName) jdk_68_method_71_code (2 : Nat) (Option.none : Option Jvm.ClassFile.FieldType), Jvm.Cond.code ({ cls := "java/lang/String", name := "getBytes", desc := "([BIB)V" } : Jvm.MethodName) jdk_42_method_147_code (4 : Nat) (Option.none : Option Jvm.ClassFile.FieldType), Jvm.Cond.code ({ cls := "java/lang/StringBuilder", name := "toString", desc := "()Ljava/lang/String;" } : Jvm.MethodName) jdk_67_method_42_code (1 : Nat) (Option.some (Jvm.ClassFile.FieldType.object "java/lang/String")), Jvm.Cond.code ({ cls := "java/lang/String", name := "<init>", desc := "(Ljava/lang/StringBuilder;)V" } : Jvm.MethodName) jdk_42_method_53_code (2 : Nat) (Option.none : Option Jvm.ClassFile.FieldType), Jvm.Cond.code ({ cls := "java/lang/String", name := "<init>", desc := "(Ljava/lang/AbstractStringBuilder;Ljava/lang/Void;)V" } : Jvm.MethodName) jdk_42_method_150_code (5 : Nat) (Option.none : Option Jvm.ClassFile.FieldType), Jvm.Cond.code ({ cls := "java/lang/AbstractStringBuilder", name := "getValue", desc := "()[B" } : Jvm.MethodName) jdk_68_method_64_code (1 : Nat) (Option.some (Jvm.ClassFile.FieldType.array Jvm.ClassFile.FieldType.byte)), Jvm.Cond.code ({ cls := "java/lang/StringBuilder", name := "length", desc := "()I" } : Jvm.MethodName) jdk_67_method_93_code (1 : Nat) (Option.some Jvm.ClassFile.FieldType.int), Jvm.Cond.code ({ cls := "java/lang/AbstractStringBuilder", name := "length", desc := "()I" } : Jvm.MethodName) jdk_68_method_6_code (1 : Nat) (Option.some Jvm.ClassFile.FieldType.int), Jvm.Cond.code ({ cls := "java/lang/AbstractStringBuilder", name := "isLatin1", desc := "()Z" } : Jvm.MethodName) jdk_68_method_68_code (1 : Nat) (Option.some Jvm.ClassFile.FieldType.boolean), Jvm.Cond.code ({ cls := "java/util/Arrays", name := "copyOfRange", desc := "([BII)[B" } : Jvm.MethodName) jdk_65_method_132_code (3 : Nat) (Option.some (Jvm.ClassFile.FieldType.array Jvm.ClassFile.FieldType.byte)), Jvm.Cond.code ({ cls := "java/util/Arrays", name := "copyOfRangeByte", desc := "([BII)[B" } : Jvm.MethodName) jdk_65_method_133_code (5 : Nat) (Option.some (Jvm.ClassFile.FieldType.array Jvm.ClassFile.FieldType.byte)), Jvm.Cond.code ({ cls := "java/util/Arrays", name := "checkLength", desc := "(II)V" } : Jvm.MethodName) jdk_65_method_131_code (2 : Nat) (Option.none : Option Jvm.ClassFile.FieldType), Jvm.Cond.code ({ cls := "java/lang/Math", name := "min", desc := "(II)I" } : Jvm.MethodName) jdk_29_method_69_code (2 : Nat) (Option.some Jvm.ClassFile.FieldType.int), Jvm.Cond.code ({ cls := "java/lang/String", name := "charAt", desc := "(I)C" } : Jvm.MethodName) jdk_42_method_56_code (2 : Nat) (Option.some Jvm.ClassFile.FieldType.char), Jvm.Cond.code ({ cls := "java/lang/String", name := "isLatin1", desc := "()Z" } : Jvm.MethodName) jdk_42_method_154_code (1 : Nat) (Option.some Jvm.ClassFile.FieldType.boolean), Jvm.Cond.code ({ cls := "java/lang/StringLatin1", name := "charAt", desc := "([BI)C" } : Jvm.MethodName) jdk_43_method_2_code (2 : Nat) (Option.some Jvm.ClassFile.FieldType.char), Jvm.Cond.code ({ cls := "java/lang/String", name := "checkIndex", desc := "(II)V" } : Jvm.MethodName) jdk_42_method_155_code (2 : Nat) (Option.none : Option Jvm.ClassFile.FieldType), Jvm.Cond.code ({ cls := "jdk/internal/util/Preconditions", name := "checkIndex", desc := "(IILjava/util/function/BiFunction;)I" } : Jvm.MethodName) jdk_41_method_11_code (3 : Nat) (Option.some Jvm.ClassFile.FieldType.int), Jvm.Cond.code ({ cls := "java/lang/StringUTF16", name := "compress", desc := "([CII)[B" } : Jvm.MethodName) jdk_52_method_16_code (6 : Nat) (Option.some (Jvm.ClassFile.FieldType.array Jvm.ClassFile.FieldType.byte)), Jvm.Cond.code ({ cls := "java/lang/StringUTF16", name := "compress", desc := "([CI[BII)I" } : Jvm.MethodName) jdk_52_method_21_code (7 : Nat) (Option.some Jvm.ClassFile.FieldType.int), Jvm.Cond.code ({ cls := "java/lang/StringUTF16", name := "coderFromArrayLen", desc := "([BI)B" } : Jvm.MethodName) jdk_52_method_15_code (2 : Nat) (Option.some Jvm.ClassFile.FieldType.byte)]
set_option maxRecDepth 65536 in
theorem codes_eq : words1.filter isCode = codes1 := rfl
theorem w_codes : ∀ c ∈ words1.filter isCode, c.before args0 about1 = true := by
  rw [codes_eq]
  intro c hc
  simp only [codes1, List.mem_cons, List.not_mem_nil, or_false] at hc
  rcases hc with rfl | rfl | rfl | rfl | rfl | rfl | rfl | rfl | rfl | rfl | rfl | rfl | rfl | rfl | rfl | rfl | rfl | rfl | rfl | rfl | rfl | rfl | rfl | rfl | rfl | rfl | rfl | rfl | rfl | rfl | rfl | rfl | rfl | rfl | rfl | rfl | rfl | rfl | rfl
  · exact w_c0
  · exact w_c1
  · exact w_c2
  · exact w_c3
  · exact w_c4
  · exact w_c5
  · exact w_c6
  · exact w_c7
  · exact w_c8
  · exact w_c9
  · exact w_c10
  · exact w_c11
  · exact w_c12
  · exact w_c13
  · exact w_c14
  · exact w_c15
  · exact w_c16
  · exact w_c17
  · exact w_c18
  · exact w_c19
  · exact w_c20
  · exact w_c21
  · exact w_c22
  · exact w_c23
  · exact w_c24
  · exact w_c25
  · exact w_c26
  · exact w_c27
  · exact w_c28
  · exact w_c29
  · exact w_c30
  · exact w_c31
  · exact w_c32
  · exact w_c33
  · exact w_c34
  · exact w_c35
  · exact w_c36
  · exact w_c37
  · exact w_c38
set_option maxRecDepth 65536 in
theorem w_t1 : (words1.take 24).all (fun c => isCode c || c.before args0 about1) = true := by decide +kernel
set_option maxRecDepth 65536 in
theorem w_t2 : ((words1.drop 24).take 24).all (fun c => isCode c || c.before args0 about1) = true := by decide +kernel
set_option maxRecDepth 65536 in
theorem w_t3 : (((words1.drop 24).drop 24).take 24).all (fun c => isCode c || c.before args0 about1) = true := by decide +kernel
set_option maxRecDepth 65536 in
theorem w_t4 : ((((words1.drop 24).drop 24).drop 24).take 24).all (fun c => isCode c || c.before args0 about1) = true := by decide +kernel
set_option maxRecDepth 65536 in
theorem w_t5 : (((((words1.drop 24).drop 24).drop 24).drop 24).take 24).all (fun c => isCode c || c.before args0 about1) = true := by decide +kernel
set_option maxRecDepth 65536 in
theorem w_t6 : ((((((words1.drop 24).drop 24).drop 24).drop 24).drop 24).take 24).all (fun c => isCode c || c.before args0 about1) = true := by decide +kernel
set_option maxRecDepth 65536 in
theorem w_t7 : (((((((words1.drop 24).drop 24).drop 24).drop 24).drop 24).drop 24).take 24).all (fun c => isCode c || c.before args0 about1) = true := by decide +kernel
set_option maxRecDepth 65536 in
theorem w_t8 : ((((((((words1.drop 24).drop 24).drop 24).drop 24).drop 24).drop 24).drop 24).take 24).all (fun c => isCode c || c.before args0 about1) = true := by decide +kernel
set_option maxRecDepth 65536 in
theorem w_t9 : ((((((((words1.drop 24).drop 24).drop 24).drop 24).drop 24).drop 24).drop 24).drop 24).all (fun c => isCode c || c.before args0 about1) = true := by decide +kernel
theorem w_tables : (allAtoms (Jvm.Cond.code x code maxLocals ret :: tables_1)).before args0 about1 = true := by
  rw [allAtoms_all]
  show words1.all (fun c => c.before args0 about1) = true
  refine all_split ?_ w_codes
  rw [← List.take_append_drop 24 words1, List.all_append, w_t1, ← List.take_append_drop 24 (words1.drop 24), List.all_append, w_t2, ← List.take_append_drop 24 ((words1.drop 24).drop 24), List.all_append, w_t3, ← List.take_append_drop 24 (((words1.drop 24).drop 24).drop 24), List.all_append, w_t4, ← List.take_append_drop 24 ((((words1.drop 24).drop 24).drop 24).drop 24), List.all_append, w_t5, ← List.take_append_drop 24 (((((words1.drop 24).drop 24).drop 24).drop 24).drop 24), List.all_append, w_t6, ← List.take_append_drop 24 ((((((words1.drop 24).drop 24).drop 24).drop 24).drop 24).drop 24), List.all_append, w_t7, ← List.take_append_drop 24 (((((((words1.drop 24).drop 24).drop 24).drop 24).drop 24).drop 24).drop 24), List.all_append, w_t8, w_t9]
  rfl
set_option maxRecDepth 65536 in
theorem w_rest : rest_1_c.before args0 about1 = true := by decide +kernel
set_option maxRecDepth 65536 in
theorem w_case : (Jvm.Cond.and given_1 narrow_1).before args0 about1 = true := by decide +kernel
set_option maxRecDepth 65536 in
theorem w_consts : constsHeld consts_1 about1 := Jvm.Lit.constsHeldB_iff.mp (by decide +kernel)
theorem w_applies : (headSpec (Jvm.Cond.code x code maxLocals ret :: tables_1) room_1).applies x e0.platform about1 = true :=
  (Spec.applies_iff w_frames).mpr ⟨w_running, w_runnable, w_alone, w_named, w_hears, w_ripe, w_room, w_tables⟩
theorem atStart : AtStart classFile x code maxLocals ret World_1 tables_1 room_1 Calls_1 rest_1 Pre_1 launch0 p0 e0 about1 theMethod args0 below0 :=
  ⟨lists_1, trivial, launch0.admits_env _ _ _, launch0.least_env, fairChoices_fair.cas, fairChoices_fair.clock, w_frames, w_args, w_heap, w_applies, ⟨w_consts, trivial⟩, w_rest, w_case⟩
end start1
theorem witness_1 : WitnessClaimed_1 := ⟨start1.p0, start1.e0, start1.about1, start1.theMethod, start1.args0, start1.below0, start1.atStart⟩
end Jvm.Pilot.@@N@@
