import JvmDerived
import JvmDerived.Pilot.@@N@@Statement
import JvmDerived.Pilot.@@N@@Code
set_option linter.unusedVariables false
set_option linter.unusedSimpArgs false
/- laws to paste: Road.backV, Road.eqW, Road.codOf (cut by pick.py; bodies as the Statement names them) -/
namespace Jvm.Pilot.@@N@@
namespace StrChars
open Jvm Sem ClassFile Op Lib Jvm.Stand Jvm.Free.XT Jvm.Free.ALB Jvm.Free.JM Jvm.Free
open Jvm.Lib.Cold (StaticIs)
/-- a char array whose places are chars -/
def Ch (a : Addr) (A : Cell) (U : State) : Prop := Arr .char a A U ∧ Typed .char A
theorem Ch.mv {a : Addr} {A : Cell} {U U' : State} (h : Ch a A U) (hal : U.vm.Alike U'.vm) (hh : U'.heap = U.heap) : Ch a A U' := ⟨h.1.mv hal hh, h.2⟩
theorem Ch.keep {a : Addr} {A : Cell} {U U' : State} (h : Ch a A U) (hal : U.vm.Alike U'.vm) (hk : U'.heap[a]? = some A) : Ch a A U' := ⟨h.1.keep hal hk, h.2⟩
/-- what place i of a char[]'s cell holds -/
def cv (A : Cell) (i : Nat) : Int32 := match A.slots[i]? with | some (.int x) => x | _ => 0
theorem Ch.get {a : Addr} {A : Cell} {U : State} (h : Ch a A U) {i : Nat} (hi : i < A.slots.size) : A.slots[i]? = some (.int (cv A i)) := by
  have e := Array.getElem?_eq_getElem hi
  have f := h.2 i _ e
  unfold cv; rw [e]
  generalize A.slots[i] = v at f
  cases v <;> simp [fits] at f ⊢
/-- the byte that i2b leaves of a char -/
def lo8 (x : Int32) : Int32 := x.toInt8.toInt32
theorem fits_lo8 (y : Int32) : fits .byte (.int (lo8 y)) = true := by
  have h1 := y.toInt8.le_toInt
  have h2 := y.toInt8.toInt_lt
  simp only [lo8, fits, Bool.and_eq_true, decide_eq_true_eq, Int32.le_iff_toInt_le, Int8.toInt_toInt32, show (-128 : Int32).toInt = -128 from by decide, show (127 : Int32).toInt = 127 from by decide]
  omega
/-- A' is A but that each place j of lo .. hi - 1 holds f j -/
def Laid (A A' : Cell) (lo hi : Nat) (f : Nat → Value) : Prop := A'.cls = A.cls ∧ A'.vm = A.vm ∧ A'.slots.size = A.slots.size ∧ ∀ i, A'.slots[i]? = if lo ≤ i ∧ i < hi then some (f i) else A.slots[i]?
theorem Laid.zero (A : Cell) (lo : Nat) (f : Nat → Value) : Laid A A lo (lo + 0) f := ⟨rfl, rfl, rfl, fun i => by rw [if_neg (by omega)]⟩
theorem Laid.step {A Ak : Cell} {lo k : Nat} {f : Nat → Value} {v : Value} (h : Laid A Ak lo k f) (hlo : lo ≤ k) (hk : k < Ak.slots.size) (hv : v = f k) : Laid A (Ak.setSlot k v) lo (k + 1) f := by
  refine ⟨h.1, h.2.1, by simpa [Cell.setSlot] using h.2.2.1, fun i => ?_⟩
  by_cases e : k = i
  · subst e; rw [Cell.slots_setSlot_self v hk, if_pos (by omega), hv]
  · rw [Cell.slots_setSlot_ne v e, h.2.2.2 i]
    by_cases q : lo ≤ i ∧ i < k
    · rw [if_pos q, if_pos (by omega)]
    · rw [if_neg q, if_neg (by omega)]
def U16 : String := "java/lang/StringUTF16"
namespace Cmp5
def yN : MethodName := ⟨"java/lang/StringUTF16", "compress", "([CI[BII)I"⟩
abbrev yB : ByteArray := jdk_52_method_21_code
theorem d0 : decode yB 0 = .ok (.iconst 0, 1) := by decide +kernel
theorem d1 : decode yB 1 = .ok (.istore 5, 2) := by decide +kernel
theorem d3 : decode yB 3 = .ok (.iload 5, 2) := by decide +kernel
theorem d5 : decode yB 5 = .ok (.iload 4, 2) := by decide +kernel
theorem d7 : decode yB 7 = .ok (.if_icmp (.ge) 37, 3) := by decide +kernel
theorem d10 : decode yB 10 = .ok (.aload_n 0, 1) := by decide +kernel
theorem d11 : decode yB 11 = .ok (.iload_n 1, 1) := by decide +kernel
theorem d12 : decode yB 12 = .ok (.caload, 1) := by decide +kernel
theorem d13 : decode yB 13 = .ok (.istore 6, 2) := by decide +kernel
theorem d15 : decode yB 15 = .ok (.iload 6, 2) := by decide +kernel
theorem d17 : decode yB 17 = .ok (.sipush 255, 3) := by decide +kernel
theorem d20 : decode yB 20 = .ok (.if_icmp (.le) 6, 3) := by decide +kernel
theorem d26 : decode yB 26 = .ok (.aload_n 2, 1) := by decide +kernel
theorem d27 : decode yB 27 = .ok (.iload_n 3, 1) := by decide +kernel
theorem d28 : decode yB 28 = .ok (.iload 6, 2) := by decide +kernel
theorem d30 : decode yB 30 = .ok (.i2b, 1) := by decide +kernel
theorem d31 : decode yB 31 = .ok (.bastore, 1) := by decide +kernel
theorem d32 : decode yB 32 = .ok (.iinc 1 1, 3) := by decide +kernel
theorem d35 : decode yB 35 = .ok (.iinc 3 1, 3) := by decide +kernel
theorem d38 : decode yB 38 = .ok (.iinc 5 1, 3) := by decide +kernel
theorem d41 : decode yB 41 = .ok (.goto (-38), 3) := by decide +kernel
theorem d44 : decode yB 44 = .ok (.iload 4, 2) := by decide +kernel
theorem d46 : decode yB 46 = .ok (.ireturn, 1) := by decide +kernel
def site : List Cond := []
def tab : Cond := tabOf yN yB 7 (some .int) site
def P (b : Addr) (A : Cell) (d : Addr) (B : Cell) (o q len : Nat) (args : Array Value) (s : State) : Prop := args = #[.ref b, .int (Int32.ofNat o), .ref d, .int (Int32.ofNat q), .int (Int32.ofNat len)] ∧ Ch b A s ∧ Arr .byte d B s ∧ b ≠ d ∧ o + len ≤ A.slots.size ∧ q + len ≤ B.slots.size ∧ ∀ i, i < len → ¬ 255 < cv A (o + i)
def E (b : Addr) (A : Cell) (d : Addr) (B : Cell) (o q len : Nat) (r : Option Value) (s u : State) : Prop := r = some (.int (Int32.ofNat len)) ∧ ∃ B', Put d B' s u ∧ Laid B B' q (q + len) (fun j => Value.int (lo8 (cv A (o + (j - q)))))
/-- no char of the range above 255: len; the places written hold each char's low byte -/
theorem law (l : Launch) (b : Addr) (A : Cell) (d : Addr) (B : Cell) (o q len : Nat) : Law l yN 5 5 0 0 yB 7 (some .int) site (P b A d B o q len) (E b A d B o q len) (copyLocs d q len) 0 0 := by
  refine Law.of_walk (plainFor_of_name (by decide +kernel)) (by decide +kernel) (by decide +kernel) (by decide) (fun _ _ h => by rw [h.1]; rfl) (fun _ U U' hal hh h => ⟨h.1, h.2.1.mv hal hh, h.2.2.1.mv hal hh, h.2.2.2⟩) (fun r U U' V V' h1 hal h2 h => ⟨h.1, h.2.elim fun B' q => ⟨B', q.1.mv h1 h2, q.2⟩⟩) ?_
  intro p e s m args below meth c s₁ X0 hexec hbytes hml hret hlk hnm hown hh0 W hP
  obtain ⟨rfl, hA, hB, hne, l1, l2, hp⟩ := hP
  have c1 : Steps p.tables e below (s₁.setTop (entryFrame m #[.ref b, .int (Int32.ofNat o), .ref d, .int (Int32.ofNat q), .int (Int32.ofNat len)] 7)) (s₁.setTop (mkF m 0 #[.val (.ref b), .val (.int (Int32.ofNat o)), .val (.ref d), .val (.int (Int32.ofNat q)), .val (.int (Int32.ofNat len)), .unset, .unset] [])) := entry rfl
  have hA0 := hA.1.mv X0.warmed.alike hh0
  have hB0 := hB.mv X0.warmed.alike hh0
  have a31 := hA.1.2.2.2
  have c2 : Steps p.tables e below (s₁.setTop (entryFrame m #[.ref b, .int (Int32.ofNat o), .ref d, .int (Int32.ofNat q), .int (Int32.ofNat len)] 7)) (s₁.setTop (mkF m 3 #[.val (.ref b), .val (.int (Int32.ofNat o)), .val (.ref d), .val (.int (Int32.ofNat q)), .val (.int (Int32.ofNat len)), .val (.int 0), .unset] [])) := c1.trans (by
    refine iconstV X0.here hexec rfl 0 (hb hbytes d0) (by decide) ?_
    refine XS.istore X0.here hexec rfl (hb hbytes d1) rfl rfl ?_
    exact Steps.refl _)
  have loop : ∀ (r i : Nat), i + r = len → ∀ (z : Slot), (z = .unset ∨ ∃ w, z = .val w ∧ w.category = 1) → ∀ (Tl : State) (Bk : Cell), Stand p l e { frames := 0, locals := 0, cells := 0, slots := 0 } s m #[.ref b, .int (Int32.ofNat o), .ref d, .int (Int32.ofNat q), .int (Int32.ofNat len)] below meth c Tl ([] ++ copyLocs d q i) 0 0 → Put d Bk s₁ Tl → Laid B Bk q (q + i) (fun j => Value.int (lo8 (cv A (o + (j - q))))) →
      Steps p.tables e below (s₁.setTop (entryFrame m #[.ref b, .int (Int32.ofNat o), .ref d, .int (Int32.ofNat q), .int (Int32.ofNat len)] 7)) (Tl.setTop (mkF m 3 #[.val (.ref b), .val (.int (Int32.ofNat (o + i))), .val (.ref d), .val (.int (Int32.ofNat (q + i))), .val (.int (Int32.ofNat len)), .val (.int (Int32.ofNat i)), z] [])) → ∃ (T' : State) (B' : Cell) (z' : Slot), Stand p l e { frames := 0, locals := 0, cells := 0, slots := 0 } s m #[.ref b, .int (Int32.ofNat o), .ref d, .int (Int32.ofNat q), .int (Int32.ofNat len)] below meth c T' ([] ++ copyLocs d q len) 0 0 ∧ Put d B' s₁ T' ∧ Laid B B' q (q + len) (fun j => Value.int (lo8 (cv A (o + (j - q))))) ∧
      Steps p.tables e below (s₁.setTop (entryFrame m #[.ref b, .int (Int32.ofNat o), .ref d, .int (Int32.ofNat q), .int (Int32.ofNat len)] 7)) (T'.setTop (mkF m 3 #[.val (.ref b), .val (.int (Int32.ofNat (o + len))), .val (.ref d), .val (.int (Int32.ofNat (q + len))), .val (.int (Int32.ofNat len)), .val (.int (Int32.ofNat len)), z'] [])) := by
    intro r
    induction r with
    | zero =>
      intro i hi z hz Tl Bk Xl pl fl cl
      have hil : i = len := by omega
      rw [hil] at Xl fl cl
      exact ⟨Tl, Bk, z, Xl, pl, fl, cl⟩
    | succ r ih =>
      intro i hi z hz Tl Bk Xl pl fl cl
      have all := X0.warmed.alike.symm.trans Xl.warmed.alike
      have hAl := hA0.keep all (pl.other hne hA0.1)
      have hBk := hB0.like all pl.1 fl.1 fl.2.1 fl.2.2.1
      have hlt : q + i < Bk.slots.size := by rw [fl.2.2.1]; omega
      have c3 : Steps p.tables e below (s₁.setTop (entryFrame m #[.ref b, .int (Int32.ofNat o), .ref d, .int (Int32.ofNat q), .int (Int32.ofNat len)] 7)) (Tl.setTop (mkF m 12 #[.val (.ref b), .val (.int (Int32.ofNat (o + i))), .val (.ref d), .val (.int (Int32.ofNat (q + i))), .val (.int (Int32.ofNat len)), .val (.int (Int32.ofNat i)), z] [.int (Int32.ofNat (o + i)), .ref b])) := cl.trans (by
        refine XS.iload Xl.here hexec rfl (hb hbytes d3) rfl ?_
        refine XS.iload Xl.here hexec rfl (hb hbytes d5) rfl ?_
        refine XS.icmpNo Xl.here hexec rfl (hb hbytes d7) rfl (ii_ge_f (lt32 (by omega) (by omega))) ?_
        refine XS.aloadN Xl.here hexec rfl (hb hbytes d10) rfl rfl ?_
        refine XS.iloadN Xl.here hexec rfl (hb hbytes d11) rfl ?_
        exact Steps.refl _)
      have c4 : Steps p.tables e below (s₁.setTop (entryFrame m #[.ref b, .int (Int32.ofNat o), .ref d, .int (Int32.ofNat q), .int (Int32.ofNat len)] 7)) (Tl.setTop (mkF m 13 #[.val (.ref b), .val (.int (Int32.ofNat (o + i))), .val (.ref d), .val (.int (Int32.ofNat (q + i))), .val (.int (Int32.ofNat len)), .val (.int (Int32.ofNat i)), z] [.int (cv A (o + i))])) := c3.trans (by
        refine Xl.aget hexec hAl rfl (hA.get (i := o + i) (by omega)) rfl rfl (hb hbytes d12) ?_
        exact Steps.refl _)
      have c5 : Steps p.tables e below (s₁.setTop (entryFrame m #[.ref b, .int (Int32.ofNat o), .ref d, .int (Int32.ofNat q), .int (Int32.ofNat len)] 7)) (Tl.setTop (mkF m 15 #[.val (.ref b), .val (.int (Int32.ofNat (o + i))), .val (.ref d), .val (.int (Int32.ofNat (q + i))), .val (.int (Int32.ofNat len)), .val (.int (Int32.ofNat i)), .val (.int (cv A (o + i)))] [])) := c4.trans (by
        refine XS.istoreS Xl.here hexec rfl (hb hbytes d13) rfl rfl hz ?_
        exact Steps.refl _)
      have c6 : Steps p.tables e below (s₁.setTop (entryFrame m #[.ref b, .int (Int32.ofNat o), .ref d, .int (Int32.ofNat q), .int (Int32.ofNat len)] 7)) (Tl.setTop (mkF m 31 #[.val (.ref b), .val (.int (Int32.ofNat (o + i))), .val (.ref d), .val (.int (Int32.ofNat (q + i))), .val (.int (Int32.ofNat len)), .val (.int (Int32.ofNat i)), .val (.int (cv A (o + i)))] [.int (lo8 (cv A (o + i))), .int (Int32.ofNat (q + i)), .ref d])) := c5.trans (by
        refine XS.iload Xl.here hexec rfl (hb hbytes d15) rfl ?_
        refine sipushV Xl.here hexec rfl 255 (hb hbytes d17) (by decide) ?_
        refine XS.icmpYes Xl.here hexec rfl (pc0 := 20) rfl (hb hbytes d20) rfl (ii_le_t (hp i (by omega))) (by decide) rfl ?_
        refine XS.aloadN Xl.here hexec rfl (hb hbytes d26) rfl rfl ?_
        refine XS.iloadN Xl.here hexec rfl (hb hbytes d27) rfl ?_
        refine XS.iload Xl.here hexec rfl (hb hbytes d28) rfl ?_
        refine i2b Xl.here hexec rfl (hb hbytes d30) rfl ?_
        exact Steps.refl _)
      obtain ⟨T7, X7, p7, st7⟩ := Xl.aput hexec hBk rfl hlt rfl (fits_lo8 (cv A (o + i))) (g := (mkF m 31 #[.val (.ref b), .val (.int (Int32.ofNat (o + i))), .val (.ref d), .val (.int (Int32.ofNat (q + i))), .val (.int (Int32.ofNat len)), .val (.int (Int32.ofNat i)), .val (.int (cv A (o + i)))] [.int (lo8 (cv A (o + i))), .int (Int32.ofNat (q + i)), .ref d])) rfl (rest := []) rfl (hb hbytes d31)
      have c8 : Steps p.tables e below (s₁.setTop (entryFrame m #[.ref b, .int (Int32.ofNat o), .ref d, .int (Int32.ofNat q), .int (Int32.ofNat len)] 7)) (T7.setTop (mkF m 32 #[.val (.ref b), .val (.int (Int32.ofNat (o + i))), .val (.ref d), .val (.int (Int32.ofNat (q + i))), .val (.int (Int32.ofNat len)), .val (.int (Int32.ofNat i)), .val (.int (cv A (o + i)))] [])) := c6.trans (st7 _ (Steps.refl _))
      have c9 : Steps p.tables e below (s₁.setTop (entryFrame m #[.ref b, .int (Int32.ofNat o), .ref d, .int (Int32.ofNat q), .int (Int32.ofNat len)] 7)) (T7.setTop (mkF m 3 #[.val (.ref b), .val (.int (Int32.ofNat (o + i) + 1)), .val (.ref d), .val (.int (Int32.ofNat (q + i) + 1)), .val (.int (Int32.ofNat len)), .val (.int (Int32.ofNat i + 1)), .val (.int (cv A (o + i)))] [])) := c8.trans (by
        refine iincV X7.here hexec rfl 1 (hb hbytes d32) (by decide) rfl rfl ?_
        refine iincV X7.here hexec rfl 1 (hb hbytes d35) (by decide) rfl rfl ?_
        refine iincV X7.here hexec rfl 1 (hb hbytes d38) (by decide) rfl rfl ?_
        refine XS.goto X7.here hexec rfl (pc0 := 41) rfl (hb hbytes d41) (by decide) rfl ?_
        exact Steps.refl _)
      have c10 : Steps p.tables e below (s₁.setTop (entryFrame m #[.ref b, .int (Int32.ofNat o), .ref d, .int (Int32.ofNat q), .int (Int32.ofNat len)] 7)) (T7.setTop (mkF m 3 #[.val (.ref b), .val (.int (Int32.ofNat (o + (i + 1)))), .val (.ref d), .val (.int (Int32.ofNat (q + (i + 1)))), .val (.int (Int32.ofNat len)), .val (.int (Int32.ofNat (i + 1))), .val (.int (cv A (o + i)))] [])) := by
        have := c9
        rw [succ32, succ32, succ32] at this
        exact this
      exact ih (i + 1) (by omega) _ (Or.inr ⟨_, rfl, rfl⟩) T7 _ (by rw [copyLocs_step, ← List.append_assoc]; exact X7) (pl.trans p7) (fl.step (by omega) hlt (by simp)) c10
  obtain ⟨T9, B9, z9, X9, p9, f9, g9⟩ := loop len 0 (by omega) .unset (Or.inl rfl) s₁ B (by simpa [copyLocs] using X0) ⟨hB0.1, fun _ _ => rfl, rfl⟩ (Laid.zero _ _ _) c2
  have c11 : Steps p.tables e below (s₁.setTop (entryFrame m #[.ref b, .int (Int32.ofNat o), .ref d, .int (Int32.ofNat q), .int (Int32.ofNat len)] 7)) (T9.setTop (mkF m 46 #[.val (.ref b), .val (.int (Int32.ofNat (o + len))), .val (.ref d), .val (.int (Int32.ofNat (q + len))), .val (.int (Int32.ofNat len)), .val (.int (Int32.ofNat len)), z9] [.int (Int32.ofNat len)])) := g9.trans (by
    refine XS.iload X9.here hexec rfl (hb hbytes d3) rfl ?_
    refine XS.iload X9.here hexec rfl (hb hbytes d5) rfl ?_
    refine XS.icmpYes X9.here hexec rfl (pc0 := 7) rfl (hb hbytes d7) rfl (ii_ge_t (nlt32 (by omega) (Nat.le_refl _))) (by decide) rfl ?_
    refine XS.iload X9.here hexec rfl (hb hbytes d44) rfl ?_
    exact Steps.refl _)
  exact ⟨T9, some (.int (Int32.ofNat len)), _, _, _, X9, by simp, rfl, rfl, (fun h => by cases h), ⟨rfl, B9, p9.from hh0, f9⟩, fun fs hl => c11.trans (X9.ireturnOut hexec hret rfl (Or.inl rfl) (hb hbytes d46) hl)⟩
end Cmp5
namespace Cmp3
def yN : MethodName := ⟨"java/lang/StringUTF16", "compress", "([CII)[B"⟩
abbrev yB : ByteArray := jdk_52_method_16_code
theorem d0 : decode yB 0 = .ok (.iload_n 2, 1) := by decide +kernel
theorem d1 : decode yB 1 = .ok (.newarray .byte, 2) := by decide +kernel
theorem d3 : decode yB 3 = .ok (.astore_n 3, 1) := by decide +kernel
theorem d4 : decode yB 4 = .ok (.aload_n 0, 1) := by decide +kernel
theorem d5 : decode yB 5 = .ok (.iload_n 1, 1) := by decide +kernel
theorem d6 : decode yB 6 = .ok (.aload_n 3, 1) := by decide +kernel
theorem d7 : decode yB 7 = .ok (.iconst 0, 1) := by decide +kernel
theorem d8 : decode yB 8 = .ok (.iload_n 2, 1) := by decide +kernel
theorem d9 : decode yB 9 = .ok (.invokestatic 115, 3) := by decide +kernel
theorem d12 : decode yB 12 = .ok (.istore 4, 2) := by decide +kernel
theorem d14 : decode yB 14 = .ok (.iload 4, 2) := by decide +kernel
theorem d16 : decode yB 16 = .ok (.iload_n 2, 1) := by decide +kernel
theorem d17 : decode yB 17 = .ok (.if_icmp (.eq) 40, 3) := by decide +kernel
theorem d57 : decode yB 57 = .ok (.aload_n 3, 1) := by decide +kernel
theorem d58 : decode yB 58 = .ok (.areturn, 1) := by decide +kernel
def site : List Cond := [.arrayClass .byte, Cmp5.tab] ++ staticW U16 115 Cmp5.yN
def tab : Cond := tabOf yN yB 6 (some (.array .byte)) site
def P (b : Addr) (A : Cell) (o len : Nat) (args : Array Value) (s : State) : Prop := args = #[.ref b, .int (Int32.ofNat o), .int (Int32.ofNat len)] ∧ Ch b A s ∧ o + len ≤ A.slots.size ∧ len ≤ 536870912 ∧ ∀ i, i < len → ¬ 255 < cv A (o + i)
def E (b : Addr) (A : Cell) (o len : Nat) (r : Option Value) (s u : State) : Prop := NewArr .byte "[B" len (fun j => .int (lo8 (cv A (o + j)))) r s u ∧ u.heap.size = s.heap.size + 1
/-- no char of the range above 255: a new byte[] of their low bytes -/
theorem law (l : Launch) (b : Addr) (A : Cell) (o len : Nat) : Law l yN 3 3 1 18 yB 6 (some (.array .byte)) site (P b A o len) (E b A o len) [] 1 len := by
  refine Law.of_walk (plainFor_of_name (by decide +kernel)) (by decide +kernel) (by decide +kernel) (by decide) (fun _ _ h => by rw [h.1]; rfl) (fun _ U U' hal hh h => ⟨h.1, h.2.1.mv hal hh, h.2.2⟩) (fun r U U' V V' h1 hal h2 h => ⟨NewArr.mv r U U' V V' h1 hal h2 h.1, by rw [h1, h2]; exact h.2⟩) ?_
  intro p e s m args below meth c s₁ X0 hexec hbytes hml hret hlk hnm hown hh0 W hP
  obtain ⟨rfl, hA, l1, l2, hp⟩ := hP
  have a31 := hA.1.2.2.2
  have c1 : Steps p.tables e below (s₁.setTop (entryFrame m #[.ref b, .int (Int32.ofNat o), .int (Int32.ofNat len)] 6)) (s₁.setTop (mkF m 0 #[.val (.ref b), .val (.int (Int32.ofNat o)), .val (.int (Int32.ofNat len)), .unset, .unset, .unset] [])) := entry rfl
  have c2 : Steps p.tables e below (s₁.setTop (entryFrame m #[.ref b, .int (Int32.ofNat o), .int (Int32.ofNat len)] 6)) (s₁.setTop (mkF m 1 #[.val (.ref b), .val (.int (Int32.ofNat o)), .val (.int (Int32.ofNat len)), .unset, .unset, .unset] [.int (Int32.ofNat len)])) := c1.trans (by
    refine XS.iloadN X0.here hexec rfl (hb hbytes d0) rfl ?_
    exact Steps.refl _)
  obtain ⟨T3, B3, X3, ba3, bs3, bv3, bh3, bf3, st3⟩ := X0.anew hexec (atype := .byte) (wk W (.arrayClass .byte)) rfl (by show len * 1 ≤ _; omega) (by omega) (g := (mkF m 1 #[.val (.ref b), .val (.int (Int32.ofNat o)), .val (.int (Int32.ofNat len)), .unset, .unset, .unset] [.int (Int32.ofNat len)])) rfl (hb hbytes d1) (rest := []) rfl (Nat.le_refl _) (by show 0 + len ≤ len; omega)
  rw [hh0] at ba3 st3
  have kp3 : XT.Kept s T3 := (XT.Kept.of_eq hh0).push bh3
  have hA3 := hA.keep X3.warmed.alike (kp3 _ _ hA.1.1)
  have hne : b ≠ s.heap.size := hA.1.ne
  have c4 : Steps p.tables e below (s₁.setTop (entryFrame m #[.ref b, .int (Int32.ofNat o), .int (Int32.ofNat len)] 6)) (T3.setTop (mkF m 3 #[.val (.ref b), .val (.int (Int32.ofNat o)), .val (.int (Int32.ofNat len)), .unset, .unset, .unset] [.ref s.heap.size])) := c2.trans (st3 _ (Steps.refl _))
  have c5 : Steps p.tables e below (s₁.setTop (entryFrame m #[.ref b, .int (Int32.ofNat o), .int (Int32.ofNat len)] 6)) (T3.setTop (mkF m 9 #[.val (.ref b), .val (.int (Int32.ofNat o)), .val (.int (Int32.ofNat len)), .val (.ref s.heap.size), .unset, .unset] [.int (Int32.ofNat len), .int 0, .ref s.heap.size, .int (Int32.ofNat o), .ref b])) := c4.trans (by
    refine XS.astoreN X3.here hexec rfl (hb hbytes d3) rfl rfl rfl ?_
    refine XS.aloadN X3.here hexec rfl (hb hbytes d4) rfl rfl ?_
    refine XS.iloadN X3.here hexec rfl (hb hbytes d5) rfl ?_
    refine XS.aloadN X3.here hexec rfl (hb hbytes d6) rfl rfl ?_
    refine iconstV X3.here hexec rfl 0 (hb hbytes d7) (by decide) ?_
    refine XS.iloadN X3.here hexec rfl (hb hbytes d8) rfl ?_
    exact Steps.refl _)
  obtain ⟨v6, T6, X6, E6, g6⟩ := X3.callS hexec (Cmp5.law l b A s.heap.size B3 o 0 len) hown (wks W (staticW U16 115 Cmp5.yN)) (wk W Cmp5.tab) (W := 0) (Nat.le_of_ble_eq_true rfl) (Nat.le_of_ble_eq_true rfl) (Nat.le_refl _) (by show 0 + len + 0 ≤ len; omega) (g := (mkF m 9 #[.val (.ref b), .val (.int (Int32.ofNat o)), .val (.int (Int32.ofNat len)), .val (.ref s.heap.size), .unset, .unset] [.int (Int32.ofNat len), .int (Int32.ofNat 0), .ref s.heap.size, .int (Int32.ofNat o), .ref b])) rfl (by rw [hml]; rfl) c5 (argsL := [.ref b, .int (Int32.ofNat o), .ref s.heap.size, .int (Int32.ofNat 0), .int (Int32.ofNat len)]) (rest := []) rfl rfl (by show 2 * 0 + 0 ≤ _; decide) (hb hbytes d9) (⟨rfl, hA3, ba3, hne, l1, by rw [bs3]; simp, hp⟩)
  obtain ⟨rfl, B6, p6, f6⟩ := E6
  have c7 : Steps p.tables e below (s₁.setTop (entryFrame m #[.ref b, .int (Int32.ofNat o), .int (Int32.ofNat len)] 6)) (T6.setTop (mkF m 12 #[.val (.ref b), .val (.int (Int32.ofNat o)), .val (.int (Int32.ofNat len)), .val (.ref s.heap.size), .unset, .unset] [.int (Int32.ofNat len)])) := g6
  have c8 : Steps p.tables e below (s₁.setTop (entryFrame m #[.ref b, .int (Int32.ofNat o), .int (Int32.ofNat len)] 6)) (T6.setTop (mkF m 58 #[.val (.ref b), .val (.int (Int32.ofNat o)), .val (.int (Int32.ofNat len)), .val (.ref s.heap.size), .val (.int (Int32.ofNat len)), .unset] [.ref s.heap.size])) := c7.trans (by
    refine XS.istore X6.here hexec rfl (hb hbytes d12) rfl rfl ?_
    refine XS.iload X6.here hexec rfl (hb hbytes d14) rfl ?_
    refine XS.iloadN X6.here hexec rfl (hb hbytes d16) rfl ?_
    refine XS.icmpYes X6.here hexec rfl (pc0 := 17) rfl (hb hbytes d17) rfl (ii_eq_t rfl) (by decide) rfl ?_
    refine XS.aloadN X6.here hexec rfl (hb hbytes d57) rfl rfl ?_
    exact Steps.refl _)
  have X8 := X6.wide (L' := []) (cells' := 1) (slots' := len) (fun x hx hlt => by
    simp only [List.nil_append, copyLocs, List.mem_map, List.mem_range] at hx
    obtain ⟨i, -, rfl⟩ := hx
    exact absurd hlt (Nat.lt_irrefl _)) (Nat.le_refl _) (by omega)
  exact ⟨T6, some (.ref s.heap.size), _, _, _, X8, rfl, rfl, rfl, (fun h => by cases h), ⟨⟨rfl, B6, ba3.like (X3.warmed.alike.symm.trans X6.warmed.alike) p6.1 f6.1 f6.2.1 f6.2.2.1, f6.2.1.trans bv3, by rw [X6.warmed.alike.findClass, f6.1]; exact bf3, by rw [f6.2.2.1, bs3]; simp, fun j hj => by rw [f6.2.2.2 j, if_pos (by omega)]; rfl, kp3.put p6 (Nat.le_refl _)⟩, by rw [p6.2.2, bh3, hh0]; simp⟩, fun fs hl => c8.trans (X8.areturnOut hexec rfl hret rfl (hb hbytes d58) hl)⟩
end Cmp3
namespace CodL
def yN : MethodName := ⟨"java/lang/StringUTF16", "coderFromArrayLen", "([BI)B"⟩
abbrev yB : ByteArray := jdk_52_method_15_code
theorem d0 : decode yB 0 = .ok (.iload_n 1, 1) := by decide +kernel
theorem d1 : decode yB 1 = .ok (.aload_n 0, 1) := by decide +kernel
theorem d2 : decode yB 2 = .ok (.arraylength, 1) := by decide +kernel
theorem d3 : decode yB 3 = .ok (.isub, 1) := by decide +kernel
theorem d4 : decode yB 4 = .ok (.bipush 31, 2) := by decide +kernel
theorem d6 : decode yB 6 = .ok (.iushr, 1) := by decide +kernel
theorem d7 : decode yB 7 = .ok (.i2b, 1) := by decide +kernel
theorem d8 : decode yB 8 = .ok (.ireturn, 1) := by decide +kernel
def site : List Cond := []
def tab : Cond := tabOf yN yB 2 (some .byte) site
def P (d : Addr) (B : Cell) (args : Array Value) (s : State) : Prop := args = #[.ref d, .int (Int32.ofNat B.slots.size)] ∧ Arr .byte d B s
def E (r : Option Value) (s u : State) : Prop := XT.PureE (some (.int 0)) r s u
/-- an array as long as the number of chars: LATIN1 -/
theorem law (l : Launch) (d : Addr) (B : Cell) : Law l yN 2 2 0 0 yB 2 (some .byte) site (P d B) E [] 0 0 := by
  refine Law.of_walk (plainFor_of_name (by decide +kernel)) (by decide +kernel) (by decide +kernel) (by decide) (fun _ _ h => by rw [h.1]; rfl) (fun _ U U' hal hh h => ⟨h.1, h.2.mv hal hh⟩) (fun r U U' V V' h1 hal h2 h => XT.PureE.mv r U U' V V' h1 hal h2 h) ?_
  intro p e s m args below meth c s₁ X0 hexec hbytes hml hret hlk hnm hown hh0 W hP
  obtain ⟨rfl, hB⟩ := hP
  have hB0 := hB.mv X0.warmed.alike hh0
  have c1 : Steps p.tables e below (s₁.setTop (entryFrame m #[.ref d, .int (Int32.ofNat B.slots.size)] 2)) (s₁.setTop (mkF m 0 #[.val (.ref d), .val (.int (Int32.ofNat B.slots.size))] [])) := entry rfl
  have c2 : Steps p.tables e below (s₁.setTop (entryFrame m #[.ref d, .int (Int32.ofNat B.slots.size)] 2)) (s₁.setTop (mkF m 2 #[.val (.ref d), .val (.int (Int32.ofNat B.slots.size))] [.ref d, .int (Int32.ofNat B.slots.size)])) := c1.trans (by
    refine XS.iloadN X0.here hexec rfl (hb hbytes d0) rfl ?_
    refine XS.aloadN X0.here hexec rfl (hb hbytes d1) rfl rfl ?_
    exact Steps.refl _)
  have c3 : Steps p.tables e below (s₁.setTop (entryFrame m #[.ref d, .int (Int32.ofNat B.slots.size)] 2)) (s₁.setTop (mkF m 8 #[.val (.ref d), .val (.int (Int32.ofNat B.slots.size))] [.int (lo8 (ushr (Int32.ofNat B.slots.size - Int32.ofNat B.slots.size) 31))])) := c2.trans (by
    refine X0.alen hexec hB0 rfl rfl (hb hbytes d2) ?_
    refine XS.isub X0.here hexec rfl (hb hbytes d3) rfl ?_
    refine bipushV X0.here hexec rfl 31 (hb hbytes d4) (by decide) ?_
    refine iushr X0.here hexec rfl (hb hbytes d6) rfl ?_
    refine i2b X0.here hexec rfl (hb hbytes d7) rfl ?_
    exact Steps.refl _)
  have e0 : lo8 (ushr (Int32.ofNat B.slots.size - Int32.ofNat B.slots.size) 31) = 0 := by rw [Int32.sub_self]; decide
  rw [e0] at c3
  exact ⟨s₁, some (.int 0), _, _, _, X0, rfl, rfl, rfl, (fun h => by cases h), ⟨rfl, hh0⟩, fun fs hl => c3.trans (X0.ireturnOut hexec hret rfl (Or.inr (Or.inr (Or.inl rfl))) (hb hbytes d8) hl)⟩
end CodL
/-- the String at a is Latin-1 over a new byte[] (the heap's one new cell): the low bytes of the len chars of A from o on; every cell but a is kept -/
def Got (a : Addr) (D : Cell) (fV fC : Field) (A : Cell) (o len : Nat) (r : Option Value) (s u : State) : Prop := r = none ∧ ∃ D' V : Cell, Blank "java/lang/String" a D' u ∧ Same D D' [fV.slot, fC.slot] ∧ D'.slots[fV.slot]? = some (.ref s.heap.size) ∧ D'.slots[fC.slot]? = some (.int 0) ∧ Arr .byte s.heap.size V u ∧ V.vm = .none ∧ u.vm.findClass "[B" = some V.cls ∧ V.slots.size = len ∧ (∀ j, j < len → V.slots[j]? = some (.int (lo8 (cv A (o + j))))) ∧ (∀ (y : Addr) (c : Cell), y ≠ a → s.heap[y]? = some c → u.heap[y]? = some c) ∧ u.heap.size = s.heap.size + 1
theorem Got.mv {a : Addr} {D A : Cell} {fV fC : Field} {o len : Nat} : ∀ r (U U' V V' : State), U'.heap = U.heap → V.vm.Alike V'.vm → V'.heap = V.heap → Got a D fV fC A o len r U V → Got a D fV fC A o len r U' V' :=
  fun r U U' V V' h1 hal h2 ⟨e0, D', X, a1, a2, a3, a4, a5, a6, a7, a8, a9, a10, a11⟩ => ⟨e0, D', X, a1.mv hal h2, a2, by rw [h1]; exact a3, a4, by rw [h1]; exact a5.mv hal h2, a6, by rw [hal.findClass]; exact a7, a8, a9, by rw [h1, h2]; exact a10, by rw [h1, h2]; exact a11⟩
namespace New4
def yN : MethodName := ⟨"java/lang/String", "<init>", "([CIILjava/lang/Void;)V"⟩
abbrev yB : ByteArray := jdk_42_method_149_code
theorem d0 : decode yB 0 = .ok (.aload_n 0, 1) := by decide +kernel
theorem d1 : decode yB 1 = .ok (.invokespecial 1, 3) := by decide +kernel
theorem d4 : decode yB 4 = .ok (.iload_n 3, 1) := by decide +kernel
theorem d5 : decode yB 5 = .ok (.ifCond (.ne) 22, 3) := by decide +kernel
theorem d27 : decode yB 27 = .ok (.getstatic 38, 3) := by decide +kernel
theorem d30 : decode yB 30 = .ok (.ifCond (.eq) 28, 3) := by decide +kernel
theorem d33 : decode yB 33 = .ok (.aload_n 1, 1) := by decide +kernel
theorem d34 : decode yB 34 = .ok (.iload_n 2, 1) := by decide +kernel
theorem d35 : decode yB 35 = .ok (.iload_n 3, 1) := by decide +kernel
theorem d36 : decode yB 36 = .ok (.invokestatic 177, 3) := by decide +kernel
theorem d39 : decode yB 39 = .ok (.astore 5, 2) := by decide +kernel
theorem d41 : decode yB 41 = .ok (.aload_n 0, 1) := by decide +kernel
theorem d42 : decode yB 42 = .ok (.aload 5, 2) := by decide +kernel
theorem d44 : decode yB 44 = .ok (.iload_n 3, 1) := by decide +kernel
theorem d45 : decode yB 45 = .ok (.invokestatic 47, 3) := by decide +kernel
theorem d48 : decode yB 48 = .ok (.putfield 15, 3) := by decide +kernel
theorem d51 : decode yB 51 = .ok (.aload_n 0, 1) := by decide +kernel
theorem d52 : decode yB 52 = .ok (.aload 5, 2) := by decide +kernel
theorem d54 : decode yB 54 = .ok (.putfield 9, 3) := by decide +kernel
theorem d57 : decode yB 57 = .ok (.return_, 1) := by decide +kernel
def site : List Cond := [.fieldLink "java/lang/String" 38 "java/lang/String" "COMPACT_STRINGS" "Z", Cmp3.tab, CodL.tab, .laysFinal "java/lang/String" "java/lang/String" "value" "[B", .fieldLink "java/lang/String" 9 "java/lang/String" "value" "[B", .laysFinal "java/lang/String" "java/lang/String" "coder" "B", .fieldLink "java/lang/String" 15 "java/lang/String" "coder" "B"] ++ objW "java/lang/String" 1 ++ staticW "java/lang/String" 177 Cmp3.yN ++ staticW "java/lang/String" 47 CodL.yN
def tab : Cond := tabOf yN yB 6 none site
def P (a : Addr) (D : Cell) (fV fC : Field) (b : Addr) (A : Cell) (z : Int32) (o len : Nat) (args : Array Value) (s : State) : Prop := args = #[.ref a, .ref b, .int (Int32.ofNat o), .int (Int32.ofNat len), .null] ∧ Blank "java/lang/String" a D s ∧ Found "java/lang/String" "value" "[B" fV s ∧ Found "java/lang/String" "coder" "B" fC s ∧ Ch b A s ∧ StaticIs s "java/lang/String" "COMPACT_STRINGS" "Z" (.int z) ∧ ¬ z = 0 ∧ 0 < len ∧ o + len ≤ A.slots.size ∧ len ≤ 536870912 ∧ ∀ i, i < len → ¬ 255 < cv A (o + i)
def E (a : Addr) (D : Cell) (fV fC : Field) (A : Cell) (o len : Nat) (r : Option Value) (s u : State) : Prop := Got a D fV fC A o len r s u
/-- len > 0, no char of the range above 255: a Latin-1 String of their low bytes -/
theorem law (l : Launch) (a : Addr) (D : Cell) (fV fC : Field) (b : Addr) (A : Cell) (z : Int32) (o len : Nat) : Law l yN 5 4 2 35 yB 6 none site (P a D fV fC b A z o len) (E a D fV fC A o len) [⟨a, fC.slot⟩, ⟨a, fV.slot⟩] 1 len := by
  refine Law.of_walk (plainFor_of_name (by decide +kernel)) (by decide +kernel) (by decide +kernel) (by decide) (fun _ _ h => by rw [h.1]; rfl) (fun _ U U' hal hh h => ⟨h.1, h.2.1.mv hal hh, h.2.2.1.al hal, h.2.2.2.1.al hal, h.2.2.2.2.1.mv hal hh, h.2.2.2.2.2.1.there hal hh, h.2.2.2.2.2.2⟩) (fun r U U' V V' h1 hal h2 h => Got.mv r U U' V V' h1 hal h2 h) ?_
  intro p e s m args below meth c s₁ X0 hexec hbytes hml hret hlk hnm hown hh0 W hP
  obtain ⟨rfl, hB, f1, f2, hA, s1, hz, l0, l1, l2, hp⟩ := hP
  have a31 := hA.1.2.2.2
  have c1 : Steps p.tables e below (s₁.setTop (entryFrame m #[.ref a, .ref b, .int (Int32.ofNat o), .int (Int32.ofNat len), .null] 6)) (s₁.setTop (mkF m 0 #[.val (.ref a), .val (.ref b), .val (.int (Int32.ofNat o)), .val (.int (Int32.ofNat len)), .val .null, .unset] [])) := entry rfl
  have c2 : Steps p.tables e below (s₁.setTop (entryFrame m #[.ref a, .ref b, .int (Int32.ofNat o), .int (Int32.ofNat len), .null] 6)) (s₁.setTop (mkF m 1 #[.val (.ref a), .val (.ref b), .val (.int (Int32.ofNat o)), .val (.int (Int32.ofNat len)), .val .null, .unset] [.ref a])) := c1.trans (by
    refine XS.aloadN X0.here hexec rfl (hb hbytes d0) rfl rfl ?_
    exact Steps.refl _)
  obtain ⟨T3, X3, q3, st3⟩ := X0.oinit hexec hown (wks W (objW "java/lang/String" 1)) (g := (mkF m 1 #[.val (.ref a), .val (.ref b), .val (.int (Int32.ofNat o)), .val (.int (Int32.ofNat len)), .val .null, .unset] [.ref a])) rfl (by rw [hml]; rfl) (rest := []) rfl (hb hbytes d1) (W := 0) (by show 2 * 0 + 0 ≤ _; decide) (Nat.le_of_ble_eq_true rfl) (Nat.le_of_ble_eq_true rfl)
  have hh3 := q3.trans hh0
  have c4 : Steps p.tables e below (s₁.setTop (entryFrame m #[.ref a, .ref b, .int (Int32.ofNat o), .int (Int32.ofNat len), .null] 6)) (T3.setTop (mkF m 27 #[.val (.ref a), .val (.ref b), .val (.int (Int32.ofNat o)), .val (.int (Int32.ofNat len)), .val .null, .unset] [])) := (c2.trans (st3 _ (Steps.refl _))).trans (by
    refine XS.iloadN X3.here hexec rfl (hb hbytes d4) rfl ?_
    refine XS.ifYes X3.here hexec rfl (pc0 := 5) rfl (hb hbytes d5) rfl (i0_ne_t (nz32 (by omega) l0)) (by decide) rfl ?_
    exact Steps.refl _)
  obtain ⟨T5, X5, q5, st5⟩ := X3.sget hexec hown (wk W (.fieldLink "java/lang/String" 38 "java/lang/String" "COMPACT_STRINGS" "Z")) s1 (fun _ _ h => by rw [hh3]; exact h) (g := (mkF m 27 #[.val (.ref a), .val (.ref b), .val (.int (Int32.ofNat o)), .val (.int (Int32.ofNat len)), .val .null, .unset] [])) rfl (hb hbytes d27)
  have hh5 := q5.trans hh3
  have c6 : Steps p.tables e below (s₁.setTop (entryFrame m #[.ref a, .ref b, .int (Int32.ofNat o), .int (Int32.ofNat len), .null] 6)) (T5.setTop (mkF m 30 #[.val (.ref a), .val (.ref b), .val (.int (Int32.ofNat o)), .val (.int (Int32.ofNat len)), .val .null, .unset] [.int z])) := c4.trans (st5 _ (Steps.refl _))
  have c7 : Steps p.tables e below (s₁.setTop (entryFrame m #[.ref a, .ref b, .int (Int32.ofNat o), .int (Int32.ofNat len), .null] 6)) (T5.setTop (mkF m 36 #[.val (.ref a), .val (.ref b), .val (.int (Int32.ofNat o)), .val (.int (Int32.ofNat len)), .val .null, .unset] [.int (Int32.ofNat len), .int (Int32.ofNat o), .ref b])) := c6.trans (by
    refine XS.ifNo X5.here hexec rfl (hb hbytes d30) rfl (i0_eq_f hz) ?_
    refine XS.aloadN X5.here hexec rfl (hb hbytes d33) rfl rfl ?_
    refine XS.iloadN X5.here hexec rfl (hb hbytes d34) rfl ?_
    refine XS.iloadN X5.here hexec rfl (hb hbytes d35) rfl ?_
    exact Steps.refl _)
  obtain ⟨v8, T8, X8, E8, g8⟩ := X5.callS hexec (Cmp3.law l b A o len) hown (wks W (staticW "java/lang/String" 177 Cmp3.yN)) (wk W Cmp3.tab) (W := 0) (Nat.le_of_ble_eq_true rfl) (Nat.le_of_ble_eq_true rfl) (Nat.le_refl _) (by show 0 + len ≤ len; omega) (g := (mkF m 36 #[.val (.ref a), .val (.ref b), .val (.int (Int32.ofNat o)), .val (.int (Int32.ofNat len)), .val .null, .unset] [.int (Int32.ofNat len), .int (Int32.ofNat o), .ref b])) rfl (by rw [hml]; rfl) c7 (argsL := [.ref b, .int (Int32.ofNat o), .int (Int32.ofNat len)]) (rest := []) rfl rfl (by show 2 * 0 + 0 ≤ _; decide) (hb hbytes d36) (⟨rfl, hA.mv X5.warmed.alike hh5, l1, l2, hp⟩)
  obtain ⟨e8, z8⟩ := E8
  obtain ⟨rfl, N, n1, n2, n3, n4, n5, n6⟩ := NewArr.mv _ T5 s _ _ hh5.symm (Vm.Alike.refl _) rfl e8
  rw [hh5] at z8
  have hB1 := hB.keep X8.warmed.alike (n6 _ _ hB.1)
  have hne : s.heap.size ≠ a := (Nat.ne_of_lt (Array.getElem?_eq_some_iff.mp hB.1).1).symm
  have c9 : Steps p.tables e below (s₁.setTop (entryFrame m #[.ref a, .ref b, .int (Int32.ofNat o), .int (Int32.ofNat len), .null] 6)) (T8.setTop (mkF m 39 #[.val (.ref a), .val (.ref b), .val (.int (Int32.ofNat o)), .val (.int (Int32.ofNat len)), .val .null, .unset] [.ref s.heap.size])) := g8
  have c10 : Steps p.tables e below (s₁.setTop (entryFrame m #[.ref a, .ref b, .int (Int32.ofNat o), .int (Int32.ofNat len), .null] 6)) (T8.setTop (mkF m 45 #[.val (.ref a), .val (.ref b), .val (.int (Int32.ofNat o)), .val (.int (Int32.ofNat len)), .val .null, .val (.ref s.heap.size)] [.int (Int32.ofNat N.slots.size), .ref s.heap.size, .ref a])) := by
    have hc : Steps p.tables e below (s₁.setTop (entryFrame m #[.ref a, .ref b, .int (Int32.ofNat o), .int (Int32.ofNat len), .null] 6)) (T8.setTop (mkF m 45 #[.val (.ref a), .val (.ref b), .val (.int (Int32.ofNat o)), .val (.int (Int32.ofNat len)), .val .null, .val (.ref s.heap.size)] [.int (Int32.ofNat len), .ref s.heap.size, .ref a])) := c9.trans (by
      refine XS.astore X8.here hexec rfl (hb hbytes d39) rfl rfl rfl ?_
      refine XS.aloadN X8.here hexec rfl (hb hbytes d41) rfl rfl ?_
      refine XS.aload X8.here hexec rfl (hb hbytes d42) rfl rfl ?_
      refine XS.iloadN X8.here hexec rfl (hb hbytes d44) rfl ?_
      exact Steps.refl _)
    rw [n4]; exact hc
  obtain ⟨v11, T11, X11, E11, g11⟩ := X8.callS hexec (CodL.law l s.heap.size N) hown (wks W (staticW "java/lang/String" 47 CodL.yN)) (wk W CodL.tab) (W := 1) (Nat.le_of_ble_eq_true rfl) (Nat.le_of_ble_eq_true rfl) (Nat.le_refl _) (by show 0 + len + 0 ≤ len; omega) (g := (mkF m 45 #[.val (.ref a), .val (.ref b), .val (.int (Int32.ofNat o)), .val (.int (Int32.ofNat len)), .val .null, .val (.ref s.heap.size)] [.int (Int32.ofNat N.slots.size), .ref s.heap.size, .ref a])) rfl (by rw [hml]; rfl) c10 (argsL := [.ref s.heap.size, .int (Int32.ofNat N.slots.size)]) (rest := [.ref a]) rfl rfl (by show 2 * 0 + (1 + 0) ≤ _; decide) (hb hbytes d45) (⟨rfl, n1⟩)
  obtain ⟨rfl, q11⟩ := E11
  have hB11 := hB1.mv (X8.warmed.alike.symm.trans X11.warmed.alike) q11
  have c12 : Steps p.tables e below (s₁.setTop (entryFrame m #[.ref a, .ref b, .int (Int32.ofNat o), .int (Int32.ofNat len), .null] 6)) (T11.setTop (mkF m 48 #[.val (.ref a), .val (.ref b), .val (.int (Int32.ofNat o)), .val (.int (Int32.ofNat len)), .val .null, .val (.ref s.heap.size)] [.int 0, .ref a])) := g11
  obtain ⟨T13, X13, p13, bl13, sl13, st13⟩ := X11.finit hexec hown (wk W (.fieldLink "java/lang/String" 15 "java/lang/String" "coder" "B")) (Or.inr ⟨_, (wk W (.laysFinal "java/lang/String" "java/lang/String" "coder" "B"))⟩) (Or.inl ⟨rfl, hnm⟩) f2 (Or.inl rfl) hB11 (t := .byte) (by decide +kernel) rfl (g := (mkF m 48 #[.val (.ref a), .val (.ref b), .val (.int (Int32.ofNat o)), .val (.int (Int32.ofNat len)), .val .null, .val (.ref s.heap.size)] [.int 0, .ref a])) rfl (rest := []) rfl (hb hbytes d48)
  have c14 : Steps p.tables e below (s₁.setTop (entryFrame m #[.ref a, .ref b, .int (Int32.ofNat o), .int (Int32.ofNat len), .null] 6)) (T13.setTop (mkF m 54 #[.val (.ref a), .val (.ref b), .val (.int (Int32.ofNat o)), .val (.int (Int32.ofNat len)), .val .null, .val (.ref s.heap.size)] [.ref s.heap.size, .ref a])) := (c12.trans (st13 _ (Steps.refl _))).trans (by
    refine XS.aloadN X13.here hexec rfl (hb hbytes d51) rfl rfl ?_
    refine XS.aload X13.here hexec rfl (hb hbytes d52) rfl rfl ?_
    exact Steps.refl _)
  obtain ⟨T15, X15, p15, bl15, sl15, st15⟩ := X13.finit hexec hown (wk W (.fieldLink "java/lang/String" 9 "java/lang/String" "value" "[B")) (Or.inr ⟨_, (wk W (.laysFinal "java/lang/String" "java/lang/String" "value" "[B"))⟩) (Or.inl ⟨rfl, hnm⟩) f1 (Or.inl rfl) bl13 (t := (.array .byte)) (by decide +kernel) rfl (g := (mkF m 54 #[.val (.ref a), .val (.ref b), .val (.int (Int32.ofNat o)), .val (.int (Int32.ofNat len)), .val .null, .val (.ref s.heap.size)] [.ref s.heap.size, .ref a])) rfl (rest := []) rfl (hb hbytes d54)
  have c16 : Steps p.tables e below (s₁.setTop (entryFrame m #[.ref a, .ref b, .int (Int32.ofNat o), .int (Int32.ofNat len), .null] 6)) (T15.setTop (mkF m 57 #[.val (.ref a), .val (.ref b), .val (.int (Int32.ofNat o)), .val (.int (Int32.ofNat len)), .val .null, .val (.ref s.heap.size)] [])) := c14.trans (st15 _ (Steps.refl _))
  have ap := apart (Or.inr ⟨_, (wk W (.laysFinal "java/lang/String" "java/lang/String" "value" "[B"))⟩) (Or.inr ⟨_, (wk W (.laysFinal "java/lang/String" "java/lang/String" "coder" "B"))⟩) f1 f2 (t₁ := .array .byte) (t₂ := .byte) (by decide +kernel) (by decide +kernel) (by decide)
  have al := X8.warmed.alike.symm.trans X15.warmed.alike
  have n7 : T11.heap[s.heap.size]? = some N := by rw [q11]; exact n1.1
  exact ⟨T15, none, _, _, _, X15, by simp, rfl, by omega, (fun _ => rfl), ⟨rfl, _, N, bl15, ((Same.refl D _).set _ (by simp)).set _ (by simp), sl15, (Cell.slots_setSlot_ne _ ap).trans sl13, n1.keep al (p15.other hne (p13.other hne n7)), n2, by rw [al.findClass]; exact n3, n4, n5, fun y c h1 h2 => p15.other h1 (p13.other h1 (by rw [q11]; exact n6 y c h2)), by rw [p15.2.2, p13.2.2, q11]; exact z8⟩, fun fs hl => c16.trans (X15.returnOut hexec hret (hb hbytes d57) hl)⟩
end New4
namespace New1
def yN : MethodName := ⟨"java/lang/String", "<init>", "([C)V"⟩
abbrev yB : ByteArray := jdk_42_method_3_code
theorem d0 : decode yB 0 = .ok (.aload_n 0, 1) := by decide +kernel
theorem d1 : decode yB 1 = .ok (.aload_n 1, 1) := by decide +kernel
theorem d2 : decode yB 2 = .ok (.iconst 0, 1) := by decide +kernel
theorem d3 : decode yB 3 = .ok (.aload_n 1, 1) := by decide +kernel
theorem d4 : decode yB 4 = .ok (.arraylength, 1) := by decide +kernel
theorem d5 : decode yB 5 = .ok (.aconst_null, 1) := by decide +kernel
theorem d6 : decode yB 6 = .ok (.invokespecial 27, 3) := by decide +kernel
theorem d9 : decode yB 9 = .ok (.return_, 1) := by decide +kernel
def site : List Cond := [New4.tab] ++ initW "java/lang/String" 27 New4.yN
def tab : Cond := tabOf yN yB 2 none site
def P (a : Addr) (D : Cell) (fV fC : Field) (b : Addr) (A : Cell) (z : Int32) (args : Array Value) (s : State) : Prop := args = #[.ref a, .ref b] ∧ Blank "java/lang/String" a D s ∧ Found "java/lang/String" "value" "[B" fV s ∧ Found "java/lang/String" "coder" "B" fC s ∧ Ch b A s ∧ StaticIs s "java/lang/String" "COMPACT_STRINGS" "Z" (.int z) ∧ ¬ z = 0 ∧ 0 < A.slots.size ∧ A.slots.size ≤ 536870912 ∧ ∀ i, i < A.slots.size → ¬ 255 < cv A i
def E (a : Addr) (D : Cell) (fV fC : Field) (A : Cell) (r : Option Value) (s u : State) : Prop := Got a D fV fC A 0 A.slots.size r s u
/-- new String(chars), not empty, no char above 255: a Latin-1 String of their low bytes -/
theorem law (l : Launch) (a : Addr) (D : Cell) (fV fC : Field) (b : Addr) (A : Cell) (z : Int32) : Law l yN 2 1 3 52 yB 2 none site (P a D fV fC b A z) (E a D fV fC A) [⟨a, fC.slot⟩, ⟨a, fV.slot⟩] 1 A.slots.size := by
  refine Law.of_walk (plainFor_of_name (by decide +kernel)) (by decide +kernel) (by decide +kernel) (by decide) (fun _ _ h => by rw [h.1]; rfl) (fun _ U U' hal hh h => ⟨h.1, h.2.1.mv hal hh, h.2.2.1.al hal, h.2.2.2.1.al hal, h.2.2.2.2.1.mv hal hh, h.2.2.2.2.2.1.there hal hh, h.2.2.2.2.2.2⟩) (fun r U U' V V' h1 hal h2 h => Got.mv r U U' V V' h1 hal h2 h) ?_
  intro p e s m args below meth c s₁ X0 hexec hbytes hml hret hlk hnm hown hh0 W hP
  obtain ⟨rfl, hB, f1, f2, hA, s1, hz, l0, l2, hp⟩ := hP
  have c1 : Steps p.tables e below (s₁.setTop (entryFrame m #[.ref a, .ref b] 2)) (s₁.setTop (mkF m 0 #[.val (.ref a), .val (.ref b)] [])) := entry rfl
  have c2 : Steps p.tables e below (s₁.setTop (entryFrame m #[.ref a, .ref b] 2)) (s₁.setTop (mkF m 6 #[.val (.ref a), .val (.ref b)] [.null, .int (Int32.ofNat A.slots.size), .int 0, .ref b, .ref a])) := c1.trans (by
    refine XS.aloadN X0.here hexec rfl (hb hbytes d0) rfl rfl ?_
    refine XS.aloadN X0.here hexec rfl (hb hbytes d1) rfl rfl ?_
    refine iconstV X0.here hexec rfl 0 (hb hbytes d2) (by decide) ?_
    refine XS.aloadN X0.here hexec rfl (hb hbytes d3) rfl rfl ?_
    refine X0.alen hexec (hA.1.mv X0.warmed.alike hh0) rfl rfl (hb hbytes d4) ?_
    refine XS.aconstNull X0.here hexec rfl (hb hbytes d5) ?_
    exact Steps.refl _)
  obtain ⟨v3, T3, X3, E3, g3⟩ := X0.callN hexec (New4.law l a D fV fC b A z 0 A.slots.size) rfl hown (wks W (initW "java/lang/String" 27 New4.yN)) (W New4.tab (by simp only [site, List.mem_cons, List.mem_append, true_or, or_true])) (W := 0) (Nat.le_of_ble_eq_true rfl) (Nat.le_of_ble_eq_true rfl) (Nat.le_refl _) (by show 0 + A.slots.size ≤ A.slots.size; omega) (g := (mkF m 6 #[.val (.ref a), .val (.ref b)] [.null, .int (Int32.ofNat A.slots.size), .int (Int32.ofNat 0), .ref b, .ref a])) rfl (by rw [hml]; rfl) c2 (argsL := [.ref b, .int (Int32.ofNat 0), .int (Int32.ofNat A.slots.size), .null]) (rest := []) rfl rfl (by show 2 * 0 + 0 ≤ _; decide) (hb hbytes d6) (⟨rfl, hB.mv X0.warmed.alike hh0, f1.al X0.warmed.alike, f2.al X0.warmed.alike, hA.mv X0.warmed.alike hh0, s1.there X0.warmed.alike hh0, hz, l0, by omega, l2, fun i hi => by rw [Nat.zero_add]; exact hp i hi⟩)
  have e0 := Got.mv _ s₁ s _ _ hh0.symm (Vm.Alike.refl _) rfl E3
  obtain rfl := e0.1
  have c4 : Steps p.tables e below (s₁.setTop (entryFrame m #[.ref a, .ref b] 2)) (T3.setTop (mkF m 9 #[.val (.ref a), .val (.ref b)] [])) := g3
  exact ⟨T3, none, _, _, _, X3, by simp, rfl, by omega, (fun _ => rfl), e0, fun fs hl => c4.trans (X3.returnOut hexec hret (hb hbytes d9) hl)⟩
theorem pays {l : Launch} {R : Room} {p : Program} {e : Env} {below : List Frame} {s : State} {sargs : Array Value} {len W : Nat} (a : Addr) (D : Cell) (fV fC : Field) (b : Addr) (A : Cell) (z : Int32) (htab : tab.before sargs s = true) (hfr : 4 ≤ R.frames) (hlo : W + 65 ≤ R.locals) :
    Back l R p e below s sargs yN len W (fun A₁ a₁ => A₁.cells + 1 ≤ R.cells ∧ A₁.slots + A.slots.size ≤ R.slots ∧ P a D fV fC b A z a₁ A₁.U) (fun A₁ _ v₁ B₁ => E a D fV fC A v₁ A₁.U B₁.U ∧ B₁.locs = A₁.locs ++ [⟨a, fC.slot⟩, ⟨a, fV.slot⟩] ∧ B₁.cells = A₁.cells + 1 ∧ B₁.slots = A₁.slots + A.slots.size) :=
  (law l a D fV fC b A z).pays htab hfr (by omega)
end New1
/-- the byte, read back as charAt reads it, is the char -/
theorem lo8_mask {x : Int32} (h0 : ¬ x < 0) (h1 : ¬ 255 < x) : lo8 x &&& 255 = x := by
  have t : ∀ k : Fin 256, lo8 (Int32.ofNat k.val) &&& 255 = Int32.ofNat k.val := by decide +kernel
  rw [Int32.lt_iff_toInt_lt] at h0 h1
  have e0 : (0 : Int32).toInt = 0 := rfl
  have e1 : (255 : Int32).toInt = 255 := rfl
  obtain ⟨k, hk⟩ : ∃ k : Nat, x.toInt = k := ⟨x.toInt.toNat, by omega⟩
  have hx : x = Int32.ofNat k := Int32.toInt_inj.mp (by rw [hk, Int32.toInt_ofNat_small (by omega)])
  rw [hx]
  exact t ⟨k, by omega⟩
end StrChars
namespace StrChars.Road
open Jvm Sem ClassFile Op Lib Jvm.Stand Jvm.Free Jvm.Free.XT
open Jvm.Lib.Cold (StaticIs)
abbrev ST : String := "java/lang/String"
/-- every table word that New1's law asks, flat -/
abbrev words : List Jvm.Cond := [.code New1.yN New1.yB 2 none, .initialized ST, .methodLink ST 27 New4.yN, .instanceMethod New4.yN,
  .code New4.yN New4.yB 6 none, .fieldLink ST 38 ST "COMPACT_STRINGS" "Z", .laysFinal ST ST "value" "[B", .fieldLink ST 9 ST "value" "[B", .laysFinal ST ST "coder" "B", .fieldLink ST 15 ST "coder" "B",
  .methodLink ST 1 Lib.objectInit, .instanceMethod Lib.objectInit, .code Lib.objectInit ⟨#[0xb1]⟩ 1 none, .methodLink ST 177 Cmp3.yN, .static Cmp3.yN, .methodLink ST 47 CodL.yN, .static CodL.yN,
  .code Cmp3.yN Cmp3.yB 6 (some (.array .byte)), .initialized U16, .arrayClass .byte, .methodLink U16 115 Cmp5.yN, .static Cmp5.yN, .code Cmp5.yN Cmp5.yB 7 (some .int), .code CodL.yN CodL.yB 2 (some .byte)]
theorem tab_of {a : Array Value} {s : State} (h : ∀ w ∈ words, w.before a s = true) : New1.tab.before a s = true := by
  have h5 : Cmp5.tab.before a s = true := unparts (wk h (.code Cmp5.yN Cmp5.yB 7 (some .int))) (wks h (.initialized Cmp5.yN.cls :: Cmp5.site))
  have hc : CodL.tab.before a s = true := unparts (wk h (.code CodL.yN CodL.yB 2 (some .byte))) (wks h (.initialized CodL.yN.cls :: CodL.site))
  have q5 : ∀ w ∈ Cmp5.tab :: words, w.before a s = true := fun w hw => (List.mem_cons.mp hw).elim (fun e => e ▸ h5) (h w)
  have h3 : Cmp3.tab.before a s = true := unparts (wk q5 (.code Cmp3.yN Cmp3.yB 6 (some (.array .byte)))) (wks q5 (.initialized Cmp3.yN.cls :: Cmp3.site))
  have q3 : ∀ w ∈ Cmp3.tab :: CodL.tab :: words, w.before a s = true := fun w hw => (List.mem_cons.mp hw).elim (fun e => e ▸ h3) fun hw => (List.mem_cons.mp hw).elim (fun e => e ▸ hc) (h w)
  have h4 : New4.tab.before a s = true := unparts (wk q3 (.code New4.yN New4.yB 6 none)) (wks q3 (.initialized New4.yN.cls :: New4.site))
  have q4 : ∀ w ∈ New4.tab :: words, w.before a s = true := fun w hw => (List.mem_cons.mp hw).elim (fun e => e ▸ h4) (h w)
  exact unparts (wk q4 (.code New1.yN New1.yB 2 none)) (wks q4 (.initialized New1.yN.cls :: New1.site))
/-- the words ride from the start Z to the walk's own state -/
theorem moved {Z s : State} {a0 args : Array Value} (hZ : Z.Warmed39 s.vm) (hw : ∀ d ∈ words, d.before a0 Z = true) : ∀ d ∈ words, d.before args s = true := fun d hd => by
  have q := hw d hd
  have t : ∀ d ∈ words, d = .arrayClass .byte ∨ (d.onTables && d.keepsFace) = true := by decide +kernel
  rcases t d hd with rfl | t
  · exact RoadKit.mvA hZ q
  · exact RoadKit.mv hZ q t
/-- WHAT COMES BACK, over the tables of the start Z: h the heap at the call, h' behind it -/
def Q (Z : State) (x : Addr) (A : Cell) (h : Heap) (v : Option Value) (h' : Heap) (L : List Loc) : Prop := v = none ∧ (∀ y ∈ L, y.base = x) ∧ RoadKit.Keep h h' [x] ∧ h'.size = h.size + 1 ∧ RoadKit.Exa Z h' x ST ∧ RoadKit.Fld Z h' x ST "value" "[B" (.ref h.size) ∧ RoadKit.Fld Z h' x ST "coder" "B" (.int 0) ∧
  (∃ V : Cell, RoadKit.Arr Z h' h.size V .byte ∧ V.vm = .none ∧ Z.vm.findClass "[B" = some V.cls ∧ V.slots.size = A.slots.size ∧ ∀ j, j < A.slots.size → V.slots[j]? = some (.int (lo8 (cv A j)))) ∧
  ∀ (O n d : String) (w : Value), RoadKit.Fld Z h x O n d w → RoadKit.slotOf Z O n d ≠ RoadKit.slotOf Z ST "value" "[B" → RoadKit.slotOf Z O n d ≠ RoadKit.slotOf Z ST "coder" "B" → RoadKit.Fld Z h' x O n d w
/-- **new String(chars) AT A CALL, IN THE ROAD'S FORM**: for specialBack behind newO: x the fresh String, b the char[] with the cell A -/
theorem back {p : Program} {l : Launch} {e : Env} {R : Room} {s : State} {args : Array Value} {below : List Frame} {len W : Nat} {Z : State} {a0 : Array Value} {h : Heap} (hZ : Z.Warmed39 s.vm) (hw : ∀ d ∈ words, d.before a0 Z = true) {kI : Nat} (wi : (Jvm.Cond.instantiable ST kI).before a0 Z = true)
    {x b : Addr} {A : Cell} {z : Int32} {v0 c0 : Value} (E : RoadKit.Exa Z h x ST) (V : RoadKit.Fld Z h x ST "value" "[B" v0) (C : RoadKit.Fld Z h x ST "coder" "B" c0) (K : RoadKit.Arr Z h b A .char) (hty : Typed .char A) (S : RoadKit.Sta Z h ST "COMPACT_STRINGS" "Z" (.int z)) (hz : ¬ z = 0)
    (l0 : 0 < A.slots.size) (l2 : A.slots.size ≤ 536870912) (hp : ∀ i, i < A.slots.size → ¬ 255 < cv A i) (hfr : 4 ≤ R.frames) (hlo : W + 65 ≤ R.locals) :
    Back l R p e below s args New1.yN len W (fun P a => a = #[.ref x, .ref b] ∧ P.U.heap = h ∧ P.cells + 1 ≤ R.cells ∧ P.slots + A.slots.size ≤ R.slots)
      (fun P _ v B => ∃ L, Q Z x A h v B.U.heap L ∧ B.locs = P.locs ++ L ∧ B.cells = P.cells + 1 ∧ B.slots = P.slots + A.slots.size) := by
  intro m meth c P g ig mk a X hg hsize hdg hW hn hp'
  obtain ⟨rfl, rfl, r1, r2⟩ := hp'
  have al : Z.vm.Alike P.U.vm := hZ.alike.trans X.warmed.alike
  obtain ⟨D, cfV, kV, iV, fV, hD, gV, stV, knV, obV, asV, slV⟩ := id V
  obtain ⟨D', cfC, kC, iC, fC, hD', gC, stC, -, -, asC, slC⟩ := id C
  cases hD.symm.trans hD'
  obtain ⟨D2, kD, e1, e2, e3, e4, e5⟩ := id E
  cases hD.symm.trans e1
  obtain ⟨c2, k2, i1, i2, i3, -⟩ := Cond.instantiable_spec wi
  cases e2.symm.trans i1
  cases e3.symm.trans i2
  obtain ⟨kU, u1, u2⟩ := al.2.2 _ _ e3
  have hB : Blank ST x D P.U := ⟨hD, ⟨knV, fun q hq => by rw [hq] at obV; cases obV⟩, by rw [al.findClass]; exact e2, kU, u1, by rw [u2]; exact i3, by rw [u2]; exact e5 i3⟩
  have F1 : Found ST "value" "[B" fV P.U := ⟨SBG.found_only al ⟨cfV, kV, iV, gV⟩, stV⟩
  have F2 : Found ST "coder" "B" fC P.U := ⟨SBG.found_only al ⟨cfC, kC, iC, gC⟩, stC⟩
  have hA : Ch b A P.U := ⟨⟨K.1, State.isArrayOf_alike al K.2.1, K.2.2, by omega⟩, hty⟩
  have hS : StaticIs P.U ST "COMPACT_STRINGS" "Z" (.int z) := by
    obtain ⟨cfS, iS, kS, fS, st, cS, t1, t2, t3, t4, t5, t6, t7⟩ := S
    exact StaticIs.there (s := { Z with heap := P.U.heap }) ⟨cfS, iS, kS, fS, st, cS, t1, t2, t3, t4, t5, (fun q => by rw [q] at t6; cases t6), t7⟩ al rfl
  obtain ⟨v, B, X', ⟨⟨hv, E', V', q1, q2, q3, q4, q5, q6, q7, q8, q9, q10, q11⟩, hl, hc, hs⟩, st⟩ := New1.pays x D fV fC b A z (tab_of (moved hZ hw)) hfr hlo m meth c P g ig mk _ X hg hsize hdg hW hn ⟨r1, r2, rfl, hB, F1, F2, hA, hS, hz, l0, l2, hp⟩
  have al' : Z.vm.Alike B.U.vm := hZ.alike.trans X'.warmed.alike
  have hsz : E'.slots.size = D.slots.size := by
    obtain ⟨-, -, -, kB, w1, w2, w3⟩ := q1
    obtain ⟨kB', y1, y2⟩ := al'.2.2 _ _ e3
    rw [q2.2.1] at w1
    cases w1.symm.trans y1
    rw [w3, e5 i3, y2]
  refine ⟨v, B, X', ⟨_, ⟨hv, ?_, ⟨by omega, fun y cy hy hn' => q10 y cy (by simpa using hn') hy, fun y cy hy => ?_⟩, q11, ⟨E', _, q1.1, by rw [q2.2.1]; exact e2, by rw [q2.2.1]; exact e3, by rw [q2.1]; exact obV, fun _ => by rw [hsz]; exact e5 i3⟩,
    ⟨E', cfV, kV, iV, fV, q1.1, gV, stV, by rw [q2.1]; exact knV, by rw [q2.1]; exact obV, by rw [q2.2.1]; exact asV, q3⟩, ⟨E', cfC, kC, iC, fC, q1.1, gC, stC, by rw [q2.1]; exact knV, by rw [q2.1]; exact obV, by rw [q2.2.1]; exact asC, q4⟩,
    ⟨V', ⟨q5.1, State.isArrayOf_alike al'.symm q5.2.1, q5.2.2.1⟩, q6, by rw [← al'.findClass]; exact q7, q8, fun j hj => by have := q9 j hj; rwa [Nat.zero_add] at this⟩, fun O n d w F n1 n2 => ?_⟩, hl, hc, hs⟩, st⟩
  · intro y hy
    simp only [List.mem_cons, List.not_mem_nil, or_false] at hy
    rcases hy with rfl | rfl <;> rfl
  · by_cases q : y = x
    · subst q
      cases hD.symm.trans hy
      exact ⟨E', q1.1, q2.2.1, q2.1, hsz⟩
    · exact ⟨cy, q10 y cy q hy, rfl, rfl, rfl⟩
  · obtain ⟨D3, cf, k, i, f, g1, g2, g3, g4, g5, g6, g7⟩ := F
    cases hD.symm.trans g1
    simp only [RoadKit.slotOf, g2, gV, gC, Option.map_some, Option.getD_some] at n1 n2
    exact ⟨E', cf, k, i, f, q1.1, g2, g3, by rw [q2.1]; exact g4, by rw [q2.1]; exact g5, by rw [q2.2.1]; exact g6, by rw [q2.2.2 f.slot (by simp [n1, n2])]; exact g7⟩
end StrChars.Road
namespace StrChars.Road
open Jvm Sem ClassFile Op Lib Jvm.Stand Jvm.Free Jvm.Free.XT
/-- WHAT COMES BACK, the byte[] as a list of values -/
def QA (Z : State) (x : Addr) (zn : Int32) (cs : List Int32) (h : Heap) (v : Option Value) (h' : Heap) (L : List Loc) : Prop := v = none ∧ (∀ y ∈ L, y.base = x) ∧ RoadKit.Keep h h' [x] ∧ h'.size = h.size + 1 ∧ RoadKit.Exa Z h' x ST ∧ RoadKit.Fld Z h' x ST "value" "[B" (.ref h.size) ∧ RoadKit.Fld Z h' x ST "coder" "B" (.int 0) ∧
  (∃ kb, Z.vm.findClass "[B" = some kb ∧ RoadKit.Arv Z h' h.size kb .byte zn (cs.map fun c => .int (lo8 c)) (.int 0)) ∧
  ∀ (O n d : String) (w : Value), RoadKit.Fld Z h x O n d w → RoadKit.slotOf Z O n d ≠ RoadKit.slotOf Z ST "value" "[B" → RoadKit.slotOf Z O n d ≠ RoadKit.slotOf Z ST "coder" "B" → RoadKit.Fld Z h' x O n d w
/-- **new String(chars) AT A CALL, THE ARRAYS AS LISTS**: the char[] at b holds cs, not empty, no char above 255 -/
theorem backArv {p : Program} {l : Launch} {e : Env} {R : Room} {s : State} {args : Array Value} {below : List Frame} {len W : Nat} {Z : State} {a0 : Array Value} {h : Heap} (hZ : Z.Warmed39 s.vm) (hw : ∀ d ∈ words, d.before a0 Z = true) {kI : Nat} (wi : (Jvm.Cond.instantiable ST kI).before a0 Z = true)
    {x b : Addr} {k : ClassId} {zn z : Int32} {cs : List Int32} {dv v0 c0 : Value} (E : RoadKit.Exa Z h x ST) (V : RoadKit.Fld Z h x ST "value" "[B" v0) (C : RoadKit.Fld Z h x ST "coder" "B" c0) (K : RoadKit.Arv Z h b k .char zn (cs.map Value.int) dv) (S : RoadKit.Sta Z h ST "COMPACT_STRINGS" "Z" (.int z)) (hz : ¬ z = 0)
    (hlen : zn.toNatClampNeg = cs.length) (h0 : 0 < cs.length) (hbig : cs.length ≤ 536870912) (hall : ∀ c ∈ cs, ¬ 255 < c) (hfr : 4 ≤ R.frames) (hlo : W + 65 ≤ R.locals) :
    Back l R p e below s args New1.yN len W (fun P a => a = #[.ref x, .ref b] ∧ P.U.heap = h ∧ P.cells + 1 ≤ R.cells ∧ P.slots + cs.length ≤ R.slots)
      (fun P _ v B => ∃ L, QA Z x zn cs h v B.U.heap L ∧ B.locs = P.locs ++ L ∧ B.cells = P.cells + 1 ∧ B.slots = P.slots + cs.length) := by
  obtain ⟨A, K1, K2, K3, K4, K5, K6⟩ := K
  have e : A.slots.size = cs.length := K3.trans hlen
  have hat : ∀ (i : Nat) (hi : i < cs.length), A.slots[i]? = some (.int cs[i]) := fun i hi => by rw [K5 i (by omega)]; simp [List.getD_eq_getElem?_getD, hi]
  have hcv : ∀ (i : Nat) (hi : i < cs.length), cv A i = cs[i] := fun i hi => by unfold cv; rw [hat i hi]
  have hty : Typed .char A := fun i v hv => by
    have hi : i < A.slots.size := (Array.getElem?_eq_some_iff.mp hv).1
    have q := K5 i hi
    rw [hv] at q
    rw [Option.some.inj q]
    exact K6 i hi
  refine Back.mono (back hZ hw wi E V C K1 hty S hz (by omega) (by omega) (fun i hi => by rw [hcv i (by omega)]; exact hall _ (List.getElem_mem _)) hfr hlo) (fun P a hp => ⟨hp.1, hp.2.1, hp.2.2.1, by rw [e]; exact hp.2.2.2⟩) (fun P a v B hp hq => ?_)
  obtain ⟨L, ⟨q1, q2, q3, q4, q5, q6, q7, ⟨V', v1, v2, v3, v4, v5⟩, q9⟩, hl, hc, hs⟩ := hq
  refine ⟨L, ⟨q1, q2, q3, q4, q5, q6, q7, ⟨V'.cls, v3, V', v1, rfl, by rw [v4, e, hlen], K4, fun i hi => ?_, fun i hi => ?_⟩, q9⟩, hl, hc, by rw [hs, e]⟩
  · have hi' : i < cs.length := by omega
    rw [v5 i (by omega), hcv i hi']; simp [List.getD_eq_getElem?_getD, hi']
  · have hi' : i < cs.length := by omega
    simp only [List.getD_eq_getElem?_getD, List.getElem?_map, List.getElem?_eq_getElem hi', Option.map_some, Option.getD_some]
    exact fits_lo8 _
end StrChars.Road
namespace StrChars.Road
open Jvm Sem ClassFile Op Lib Jvm.Stand Jvm.Free Jvm.Free.XT
/-- WHAT COMES BACK, in the writer's own shape -/
def QV (Z : State) (x : Addr) (N : Int32) (bs : List Int32) (h : Heap) (n0 : Nat) (v : Option Value) (h' : Heap) (L : List Loc) : Prop := v = none ∧ RoadKit.Fr n0 L ∧ RoadKit.Keep h h' [x] ∧ RoadKit.Exa Z h' x ST ∧ RoadKit.Fld Z h' x ST "coder" "B" (.int 0) ∧
  ∃ (t : Addr) (kb : ClassId), n0 ≤ t ∧ h.size ≤ t ∧ ¬ t = x ∧ RoadKit.Fld Z h' x ST "value" "[B" (.ref t) ∧ RoadKit.Arv Z h' t kb .byte N (bs.map Value.int) (.int 0)
/-- **new String(chars) AT A CALL, FOR THE WRITER**: a char[] of n known ints, each 0 to 255 -/
theorem backV {p : Program} {l : Launch} {e : Env} {R : Room} {s : State} {args : Array Value} {below : List Frame} {len W : Nat} {Z : State} {a0 : Array Value} {h : Heap} (hZ : Z.Warmed39 s.vm) (hw : ∀ d ∈ words, d.before a0 Z = true) {kI : Nat} (wi : (Jvm.Cond.instantiable ST kI).before a0 Z = true)
    {x b : Addr} {kC : ClassId} {cs bs : List Int32} {d v0 c0 : Value} {z N : Int32} {n n0 : Nat} (hx0 : n0 ≤ x) (hh0 : n0 ≤ h.size) (E : RoadKit.Exa Z h x ST) (V : RoadKit.Fld Z h x ST "value" "[B" v0) (C : RoadKit.Fld Z h x ST "coder" "B" c0) (K : RoadKit.Arv Z h b kC .char N (cs.map Value.int) d) (S : RoadKit.Sta Z h ST "COMPACT_STRINGS" "Z" (.int z)) (hz : ¬ z = 0)
    (hn : cs.length = n) (hN : N = Int32.ofNat n) (l0 : 0 < n) (l2 : n ≤ 4000) (hp : ∀ c ∈ cs, ¬ c < 0 ∧ ¬ (255 : Int32) < c) (hb : bs = cs.map (fun c => c.toInt8.toInt32)) (hfr : 4 ≤ R.frames) (hlo : W + 65 ≤ R.locals) :
    Back l R p e below s args (⟨"java/lang/String", "<init>", "([C)V"⟩ : MethodName) len W (fun P a => a = #[.ref x, .ref b] ∧ P.U.heap = h ∧ P.cells + 1 ≤ R.cells ∧ P.slots + n ≤ R.slots)
      (fun P _ v B => ∃ L, QV Z x N bs h n0 v B.U.heap L ∧ B.locs = P.locs ++ L ∧ B.cells = P.cells + 1 ∧ B.slots = P.slots + n) := by
  subst hn hN hb
  refine Back.mono (backArv hZ hw wi E V C K S hz (n32 (by omega)) l0 (by omega) (fun c hc => (hp c hc).2) hfr hlo) (fun P a hp => hp) (fun P a v B hp hq => ?_)
  obtain ⟨L, ⟨q1, q2, q3, q4, q5, q6, q7, ⟨kb, v1, v2⟩, q9⟩, hl, hc, hs⟩ := hq
  exact ⟨L, ⟨q1, fun y hy => by rw [q2 y hy]; exact hx0, q3, q5, q7, h.size, kb, hh0, Nat.le_refl _, Nat.ne_of_gt E.lt, q6, by rw [List.map_map]; exact v2⟩, hl, hc, hs⟩
end StrChars.Road
namespace StrChars
open Jvm Sem ClassFile Op Lib Jvm.Stand Jvm.Free.XT Jvm.Free.ALB Jvm.Free.JM Jvm.Free
open Jvm.Lib.Cold (StaticIs)
def hi8 (x : Int32) : Int32 := lo8 (x >>> ((8 : Int32) &&& 31))
/-- what StringUTF16.getChar makes of two bytes -/
def pairCh (u v : Int32) : Int32 := (((u &&& 255) <<< ((0 : Int32) &&& 31)) ||| ((v &&& 255) <<< ((8 : Int32) &&& 31))).toUInt32.toUInt16.toUInt32.toInt32
theorem lo8_and (x : Int32) : (lo8 x &&& 255).toBitVec.toNat = x.toBitVec.toNat % 256 := by
  have h : (lo8 x).toBitVec = (x.toBitVec.signExtend 8).signExtend 32 := by rw [lo8, Int8.toBitVec_toInt32, Int32.toBitVec_toInt8]
  rw [Int32.toBitVec_and, BitVec.toNat_and, h]
  have e : ((x.toBitVec.signExtend 8).signExtend 32).toNat % 256 = x.toBitVec.toNat % 256 := by
    rw [BitVec.toNat_signExtend]
    have hlt := x.toBitVec.isLt
    simp only [BitVec.toNat_setWidth, BitVec.toNat_signExtend]
    split <;> split <;> omega
  rw [← e]
  exact Nat.and_two_pow_sub_one_eq_mod _ 8
theorem pair_says {c : Int32} (h0 : ¬ c < 0) (h1 : ¬ 65535 < c) : pairCh (lo8 c) (hi8 c) = c := by
  rw [Int32.lt_iff_toInt_lt] at h0 h1
  have e0 : (0 : Int32).toInt = 0 := rfl
  have e1 : (65535 : Int32).toInt = 65535 := rfl
  have hc : c.toInt = c.toBitVec.toNat := by
    have := c.toBitVec.isLt
    have e : c.toInt = c.toBitVec.toInt := rfl
    rw [e] at h0 h1
    rw [e]
    rw [BitVec.toInt_eq_toNat_cond] at h0 h1 ⊢
    split at h0 <;> split <;> omega
  have hn : c.toBitVec.toNat < 65536 := by omega
  have a1 := lo8_and c
  have a2 : (hi8 c &&& 255).toBitVec.toNat = c.toBitVec.toNat / 256 := by
    rw [hi8, lo8_and]
    have e : ((8 : Int32) &&& 31) = 8 := by decide
    rw [e, Int32.toBitVec_shiftRight]
    have e2 : ((8 : Int32).toBitVec.smod 32) = 8#32 := by decide
    rw [e2, BitVec.sshiftRight_eq', BitVec.toNat_sshiftRight_of_msb_false (by rw [BitVec.msb_eq_false_iff_two_mul_lt]; omega)]
    show c.toBitVec.toNat >>> 8 % 256 = _
    rw [Nat.shiftRight_eq_div_pow]
    omega
  unfold pairCh
  apply Int32.toBitVec_inj.mp
  apply BitVec.eq_of_toNat_eq
  have f0 : ((0 : Int32) &&& 31) = 0 := by decide
  have f8 : ((8 : Int32) &&& 31) = 8 := by decide
  rw [f0, f8]
  have g : (((lo8 c &&& 255) <<< (0 : Int32)) ||| ((hi8 c &&& 255) <<< (8 : Int32))).toBitVec.toNat = c.toBitVec.toNat := by
    rw [Int32.toBitVec_or, Int32.toBitVec_shiftLeft, Int32.toBitVec_shiftLeft]
    have s0 : ((0 : Int32).toBitVec.smod 32) = 0#32 := by decide
    have s8 : ((8 : Int32).toBitVec.smod 32) = 8#32 := by decide
    rw [s0, s8, BitVec.toNat_or]
    simp only [BitVec.shiftLeft_eq', BitVec.toNat_shiftLeft, a1, a2]
    show (c.toBitVec.toNat % 256) <<< 0 % 2 ^ 32 ||| (c.toBitVec.toNat / 256) <<< 8 % 2 ^ 32 = _
    rw [Nat.shiftLeft_zero, Nat.mod_eq_of_lt (show c.toBitVec.toNat % 256 < 2 ^ 32 by omega), Nat.mod_eq_of_lt (show (c.toBitVec.toNat / 256) <<< 8 < 2 ^ 32 by rw [Nat.shiftLeft_eq]; omega), Nat.or_comm, ← Nat.shiftLeft_add_eq_or_of_lt (by omega), Nat.shiftLeft_eq]
    omega
  show BitVec.toNat (((((lo8 c &&& 255) <<< (0 : Int32)) ||| ((hi8 c &&& 255) <<< (8 : Int32))).toBitVec.setWidth 16).setWidth 32) = _
  rw [BitVec.toNat_setWidth, BitVec.toNat_setWidth, g]
  omega
end StrChars
namespace StrChars
open Jvm Sem ClassFile Op Lib Jvm.Stand Jvm.Free.XT Jvm.Free.ALB Jvm.Free.JM Jvm.Free
open Jvm.Lib.Cold (StaticIs)
/-- the array's cell V codes the n chars f 0 .. f (n - 1) by the coder cd, as the JDK does: coder 1 just where some char is above 255 -/
def Cod (cd : Int32) (n : Nat) (f : Nat → Int32) (V : Cell) : Prop := (cd = 0 ∧ V.slots.size = n ∧ ∀ j, j < n → V.slots[j]? = some (.int (lo8 (f j))) ∧ ¬ 255 < f j) ∨ (cd = 1 ∧ V.slots.size = 2 * n ∧ (∀ j, j < n → V.slots[2 * j]? = some (.int (lo8 (f j))) ∧ V.slots[2 * j + 1]? = some (.int (hi8 (f j)))) ∧ ∃ j, j < n ∧ 255 < f j)
/-- **x is a String of the n chars f 0 .. f (n - 1)**, Latin-1 or UTF-16; its array at t has the cell V -/
def Txt (x t : Addr) (V : Cell) (cd : Int32) (n : Nat) (f : Nat → Int32) (U : State) : Prop := Exact "java/lang/String" x U ∧ Has x "java/lang/String" "value" "[B" (.ref t) U ∧ Has x "java/lang/String" "coder" "B" (.int cd) U ∧ XT.Arr .byte t V U ∧ Cod cd n f V ∧ ∀ j, j < n → ¬ f j < 0 ∧ ¬ 65535 < f j
theorem Txt.mv {x t : Addr} {V : Cell} {cd : Int32} {n : Nat} {f : Nat → Int32} {U U' : State} (h : Txt x t V cd n f U) (hal : U.vm.Alike U'.vm) (hh : U'.heap = U.heap) : Txt x t V cd n f U' := ⟨h.1.mv hal hh, h.2.1.mv hal hh, h.2.2.1.mv hal hh, h.2.2.2.1.mv hal hh, h.2.2.2.2⟩
end StrChars
namespace StrChars.Road
open Jvm Sem ClassFile Op Lib Jvm.Stand Jvm.Free Jvm.Free.XT
open Jvm.Lib.Cold (StaticIs)
theorem consq {a : Array Value} {s : State} {c : Jvm.Cond} {L : List Jvm.Cond} (h0 : c.before a s = true) (h : ∀ w ∈ L, w.before a s = true) : ∀ w ∈ c :: L, w.before a s = true := fun w hw => (List.mem_cons.mp hw).elim (fun e => e ▸ h0) (h w)
/-- the bytes of the chars cs, low before high -/
def wideBytes : List Int32 → List Value
  | [] => []
  | c :: cs => .int (lo8 c) :: .int (hi8 c) :: wideBytes cs
theorem wide_lo (d : Value) : ∀ (cs : List Int32) (j : Nat), j < cs.length → (wideBytes cs).getD (2 * j) d = .int (lo8 (cs.getD j 0))
  | [], j, h => absurd h (Nat.not_lt_zero j)
  | c :: cs, 0, _ => rfl
  | c :: cs, j + 1, h => by
    have q := wide_lo d cs j (by simpa using h)
    rw [show 2 * (j + 1) = 2 * j + 1 + 1 from by omega]
    simpa [wideBytes] using q
theorem wide_hi (d : Value) : ∀ (cs : List Int32) (j : Nat), j < cs.length → (wideBytes cs).getD (2 * j + 1) d = .int (hi8 (cs.getD j 0))
  | [], j, h => absurd h (Nat.not_lt_zero j)
  | c :: cs, 0, _ => rfl
  | c :: cs, j + 1, h => by
    have q := wide_hi d cs j (by simpa using h)
    rw [show 2 * (j + 1) + 1 = 2 * j + 1 + 1 + 1 from by omega]
    simpa [wideBytes] using q
theorem low_at (d : Value) (cs : List Int32) (j : Nat) (h : j < cs.length) : (cs.map fun c => Value.int (lo8 c)).getD j d = .int (lo8 (cs.getD j 0)) := by
  simp [List.getD_eq_getElem?_getD, h]
/-- an array of N2 bytes vs codes the chars cs by the coder cd -/
def CodA (cs : List Int32) (cd N2 : Int32) (vs : List Value) : Prop := (cd = 0 ∧ N2 = Int32.ofNat cs.length ∧ vs = (cs.map fun c => Value.int (lo8 c)) ∧ ∀ c ∈ cs, ¬ 255 < c) ∨ (cd = 1 ∧ N2 = Int32.ofNat (2 * cs.length) ∧ vs = wideBytes cs ∧ ∃ c ∈ cs, 255 < c)
theorem CodA.cod {cs : List Int32} {cd N2 : Int32} {vs : List Value} {V : Cell} (h : CodA cs cd N2 vs) (hn : 2 * cs.length < 2 ^ 31) (hs : V.slots.size = N2.toNatClampNeg) (hv : RoadKit.Has V vs (.int 0)) : Cod cd cs.length (fun j => cs.getD j 0) V := by
  rcases h with ⟨rfl, rfl, rfl, h⟩ | ⟨rfl, rfl, rfl, c, hc, hw⟩
  · rw [n32 (by omega)] at hs
    exact Or.inl ⟨rfl, hs, fun j hj => ⟨by rw [hv j (by omega), low_at _ _ _ hj], by
      have e : cs.getD j 0 = cs[j] := by simp [List.getD_eq_getElem?_getD, hj]
      show ¬ 255 < cs.getD j 0
      rw [e]; exact h _ (List.getElem_mem _)⟩⟩
  · rw [n32 (by omega)] at hs
    obtain ⟨j, hj, rfl⟩ := List.getElem_of_mem hc
    exact Or.inr ⟨rfl, hs, fun j hj => ⟨by rw [hv _ (by omega), wide_lo _ _ _ hj], by rw [hv _ (by omega), wide_hi _ _ _ hj]⟩, j, hj, by
      have e : cs.getD j 0 = cs[j] := by simp [List.getD_eq_getElem?_getD, hj]
      show 255 < cs.getD j 0
      rw [e]; exact hw⟩
/-- an object of exactly java/lang/String, its two fields found: as the laws ask it -/
theorem strObj {Z U : State} {a0 : Array Value} {kI : Nat} (wi : (Jvm.Cond.instantiable ST kI).before a0 Z = true) (al : Z.vm.Alike U.vm) {x : Addr} {v0 c0 : Value} (E : RoadKit.Exa Z U.heap x ST) (V : RoadKit.Fld Z U.heap x ST "value" "[B" v0) (C : RoadKit.Fld Z U.heap x ST "coder" "B" c0) :
    ∃ (D : Cell) (fV fC : Field), Blank ST x D U ∧ Found ST "value" "[B" fV U ∧ Found ST "coder" "B" fC U ∧ D.slots[fV.slot]? = some v0 ∧ D.slots[fC.slot]? = some c0 ∧ RoadKit.slotOf Z ST "value" "[B" = fV.slot ∧ RoadKit.slotOf Z ST "coder" "B" = fC.slot := by
  obtain ⟨D, cfV, kV, iV, fV, hD, gV, stV, knV, obV, asV, slV⟩ := V
  obtain ⟨D', cfC, kC, iC, fC, hD', gC, stC, -, -, asC, slC⟩ := C
  cases hD.symm.trans hD'
  obtain ⟨D2, kD, e1, e2, e3, e4, e5⟩ := E
  cases hD.symm.trans e1
  obtain ⟨c2, k2, i1, i2, i3, -⟩ := Cond.instantiable_spec wi
  cases e2.symm.trans i1
  cases e3.symm.trans i2
  obtain ⟨kU, u1, u2⟩ := al.2.2 _ _ e3
  exact ⟨D, fV, fC, ⟨hD, ⟨knV, fun q hq => by rw [hq] at obV; cases obV⟩, by rw [al.findClass]; exact e2, kU, u1, by rw [u2]; exact i3, by rw [u2]; exact e5 i3⟩, ⟨SBG.found_only al ⟨cfV, kV, iV, gV⟩, stV⟩, ⟨SBG.found_only al ⟨cfC, kC, iC, gC⟩, stC⟩, slV, slC, by simp [RoadKit.slotOf, gV], by simp [RoadKit.slotOf, gC]⟩
theorem sta_is {Z U : State} (al : Z.vm.Alike U.vm) {C n d : String} {v : Value} (S : RoadKit.Sta Z U.heap C n d v) : StaticIs U C n d v := by
  obtain ⟨cfS, iS, kS, fS, st, cS, t1, t2, t3, t4, t5, t6, t7⟩ := S
  exact StaticIs.there (s := { Z with heap := U.heap }) ⟨cfS, iS, kS, fS, st, cS, t1, t2, t3, t4, t5, (fun q => by rw [q] at t6; cases t6), t7⟩ al rfl
end StrChars.Road
namespace StrChars
open Jvm Sem ClassFile Op Lib Jvm.Stand Jvm.Free.XT Jvm.Free.ALB Jvm.Free.JM Jvm.Free
open Jvm.Lib.Cold (StaticIs)
/-- what place i of a byte[]'s cell holds -/
def yv (A : Cell) (i : Nat) : Int32 := match A.slots[i]? with | some (.int x) => x | _ => 0
theorem yv_get {a : Addr} {A : Cell} {U : State} (h : XT.Arr .byte a A U) (ht : Typed .byte A) {i : Nat} (hi : i < A.slots.size) : A.slots[i]? = some (.int (yv A i)) := by
  have e := Array.getElem?_eq_getElem hi
  have f := ht i _ e
  unfold yv; rw [e]
  generalize A.slots[i] = v at f
  cases v <;> simp [fits] at f ⊢
/-- the two arrays are equal, place for place -/
def EqC (A B : Cell) : Prop := A.slots.size = B.slots.size ∧ ∀ i, i < A.slots.size → yv A i = yv B i
/-- a boolean that says whether p -/
def Says01 (q : Prop) (r : Option Value) (s u : State) : Prop := ∃ v : Int32, r = some (.int v) ∧ u.heap = s.heap ∧ ((v = 1 ∧ q) ∨ (v = 0 ∧ ¬ q))
theorem Says01.mv {q : Prop} : ∀ r (U U' V V' : State), U'.heap = U.heap → V.vm.Alike V'.vm → V'.heap = V.heap → Says01 q r U V → Says01 q r U' V' :=
  fun r U U' V V' h1 _ h2 ⟨v, a, b, c⟩ => ⟨v, a, by rw [h1, h2]; exact b, c⟩
namespace LEq
def yN : MethodName := ⟨"java/lang/StringLatin1", "equals", "([B[B)Z"⟩
abbrev yB : ByteArray := jdk_43_method_13_code
theorem d0 : decode yB 0 = .ok (.aload_n 0, 1) := by decide +kernel
theorem d1 : decode yB 1 = .ok (.arraylength, 1) := by decide +kernel
theorem d2 : decode yB 2 = .ok (.aload_n 1, 1) := by decide +kernel
theorem d3 : decode yB 3 = .ok (.arraylength, 1) := by decide +kernel
theorem d4 : decode yB 4 = .ok (.if_icmp (.ne) 30, 3) := by decide +kernel
theorem d7 : decode yB 7 = .ok (.iconst 0, 1) := by decide +kernel
theorem d8 : decode yB 8 = .ok (.istore_n 2, 1) := by decide +kernel
theorem d9 : decode yB 9 = .ok (.iload_n 2, 1) := by decide +kernel
theorem d10 : decode yB 10 = .ok (.aload_n 0, 1) := by decide +kernel
theorem d11 : decode yB 11 = .ok (.arraylength, 1) := by decide +kernel
theorem d12 : decode yB 12 = .ok (.if_icmp (.ge) 20, 3) := by decide +kernel
theorem d15 : decode yB 15 = .ok (.aload_n 0, 1) := by decide +kernel
theorem d16 : decode yB 16 = .ok (.iload_n 2, 1) := by decide +kernel
theorem d17 : decode yB 17 = .ok (.baload, 1) := by decide +kernel
theorem d18 : decode yB 18 = .ok (.aload_n 1, 1) := by decide +kernel
theorem d19 : decode yB 19 = .ok (.iload_n 2, 1) := by decide +kernel
theorem d20 : decode yB 20 = .ok (.baload, 1) := by decide +kernel
theorem d21 : decode yB 21 = .ok (.if_icmp (.eq) 5, 3) := by decide +kernel
theorem d24 : decode yB 24 = .ok (.iconst 0, 1) := by decide +kernel
theorem d25 : decode yB 25 = .ok (.ireturn, 1) := by decide +kernel
theorem d26 : decode yB 26 = .ok (.iinc 2 1, 3) := by decide +kernel
theorem d29 : decode yB 29 = .ok (.goto (-20), 3) := by decide +kernel
theorem d32 : decode yB 32 = .ok (.iconst 1, 1) := by decide +kernel
theorem d33 : decode yB 33 = .ok (.ireturn, 1) := by decide +kernel
theorem d34 : decode yB 34 = .ok (.iconst 0, 1) := by decide +kernel
theorem d35 : decode yB 35 = .ok (.ireturn, 1) := by decide +kernel
def site : List Cond := []
def tab : Cond := tabOf yN yB 3 (some .boolean) site
def P (a : Addr) (A : Cell) (b : Addr) (B : Cell) (args : Array Value) (s : State) : Prop := args = #[.ref a, .ref b] ∧ XT.Arr .byte a A s ∧ Typed .byte A ∧ XT.Arr .byte b B s ∧ Typed .byte B
/-- whether two byte[] are equal, place for place -/
theorem law (l : Launch) (a : Addr) (A : Cell) (b : Addr) (B : Cell) : Law l yN 2 2 0 0 yB 3 (some .boolean) site (P a A b B) (Says01 (EqC A B)) [] 0 0 := by
  refine Law.of_walk (plainFor_of_name (by decide +kernel)) (by decide +kernel) (by decide +kernel) (by decide) (fun _ _ h => by rw [h.1]; rfl) (fun _ U U' hal hh h => ⟨h.1, h.2.1.mv hal hh, h.2.2.1, h.2.2.2.1.mv hal hh, h.2.2.2.2⟩) (fun r U U' V V' h1 hal h2 h => Says01.mv r U U' V V' h1 hal h2 h) ?_
  intro p e s m args below meth c s₁ X0 hexec hbytes hml hret hlk hnm hown hh0 W hP
  obtain ⟨rfl, hA, tA, hB, tB⟩ := hP
  have a31 := hA.2.2.2
  have b31 := hB.2.2.2
  have hA0 := hA.mv X0.warmed.alike hh0
  have hB0 := hB.mv X0.warmed.alike hh0
  have c1 : Steps p.tables e below (s₁.setTop (entryFrame m #[.ref a, .ref b] 3)) (s₁.setTop (mkF m 0 #[.val (.ref a), .val (.ref b), .unset] [])) := entry rfl
  have c2 : Steps p.tables e below (s₁.setTop (entryFrame m #[.ref a, .ref b] 3)) (s₁.setTop (mkF m 4 #[.val (.ref a), .val (.ref b), .unset] [.int (Int32.ofNat B.slots.size), .int (Int32.ofNat A.slots.size)])) := c1.trans (by
    refine XS.aloadN X0.here hexec rfl (hb hbytes d0) rfl rfl ?_
    refine X0.alen hexec hA0 rfl rfl (hb hbytes d1) ?_
    refine XS.aloadN X0.here hexec rfl (hb hbytes d2) rfl rfl ?_
    refine X0.alen hexec hB0 rfl rfl (hb hbytes d3) ?_
    exact Steps.refl _)
  by_cases hs : A.slots.size = B.slots.size
  · have c3 : Steps p.tables e below (s₁.setTop (entryFrame m #[.ref a, .ref b] 3)) (s₁.setTop (mkF m 9 #[.val (.ref a), .val (.ref b), .val (.int 0)] [])) := c2.trans (by
      refine XS.icmpNo X0.here hexec rfl (hb hbytes d4) rfl (ii_ne_f (by rw [hs])) ?_
      refine iconstV X0.here hexec rfl 0 (hb hbytes d7) (by decide) ?_
      refine XS.istoreN X0.here hexec rfl (hb hbytes d8) rfl rfl ?_
      exact Steps.refl _)
    have loop : ∀ (r i : Nat), i + r = A.slots.size → (∀ j, j < i → yv A j = yv B j) → Steps p.tables e below (s₁.setTop (entryFrame m #[.ref a, .ref b] 3)) (s₁.setTop (mkF m 9 #[.val (.ref a), .val (.ref b), .val (.int (Int32.ofNat i))] [])) → ∃ (pc : Nat) (Ls : Array Slot) (v : Int32), (pc = 25 ∨ pc = 33) ∧ ((v = 1 ∧ EqC A B) ∨ (v = 0 ∧ ¬ EqC A B)) ∧ Steps p.tables e below (s₁.setTop (entryFrame m #[.ref a, .ref b] 3)) (s₁.setTop (mkF m pc Ls [.int v])) := by
      intro r
      induction r with
      | zero =>
        intro i hi he cl
        exact ⟨33, _, 1, Or.inr rfl, Or.inl ⟨rfl, hs, fun j hj => he j (by omega)⟩, cl.trans (by
          refine XS.iloadN X0.here hexec rfl (hb hbytes d9) rfl ?_
          refine XS.aloadN X0.here hexec rfl (hb hbytes d10) rfl rfl ?_
          refine X0.alen hexec hA0 rfl rfl (hb hbytes d11) ?_
          refine XS.icmpYes X0.here hexec rfl (pc0 := 12) rfl (hb hbytes d12) rfl (ii_ge_t (nlt32 (by omega) (by omega))) (by decide) rfl ?_
          refine iconstV X0.here hexec rfl 1 (hb hbytes d32) (by decide) ?_
          exact Steps.refl _)⟩
      | succ r ih =>
        intro i hi he cl
        have c4 : Steps p.tables e below (s₁.setTop (entryFrame m #[.ref a, .ref b] 3)) (s₁.setTop (mkF m 21 #[.val (.ref a), .val (.ref b), .val (.int (Int32.ofNat i))] [.int (yv B i), .int (yv A i)])) := cl.trans (by
          refine XS.iloadN X0.here hexec rfl (hb hbytes d9) rfl ?_
          refine XS.aloadN X0.here hexec rfl (hb hbytes d10) rfl rfl ?_
          refine X0.alen hexec hA0 rfl rfl (hb hbytes d11) ?_
          refine XS.icmpNo X0.here hexec rfl (hb hbytes d12) rfl (ii_ge_f (lt32 (by omega) (by omega))) ?_
          refine XS.aloadN X0.here hexec rfl (hb hbytes d15) rfl rfl ?_
          refine XS.iloadN X0.here hexec rfl (hb hbytes d16) rfl ?_
          refine X0.aget hexec hA0 rfl (yv_get hA tA (i := i) (by omega)) rfl rfl (hb hbytes d17) ?_
          refine XS.aloadN X0.here hexec rfl (hb hbytes d18) rfl rfl ?_
          refine XS.iloadN X0.here hexec rfl (hb hbytes d19) rfl ?_
          refine X0.aget hexec hB0 rfl (yv_get hB tB (i := i) (by omega)) rfl rfl (hb hbytes d20) ?_
          exact Steps.refl _)
        by_cases hv : yv A i = yv B i
        · have c5 : Steps p.tables e below (s₁.setTop (entryFrame m #[.ref a, .ref b] 3)) (s₁.setTop (mkF m 9 #[.val (.ref a), .val (.ref b), .val (.int (Int32.ofNat i + 1))] [])) := c4.trans (by
            refine XS.icmpYes X0.here hexec rfl (pc0 := 21) rfl (hb hbytes d21) rfl (ii_eq_t hv) (by decide) rfl ?_
            refine iincV X0.here hexec rfl 1 (hb hbytes d26) (by decide) rfl rfl ?_
            refine XS.goto X0.here hexec rfl (pc0 := 29) rfl (hb hbytes d29) (by decide) rfl ?_
            exact Steps.refl _)
          rw [succ32] at c5
          exact ih (i + 1) (by omega) (fun j hj => by
            by_cases e : j = i
            · rw [e]; exact hv
            · exact he j (by omega)) c5
        · exact ⟨25, _, 0, Or.inl rfl, Or.inr ⟨rfl, fun q => hv (q.2 i (by omega))⟩, c4.trans (by
            refine XS.icmpNo X0.here hexec rfl (hb hbytes d21) rfl (ii_eq_f hv) ?_
            refine iconstV X0.here hexec rfl 0 (hb hbytes d24) (by decide) ?_
            exact Steps.refl _)⟩
    obtain ⟨pc, Ls, v, hpc, hv, cz⟩ := loop A.slots.size 0 (by omega) (fun j hj => absurd hj (Nat.not_lt_zero j)) c3
    have nv : narrow .boolean (.int v) = .int v := by rcases hv with ⟨rfl, -⟩ | ⟨rfl, -⟩ <;> rfl
    rcases hpc with rfl | rfl
    · exact ⟨s₁, some (.int v), _, _, _, X0, rfl, rfl, rfl, (fun h => by cases h), ⟨v, rfl, hh0, hv⟩, fun fs hl => cz.trans (X0.ireturnOut hexec hret nv (Or.inr (Or.inl rfl)) (hb hbytes d25) hl)⟩
    · exact ⟨s₁, some (.int v), _, _, _, X0, rfl, rfl, rfl, (fun h => by cases h), ⟨v, rfl, hh0, hv⟩, fun fs hl => cz.trans (X0.ireturnOut hexec hret nv (Or.inr (Or.inl rfl)) (hb hbytes d33) hl)⟩
  · have c3 : Steps p.tables e below (s₁.setTop (entryFrame m #[.ref a, .ref b] 3)) (s₁.setTop (mkF m 35 #[.val (.ref a), .val (.ref b), .unset] [.int 0])) := c2.trans (by
      refine XS.icmpYes X0.here hexec rfl (pc0 := 4) rfl (hb hbytes d4) rfl (ii_ne_t (ne32 a31 b31 hs)) (by decide) rfl ?_
      refine iconstV X0.here hexec rfl 0 (hb hbytes d34) (by decide) ?_
      exact Steps.refl _)
    exact ⟨s₁, some (.int 0), _, _, _, X0, rfl, rfl, rfl, (fun h => by cases h), ⟨0, rfl, hh0, Or.inr ⟨rfl, fun q => hs q.1⟩⟩, fun fs hl => c3.trans (X0.ireturnOut hexec hret rfl (Or.inr (Or.inl rfl)) (hb hbytes d35) hl)⟩
end LEq
theorem Cod.ty {cd : Int32} {n : Nat} {f : Nat → Int32} {V : Cell} (h : Cod cd n f V) : Typed .byte V := fun i v hv => by
  have hi : i < V.slots.size := (Array.getElem?_eq_some_iff.mp hv).1
  rcases h with ⟨-, k1, k2⟩ | ⟨-, k1, k2, -⟩
  · rw [(k2 i (by omega)).1] at hv; cases hv; exact fits_lo8 _
  · rcases Nat.mod_two_eq_zero_or_one i with e | e
    · obtain ⟨j, rfl⟩ : ∃ j, i = 2 * j := ⟨i / 2, by omega⟩
      rw [(k2 j (by omega)).1] at hv; cases hv; exact fits_lo8 _
    · obtain ⟨j, rfl⟩ : ∃ j, i = 2 * j + 1 := ⟨i / 2, by omega⟩
      rw [(k2 j (by omega)).2] at hv; cases hv; exact fits_lo8 _
/-- the same text -/
def SameT (n : Nat) (f : Nat → Int32) (k : Nat) (g : Nat → Int32) : Prop := n = k ∧ ∀ j, j < n → f j = g j
theorem lo8_inj {x y : Int32} (h0 : ¬ x < 0) (h1 : ¬ 255 < x) (k0 : ¬ y < 0) (k1 : ¬ 255 < y) (h : lo8 x = lo8 y) : x = y := by
  rw [← lo8_mask h0 h1, ← lo8_mask k0 k1, h]
/-- arrays coded by one coder are equal just where the texts are -/
theorem Cod.eqv {cd : Int32} {n k : Nat} {f g : Nat → Int32} {V V' : Cell} (h : Cod cd n f V) (h' : Cod cd k g V') (hf : ∀ j, j < n → ¬ f j < 0 ∧ ¬ 65535 < f j) (hg : ∀ j, j < k → ¬ g j < 0 ∧ ¬ 65535 < g j) : EqC V V' ↔ SameT n f k g := by
  have yvv : ∀ {W : Cell} {i : Nat} {x : Int32}, W.slots[i]? = some (.int x) → yv W i = x := fun q => by unfold yv; rw [q]
  rcases h with ⟨rfl, k1, k2⟩ | ⟨rfl, k1, k2, -⟩
  · rcases h' with ⟨-, m1, m2⟩ | ⟨e, -⟩
    · constructor
      · rintro ⟨e1, e2⟩
        refine ⟨by omega, fun j hj => ?_⟩
        have q := e2 j (by omega)
        rw [yvv (k2 j hj).1, yvv (m2 j (by omega)).1] at q
        exact lo8_inj (hf j hj).1 (k2 j hj).2 (hg j (by omega)).1 (m2 j (by omega)).2 q
      · rintro ⟨rfl, e2⟩
        refine ⟨by omega, fun j hj => ?_⟩
        rw [yvv (k2 j (by omega)).1, yvv (m2 j (by omega)).1, e2 j (by omega)]
    · exact absurd e (by decide)
  · rcases h' with ⟨e, -⟩ | ⟨-, m1, m2, -⟩
    · exact absurd e (by decide)
    · constructor
      · rintro ⟨e1, e2⟩
        refine ⟨by omega, fun j hj => ?_⟩
        have q1 := e2 (2 * j) (by omega)
        have q2 := e2 (2 * j + 1) (by omega)
        rw [yvv (k2 j hj).1, yvv (m2 j (by omega)).1] at q1
        rw [yvv (k2 j hj).2, yvv (m2 j (by omega)).2] at q2
        rw [← pair_says (hf j hj).1 (hf j hj).2, ← pair_says (hg j (by omega)).1 (hg j (by omega)).2, q1, q2]
      · rintro ⟨rfl, e2⟩
        refine ⟨by omega, fun i hi => ?_⟩
        rcases Nat.mod_two_eq_zero_or_one i with e | e
        · obtain ⟨j, rfl⟩ : ∃ j, i = 2 * j := ⟨i / 2, by omega⟩
          rw [yvv (k2 j (by omega)).1, yvv (m2 j (by omega)).1, e2 j (by omega)]
        · obtain ⟨j, rfl⟩ : ∃ j, i = 2 * j + 1 := ⟨i / 2, by omega⟩
          rw [yvv (k2 j (by omega)).2, yvv (m2 j (by omega)).2, e2 j (by omega)]
/-- two codings differ: so do the texts -/
theorem Cod.dif {cd cd' : Int32} {n k : Nat} {f g : Nat → Int32} {V V' : Cell} (h : Cod cd n f V) (h' : Cod cd' k g V') (hne : ¬ cd = cd') : ¬ SameT n f k g := by
  rintro ⟨rfl, e⟩
  rcases h with ⟨rfl, -, k2⟩ | ⟨rfl, -, -, j, hj, hw⟩
  · rcases h' with ⟨rfl, -⟩ | ⟨-, -, -, j, hj, hw⟩
    · exact hne rfl
    · exact (k2 j hj).2 (by rw [e j hj]; exact hw)
  · rcases h' with ⟨-, -, m2⟩ | ⟨rfl, -⟩
    · exact (m2 j hj).2 (by rw [← e j hj]; exact hw)
    · exact hne rfl
/-- an object of exactly C is an instance of C -/
theorem cinst {p : Program} {l : Launch} {e : Env} {R : Room} {s : State} {m : MethodId} {args : Array Value} {below : List Frame} {meth : Method} {c : Code} {T : State} {locs : List Loc} {cells slots : Nat} (X : Stand p l e R s m args below meth c T locs cells slots) (hexec : p.tables.exec = Jvm.exec) {own C : String} {index : Nat} (hown : s.vm.findClass own = some m.cls) (hlink : (Cond.classLink own index C).before args s = true) {a : Addr} (hE : Exact C a T)
    {g : JFrame} (hg : g.method = m) {rest : List Value} (hstack : g.stack = .ref a :: rest) (hdg : decode c.code g.pc = .ok (.instanceof index, 3)) :
    ∃ T', Stand p l e R s m args below meth c T' locs cells slots ∧ T'.heap = T.heap ∧ ∀ target, Steps p.tables e below (T'.setTop { g with pc := g.pc + 3, stack := .int 1 :: rest }) target → Steps p.tables e below (T.setTop g) target := by
  obtain ⟨cB, h1, D, h2, h3, h4⟩ := hE
  have h1' : s.vm.findClass C = some cB := by rw [← X.warmed.alike.findClass]; exact h1
  obtain ⟨vm', X', st⟩ := X.instanceofYes hexec hown hlink h2 h4 h1' (by rw [h3]; exact Jvm.Free.SB.assignable_self _ _) hg hstack hdg
  exact ⟨_, X', rfl, st⟩
theorem cself {p : Program} {l : Launch} {e : Env} {R : Room} {s : State} {m : MethodId} {args : Array Value} {below : List Frame} {meth : Method} {c : Code} {T : State} {locs : List Loc} {cells slots : Nat} (X : Stand p l e R s m args below meth c T locs cells slots) (hexec : p.tables.exec = Jvm.exec) {own C : String} {index : Nat} (hown : s.vm.findClass own = some m.cls) (hlink : (Cond.classLink own index C).before args s = true) {a : Addr} (hE : Exact C a T)
    {g : JFrame} (hg : g.method = m) {rest : List Value} (hstack : g.stack = .ref a :: rest) (hdg : decode c.code g.pc = .ok (.checkcast index, 3)) :
    ∃ T', Stand p l e R s m args below meth c T' locs cells slots ∧ T'.heap = T.heap ∧ ∀ target, Steps p.tables e below (T'.setTop { g with pc := g.pc + 3, stack := .ref a :: rest }) target → Steps p.tables e below (T.setTop g) target := by
  obtain ⟨cB, h1, D, h2, h3, h4⟩ := hE
  have h1' : s.vm.findClass C = some cB := by rw [← X.warmed.alike.findClass]; exact h1
  obtain ⟨vm', X', st⟩ := X.checkcastYes hexec hown hlink h2 h4 h1' (by rw [h3]; exact Jvm.Free.SB.assignable_self _ _) hg hstack hdg
  exact ⟨_, X', rfl, fun t h => st t (by rw [← hstack] at h; exact h)⟩
namespace SEq
def yN : MethodName := ⟨"java/lang/String", "equals", "(Ljava/lang/Object;)Z"⟩
abbrev yB : ByteArray := jdk_42_method_66_code
theorem d0 : decode yB 0 = .ok (.aload_n 0, 1) := by decide +kernel
theorem d1 : decode yB 1 = .ok (.aload_n 1, 1) := by decide +kernel
theorem d2 : decode yB 2 = .ok (.if_acmp (.ne) 5, 3) := by decide +kernel
theorem d5 : decode yB 5 = .ok (.iconst 1, 1) := by decide +kernel
theorem d6 : decode yB 6 = .ok (.ireturn, 1) := by decide +kernel
theorem d7 : decode yB 7 = .ok (.aload_n 1, 1) := by decide +kernel
theorem d8 : decode yB 8 = .ok (.instanceof 10, 3) := by decide +kernel
theorem d11 : decode yB 11 = .ok (.ifCond (.eq) 43, 3) := by decide +kernel
theorem d14 : decode yB 14 = .ok (.aload_n 1, 1) := by decide +kernel
theorem d15 : decode yB 15 = .ok (.checkcast 10, 3) := by decide +kernel
theorem d18 : decode yB 18 = .ok (.astore_n 2, 1) := by decide +kernel
theorem d19 : decode yB 19 = .ok (.getstatic 38, 3) := by decide +kernel
theorem d22 : decode yB 22 = .ok (.ifCond (.eq) 14, 3) := by decide +kernel
theorem d25 : decode yB 25 = .ok (.aload_n 0, 1) := by decide +kernel
theorem d26 : decode yB 26 = .ok (.getfield 15, 3) := by decide +kernel
theorem d29 : decode yB 29 = .ok (.aload_n 2, 1) := by decide +kernel
theorem d30 : decode yB 30 = .ok (.getfield 15, 3) := by decide +kernel
theorem d33 : decode yB 33 = .ok (.if_icmp (.ne) 21, 3) := by decide +kernel
theorem d36 : decode yB 36 = .ok (.aload_n 0, 1) := by decide +kernel
theorem d37 : decode yB 37 = .ok (.getfield 9, 3) := by decide +kernel
theorem d40 : decode yB 40 = .ok (.aload_n 2, 1) := by decide +kernel
theorem d41 : decode yB 41 = .ok (.getfield 9, 3) := by decide +kernel
theorem d44 : decode yB 44 = .ok (.invokestatic 541, 3) := by decide +kernel
theorem d47 : decode yB 47 = .ok (.ifCond (.eq) 7, 3) := by decide +kernel
theorem d50 : decode yB 50 = .ok (.iconst 1, 1) := by decide +kernel
theorem d51 : decode yB 51 = .ok (.goto 4, 3) := by decide +kernel
theorem d54 : decode yB 54 = .ok (.iconst 0, 1) := by decide +kernel
theorem d55 : decode yB 55 = .ok (.ireturn, 1) := by decide +kernel
def site : List Cond := [.classLink "java/lang/String" 10 "java/lang/String", .fieldLink "java/lang/String" 38 "java/lang/String" "COMPACT_STRINGS" "Z", .fieldLink "java/lang/String" 15 "java/lang/String" "coder" "B", .fieldLink "java/lang/String" 9 "java/lang/String" "value" "[B", LEq.tab] ++ staticW "java/lang/String" 541 LEq.yN
def tab : Cond := tabOf yN yB 3 (some .boolean) site
def P (x t : Addr) (V : Cell) (cd : Int32) (n : Nat) (f : Nat → Int32) (y t' : Addr) (V' : Cell) (cd' : Int32) (k : Nat) (g : Nat → Int32) (z : Int32) (args : Array Value) (s : State) : Prop := args = #[.ref x, .ref y] ∧ Txt x t V cd n f s ∧ Txt y t' V' cd' k g s ∧ StaticIs s "java/lang/String" "COMPACT_STRINGS" "Z" (.int z) ∧ ¬ z = 0
/-- equals(Object) of two Strings: whether the texts are the same -/
theorem law (l : Launch) (x t : Addr) (V : Cell) (cd : Int32) (n : Nat) (f : Nat → Int32) (y t' : Addr) (V' : Cell) (cd' : Int32) (k : Nat) (g : Nat → Int32) (z : Int32) : Law l yN 2 1 1 14 yB 3 (some .boolean) site (P x t V cd n f y t' V' cd' k g z) (Says01 (SameT n f k g)) [] 0 0 := by
  refine Law.of_walk (plainFor_of_name (by decide +kernel)) (by decide +kernel) (by decide +kernel) (by decide) (fun _ _ h => by rw [h.1]; rfl) (fun _ U U' hal hh h => ⟨h.1, h.2.1.mv hal hh, h.2.2.1.mv hal hh, h.2.2.2.1.there hal hh, h.2.2.2.2⟩) (fun r U U' V V' h1 hal h2 h => Says01.mv r U U' V V' h1 hal h2 h) ?_
  intro p e s m args below meth c s₁ X0 hexec hbytes hml hret hlk hnm hown hh0 W hP
  obtain ⟨rfl, hx, hy, s1, hz⟩ := hP
  have c1 : Steps p.tables e below (s₁.setTop (entryFrame m #[.ref x, .ref y] 3)) (s₁.setTop (mkF m 2 #[.val (.ref x), .val (.ref y), .unset] [.ref y, .ref x])) := Steps.trans (entry rfl) (by
    show Steps p.tables e below (s₁.setTop (mkF m 0 #[.val (.ref x), .val (.ref y), .unset] [])) _
    refine XS.aloadN X0.here hexec rfl (hb hbytes d0) rfl rfl ?_
    refine XS.aloadN X0.here hexec rfl (hb hbytes d1) rfl rfl ?_
    exact Steps.refl _)
  by_cases hxy : x = y
  · have c2 : Steps p.tables e below (s₁.setTop (entryFrame m #[.ref x, .ref y] 3)) (s₁.setTop (mkF m 6 #[.val (.ref x), .val (.ref y), .unset] [.int 1])) := c1.trans (by
      refine acmpNo X0.here hexec rfl (hb hbytes d2) rfl rfl rfl (by simp [acmp, hxy]) ?_
      refine iconstV X0.here hexec rfl 1 (hb hbytes d5) (by decide) ?_
      exact Steps.refl _)
    subst hxy
    have ec : cd = cd' := by
      obtain ⟨D, fd, a1, a2, a3⟩ := hx.2.2.1
      obtain ⟨D', fd', b1, b2, b3⟩ := hy.2.2.1
      cases a1.symm.trans b1
      obtain ⟨q1, q2, q3, q4⟩ := a2.1
      obtain ⟨r1, r2, r3, r4⟩ := b2.1
      cases q4.symm.trans r4
      cases a3.symm.trans b3; rfl
    have et : t = t' := by
      obtain ⟨D, fd, a1, a2, a3⟩ := hx.2.1
      obtain ⟨D', fd', b1, b2, b3⟩ := hy.2.1
      cases a1.symm.trans b1
      obtain ⟨q1, q2, q3, q4⟩ := a2.1
      obtain ⟨r1, r2, r3, r4⟩ := b2.1
      cases q4.symm.trans r4
      cases a3.symm.trans b3; rfl
    subst ec et
    have ev : V = V' := by cases hx.2.2.2.1.1.symm.trans hy.2.2.2.1.1; rfl
    subst ev
    have hs : SameT n f k g := (Cod.eqv hx.2.2.2.2.1 hy.2.2.2.2.1 hx.2.2.2.2.2 hy.2.2.2.2.2).mp ⟨rfl, fun _ _ => rfl⟩
    exact ⟨s₁, some (.int 1), _, _, _, X0, rfl, rfl, rfl, (fun h => by cases h), ⟨1, rfl, hh0, Or.inl ⟨rfl, hs⟩⟩, fun fs hl => c2.trans (X0.ireturnOut hexec hret rfl (Or.inr (Or.inl rfl)) (hb hbytes d6) hl)⟩
  · have c2 : Steps p.tables e below (s₁.setTop (entryFrame m #[.ref x, .ref y] 3)) (s₁.setTop (mkF m 8 #[.val (.ref x), .val (.ref y), .unset] [.ref y])) := c1.trans (by
      refine acmpYes X0.here hexec rfl (pc0 := 2) rfl (hb hbytes d2) rfl rfl rfl (by simp [acmp, hxy]) (by decide) rfl ?_
      refine XS.aloadN X0.here hexec rfl (hb hbytes d7) rfl rfl ?_
      exact Steps.refl _)
    obtain ⟨T3, X3, q3, st3⟩ := cinst X0 hexec hown (wk W (.classLink "java/lang/String" 10 "java/lang/String")) (hy.mv X0.warmed.alike hh0).1 (g := (mkF m 8 #[.val (.ref x), .val (.ref y), .unset] [.ref y])) rfl (rest := []) rfl (hb hbytes d8)
    have hh3 := q3.trans hh0
    have c4 : Steps p.tables e below (s₁.setTop (entryFrame m #[.ref x, .ref y] 3)) (T3.setTop (mkF m 15 #[.val (.ref x), .val (.ref y), .unset] [.ref y])) := (c2.trans (st3 _ (Steps.refl _))).trans (by
      refine XS.ifNo X3.here hexec rfl (hb hbytes d11) rfl (i0_eq_f (by decide)) ?_
      refine XS.aloadN X3.here hexec rfl (hb hbytes d14) rfl rfl ?_
      exact Steps.refl _)
    obtain ⟨T5, X5, q5, st5⟩ := cself X3 hexec hown (wk W (.classLink "java/lang/String" 10 "java/lang/String")) (hy.mv X3.warmed.alike hh3).1 (g := (mkF m 15 #[.val (.ref x), .val (.ref y), .unset] [.ref y])) rfl (rest := []) rfl (hb hbytes d15)
    have hh5 := q5.trans hh3
    have c6 : Steps p.tables e below (s₁.setTop (entryFrame m #[.ref x, .ref y] 3)) (T5.setTop (mkF m 19 #[.val (.ref x), .val (.ref y), .val (.ref y)] [])) := (c4.trans (st5 _ (Steps.refl _))).trans (by
      refine XS.astoreN X5.here hexec rfl (hb hbytes d18) rfl rfl rfl ?_
      exact Steps.refl _)
    obtain ⟨T7, X7, q7, st7⟩ := X5.sget hexec hown (wk W (.fieldLink "java/lang/String" 38 "java/lang/String" "COMPACT_STRINGS" "Z")) s1 (fun _ _ h => by rw [hh5]; exact h) (g := (mkF m 19 #[.val (.ref x), .val (.ref y), .val (.ref y)] [])) rfl (hb hbytes d19)
    have hh7 := q7.trans hh5
    have c8 : Steps p.tables e below (s₁.setTop (entryFrame m #[.ref x, .ref y] 3)) (T7.setTop (mkF m 26 #[.val (.ref x), .val (.ref y), .val (.ref y)] [.ref x])) := (c6.trans (st7 _ (Steps.refl _))).trans (by
      refine XS.ifNo X7.here hexec rfl (hb hbytes d22) rfl (i0_eq_f hz) ?_
      refine XS.aloadN X7.here hexec rfl (hb hbytes d25) rfl rfl ?_
      exact Steps.refl _)
    obtain ⟨T9, X9, q9, st9⟩ := X7.hget hexec hown (wk W (.fieldLink "java/lang/String" 15 "java/lang/String" "coder" "B")) (hx.mv X7.warmed.alike hh7).2.2.1 (g := (mkF m 26 #[.val (.ref x), .val (.ref y), .val (.ref y)] [.ref x])) rfl (rest := []) rfl (hb hbytes d26)
    have hh9 := q9.trans hh7
    have c10 : Steps p.tables e below (s₁.setTop (entryFrame m #[.ref x, .ref y] 3)) (T9.setTop (mkF m 30 #[.val (.ref x), .val (.ref y), .val (.ref y)] [.ref y, .int cd])) := (c8.trans (st9 _ (Steps.refl _))).trans (by
      refine XS.aloadN X9.here hexec rfl (hb hbytes d29) rfl rfl ?_
      exact Steps.refl _)
    obtain ⟨T11, X11, q11, st11⟩ := X9.hget hexec hown (wk W (.fieldLink "java/lang/String" 15 "java/lang/String" "coder" "B")) (hy.mv X9.warmed.alike hh9).2.2.1 (g := (mkF m 30 #[.val (.ref x), .val (.ref y), .val (.ref y)] [.ref y, .int cd])) rfl (rest := [.int cd]) rfl (hb hbytes d30)
    have hh11 := q11.trans hh9
    have c12 : Steps p.tables e below (s₁.setTop (entryFrame m #[.ref x, .ref y] 3)) (T11.setTop (mkF m 33 #[.val (.ref x), .val (.ref y), .val (.ref y)] [.int cd', .int cd])) := c10.trans (st11 _ (Steps.refl _))
    by_cases hcd : cd = cd'
    · subst hcd
      have c13 : Steps p.tables e below (s₁.setTop (entryFrame m #[.ref x, .ref y] 3)) (T11.setTop (mkF m 37 #[.val (.ref x), .val (.ref y), .val (.ref y)] [.ref x])) := c12.trans (by
        refine XS.icmpNo X11.here hexec rfl (hb hbytes d33) rfl (ii_ne_f rfl) ?_
        refine XS.aloadN X11.here hexec rfl (hb hbytes d36) rfl rfl ?_
        exact Steps.refl _)
      obtain ⟨T14, X14, q14, st14⟩ := X11.hget hexec hown (wk W (.fieldLink "java/lang/String" 9 "java/lang/String" "value" "[B")) (hx.mv X11.warmed.alike hh11).2.1 (g := (mkF m 37 #[.val (.ref x), .val (.ref y), .val (.ref y)] [.ref x])) rfl (rest := []) rfl (hb hbytes d37)
      have hh14 := q14.trans hh11
      have c15 : Steps p.tables e below (s₁.setTop (entryFrame m #[.ref x, .ref y] 3)) (T14.setTop (mkF m 41 #[.val (.ref x), .val (.ref y), .val (.ref y)] [.ref y, .ref t])) := (c13.trans (st14 _ (Steps.refl _))).trans (by
        refine XS.aloadN X14.here hexec rfl (hb hbytes d40) rfl rfl ?_
        exact Steps.refl _)
      obtain ⟨T16, X16, q16, st16⟩ := X14.hget hexec hown (wk W (.fieldLink "java/lang/String" 9 "java/lang/String" "value" "[B")) (hy.mv X14.warmed.alike hh14).2.1 (g := (mkF m 41 #[.val (.ref x), .val (.ref y), .val (.ref y)] [.ref y, .ref t])) rfl (rest := [.ref t]) rfl (hb hbytes d41)
      have hh16 := q16.trans hh14
      have c17 : Steps p.tables e below (s₁.setTop (entryFrame m #[.ref x, .ref y] 3)) (T16.setTop (mkF m 44 #[.val (.ref x), .val (.ref y), .val (.ref y)] [.ref t', .ref t])) := c15.trans (st16 _ (Steps.refl _))
      obtain ⟨v18, T18, X18, E18, g18⟩ := X16.callS hexec (LEq.law l t V t' V') hown (wks W (staticW "java/lang/String" 541 LEq.yN)) (wk W LEq.tab) (W := 0) (Nat.le_of_ble_eq_true rfl) (Nat.le_of_ble_eq_true rfl) (Nat.le_refl _) (Nat.le_refl _) (g := (mkF m 44 #[.val (.ref x), .val (.ref y), .val (.ref y)] [.ref t', .ref t])) rfl (by rw [hml]; rfl) c17 (argsL := [.ref t, .ref t']) (rest := []) rfl rfl (by show 2 * 0 + 0 ≤ _; decide) (hb hbytes d44) (⟨rfl, hx.2.2.2.1.mv X16.warmed.alike hh16, hx.2.2.2.2.1.ty, hy.2.2.2.1.mv X16.warmed.alike hh16, hy.2.2.2.2.1.ty⟩)
      obtain ⟨v, rfl, q18, hv⟩ := E18
      have iff := Cod.eqv hx.2.2.2.2.1 hy.2.2.2.2.1 hx.2.2.2.2.2 hy.2.2.2.2.2
      rcases hv with ⟨rfl, he⟩ | ⟨rfl, he⟩
      · have c19 : Steps p.tables e below (s₁.setTop (entryFrame m #[.ref x, .ref y] 3)) (T18.setTop (mkF m 55 #[.val (.ref x), .val (.ref y), .val (.ref y)] [.int 1])) := Steps.trans g18 (by
          refine XS.ifNo X18.here hexec rfl (hb hbytes d47) rfl (i0_eq_f (by decide)) ?_
          refine iconstV X18.here hexec rfl 1 (hb hbytes d50) (by decide) ?_
          refine XS.goto X18.here hexec rfl (pc0 := 51) rfl (hb hbytes d51) (by decide) rfl ?_
          exact Steps.refl _)
        exact ⟨T18, some (.int 1), _, _, _, X18, rfl, rfl, rfl, (fun h => by cases h), ⟨1, rfl, q18.trans hh16, Or.inl ⟨rfl, iff.mp he⟩⟩, fun fs hl => c19.trans (X18.ireturnOut hexec hret rfl (Or.inr (Or.inl rfl)) (hb hbytes d55) hl)⟩
      · have c19 : Steps p.tables e below (s₁.setTop (entryFrame m #[.ref x, .ref y] 3)) (T18.setTop (mkF m 55 #[.val (.ref x), .val (.ref y), .val (.ref y)] [.int 0])) := Steps.trans g18 (by
          refine XS.ifYes X18.here hexec rfl (pc0 := 47) rfl (hb hbytes d47) rfl (i0_eq_t rfl) (by decide) rfl ?_
          refine iconstV X18.here hexec rfl 0 (hb hbytes d54) (by decide) ?_
          exact Steps.refl _)
        exact ⟨T18, some (.int 0), _, _, _, X18, rfl, rfl, rfl, (fun h => by cases h), ⟨0, rfl, q18.trans hh16, Or.inr ⟨rfl, fun q => he (iff.mpr q)⟩⟩, fun fs hl => c19.trans (X18.ireturnOut hexec hret rfl (Or.inr (Or.inl rfl)) (hb hbytes d55) hl)⟩
    · have c13 : Steps p.tables e below (s₁.setTop (entryFrame m #[.ref x, .ref y] 3)) (T11.setTop (mkF m 55 #[.val (.ref x), .val (.ref y), .val (.ref y)] [.int 0])) := c12.trans (by
        refine XS.icmpYes X11.here hexec rfl (pc0 := 33) rfl (hb hbytes d33) rfl (ii_ne_t hcd) (by decide) rfl ?_
        refine iconstV X11.here hexec rfl 0 (hb hbytes d54) (by decide) ?_
        exact Steps.refl _)
      exact ⟨T11, some (.int 0), _, _, _, X11, rfl, rfl, rfl, (fun h => by cases h), ⟨0, rfl, hh11, Or.inr ⟨rfl, Cod.dif hx.2.2.2.2.1 hy.2.2.2.2.1 hcd⟩⟩, fun fs hl => c13.trans (X11.ireturnOut hexec hret rfl (Or.inr (Or.inl rfl)) (hb hbytes d55) hl)⟩
theorem pays {l : Launch} {R : Room} {p : Program} {e : Env} {below : List Frame} {s : State} {sargs : Array Value} {len W : Nat} (x t : Addr) (V : Cell) (cd : Int32) (n : Nat) (f : Nat → Int32) (y t' : Addr) (V' : Cell) (cd' : Int32) (k : Nat) (g : Nat → Int32) (z : Int32) (htab : tab.before sargs s = true) (hfr : 2 ≤ R.frames) (hlo : W + 28 ≤ R.locals) :
    Back l R p e below s sargs yN len W (fun A₁ a₁ => A₁.cells + 0 ≤ R.cells ∧ A₁.slots + 0 ≤ R.slots ∧ P x t V cd n f y t' V' cd' k g z a₁ A₁.U) (fun A₁ _ v₁ B₁ => Says01 (SameT n f k g) v₁ A₁.U B₁.U ∧ B₁.locs = A₁.locs ++ [] ∧ B₁.cells = A₁.cells + 0 ∧ B₁.slots = A₁.slots + 0) :=
  (law l x t V cd n f y t' V' cd' k g z).pays htab hfr (by omega)
end SEq
end StrChars
namespace StrChars.Road
open Jvm Sem ClassFile Op Lib Jvm.Stand Jvm.Free Jvm.Free.XT
open Jvm.Lib.Cold (StaticIs)
/-- the words of String.equals(Object) -/
abbrev wordsEq : List Jvm.Cond := [.code SEq.yN SEq.yB 3 (some .boolean), .initialized ST, .classLink ST 10 ST, .fieldLink ST 38 ST "COMPACT_STRINGS" "Z", .fieldLink ST 15 ST "coder" "B", .fieldLink ST 9 ST "value" "[B", .methodLink ST 541 LEq.yN, .static LEq.yN, .code LEq.yN LEq.yB 3 (some .boolean), .initialized "java/lang/StringLatin1"]
theorem tabEq_of {a : Array Value} {s : State} (h : ∀ w ∈ wordsEq, w.before a s = true) : SEq.tab.before a s = true := by
  have hl : LEq.tab.before a s = true := unparts (wk h (.code LEq.yN LEq.yB 3 (some .boolean))) (wks h (.initialized LEq.yN.cls :: LEq.site))
  have q := consq hl h
  exact unparts (wk q (.code SEq.yN SEq.yB 3 (some .boolean))) (wks q (.initialized SEq.yN.cls :: SEq.site))
theorem movedEq {Z s : State} {a0 args : Array Value} (hZ : Z.Warmed39 s.vm) (hw : ∀ d ∈ wordsEq, d.before a0 Z = true) : ∀ d ∈ wordsEq, d.before args s = true := fun d hd => by
  have t : ∀ d ∈ wordsEq, (d.onTables && d.keepsFace) = true := by decide +kernel
  exact RoadKit.mv hZ (hw d hd) (t d hd)
/-- the road's facts of a String, as the laws ask it -/
theorem txt_of {Z U : State} {a0 : Array Value} {kI : Nat} (wi : (Jvm.Cond.instantiable ST kI).before a0 Z = true) (al : Z.vm.Alike U.vm) {x t : Addr} {kb : ClassId} {cs : List Int32} {cd N2 : Int32} {vs : List Value} (E : RoadKit.Exa Z U.heap x ST) (V : RoadKit.Fld Z U.heap x ST "value" "[B" (.ref t)) (C : RoadKit.Fld Z U.heap x ST "coder" "B" (.int cd)) (K : RoadKit.Arv Z U.heap t kb .byte N2 vs (.int 0)) (hc : CodA cs cd N2 vs) (hb : ∀ c ∈ cs, ¬ c < 0 ∧ ¬ (65535 : Int32) < c) (l2 : cs.length ≤ 4000) :
    ∃ A, Txt x t A cd cs.length (fun j => cs.getD j 0) U := by
  obtain ⟨A, K1, K2, K3, K4, K5, K6⟩ := K
  have hcod := hc.cod (by omega) K3 K5
  obtain ⟨D, fV, fC, hB, F1, F2, g1, g2, -, -⟩ := strObj wi al E V C
  exact ⟨A, ⟨_, hB.2.2.1, D, hB.1, rfl, by cases q : D.vm <;> first | rfl | exact absurd q (hB.2.1.2 _)⟩, Has.of hB F1 g1, Has.of hB F2 g2, ⟨K1.1, State.isArrayOf_alike al K1.2.1, K1.2.2, by rcases hcod with ⟨-, q, -⟩ | ⟨-, q, -⟩ <;> omega⟩, hcod, fun j hj => by
    have e : cs.getD j 0 = cs[j] := by simp [List.getD_eq_getElem?_getD, hj]
    show ¬ cs.getD j 0 < 0 ∧ ¬ 65535 < cs.getD j 0
    rw [e]; exact hb _ (List.getElem_mem _)⟩
theorem same_list (cs ds : List Int32) : SameT cs.length (fun j => cs.getD j 0) ds.length (fun j => ds.getD j 0) ↔ cs = ds := by
  constructor
  · rintro ⟨e, q⟩
    refine List.ext_getElem e fun j h1 h2 => ?_
    have := q j h1
    simpa [List.getD_eq_getElem?_getD, h1, h2] using this
  · rintro rfl
    exact ⟨rfl, fun _ _ => rfl⟩
/-- **equals(Object) OF TWO SUCH STRINGS**: 1 just where the chars are the same -/
theorem eqW {p : Program} {l : Launch} {e : Env} {R : Room} {s : State} {args : Array Value} {below : List Frame} {len W : Nat} {Z : State} {a0 : Array Value} {h : Heap} (hZ : Z.Warmed39 s.vm) (hw : ∀ d ∈ wordsEq, d.before a0 Z = true) {kI : Nat} (wi : (Jvm.Cond.instantiable ST kI).before a0 Z = true)
    {x t : Addr} {kb : ClassId} {cs : List Int32} {cd N2 : Int32} {vs : List Value} (E : RoadKit.Exa Z h x ST) (V : RoadKit.Fld Z h x ST "value" "[B" (.ref t)) (C : RoadKit.Fld Z h x ST "coder" "B" (.int cd)) (K : RoadKit.Arv Z h t kb .byte N2 vs (.int 0)) (hc : CodA cs cd N2 vs) (hb : ∀ c ∈ cs, ¬ c < 0 ∧ ¬ (65535 : Int32) < c) (l2 : cs.length ≤ 4000)
    {y t' : Addr} {kb' : ClassId} {ds : List Int32} {cd' N2' : Int32} {vs' : List Value} (E' : RoadKit.Exa Z h y ST) (V' : RoadKit.Fld Z h y ST "value" "[B" (.ref t')) (C' : RoadKit.Fld Z h y ST "coder" "B" (.int cd')) (K' : RoadKit.Arv Z h t' kb' .byte N2' vs' (.int 0)) (hc' : CodA ds cd' N2' vs') (hb' : ∀ c ∈ ds, ¬ c < 0 ∧ ¬ (65535 : Int32) < c) (l2' : ds.length ≤ 4000)
    {z : Int32} (S : RoadKit.Sta Z h ST "COMPACT_STRINGS" "Z" (.int z)) (hz : ¬ z = 0) (hfr : 2 ≤ R.frames) (hlo : W + 28 ≤ R.locals) :
    Back l R p e below s args (⟨"java/lang/String", "equals", "(Ljava/lang/Object;)Z"⟩ : MethodName) len W (fun P a => a = #[.ref x, .ref y] ∧ P.U.heap = h ∧ P.cells + 0 ≤ R.cells ∧ P.slots + 0 ≤ R.slots)
      (fun P _ v B => ∃ L, (((v = some (.int 1) ∧ cs = ds) ∨ (v = some (.int 0) ∧ ¬ cs = ds)) ∧ L = [] ∧ B.U.heap = h) ∧ B.locs = P.locs ++ L ∧ B.cells = P.cells + 0 ∧ B.slots = P.slots + 0) := by
  intro m meth c P g ig mk a X hg hsize hdg hW hn hp'
  obtain ⟨rfl, rfl, r1, r2⟩ := hp'
  have al : Z.vm.Alike P.U.vm := hZ.alike.trans X.warmed.alike
  obtain ⟨A, hx⟩ := txt_of wi al E V C K hc hb l2
  obtain ⟨A', hy⟩ := txt_of wi al E' V' C' K' hc' hb' l2'
  obtain ⟨v, B, X', ⟨⟨w, hv, hh, hq⟩, hl, hk, hs⟩, st⟩ := SEq.pays x t A cd cs.length (fun j => cs.getD j 0) y t' A' cd' ds.length (fun j => ds.getD j 0) z (tabEq_of (movedEq hZ hw)) hfr hlo m meth c P g ig mk _ X hg hsize hdg hW hn ⟨r1, r2, rfl, hx, hy, sta_is al S, hz⟩
  refine ⟨v, B, X', ⟨[], ⟨?_, rfl, hh⟩, hl, hk, hs⟩, st⟩
  rcases hq with ⟨rfl, q⟩ | ⟨rfl, q⟩
  · exact Or.inl ⟨hv, (same_list cs ds).mp q⟩
  · exact Or.inr ⟨hv, fun e => q ((same_list cs ds).mpr e)⟩
end StrChars.Road
namespace StrChars.Road
open Jvm Sem ClassFile Op Lib Jvm.Stand Jvm.Free Jvm.Free.XT
open Jvm.Lib.Cold (StaticIs)
/-- what backV says of its String, as the contracts of this text ask it: cs's low bytes, coder 0 -/
theorem codOf {cs : List Int32} {n : Nat} (hn : cs.length = n) (hb : ∀ c ∈ cs, ¬ 255 < c) : CodA cs 0 (Int32.ofNat n) ((cs.map lo8).map Value.int) := Or.inl ⟨rfl, by rw [hn], by simp [List.map_map, Function.comp_def], hb⟩
end StrChars.Road
end Jvm.Pilot.@@N@@
namespace Jvm.Pilot.@@N@@
open Jvm Jvm.ClassFile Sem Op Lib Jvm.Free Jvm.Stand Jvm.LawKit Jvm.RoadKit Bundle Jvm.Pilot.@@N@@.Jvm.D
def EL0 : List (String × Nat) := [("com/example/certain_answers/certainanswers/store/KindNamedPinLaw", 25), ("com/example/certain_answers/certainanswers/store/KindNamedPinLaw", 37), ("java/lang/String", 7)]
section Own
variable {p : Program} {l : Launch} {e : Env} {R rm : Room} {s : State} {m : MethodId} {args : Array Value} {below : List Frame} {meth : Method} {c : Code} {own nm : String} {bytes : ByteArray} {ml : Nat} {rt : Option FieldType} {Z : State} {a0 : Array Value} {EL : List (String × Nat)} {h0 : Heap} {ws : List Addr} {T : State} {h h' : Heap} {cells slots : Nat} {Q : Outcome → State → Prop} {Qv : Option Value → Heap → Prop} {pc : Nat} {Ls : Array Slot} {rest : List Value}
/-- the run from U comes to an end that says Q -/
def Go (p : Program) (e : Env) (below : List Frame) (Q : Outcome → State → Prop) (U : State) : Prop := ∃ s₂ o, Steps p.tables e below U s₂ ∧ s₂.status = .running ∧ Ended s₂ below o ∧ Q o s₂
theorem Go.of {U V : State} (g : Go p e below Q V) (k : ∀ t, Steps p.tables e below V t → Steps p.tables e below U t) : Go p e below Q U := by
  obtain ⟨s2, o, a, b⟩ := g; exact ⟨s2, o, k _ a, b⟩
/-- where the walk stands: all that does not depend on the road behind; vm0: the tables over which its Stand is -/
abbrev PosV (p : Program) (l : Launch) (e : Env) (R : Room) (s : State) (m : MethodId) (args : Array Value) (below : List Frame) (meth : Method) (c : Code) (own nm : String) (bytes : ByteArray) (ml : Nat) (rt : Option FieldType) (Z : State) (a0 : Array Value) (EL : List (String × Nat)) (h0 : Heap) (ws : List Addr) (T : State) (h : Heap) (cells slots : Nat) (vm0 : Vm) : Prop :=
  ∃ (k0 : Nat) (locs : List Loc), Stand p l e R (s.setVm vm0) m args below meth c T locs cells slots ∧
    (p.tables.exec = Jvm.exec ∧ c.code = bytes ∧ c.maxLocals = ml ∧ meth.sig.returnType = rt ∧ meth.locks = false ∧ meth.name = nm ∧ s.heap = h0 ∧ EW Z a0 EL ∧ Z.Warmed39 s.vm) ∧
    Z.Warmed39 vm0 ∧ vm0.findClass own = some m.cls ∧ s.Since vm0 k0 ∧ k0 ≤ h.size ∧ T.heap = h ∧ CHr Z EL s.vm h0 vm0 h ∧ Fr Z.heap.size locs ∧ Keep h0 h ws ∧ Ext Z.heap h
def Pos (p : Program) (l : Launch) (e : Env) (R : Room) (s : State) (m : MethodId) (args : Array Value) (below : List Frame) (meth : Method) (c : Code) (own nm : String) (bytes : ByteArray) (ml : Nat) (rt : Option FieldType) (Z : State) (a0 : Array Value) (EL : List (String × Nat)) (h0 : Heap) (ws : List Addr) (T : State) (h : Heap) (cells slots : Nat) : Prop :=
  ∃ vm0 : Vm, PosV p l e R s m args below meth c own nm bytes ml rt Z a0 EL h0 ws T h cells slots vm0
/-- how a contract ends -/
def Fini (Z : State) (EL : List (String × Nat)) (h0 : Heap) (ws : List Addr) (rm : Room) (Qv : Option Value → Heap → Prop) (s : State) (o : Outcome) (t : State) : Prop :=
  ∃ v L, o = .returned v ∧ (Fr Z.heap.size L ∧ Keep h0 t.heap ws ∧ Ext Z.heap t.heap ∧ Qv v t.heap) ∧ CHr Z EL s.vm s.heap t.vm t.heap ∧ ReturnedEndW s o t L rm.cells rm.slots
/-- a method's contract: what it leaves where it is called with these arguments over the heap h0 -/
def Con (l : Launch) (Z : State) (EL : List (String × Nat)) (wl : List Jvm.Cond) (y : MethodName) (bytes : ByteArray) (ml : Nat) (rt : Option FieldType) (rm : Room) (as : Array Value) (h0 : Heap) (ws : List Addr) (Qv : Option Value → Heap → Prop) : Prop :=
  MetFree l y (head1 (Jvm.Cond.code y bytes ml rt :: wl) rm) (fun a U => a = as ∧ Z.Warmed39 U.vm ∧ U.heap = h0 ∧ CHv Z EL U.vm h0) (fun _ _ _ _ _ => True) (fun _ U o U' => ∃ v L, o = .returned v ∧ (Fr Z.heap.size L ∧ Keep h0 U'.heap ws ∧ Ext Z.heap U'.heap ∧ Qv v U'.heap) ∧ CHr Z EL U.vm U.heap U'.vm U'.heap ∧ ReturnedEndW U o U' L rm.cells rm.slots)
theorem Con.of {wl : List Jvm.Cond} {y : MethodName} {as : Array Value} {f0 : MethodId → JFrame} (hpn : plainFor y = true) (hEL : EW Z a0 EL) (hO : Ext Z.heap h0) (hf0 : ∀ m, entryFrame m as ml = f0 m)
    (body : ∀ p e s m below meth c s₁, Pos p l e rm s m as below meth c y.cls y.name bytes ml rt Z a0 EL h0 ws s₁ h0 0 0 → Go p e below (Fini Z EL h0 ws rm Qv s) (s₁.setTop (f0 m))) : Con l Z EL wl y bytes ml rt rm as h0 ws Qv := by
  refine MetFree.of_bodySF (code := bytes) (maxLocals := ml) (ret := rt) hpn hisR ?_
  intro p e s m args below meth c s₁ Bd hml0 hP hK
  obtain ⟨rfl, hZ, hh, hC⟩ := hP
  have hown : s.vm.findClass y.cls = some m.cls := findClass_of_methodNamed Bd.named
  have hnm := (name_of_methodNamed Bd.named Bd.method).1
  have X0 : Stand p l e rm s m args below meth c s₁ [] 0 0 := Stand.of_body Bd
  have e0 : s₁.heap = h0 := by rw [← hh, Bd.state]; rfl
  have hP : Pos p l e rm s m args below meth c y.cls y.name bytes ml rt Z a0 EL h0 ws s₁ h0 0 0 :=
    ⟨s.vm, h0.size, [], X0, ⟨Bd.exec, Bd.bytes, hml0, Bd.returns, Bd.notSynchronized, hnm, hh, hEL, hZ⟩, hZ, hown, State.WarmedH.since (State.WarmedH.refl s) _, Nat.le_refl _, e0, CHr.refl hC, Fr.nil _, Keep.refl _ _, hO⟩
  obtain ⟨s2, o, a, b, c', d⟩ := body p e s m below meth c s₁ hP
  rw [hf0]
  exact ⟨s2, o, a, b, c', d⟩
theorem Pos.xs {U V : State} (P : Pos p l e R s m args below meth c own nm bytes ml rt Z a0 EL h0 ws T h cells slots)
    (f : At T m c below → p.tables.exec = Jvm.exec → c.code = bytes → ∀ t, Steps p.tables e below V t → Steps p.tables e below U t) (g : Go p e below Q V) : Go p e below Q U := by
  obtain ⟨vm0, k0, locs, X, ⟨hx, hby, -⟩, -⟩ := P
  exact g.of (f X.here hx hby)
theorem Pos.st {U V : State} (P : Pos p l e R s m args below meth c own nm bytes ml rt Z a0 EL h0 ws T h cells slots)
    (f : ∀ (vm0 : Vm) (locs : List Loc), Stand p l e R (s.setVm vm0) m args below meth c T locs cells slots → p.tables.exec = Jvm.exec → c.code = bytes → ∀ t, Steps p.tables e below V t → Steps p.tables e below U t) (g : Go p e below Q V) : Go p e below Q U := by
  obtain ⟨vm0, k0, locs, X, ⟨hx, hby, -⟩, -⟩ := P
  exact g.of (f vm0 locs X hx hby)
theorem Pos.old (P : Pos p l e R s m args below meth c own nm bytes ml rt Z a0 EL h0 ws T h cells slots) : Ext Z.heap h := by
  obtain ⟨vm0, k0, locs, X, -, -, -, -, -, -, -, -, -, O⟩ := P; exact O
theorem Pos.kept (P : Pos p l e R s m args below meth c own nm bytes ml rt Z a0 EL h0 ws T h cells slots) : Keep h0 h ws := by
  obtain ⟨vm0, k0, locs, X, -, -, -, -, -, -, -, -, K, -⟩ := P; exact K
theorem Pos.wider (P : Pos p l e R s m args below meth c own nm bytes ml rt Z a0 EL h0 ws T h cells slots) {cells' slots' : Nat} (hc : cells ≤ cells') (hs : slots ≤ slots') : Pos p l e R s m args below meth c own nm bytes ml rt Z a0 EL h0 ws T h cells' slots' := by
  obtain ⟨vm0, k0, locs, X, r⟩ := P
  exact ⟨vm0, k0, locs, { X with same := X.same.mono hc hs }, r⟩
/-- nothing old was written at the end: every way to leave -/
theorem Pos.ret {w : Option Value} {i : Instr} (P : Pos p l e R s m args below meth c own nm bytes ml rt Z a0 EL h0 ws T h cells slots) {stk : List Value}
    (hv : rt = none → w = none)
    (hst : ∀ (vm0 : Vm) (locs : List Loc) (fs : List Frame), Stand p l e R (s.setVm vm0) m args below meth c T locs cells slots → p.tables.exec = Jvm.exec → c.code = bytes → meth.sig.returnType = rt → (∀ (f : JFrame) (acts : List Action), f.method = m → f.locked = none → f.entered = [] → (doReturn e (T.setTop f) acts w).1 = T.setFrames fs) → Steps p.tables e below (T.setTop (mkF m pc Ls stk)) (T.setFrames fs))
    (hc : cells ≤ rm.cells) (hs : slots ≤ rm.slots) (q : Qv w h) : Go p e below (Fini Z EL h0 ws rm Qv s) (T.setTop (mkF m pc Ls stk)) := by
  obtain ⟨vm0, k0, locs, X, ⟨hx, hby, hml, hret, hlk, hnm, hh, hEL, hZs⟩, hZ, hown, hS, hk, eT, hC, N, K, O⟩ := P
  obtain ⟨fs, hr, hrun, hended, r1, r2, r3, r4⟩ := X.leaveW hS (by rw [eT]; exact hk) (v := w) (fun q => hv (hret.symm.trans q)) hlk
  refine ⟨_, _, hst vm0 locs fs X hx hby hret hr, hrun, hended, w, locs, rfl, ⟨N, ?_, ?_, ?_⟩, ?_, r1, r2, r3, r4.mono hc hs⟩
  · show Keep h0 T.heap ws; rw [eT]; exact K
  · show Ext Z.heap T.heap; rw [eT]; exact O
  · show Qv w T.heap; rw [eT]; exact q
  · show CHr Z EL s.vm s.heap T.vm T.heap
    rw [eT, hh]; exact hC.trans (CHv.at X hZ hEL hC.1)
theorem Pos.retR {w : Value} {t : FieldType} (P : Pos p l e R s m args below meth c own nm bytes ml rt Z a0 EL h0 ws T h cells slots) (hret : rt = some t) (ht : t.isReference = true) (hw : w.isRef = true) (hd : decode bytes pc = .ok (.areturn, 1)) (hc : cells ≤ rm.cells) (hs : slots ≤ rm.slots) (q : Qv (some w) h) :
    Go p e below (Fini Z EL h0 ws rm Qv s) (T.setTop (mkF m pc Ls (w :: rest))) :=
  P.ret (i := .areturn) (fun q => by rw [hret] at q; cases q) (fun vm0 locs fs X hx hby hr hl => retOut X hx (i := .areturn) (hr.trans hret) (by cases w <;> first | (cases t <;> rfl) | (simp [Value.isRef] at hw)) (Or.inr (Or.inr (Or.inr (Or.inr ⟨rfl, ht, hw⟩)))) (hb hby hd) hl) hc hs q
theorem Pos.retN {z : Int32} {t : FieldType} (P : Pos p l e R s m args below meth c own nm bytes ml rt Z a0 EL h0 ws T h cells slots) (hret : rt = some t) (ht : t = .boolean ∨ t = .byte ∨ t = .char ∨ t = .short) (hd : decode bytes pc = .ok (.ireturn, 1)) (hc : cells ≤ rm.cells) (hs : slots ≤ rm.slots) (q : Qv (some (.int (nar t z))) h) :
    Go p e below (Fini Z EL h0 ws rm Qv s) (T.setTop (mkF m pc Ls (.int z :: rest))) :=
  P.ret (i := .ireturn) (fun q => by rw [hret] at q; cases q) (fun vm0 locs fs X hx hby hr hl => Jvm.RoadKit.retN X hx (hr.trans hret) ht (hb hby hd) hl) hc hs q
theorem Pos.retI {z : Int32} (P : Pos p l e R s m args below meth c own nm bytes ml rt Z a0 EL h0 ws T h cells slots) (hret : rt = some .int) (hd : decode bytes pc = .ok (.ireturn, 1)) (hc : cells ≤ rm.cells) (hs : slots ≤ rm.slots) (q : Qv (some (.int z)) h) :
    Go p e below (Fini Z EL h0 ws rm Qv s) (T.setTop (mkF m pc Ls (.int z :: rest))) :=
  P.ret (i := .ireturn) (fun q => by rw [hret] at q; cases q) (fun vm0 locs fs X hx hby hr hl => retOut X hx (i := .ireturn) (hr.trans hret) rfl (Or.inl ⟨rfl, Or.inl rfl, z, rfl⟩) (hb hby hd) hl) hc hs q
theorem Pos.retV (P : Pos p l e R s m args below meth c own nm bytes ml rt Z a0 EL h0 ws T h cells slots) (hret : rt = none) (hd : decode bytes pc = .ok (.return_, 1)) (hc : cells ≤ rm.cells) (hs : slots ≤ rm.slots) (q : Qv none h) :
    Go p e below (Fini Z EL h0 ws rm Qv s) (T.setTop (mkF m pc Ls [])) :=
  P.ret (i := .return_) (fun _ => rfl) (fun vm0 locs fs X hx hby hr hl => X.returnOut hx (hr.trans hret) (hb hby hd) hl) hc hs q
/-- a step that leaves the heap, given in the library's shape -/
theorem Pos.same {U : State} (P : Pos p l e R s m args below meth c own nm bytes ml rt Z a0 EL h0 ws T h cells slots) {V : State → State}
    (f : ∀ (vm0 : Vm) (locs : List Loc), Stand p l e R (s.setVm vm0) m args below meth c T locs cells slots → p.tables.exec = Jvm.exec → c.code = bytes → c.maxLocals = ml → Z.Warmed39 vm0 → vm0.findClass own = some m.cls → T.heap = h →
      ∃ T', Stand p l e R (s.setVm vm0) m args below meth c T' locs cells slots ∧ T'.heap = h ∧ ∀ t, Steps p.tables e below (V T') t → Steps p.tables e below U t)
    (k : ∀ T', Pos p l e R s m args below meth c own nm bytes ml rt Z a0 EL h0 ws T' h cells slots → Go p e below Q (V T')) : Go p e below Q U := by
  obtain ⟨vm0, k0, locs, X, ⟨hx, hby, hml, hret, hlk, hnm, hh, hEL, hZs⟩, hZ, hown, hS, hk, eT, r⟩ := P
  obtain ⟨T', X', e', st⟩ := f vm0 locs X hx hby hml hZ hown eT
  exact (k T' ⟨vm0, k0, locs, X', ⟨hx, hby, hml, hret, hlk, hnm, hh, hEL, hZs⟩, hZ, hown, hS, hk, e', r⟩).of st
theorem Pos.getF (P : Pos p l e R s m args below meth c own nm bytes ml rt Z a0 EL h0 ws T h cells slots) {R0 O n d host : String} {index : Nat} (w : (Jvm.Cond.fieldLink own index R0 n d).before a0 Z = true ∨ (Jvm.Cond.fieldLinkNest own index R0 n d host).before a0 Z = true) (via : Via Z R0 O n d) {a : Addr} {v : Value} (F : Fld Z h a O n d v) (hd : decode bytes pc = .ok (.getfield index, 3))
    (k : ∀ T', Pos p l e R s m args below meth c own nm bytes ml rt Z a0 EL h0 ws T' h cells slots → Go p e below Q (T'.setTop (mkF m (pc + 3) Ls (v :: rest)))) : Go p e below Q (T.setTop (mkF m pc Ls (.ref a :: rest))) :=
  P.same (V := fun T' => T'.setTop (mkF m (pc + 3) Ls (v :: rest))) (fun vm0 locs X hx hby hml hZ hown eT => Jvm.RoadKit.getF X hx hZ hown w via eT F (g := mkF m pc Ls (.ref a :: rest)) rfl rfl (hb hby hd)) k
theorem Pos.getS (P : Pos p l e R s m args below meth c own nm bytes ml rt Z a0 EL h0 ws T h cells slots) {R0 O n d host : String} {index : Nat} (w : (Jvm.Cond.fieldLink own index R0 n d).before a0 Z = true ∨ (Jvm.Cond.fieldLinkNest own index R0 n d host).before a0 Z = true) (via : Via Z R0 O n d) {v : Value} (F : Sta Z Z.heap O n d v) (hd : decode bytes pc = .ok (.getstatic index, 3))
    (k : ∀ T', Pos p l e R s m args below meth c own nm bytes ml rt Z a0 EL h0 ws T' h cells slots → Go p e below Q (T'.setTop (mkF m (pc + 3) Ls (v :: rest)))) : Go p e below Q (T.setTop (mkF m pc Ls rest)) :=
  have O := P.old
  P.same (V := fun T' => T'.setTop (mkF m (pc + 3) Ls (v :: rest))) (fun vm0 locs X hx hby hml hZ hown eT => getS2 X hx hZ hown w via eT (F.ext O) (g := mkF m pc Ls rest) rfl (hb hby hd)) k
theorem Pos.cast (P : Pos p l e R s m args below meth c own nm bytes ml rt Z a0 EL h0 ws T h cells slots) {K : String} {index : Nat} (w : (Jvm.Cond.classLink own index K).before a0 Z = true) {a : Addr} (F : Ins Z h a K true) (hd : decode bytes pc = .ok (.checkcast index, 3))
    (k : ∀ T', Pos p l e R s m args below meth c own nm bytes ml rt Z a0 EL h0 ws T' h cells slots → Go p e below Q (T'.setTop (mkF m (pc + 3) Ls (.ref a :: rest)))) : Go p e below Q (T.setTop (mkF m pc Ls (.ref a :: rest))) :=
  P.same (V := fun T' => T'.setTop (mkF m (pc + 3) Ls (.ref a :: rest))) (fun vm0 locs X hx hby hml hZ hown eT => castY X hx hZ hown w eT F (g := mkF m pc Ls (.ref a :: rest)) rfl rfl (hb hby hd)) k
theorem Pos.inst (P : Pos p l e R s m args below meth c own nm bytes ml rt Z a0 EL h0 ws T h cells slots) {K : String} {index : Nat} (w : (Jvm.Cond.classLink own index K).before a0 Z = true) {a : Addr} (F : Ins Z h a K true) (hd : decode bytes pc = .ok (.instanceof index, 3))
    (k : ∀ T', Pos p l e R s m args below meth c own nm bytes ml rt Z a0 EL h0 ws T' h cells slots → Go p e below Q (T'.setTop (mkF m (pc + 3) Ls (.int 1 :: rest)))) : Go p e below Q (T.setTop (mkF m pc Ls (.ref a :: rest))) :=
  P.same (V := fun T' => T'.setTop (mkF m (pc + 3) Ls (.int 1 :: rest))) (fun vm0 locs X hx hby hml hZ hown eT => instY X hx hZ hown w eT F (g := mkF m pc Ls (.ref a :: rest)) rfl rfl (hb hby hd)) k
theorem Pos.init0 (P : Pos p l e R s m args below meth c own nm bytes ml rt Z a0 EL h0 ws T h cells slots) {index W : Nat} (w1 : (Jvm.Cond.methodLink own index Lib.objectInit).before a0 Z = true) (w2 : (Jvm.Cond.instanceMethod Lib.objectInit).before a0 Z = true) (w3 : (Jvm.Cond.code Lib.objectInit ⟨#[0xb1]⟩ 1 none).before a0 Z = true) {a : Addr} (hd : decode bytes pc = .ok (.invokespecial index, 3)) (hsz : Ls.size = ml) (hf : 1 ≤ R.frames) (hW : (rest.map fun v => v.category).sum ≤ W) (hl : W + 12 ≤ R.locals)
    (k : ∀ T', Pos p l e R s m args below meth c own nm bytes ml rt Z a0 EL h0 ws T' h cells slots → Go p e below Q (T'.setTop (mkF m (pc + 3) Ls rest))) : Go p e below Q (T.setTop (mkF m pc Ls (.ref a :: rest))) :=
  P.same (V := fun T' => T'.setTop (mkF m (pc + 3) Ls rest)) (fun vm0 locs X hx hby hml hZ hown eT => initO X hx hZ hown w1 w2 w3 eT (g := mkF m pc Ls (.ref a :: rest)) rfl (by rw [hml]; exact hsz) rfl (hb hby hd) hf (W := W) (by show 2 * 0 + _ ≤ _; rw [Nat.mul_zero, Nat.zero_add]; exact hW) hl) k
/-- a step that makes new cells alone -/
theorem Pos.grow {U : State} {dc dn : Nat} {A : State → Heap → Prop} {V : State → State} (P : Pos p l e R s m args below meth c own nm bytes ml rt Z a0 EL h0 ws T h cells slots)
    (f : ∀ (vm0 : Vm) (locs : List Loc), Stand p l e R (s.setVm vm0) m args below meth c T locs cells slots → p.tables.exec = Jvm.exec → c.code = bytes → Z.Warmed39 vm0 → vm0.findClass own = some m.cls → T.heap = h →
      ∃ T' h', Stand p l e R (s.setVm vm0) m args below meth c T' locs (cells + dc) (slots + dn) ∧ T'.heap = h' ∧ Ext h h' ∧ A T' h' ∧ ∀ t, Steps p.tables e below (V T') t → Steps p.tables e below U t)
    (k : ∀ T' h', Pos p l e R s m args below meth c own nm bytes ml rt Z a0 EL h0 ws T' h' (cells + dc) (slots + dn) → Ext h h' → A T' h' → Go p e below Q (V T')) : Go p e below Q U := by
  obtain ⟨vm0, k0, locs, X, ⟨hx, hby, hml, hret, hlk, hnm, hh, hEL, hZs⟩, hZ, hown, hS, hk, eT, hC, N, K, O⟩ := P
  obtain ⟨T', h', X', e', E, hA, st⟩ := f vm0 locs X hx hby hZ hown eT
  exact (k T' h' ⟨vm0, k0, locs, X', ⟨hx, hby, hml, hret, hlk, hnm, hh, hEL, hZs⟩, hZ, hown, hS, Nat.le_trans hk E.1, e', hC.trans (CHr.ext E hC.1), N, K.ext E, ⟨Nat.le_trans O.1 E.1, fun a c q => E.2 _ _ (O.2 _ _ q)⟩⟩ E hA).of st
theorem Pos.newO (P : Pos p l e R s m args below meth c own nm bytes ml rt Z a0 EL h0 ws T h cells slots) {C : String} {index n : Nat} (w : (Jvm.Cond.classLink own index C).before a0 Z = true) (wi : (Jvm.Cond.instantiable C n).before a0 Z = true) (wz : (Jvm.Cond.initialized C).before a0 Z = true) (hd : decode bytes pc = .ok (.new index, 3)) (hc : cells + 1 ≤ R.cells) (hl : slots + n ≤ R.slots)
    (k : ∀ T' h' x, x = h.size → Pos p l e R s m args below meth c own nm bytes ml rt Z a0 EL h0 ws T' h' (cells + 1) (slots + n) → Ext h h' → Exa Z h' x C → (∀ {O nm d : String} {ty : FieldType}, Laid Z a0 C O nm d → parseFieldDescriptor d = some ty → Fld Z h' x O nm d (defaultValue ty)) → Go p e below Q (T'.setTop (mkF m (pc + 3) Ls (.ref x :: rest)))) : Go p e below Q (T.setTop (mkF m pc Ls rest)) :=
  P.grow (V := fun T' => T'.setTop (mkF m (pc + 3) Ls (.ref h.size :: rest))) (A := fun T' h' => Exa Z h' h.size C ∧ ∀ {O nm d : String} {ty : FieldType}, Laid Z a0 C O nm d → parseFieldDescriptor d = some ty → Fld Z h' h.size O nm d (defaultValue ty))
    (fun vm0 locs X hx hby hZ hown eT => by
      obtain ⟨T', h', X', e', E, A, D, -, st⟩ := Jvm.RoadKit.newO X hx hZ hown w wi wz eT (g := mkF m pc Ls rest) rfl (hb hby hd) hc hl
      exact ⟨T', h', X', e', E, ⟨A, D⟩, st⟩)
    (fun T' h' P' E A => k T' h' _ rfl P' E A.1 A.2)
theorem Pos.newP (P : Pos p l e R s m args below meth c own nm bytes ml rt Z a0 EL h0 ws T h cells slots) {aty : ArrayType} {n : Int32} {cap : Nat} (w : (Jvm.Cond.arrayClass (newarray.typeOf aty)).before a0 Z = true) (hd : decode bytes pc = .ok (.newarray aty, 2)) (hn : ¬ n < 0) (hcap : n.toNatClampNeg ≤ cap) (hb8 : cap * 8 ≤ 536870912) (hc : cells + 1 ≤ R.cells) (hl : slots + cap ≤ R.slots)
    (k : ∀ T' h' x cA, x = h.size → Pos p l e R s m args below meth c own nm bytes ml rt Z a0 EL h0 ws T' h' (cells + 1) (slots + cap) → Ext h h' → Arv Z h' x cA (newarray.typeOf aty) n [] (defaultValue (newarray.typeOf aty)) → Go p e below Q (T'.setTop (mkF m (pc + 2) Ls (.ref x :: rest)))) : Go p e below Q (T.setTop (mkF m pc Ls (.int n :: rest))) :=
  P.grow (V := fun T' => T'.setTop (mkF m (pc + 2) Ls (.ref h.size :: rest))) (A := fun T' h' => ∃ cA, Arv Z h' h.size cA (newarray.typeOf aty) n [] (defaultValue (newarray.typeOf aty)))
    (fun vm0 locs X hx hby hZ hown eT => by
      obtain ⟨T', h', cA, X', e', E, A, st⟩ := Jvm.RoadKit.newP X hx hZ w eT (g := mkF m pc Ls (.int n :: rest)) rfl (hb hby hd) rfl hn hcap hb8 hc hl
      exact ⟨T', h', X', e', E, ⟨cA, Arv.new A hn⟩, st⟩)
    (fun T' h' P' E A => by obtain ⟨cA, A⟩ := A; exact k T' h' _ cA rfl P' E A)
theorem Pos.newR (P : Pos p l e R s m args below meth c own nm bytes ml rt Z a0 EL h0 ws T h cells slots) {C : String} {index : Nat} {n : Int32} {cap : Nat} (w1 : (Jvm.Cond.classLink own index C).before a0 Z = true) (w2 : (Jvm.Cond.arrayOver (.object C)).before a0 Z = true) (hd : decode bytes pc = .ok (.anewarray index, 3)) (hn : ¬ n < 0) (hcap : n.toNatClampNeg ≤ cap) (hb8 : cap * 8 ≤ 536870912) (hc : cells + 1 ≤ R.cells) (hl : slots + cap ≤ R.slots)
    (k : ∀ T' h' x cA, x = h.size → Pos p l e R s m args below meth c own nm bytes ml rt Z a0 EL h0 ws T' h' (cells + 1) (slots + cap) → Ext h h' → Arv Z h' x cA (.object C) n [] .null → Ovr Z cA C → Go p e below Q (T'.setTop (mkF m (pc + 3) Ls (.ref x :: rest)))) : Go p e below Q (T.setTop (mkF m pc Ls (.int n :: rest))) :=
  P.grow (V := fun T' => T'.setTop (mkF m (pc + 3) Ls (.ref h.size :: rest))) (A := fun T' h' => ∃ cA, Arv Z h' h.size cA (.object C) n [] .null ∧ Ovr Z cA C)
    (fun vm0 locs X hx hby hZ hown eT => by
      obtain ⟨T', h', cA, X', e', E, A, O, st⟩ := Jvm.RoadKit.newR X hx hZ hown w1 w2 eT (g := mkF m pc Ls (.int n :: rest)) rfl (hb hby hd) rfl hn hcap hb8 hc hl
      exact ⟨T', h', X', e', E, ⟨cA, Arv.new A hn, O⟩, st⟩)
    (fun T' h' P' E A => by obtain ⟨cA, A, O⟩ := A; exact k T' h' _ cA rfl P' E A O)
/-- a step that writes one place of a -/
theorem Pos.wr {U : State} {a : Addr} {sl : Nat} {v : Value} {V : State → State} (P : Pos p l e R s m args below meth c own nm bytes ml rt Z a0 EL h0 ws T h cells slots)
    (hsafe : ∀ vm, Z.vm.Alike s.vm → Z.vm.Alike vm → CHr Z EL s.vm h0 vm h → Safe Z EL vm h a) (hz : Z.heap.size ≤ a) (hws : a ∈ ws ∨ h0.size ≤ a)
    (f : ∀ (vm0 : Vm) (locs : List Loc), Stand p l e R (s.setVm vm0) m args below meth c T locs cells slots → p.tables.exec = Jvm.exec → c.code = bytes → Z.Warmed39 vm0 → vm0.findClass own = some m.cls → T.heap = h → meth.name = nm →
      ∃ T' h', Stand p l e R (s.setVm vm0) m args below meth c T' (locs ++ [⟨a, sl⟩]) cells slots ∧ T'.heap = h' ∧ Wr h h' a sl v ∧ ∀ t, Steps p.tables e below (V T') t → Steps p.tables e below U t)
    (k : ∀ T' h', Pos p l e R s m args below meth c own nm bytes ml rt Z a0 EL h0 ws T' h' cells slots → Wr h h' a sl v → Go p e below Q (V T')) : Go p e below Q U := by
  obtain ⟨vm0, k0, locs, X, ⟨hx, hby, hml, hret, hlk, hnm, hh, hEL, hZs⟩, hZ, hown, hS, hk, eT, hC, N, K, O⟩ := P
  obtain ⟨T', h', X', e', W, st⟩ := f vm0 locs X hx hby hZ hown eT hnm
  exact (k T' h' ⟨vm0, k0, _, X', ⟨hx, hby, hml, hret, hlk, hnm, hh, hEL, hZs⟩, hZ, hown, hS, Nat.le_trans hk (Nat.le_of_eq W.size.symm), e', hC.trans (CHr.wr W (hsafe vm0 hZs.alike hZ.alike hC) hC.1), Fr.snoc X' N hz, K.wr W hws,
    (Old.wr (n0 := Z.heap.size) ⟨rfl, O⟩ W hz).2⟩ W).of st
theorem Pos.putF (P : Pos p l e R s m args below meth c own nm bytes ml rt Z a0 EL h0 ws T h cells slots) {R0 O n d C : String} {index kk : Nat} {ty : FieldType} {a : Addr} {v v' old : Value}
    (w : (Jvm.Cond.fieldLink own index R0 n d).before a0 Z = true) (via : Via Z R0 O n d) (F : Fld Z h a O n d old) (E : Exa Z h a C) (L : (Jvm.Cond.lays C O n d).before a0 Z = true ∨ ((Jvm.Cond.laysFinal C O n d).before a0 Z = true ∧ own = O ∧ nm = "<init>")) (wi : (Jvm.Cond.instantiable C kk).before a0 Z = true)
    (hty : parseFieldDescriptor d = some ty) (hn : narrow ty v = v') (hf : fits ty v' = true) (hd : decode bytes pc = .ok (.putfield index, 3))
    (hsafe : ∀ vm, Z.vm.Alike s.vm → Z.vm.Alike vm → CHr Z EL s.vm h0 vm h → Safe Z EL vm h a) (hz : Z.heap.size ≤ a) (hws : a ∈ ws ∨ h0.size ≤ a)
    (k : ∀ T' h', Pos p l e R s m args below meth c own nm bytes ml rt Z a0 EL h0 ws T' h' cells slots → Wr h h' a (Jvm.RoadKit.slotOf Z O n d) v' → Go p e below Q (T'.setTop (mkF m (pc + 3) Ls rest))) : Go p e below Q (T.setTop (mkF m pc Ls (v :: .ref a :: rest))) :=
  P.wr hsafe hz hws (V := fun T' => T'.setTop (mkF m (pc + 3) Ls rest)) (fun vm0 locs X hx hby hZ hown eT hnm => putFN X hx hZ hown w via eT F E (L.imp id fun q => ⟨q.1, q.2.1, hnm.trans q.2.2⟩) wi hty hn hf (g := mkF m pc Ls (v :: .ref a :: rest)) rfl rfl (hb hby hd)) k
theorem inb {j : Int32} {i : Nat} {cl : Cell} {z : Int32} (hj : j.toNatClampNeg = i) (hj0 : ¬ j < 0) (hS : cl.slots.size = z.toNatClampNeg) (hlt : i < z.toNatClampNeg) : ¬ (j < 0 ∨ cl.slots.size ≤ j.toNatClampNeg) := by
  rintro (q | q)
  · exact hj0 q
  · rw [hS, hj] at q; omega
theorem Pos.stC (P : Pos p l e R s m args below meth c own nm bytes ml rt Z a0 EL h0 ws T h cells slots) {a : Addr} {kc : ClassId} {z j x x' : Int32} {vs : List Value} {dv : Value} (A : Arv Z h a kc .char z vs dv) (i : Nat) (hj : j.toNatClampNeg = i) (hj0 : ¬ j < 0) (hlt : i < z.toNatClampNeg) (hi : i < vs.length) (hx' : nar .char x = x') (hd : decode bytes pc = .ok (.castore, 1)) (hz : Z.heap.size ≤ a) (hws : a ∈ ws ∨ h0.size ≤ a)
    (k : ∀ T' h', Pos p l e R s m args below meth c own nm bytes ml rt Z a0 EL h0 ws T' h' cells slots → Wr h h' a j.toNatClampNeg (.int x') → Arv Z h' a kc .char z (vs.set i (.int x')) dv → Go p e below Q (T'.setTop (mkF m (pc + 1) Ls rest))) : Go p e below Q (T.setTop (mkF m pc Ls (.int x :: .int j :: .ref a :: rest))) := by
  obtain ⟨cl, Ar, q1, S, N, H, G⟩ := A
  subst hx'
  refine P.wr (fun vm _ hal _ => Safe.arr hal Ar (by decide)) hz hws (V := fun T' => T'.setTop (mkF m (pc + 1) Ls rest)) (fun vm0 locs X hx hby hZ hown eT hnm => Jvm.RoadKit.stC X hx hZ eT Ar (inb hj hj0 S hlt) (g := mkF m pc Ls (.int x :: .int j :: .ref a :: rest)) rfl rfl (hb hby hd)) (fun T' h' P' W => k T' h' P' W (Arv.set Ar q1 S N H G (fits_nar_char x) W i hj hi))
theorem Pos.stR (P : Pos p l e R s m args below meth c own nm bytes ml rt Z a0 EL h0 ws T h cells slots) {a : Addr} {kc : ClassId} {C : String} {z j : Int32} {y : Addr} {vs : List Value} {dv : Value} (A : Arv Z h a kc (.object C) z vs dv) (O : Ovr Z kc C) (I : Ins Z h y C true) (i : Nat) (hj : j.toNatClampNeg = i) (hj0 : ¬ j < 0) (hlt : i < z.toNatClampNeg) (hi : i < vs.length) (hd : decode bytes pc = .ok (.aastore, 1)) (hz : Z.heap.size ≤ a) (hws : a ∈ ws ∨ h0.size ≤ a)
    (k : ∀ T' h', Pos p l e R s m args below meth c own nm bytes ml rt Z a0 EL h0 ws T' h' cells slots → Wr h h' a j.toNatClampNeg (.ref y) → Arv Z h' a kc (.object C) z (vs.set i (.ref y)) dv → Go p e below Q (T'.setTop (mkF m (pc + 1) Ls rest))) : Go p e below Q (T.setTop (mkF m pc Ls (.ref y :: .int j :: .ref a :: rest))) := by
  obtain ⟨cl, Ar, q1, S, N, H, G⟩ := A
  refine P.wr (fun vm _ hal _ => Safe.arr hal Ar nofun) hz hws (V := fun T' => T'.setTop (mkF m (pc + 1) Ls rest)) (fun vm0 locs X hx hby hZ hown eT hnm => Jvm.RoadKit.stR X hx hZ eT Ar (inb hj hj0 S hlt) rfl (Sto.ofV Ar q1 O I) (g := mkF m pc Ls (.ref y :: .int j :: .ref a :: rest)) rfl rfl (hb hby hd)) (fun T' h' P' W => k T' h' P' W (Arv.set Ar q1 S N H G rfl W i hj hi))
/-- a String constant, opaque -/
theorem Pos.ldcO (P : Pos p l e R s m args below meth c own nm bytes ml rt Z a0 EL h0 ws T h cells slots) {text : String} {index n : Nat} (w : (Jvm.Cond.stringLink own index text).before a0 Z = true) (wS : ∀ a ∈ Bundle.stringAtoms, a.before a0 Z = true) (hd : decode bytes pc = .ok (.ldc index, 2)) (hn : 4 * text.toList.length ≤ n) (hbig : n ≤ 536870912) (hc : cells + 2 ≤ R.cells) (hl : slots + (n + 4) ≤ R.slots)
    (k : ∀ T' h' x, Pos p l e R s m args below meth c own nm bytes ml rt Z a0 EL h0 ws T' h' (cells + 2) (slots + (n + 4)) → Ext h h' → Go p e below Q (T'.setTop (mkF m (pc + 2) Ls (.ref x :: rest)))) : Go p e below Q (T.setTop (mkF m pc Ls rest)) := by
  obtain ⟨vm0, k0, locs, X, ⟨hx, hby, hml, hret, hlk, hnm, hh, hEL, hZs⟩, hZ, hown, hS, hk, eT, hC, N, K, O⟩ := P
  obtain ⟨a, T', h', k1, X', e', E, hS', hk', hZ', hown', hC', -, st⟩ := ldcOH X hx hZ hown w wS eT hS hk hEL hC.1 (g := mkF m pc Ls rest) rfl (hb hby hd) hn hbig hc hl
  exact (k T' h' a ⟨T'.vm, k1, locs, X', ⟨hx, hby, hml, hret, hlk, hnm, hh, hEL, hZs⟩, hZ', hown', hS', hk', e', hC.trans hC', N, K.ext E, ⟨Nat.le_trans O.1 E.1, fun a c q => E.2 _ _ (O.2 _ _ q)⟩⟩ E).of st
/-- a String constant, read -/
theorem Pos.ldcR (P : Pos p l e R s m args below meth c own nm bytes ml rt Z a0 EL h0 ws T h cells slots) {text : String} {index n : Nat} {vs : List Value} {z : Int32} (w : (Jvm.Cond.stringLink own index text).before a0 Z = true) (wS : ∀ a ∈ Bundle.stringAtoms, a.before a0 Z = true) (hmem : (own, index) ∈ EL) (ht : (∀ c ∈ text.toList, c.toNat < 256) ∧ text.toList.map (fun c => Value.int (Jvm.Lit.byteI c.toNat.toUInt16)) = vs) (hz : ¬ z < 0) (hl0 : z.toNatClampNeg = vs.length) (hd : decode bytes pc = .ok (.ldc index, 2)) (hn : 4 * text.toList.length ≤ n) (hbig : n ≤ 536870912) (hc : cells + 2 ≤ R.cells) (hl : slots + (n + 4) ≤ R.slots)
    (k : ∀ T' h' x b kb, Pos p l e R s m args below meth c own nm bytes ml rt Z a0 EL h0 ws T' h' (cells + 2) (slots + (n + 4)) → Ext h h' → Exa Z h' x "java/lang/String" → Fld Z h' x "java/lang/String" "coder" "B" (.int 0) → Fld Z h' x "java/lang/String" "value" "[B" (.ref b) → Arv Z h' b kb .byte z vs (.int 0) → Go p e below Q (T'.setTop (mkF m (pc + 2) Ls (.ref x :: rest)))) : Go p e below Q (T.setTop (mkF m pc Ls rest)) := by
  obtain ⟨vm0, k0, locs, X, ⟨hx, hby, hml, hret, hlk, hnm, hh, hEL, hZs⟩, hZ, hown, hS, hk, eT, hC, N, K, O⟩ := P
  obtain ⟨a, T', h', k1, b, kb, X', e', E, hS', hk', hZ', hown', f1, f2, f3, f4, -, -, hC', -, -, st⟩ := ldcCH X hx hZ hown w wS eT hS hk hEL hmem hC.1 ht hz hl0 (g := mkF m pc Ls rest) rfl (hb hby hd) hn hbig hc hl
  exact (k T' h' a b kb ⟨T'.vm, k1, locs, X', ⟨hx, hby, hml, hret, hlk, hnm, hh, hEL, hZs⟩, hZ', hown', hS', hk', e', hC.trans hC', N, K.ext E, ⟨Nat.le_trans O.1 E.1, fun a c q => E.2 _ _ (O.2 _ _ q)⟩⟩ E f1 f2 f3 f4).of st
/-- behind a call by contract: the point, all its facts -/
theorem Pos.after {vm0 : Vm} {k0 : Nat} {locs L : List Loc} {dc dn cc nn : Nat} {ws' : List Addr} {U : State} {LL : List Loc}
    (hR : p.tables.exec = Jvm.exec ∧ c.code = bytes ∧ c.maxLocals = ml ∧ meth.sig.returnType = rt ∧ meth.locks = false ∧ meth.name = nm ∧ s.heap = h0 ∧ EW Z a0 EL ∧ Z.Warmed39 s.vm) (hZ : Z.Warmed39 vm0) (hown : vm0.findClass own = some m.cls) (hS : s.Since vm0 k0) (hk : k0 ≤ h.size) (eT : T.heap = h) (hC : CHr Z EL s.vm h0 vm0 h) (N : Fr Z.heap.size locs) (K : Keep h0 h ws)
    (X' : Stand p l e R ((s.setVm vm0).setVm U.vm) m args below meth c U LL cc nn) (hS2 : (s.setVm vm0).Since U.vm U.heap.size) (g : T.heap.size ≤ U.heap.size) (hLL : LL = locs ++ L) (hcc : cc = cells + dc) (hnn : nn = slots + dn) (hC' : CHr Z EL vm0 h U.vm U.heap) (N' : Fr Z.heap.size L) (K' : Keep h U.heap ws') (O' : Ext Z.heap U.heap) (hws : ∀ x ∈ ws', x ∈ ws ∨ h0.size ≤ x) :
    Pos p l e R s m args below meth c own nm bytes ml rt Z a0 EL h0 ws U U.heap (cells + dc) (slots + dn) := by
  subst hLL hcc hnn
  rw [eT] at g
  obtain ⟨Y, hS3, hZ3, ho3⟩ := rebS hS hk X' hS2 g hZ hown
  exact ⟨U.vm, _, _, Y, hR, hZ3, ho3, hS3, Nat.le_refl _, rfl, hC.trans hC', N.app N', K.trans K' hws, O'⟩
theorem Pos.callS (P : Pos p l e R s m args below meth c own nm bytes ml rt Z a0 EL h0 ws T h cells slots) {index : Nat} {y : MethodName} {bytes' : ByteArray} {ml' W : Nat} {rt' : Option FieldType} {argsL stk : List Value} {ws' : List Addr} {ps : List FieldType} {r : Option FieldType}
    (w1 : (Jvm.Cond.methodLink own index y).before a0 Z = true) (w2 : (Jvm.Cond.static y).before a0 Z = true) (w3 : (Jvm.Cond.initialized y.cls).before a0 Z = true) (w4 : (Jvm.Cond.code y bytes' ml' rt').before a0 Z = true) (hy : y.cls ≠ "java/lang/invoke/MethodHandle" ∧ y.cls ≠ "java/lang/invoke/VarHandle")
    (C : Con l Z EL [] y bytes' ml' rt' rm argsL.toArray h ws' Qv) (hf : rm.frames + 1 ≤ R.frames) (hl : W + (ml' + 11) + rm.locals ≤ R.locals) (hc : cells + rm.cells ≤ R.cells) (hs : slots + rm.slots ≤ R.slots) (hws : ∀ x ∈ ws', x ∈ ws ∨ h0.size ≤ x)
    (pd : parseMethodDescriptor y.desc = some ⟨ps, r⟩) (hlen : argsL.length = ps.length) (hst : stk = argsL.reverse ++ rest) (hsz : Ls.size = ml) (hW : (rest.map fun v => v.category).sum ≤ W) (hd : decode bytes pc = .ok (.invokestatic index, 3))
    (k : ∀ v T' h', Pos p l e R s m args below meth c own nm bytes ml rt Z a0 EL h0 ws T' h' (cells + rm.cells) (slots + rm.slots) → Keep h h' ws' → Qv v h' → Go p e below Q (T'.setTop (mkF m (pc + 3) Ls (v.toList ++ rest)))) : Go p e below Q (T.setTop (mkF m pc Ls stk)) := by
  obtain ⟨vm0, k0, locs, X, hR, hZ, hown, hS, hk, eT, hC, N, K, O⟩ := P
  have hR' := hR
  obtain ⟨hx, hby, hml, hret, hlk, hnm, hh, hEL, hZs⟩ := hR'
  obtain ⟨v, _, ⟨U, LL, cc, nn⟩, -, X', hS2, hg, ⟨L, ⟨N', K', O', hQ⟩, hLL, hcc, hnn, hC'⟩, st⟩ := callSS X hx (y := y) hown (mvT (s := s.setVm vm0) hZ w1) (mvT (s := s.setVm vm0) hZ w2) (mvT (s := s.setVm vm0) hZ w3) (mvT (s := s.setVm vm0) hZ w4) hy (backOfSH (W := W) (vm0 := vm0) (Q := fun v h' L => Fr Z.heap.size L ∧ Keep h h' ws' ∧ Ext Z.heap h' ∧ Qv v h') C hZ w4 w3 hf hl hEL hC.1) (g := mkF m pc Ls stk) rfl (by rw [hml]; exact hsz) (argsL := argsL) (rest := rest) (lenOf pd hlen) hst (by show 2 * 0 + _ ≤ _; rw [Nat.mul_zero, Nat.zero_add]; exact hW) (hb hby hd) (fun _ _ => ⟨rfl, eT, hc, hs⟩)
  dsimp only at X' hS2 hg hLL hcc hnn hC' st N' K' O' hQ
  exact (k v U U.heap (Pos.after hR hZ hown hS hk eT hC N K X' hS2 hg hLL hcc hnn hC' N' K' O' hws) K' hQ).of (fun t q => st.trans q)
theorem Pos.callI (P : Pos p l e R s m args below meth c own nm bytes ml rt Z a0 EL h0 ws T h cells slots) {index : Nat} {y : MethodName} {bytes' : ByteArray} {ml' W : Nat} {a : Addr} {argsL stk : List Value} {ws' : List Addr} {ps : List FieldType} {r : Option FieldType} (hy1 : y.name = "<init>")
    (w1 : (Jvm.Cond.methodLink own index y).before a0 Z = true) (w2 : (Jvm.Cond.instanceMethod y).before a0 Z = true) (w3 : (Jvm.Cond.initialized y.cls).before a0 Z = true) (w4 : (Jvm.Cond.code y bytes' ml' none).before a0 Z = true) (hy : y.cls ≠ "java/lang/invoke/MethodHandle" ∧ y.cls ≠ "java/lang/invoke/VarHandle")
    (C : Con l Z EL [] y bytes' ml' none rm (.ref a :: argsL).toArray h ws' Qv) (hf : rm.frames + 1 ≤ R.frames) (hl : W + (ml' + 11) + rm.locals ≤ R.locals) (hc : cells + rm.cells ≤ R.cells) (hs : slots + rm.slots ≤ R.slots) (hws : ∀ x ∈ ws', x ∈ ws ∨ h0.size ≤ x)
    (pd : parseMethodDescriptor y.desc = some ⟨ps, r⟩) (hlen : argsL.length = ps.length) (hst : stk = argsL.reverse ++ .ref a :: rest) (hsz : Ls.size = ml) (hW : (rest.map fun v => v.category).sum ≤ W) (hd : decode bytes pc = .ok (.invokespecial index, 3))
    (k : ∀ v T' h', Pos p l e R s m args below meth c own nm bytes ml rt Z a0 EL h0 ws T' h' (cells + rm.cells) (slots + rm.slots) → Keep h h' ws' → Qv v h' → Go p e below Q (T'.setTop (mkF m (pc + 3) Ls (v.toList ++ rest)))) : Go p e below Q (T.setTop (mkF m pc Ls stk)) := by
  obtain ⟨vm0, k0, locs, X, hR, hZ, hown, hS, hk, eT, hC, N, K, O⟩ := P
  have hR' := hR
  obtain ⟨hx, hby, hml, hret, hlk, hnm, hh, hEL, hZs⟩ := hR'
  obtain ⟨v, _, ⟨U, LL, cc, nn⟩, -, X', hS2, hg, ⟨L, ⟨N', K', O', hQ⟩, hLL, hcc, hnn, hC'⟩, st⟩ := X.specialBackS hx (y := y) hy1 hown (mvT (s := s.setVm vm0) hZ w1) (mvT (s := s.setVm vm0) hZ w2) (mvT (s := s.setVm vm0) hZ w4) hy (backOfSH (W := W) (vm0 := vm0) (Q := fun v h' L => Fr Z.heap.size L ∧ Keep h h' ws' ∧ Ext Z.heap h' ∧ Qv v h') C hZ w4 w3 hf hl hEL hC.1) (g := mkF m pc Ls stk) rfl (by rw [hml]; exact hsz) (Steps.refl _) (a := a) (argsL := argsL) (rest := rest) (lenOf pd hlen) hst (by show 2 * 0 + _ ≤ _; rw [Nat.mul_zero, Nat.zero_add]; exact hW) (hb hby hd) (fun _ _ => ⟨rfl, eT, hc, hs⟩)
  dsimp only at X' hS2 hg hLL hcc hnn hC' st N' K' O' hQ
  exact (k v U U.heap (Pos.after hR hZ hown hS hk eT hC N K X' hS2 hg hLL hcc hnn hC' N' K' O' hws) K' hQ).of (fun t q => st.trans q)
theorem Pos.callV (P : Pos p l e R s m args below meth c own nm bytes ml rt Z a0 EL h0 ws T h cells slots) {index : Nat} {y z : MethodName} {bytes' : ByteArray} {ml' W : Nat} {rt' : Option FieldType} {C : String} {a : Addr} {argsL stk : List Value} {ws' : List Addr} {ps : List FieldType} {r : Option FieldType}
    (w1 : (Jvm.Cond.methodLink own index y).before a0 Z = true) (w2 : (Jvm.Cond.declares y).before a0 Z = true) (w5 : (Jvm.Cond.selects C y z).before a0 Z = true) (hnf : ∀ vm0, Z.Warmed39 vm0 → NotFace (s.setVm vm0) y) (w6 : (Jvm.Cond.instanceMethod z).before a0 Z = true) (w3 : (Jvm.Cond.initialized z.cls).before a0 Z = true) (w4 : (Jvm.Cond.code z bytes' ml' rt').before a0 Z = true) (hy : y.cls ≠ "java/lang/invoke/MethodHandle" ∧ y.cls ≠ "java/lang/invoke/VarHandle") (E : Exa Z h a C)
    (Cn : Con l Z EL [] z bytes' ml' rt' rm (.ref a :: argsL).toArray h ws' Qv) (hf : rm.frames + 1 ≤ R.frames) (hl : W + (ml' + 11) + rm.locals ≤ R.locals) (hc : cells + rm.cells ≤ R.cells) (hs : slots + rm.slots ≤ R.slots) (hws : ∀ x ∈ ws', x ∈ ws ∨ h0.size ≤ x)
    (pd : parseMethodDescriptor y.desc = some ⟨ps, r⟩) (hlen : argsL.length = ps.length) (hst : stk = argsL.reverse ++ .ref a :: rest) (hsz : Ls.size = ml) (hW : (rest.map fun v => v.category).sum ≤ W) (hd : decode bytes pc = .ok (.invokevirtual index, 3))
    (k : ∀ v T' h', Pos p l e R s m args below meth c own nm bytes ml rt Z a0 EL h0 ws T' h' (cells + rm.cells) (slots + rm.slots) → Keep h h' ws' → Qv v h' → Go p e below Q (T'.setTop (mkF m (pc + 3) Ls (v.toList ++ rest)))) : Go p e below Q (T.setTop (mkF m pc Ls stk)) := by
  obtain ⟨vm0, k0, locs, X, hR, hZ, hown, hS, hk, eT, hC, N, K, O⟩ := P
  have hR' := hR
  obtain ⟨hx, hby, hml, hret, hlk, hnm, hh, hEL, hZs⟩ := hR'
  obtain ⟨cq, kq, qa, qb, qc⟩ := isOf (s := s.setVm vm0) (T := T) hZ eT E
  obtain ⟨v, _, ⟨U, LL, cc, nn⟩, -, X', hS2, hg, ⟨L, ⟨N', K', O', hQ⟩, hLL, hcc, hnn, hC'⟩, st⟩ := X.virtualBackS hx (y := y) (z := z) hown (mvT (s := s.setVm vm0) hZ w1) (mvT (s := s.setVm vm0) hZ w2) (hnf vm0 hZ) (mvT (s := s.setVm vm0) hZ w5) (mvT (s := s.setVm vm0) hZ w6) hy (backOfSH (W := W) (vm0 := vm0) (Q := fun v h' L => Fr Z.heap.size L ∧ Keep h h' ws' ∧ Ext Z.heap h' ∧ Qv v h') Cn hZ w4 w3 hf hl hEL hC.1) qa qc (g := mkF m pc Ls stk) rfl (by rw [hml]; exact hsz) (Steps.refl _) (argsL := argsL) (rest := rest) (lenOf pd hlen) hst (by show 2 * 0 + _ ≤ _; rw [Nat.mul_zero, Nat.zero_add]; exact hW) (hb hby hd) (fun _ _ => ⟨rfl, eT, hc, hs⟩)
  dsimp only at X' hS2 hg hLL hcc hnn hC' st N' K' O' hQ
  exact (k v U U.heap (Pos.after hR hZ hown hS hk eT hC N K X' hS2 hg hLL hcc hnn hC' N' K' O' hws) K' hQ).of (fun t q => st.trans q)
theorem nfOf {y : MethodName} {C : String} (w5 : (Jvm.Cond.selects C y y).before a0 Z = true) : ∀ vm0, Z.Warmed39 vm0 → NotFace (s.setVm vm0) y := fun vm0 hZ => notFace_of_selects (args := #[]) (mvT (s := s.setVm vm0) hZ w5)
/-- behind a call by one of the library's payers (it interns nothing) -/
theorem Pos.afterB {vm0 : Vm} {k0 : Nat} {locs L : List Loc} {dc dn cc nn : Nat} {ws' : List Addr} {U : State} {LL : List Loc}
    (hR : p.tables.exec = Jvm.exec ∧ c.code = bytes ∧ c.maxLocals = ml ∧ meth.sig.returnType = rt ∧ meth.locks = false ∧ meth.name = nm ∧ s.heap = h0 ∧ EW Z a0 EL ∧ Z.Warmed39 s.vm) (hZ : Z.Warmed39 vm0) (hown : vm0.findClass own = some m.cls) (hS : s.Since vm0 k0) (hk : k0 ≤ h.size) (hC : CHr Z EL s.vm h0 vm0 h) (N : Fr Z.heap.size locs) (K : Keep h0 h ws) (O : Ext Z.heap h)
    (X' : Stand p l e R (s.setVm vm0) m args below meth c U LL cc nn) (hLL : LL = locs ++ L) (hcc : cc = cells + dc) (hnn : nn = slots + dn) (N' : Fr Z.heap.size L) (K' : Keep h U.heap ws') (hws : ∀ x ∈ ws', (x ∈ ws ∨ h0.size ≤ x) ∧ Z.heap.size ≤ x) (hsafe : ∀ vm, Z.vm.Alike s.vm → Z.vm.Alike vm → CHr Z EL s.vm h0 vm h → ∀ x ∈ ws', Safe Z EL vm h x) :
    Pos p l e R s m args below meth c own nm bytes ml rt Z a0 EL h0 ws U U.heap (cells + dc) (slots + dn) := by
  subst hLL hcc hnn
  exact ⟨vm0, k0, _, X', hR, hZ, hown, hS, Nat.le_trans hk K'.1, rfl, hC.trans (CHr.keep K' (hsafe vm0 hR.2.2.2.2.2.2.2.2.alike hZ.alike hC) hC.1), N.app N', K.trans K' (fun x hx => (hws x hx).1), (Old.keep (n0 := Z.heap.size) ⟨rfl, O⟩ K' (fun x hx => (hws x hx).2)).2⟩
theorem Pos.specB (P : Pos p l e R s m args below meth c own nm bytes ml rt Z a0 EL h0 ws T h cells slots) {index : Nat} {y : MethodName} {bytes' : ByteArray} {ml' W dc dn : Nat} {a : Addr} {argsL stk : List Value} {as' : Array Value} {ws' : List Addr} {ps : List FieldType} {r : Option FieldType} {Qx : Option Value → Heap → List Loc → Prop} (hy1 : y.name = "<init>")
    (w1 : (Jvm.Cond.methodLink own index y).before a0 Z = true) (w2 : (Jvm.Cond.instanceMethod y).before a0 Z = true) (w4 : (Jvm.Cond.code y bytes' ml' none).before a0 Z = true) (hy : y.cls ≠ "java/lang/invoke/MethodHandle" ∧ y.cls ≠ "java/lang/invoke/VarHandle")
    (B : ∀ vm0 : Vm, Z.Warmed39 (s.setVm vm0).vm → Back l R p e below (s.setVm vm0) args y 3 W (fun P a => a = as' ∧ P.U.heap = h ∧ P.cells + dc ≤ R.cells ∧ P.slots + dn ≤ R.slots) (fun P _ v B => ∃ L, Qx v B.U.heap L ∧ B.locs = P.locs ++ L ∧ B.cells = P.cells + dc ∧ B.slots = P.slots + dn)) (has : (.ref a :: argsL).toArray = as')
    (hQ : ∀ v h' L, Qx v h' L → Fr Z.heap.size L ∧ Keep h h' ws') (hc : cells + dc ≤ R.cells) (hs : slots + dn ≤ R.slots) (hws : ∀ x ∈ ws', (x ∈ ws ∨ h0.size ≤ x) ∧ Z.heap.size ≤ x) (hsafe : ∀ vm, Z.vm.Alike s.vm → Z.vm.Alike vm → CHr Z EL s.vm h0 vm h → ∀ x ∈ ws', Safe Z EL vm h x)
    (pd : parseMethodDescriptor y.desc = some ⟨ps, r⟩) (hlen : argsL.length = ps.length) (hst : stk = argsL.reverse ++ .ref a :: rest) (hsz : Ls.size = ml) (hW : (rest.map fun v => v.category).sum ≤ W) (hd : decode bytes pc = .ok (.invokespecial index, 3))
    (k : ∀ v T' h' L, Pos p l e R s m args below meth c own nm bytes ml rt Z a0 EL h0 ws T' h' (cells + dc) (slots + dn) → Qx v h' L → Go p e below Q (T'.setTop (mkF m (pc + 3) Ls (v.toList ++ rest)))) : Go p e below Q (T.setTop (mkF m pc Ls stk)) := by
  obtain ⟨vm0, k0, locs, X, hR, hZ, hown, hS, hk, eT, hC, N, K, O⟩ := P
  have hR' := hR
  obtain ⟨hx, hby, hml, hret, hlk, hnm, hh, hEL, hZs⟩ := hR'
  obtain ⟨v, _, ⟨U, LL, cc, nn⟩, -, X', ⟨L, hq, hLL, hcc, hnn⟩, st⟩ := X.specialBack hx (y := y) hy1 hown (mvT (s := s.setVm vm0) hZ w1) (mvT (s := s.setVm vm0) hZ w2) (mvT (s := s.setVm vm0) hZ w4) hy (B vm0 hZ) (g := mkF m pc Ls stk) rfl (by rw [hml]; exact hsz) (Steps.refl _) (a := a) (argsL := argsL) (rest := rest) (lenOf pd hlen) hst (by show 2 * 0 + _ ≤ _; rw [Nat.mul_zero, Nat.zero_add]; exact hW) (hb hby hd) (fun _ _ => ⟨has, eT, hc, hs⟩)
  dsimp only at X' hLL hcc hnn st hq
  obtain ⟨N', K'⟩ := hQ _ _ _ hq
  exact (k v U U.heap L (Pos.afterB hR hZ hown hS hk hC N K O X' hLL hcc hnn N' K' hws hsafe) hq).of (fun t q => st.trans q)
theorem Pos.virtB (P : Pos p l e R s m args below meth c own nm bytes ml rt Z a0 EL h0 ws T h cells slots) {index : Nat} {y z : MethodName} {W dc dn : Nat} {C : String} {a : Addr} {argsL stk : List Value} {as' : Array Value} {ws' : List Addr} {ps : List FieldType} {r : Option FieldType} {Qx : Option Value → Heap → List Loc → Prop}
    (w1 : (Jvm.Cond.methodLink own index y).before a0 Z = true) (w2 : (Jvm.Cond.declares y).before a0 Z = true) (w5 : (Jvm.Cond.selects C y z).before a0 Z = true) (hnf : ∀ vm0, Z.Warmed39 vm0 → NotFace (s.setVm vm0) y) (w6 : (Jvm.Cond.instanceMethod z).before a0 Z = true) (hy : y.cls ≠ "java/lang/invoke/MethodHandle" ∧ y.cls ≠ "java/lang/invoke/VarHandle") (E : Exa Z h a C)
    (B : ∀ vm0 : Vm, Z.Warmed39 (s.setVm vm0).vm → Back l R p e below (s.setVm vm0) args z 3 W (fun P a => a = as' ∧ P.U.heap = h ∧ P.cells + dc ≤ R.cells ∧ P.slots + dn ≤ R.slots) (fun P _ v B => ∃ L, Qx v B.U.heap L ∧ B.locs = P.locs ++ L ∧ B.cells = P.cells + dc ∧ B.slots = P.slots + dn)) (has : (.ref a :: argsL).toArray = as')
    (hQ : ∀ v h' L, Qx v h' L → Fr Z.heap.size L ∧ Keep h h' ws') (hc : cells + dc ≤ R.cells) (hs : slots + dn ≤ R.slots) (hws : ∀ x ∈ ws', (x ∈ ws ∨ h0.size ≤ x) ∧ Z.heap.size ≤ x) (hsafe : ∀ vm, Z.vm.Alike s.vm → Z.vm.Alike vm → CHr Z EL s.vm h0 vm h → ∀ x ∈ ws', Safe Z EL vm h x)
    (pd : parseMethodDescriptor y.desc = some ⟨ps, r⟩) (hlen : argsL.length = ps.length) (hst : stk = argsL.reverse ++ .ref a :: rest) (hsz : Ls.size = ml) (hW : (rest.map fun v => v.category).sum ≤ W) (hd : decode bytes pc = .ok (.invokevirtual index, 3))
    (k : ∀ v T' h' L, Pos p l e R s m args below meth c own nm bytes ml rt Z a0 EL h0 ws T' h' (cells + dc) (slots + dn) → Qx v h' L → Go p e below Q (T'.setTop (mkF m (pc + 3) Ls (v.toList ++ rest)))) : Go p e below Q (T.setTop (mkF m pc Ls stk)) := by
  obtain ⟨vm0, k0, locs, X, hR, hZ, hown, hS, hk, eT, hC, N, K, O⟩ := P
  have hR' := hR
  obtain ⟨hx, hby, hml, hret, hlk, hnm, hh, hEL, hZs⟩ := hR'
  obtain ⟨cq, kq, qa, qb, qc⟩ := isOf (s := s.setVm vm0) (T := T) hZ eT E
  obtain ⟨v, _, ⟨U, LL, cc, nn⟩, -, X', ⟨L, hq, hLL, hcc, hnn⟩, st⟩ := X.virtualBack hx (y := y) (z := z) hown (mvT (s := s.setVm vm0) hZ w1) (mvT (s := s.setVm vm0) hZ w2) (hnf vm0 hZ) (mvT (s := s.setVm vm0) hZ w5) (mvT (s := s.setVm vm0) hZ w6) hy (B vm0 hZ) qa qc (g := mkF m pc Ls stk) rfl (by rw [hml]; exact hsz) (Steps.refl _) (argsL := argsL) (rest := rest) (lenOf pd hlen) hst (by show 2 * 0 + _ ≤ _; rw [Nat.mul_zero, Nat.zero_add]; exact hW) (hb hby hd) (fun _ _ => ⟨has, eT, hc, hs⟩)
  dsimp only at X' hLL hcc hnn st hq
  obtain ⟨N', K'⟩ := hQ _ _ _ hq
  exact (k v U U.heap L (Pos.afterB hR hZ hown hS hk hC N K O X' hLL hcc hnn N' K' hws hsafe) hq).of (fun t q => st.trans q)
theorem Pos.alen (P : Pos p l e R s m args below meth c own nm bytes ml rt Z a0 EL h0 ws T h cells slots) {a : Addr} {kc : ClassId} {ty : FieldType} {z : Int32} {vs : List Value} {dv : Value} (A : Arv Z h a kc ty z vs dv) (hd : decode bytes pc = .ok (.arraylength, 1))
    (g : Go p e below Q (T.setTop (mkF m (pc + 1) Ls (.int z :: rest)))) : Go p e below Q (T.setTop (mkF m pc Ls (.ref a :: rest))) := by
  obtain ⟨vm0, k0, locs, X, ⟨hx, hby, hml, hret, hlk, hnm, hh, hEL, hZs⟩, hZ, hown, hS, hk, eT, -⟩ := P
  obtain ⟨cl, Ar, q1, S, N, -, -⟩ := A
  exact g.of fun t k => X.arraylength hx (by rw [eT]; exact Ar.1) (State.isArrayOf_alike (T := s.setVm vm0) hZ.alike Ar.2.1) (g := mkF m pc Ls (.ref a :: rest)) rfl rfl (hb hby hd) _ (by rw [len_of S N]; exact k)
theorem Pos.ldc2 (P : Pos p l e R s m args below meth c own nm bytes ml rt Z a0 EL h0 ws T h cells slots) {index : Nat} {v : Int64} (w : (Jvm.Cond.constantLong own index v).before a0 Z = true) (hd : decode bytes pc = .ok (.ldc2_w index, 3))
    (g : Go p e below Q (T.setTop (mkF m (pc + 3) Ls (.long v :: rest)))) : Go p e below Q (T.setTop (mkF m pc Ls rest)) := by
  obtain ⟨vm0, k0, locs, X, ⟨hx, hby, hml, hret, hlk, hnm, hh, hEL, hZs⟩, hZ, hown, -⟩ := P
  exact g.of fun t k => X.ldc2Long hx hown (mvT (s := s.setVm vm0) hZ w) (g := mkF m pc Ls rest) rfl (hb hby hd) _ k
theorem Pos.ldcI (P : Pos p l e R s m args below meth c own nm bytes ml rt Z a0 EL h0 ws T h cells slots) {index : Nat} {v : Int32} (w : (Jvm.Cond.constant own index v).before a0 Z = true) (hd : decode bytes pc = .ok (.ldc index, 2))
    (g : Go p e below Q (T.setTop (mkF m (pc + 2) Ls (.int v :: rest)))) : Go p e below Q (T.setTop (mkF m pc Ls rest)) := by
  obtain ⟨vm0, k0, locs, X, ⟨hx, hby, hml, hret, hlk, hnm, hh, hEL, hZs⟩, hZ, hown, -⟩ := P
  exact g.of fun t k => X.ldcInt hx hown (mvT (s := s.setVm vm0) hZ w) (g := mkF m pc Ls rest) rfl (hb hby hd) _ k
theorem Pos.aald (P : Pos p l e R s m args below meth c own nm bytes ml rt Z a0 EL h0 ws T h cells slots) {a : Addr} {kc : ClassId} {ty : FieldType} {z j : Int32} {vs : List Value} {dv v : Value} (A : Arv Z h a kc ty z vs dv) (hty : ty.isReference = true) (hj0 : ¬ j < 0) (hlt : j.toNatClampNeg < z.toNatClampNeg) (hv : vs.getD j.toNatClampNeg dv = v) (hd : decode bytes pc = .ok (.aaload, 1))
    (g : Go p e below Q (T.setTop (mkF m (pc + 1) Ls (v :: rest)))) : Go p e below Q (T.setTop (mkF m pc Ls (.int j :: .ref a :: rest))) := by
  obtain ⟨vm0, k0, locs, X, ⟨hx, hby, hml, hret, hlk, hnm, hh, hEL, hZs⟩, hZ, hown, hS, hk, eT, -⟩ := P
  obtain ⟨cl, Ar, q1, S, N, H, -⟩ := A
  have hin : ¬ (j < 0 ∨ cl.slots.size ≤ j.toNatClampNeg) := inb rfl hj0 S hlt
  exact g.of fun t k => X.aaload hx (by rw [eT]; exact Ar.1) (State.isArrayOf_alike (T := s.setVm vm0) hZ.alike Ar.2.1) hty Ar.2.2 hin (H.at hin hv) (g := mkF m pc Ls (.int j :: .ref a :: rest)) rfl rfl (hb hby hd) _ k
theorem Pos.cald (P : Pos p l e R s m args below meth c own nm bytes ml rt Z a0 EL h0 ws T h cells slots) {a : Addr} {kc : ClassId} {z j : Int32} {vs : List Value} {dv v : Value} (A : Arv Z h a kc .char z vs dv) (hj0 : ¬ j < 0) (hlt : j.toNatClampNeg < z.toNatClampNeg) (hv : vs.getD j.toNatClampNeg dv = v) (hd : decode bytes pc = .ok (.caload, 1))
    (g : Go p e below Q (T.setTop (mkF m (pc + 1) Ls (v :: rest)))) : Go p e below Q (T.setTop (mkF m pc Ls (.int j :: .ref a :: rest))) := by
  obtain ⟨vm0, k0, locs, X, ⟨hx, hby, hml, hret, hlk, hnm, hh, hEL, hZs⟩, hZ, hown, hS, hk, eT, -⟩ := P
  obtain ⟨cl, Ar, q1, S, N, H, -⟩ := A
  have hin : ¬ (j < 0 ∨ cl.slots.size ≤ j.toNatClampNeg) := inb rfl hj0 S hlt
  exact g.of fun t k => X.caload hx (by rw [eT]; exact Ar.1) (State.isArrayOf_alike (T := s.setVm vm0) hZ.alike Ar.2.1) Ar.2.2 hin (H.at hin hv) (g := mkF m pc Ls (.int j :: .ref a :: rest)) rfl rfl (hb hby hd) _ k
/-- a new byte array: it is no literal's -/
theorem Pos.newPB (P : Pos p l e R s m args below meth c own nm bytes ml rt Z a0 EL h0 ws T h cells slots) {n : Int32} {cap : Nat} (w : (Jvm.Cond.arrayClass .byte).before a0 Z = true) (hd : decode bytes pc = .ok (.newarray .byte, 2)) (hn : ¬ n < 0) (hcap : n.toNatClampNeg ≤ cap) (hb8 : cap * 8 ≤ 536870912) (hc : cells + 1 ≤ R.cells) (hl : slots + cap ≤ R.slots)
    (k : ∀ T' h' x cA vm, x = h.size → PosV p l e R s m args below meth c own nm bytes ml rt Z a0 EL h0 ws T' h' (cells + 1) (slots + cap) vm → Safe Z EL vm h' x → Ext h h' → Arv Z h' x cA .byte n [] (.int 0) → Go p e below Q (T'.setTop (mkF m (pc + 2) Ls (.ref x :: rest)))) : Go p e below Q (T.setTop (mkF m pc Ls (.int n :: rest))) := by
  obtain ⟨vm0, k0, locs, X, ⟨hx, hby, hml, hret, hlk, hnm, hh, hEL, hZs⟩, hZ, hown, hS, hk, eT, hC, N, K, O⟩ := P
  obtain ⟨T', h', cA, X', e', E, A, st⟩ := Jvm.RoadKit.newP (aty := .byte) X hx hZ w eT (g := mkF m pc Ls (.int n :: rest)) rfl (hb hby hd) rfl hn hcap hb8 hc hl
  exact (k T' h' _ cA vm0 rfl ⟨k0, locs, X', ⟨hx, hby, hml, hret, hlk, hnm, hh, hEL, hZs⟩, hZ, hown, hS, Nat.le_trans hk E.1, e', hC.trans (CHr.ext E hC.1), N, K.ext E, ⟨Nat.le_trans O.1 E.1, fun a c q => E.2 _ _ (O.2 _ _ q)⟩⟩ (Safe.ext E hC.1 (Safe.new (Nat.le_refl _))) E (Arv.new A hn)).of st
theorem posStB {vm : Vm} (P : PosV p l e R s m args below meth c own nm bytes ml rt Z a0 EL h0 ws T h cells slots vm) {a : Addr} {kc : ClassId} {z j x x' : Int32} {vs : List Value} {dv : Value} (hsf : Safe Z EL vm h a) (A : Arv Z h a kc .byte z vs dv) (i : Nat) (hj : j.toNatClampNeg = i) (hj0 : ¬ j < 0) (hlt : i < z.toNatClampNeg) (hi : i < vs.length) (hx' : nar .byte x = x') (hd : decode bytes pc = .ok (.bastore, 1)) (hz : Z.heap.size ≤ a) (hws : a ∈ ws ∨ h0.size ≤ a)
    (k : ∀ T' h', Pos p l e R s m args below meth c own nm bytes ml rt Z a0 EL h0 ws T' h' cells slots → Wr h h' a j.toNatClampNeg (.int x') → Arv Z h' a kc .byte z (vs.set i (.int x')) dv → Go p e below Q (T'.setTop (mkF m (pc + 1) Ls rest))) : Go p e below Q (T.setTop (mkF m pc Ls (.int x :: .int j :: .ref a :: rest))) := by
  obtain ⟨cl, Ar, q1, S, N', H, G⟩ := A
  subst hx'
  obtain ⟨k0, locs, X, ⟨hx, hby, hml, hret, hlk, hnm, hh, hEL, hZs⟩, hZ, hown, hS, hk, eT, hC, N, K, O⟩ := P
  obtain ⟨T', h', X', e', W, st⟩ := Jvm.RoadKit.stB X hx hZ eT Ar (inb hj hj0 S hlt) (g := mkF m pc Ls (.int x :: .int j :: .ref a :: rest)) rfl rfl (hb hby hd)
  exact (k T' h' ⟨vm, k0, _, X', ⟨hx, hby, hml, hret, hlk, hnm, hh, hEL, hZs⟩, hZ, hown, hS, Nat.le_trans hk (Nat.le_of_eq W.size.symm), e', hC.trans (CHr.wr W hsf hC.1), Fr.snoc X' N hz, K.wr W hws, (Old.wr (n0 := Z.heap.size) ⟨rfl, O⟩ W hz).2⟩ W (Arv.set Ar q1 S N' H G (fits_nar_byte x) W i hj hi)).of st
end Own
section Own2
theorem nin0 {x : Addr} : x ∉ ([] : List Addr) := fun q => nomatch q
theorem ninS {x a : Addr} {ws : List Addr} (h : x ≠ a) (r : x ∉ ws) : x ∉ a :: ws := fun q => (List.mem_cons.mp q).elim h r
theorem narR {t : FieldType} {v : Value} (h : v.isRef = true) : narrow t v = v := by cases v <;> first | (simp [Value.isRef] at h; done) | (cases t <;> rfl)
theorem fitR {C : String} {v : Value} (h : v.isRef = true) : fits (.object C) v = true := by cases v <;> first | (simp [Value.isRef] at h; done) | rfl
theorem mask255 (x : Int32) : ∃ k : Fin 256, (x &&& 255) = Int32.ofNat k.val := by
  have h : (x &&& 255).toBitVec.toNat < 256 := by
    simp only [Int32.toBitVec_and, BitVec.toNat_and]
    exact Nat.lt_succ_of_le Nat.and_le_right
  refine ⟨⟨_, h⟩, ?_⟩
  apply Int32.toBitVec_inj.mp
  show _ = BitVec.ofNat 32 _
  rw [BitVec.ofNat_toNat]; simp
/-- (char) (x & 255): from 0 to 255, and a char -/
theorem chr255 {x y : Int32} (h : ((x &&& (255 : Int32)).toUInt32.toUInt16.toUInt32.toInt32) = y) : (¬ y < 0 ∧ ¬ (255 : Int32) < y) ∧ nar .char y = y := by
  subst h
  have t : ∀ k : Fin 256, (¬ ((Int32.ofNat k.val).toUInt32.toUInt16.toUInt32.toInt32) < 0 ∧ ¬ (255 : Int32) < ((Int32.ofNat k.val).toUInt32.toUInt16.toUInt32.toInt32)) ∧ nar .char ((Int32.ofNat k.val).toUInt32.toUInt16.toUInt32.toInt32) = ((Int32.ofNat k.val).toUInt32.toUInt16.toUInt32.toInt32) := by decide +kernel
  obtain ⟨k, e⟩ := mask255 x
  rw [e]; exact t k
theorem upC (cs : List Int32) (h : ∀ c ∈ cs, ¬ c < 0 ∧ ¬ (255 : Int32) < c) : ∀ c ∈ cs, ¬ c < 0 ∧ ¬ (65535 : Int32) < c := fun c hc => ⟨(h c hc).1, fun q => (h c hc).2 (by rw [Int32.lt_iff_toInt_lt] at q ⊢; have e1 : (65535 : Int32).toInt = 65535 := rfl; have e2 : (255 : Int32).toInt = 255 := rfl; omega)⟩
theorem lat0 : ∀ c ∈ ([] : List Int32), ¬ c < 0 ∧ ¬ (255 : Int32) < c := fun _ q => nomatch q
theorem latS {x : Int32} {cs : List Int32} (h : ¬ x < 0 ∧ ¬ (255 : Int32) < x) (r : ∀ c ∈ cs, ¬ c < 0 ∧ ¬ (255 : Int32) < c) : ∀ c ∈ x :: cs, ¬ c < 0 ∧ ¬ (255 : Int32) < c := fun c q => (List.mem_cons.mp q).elim (fun e => e ▸ h) (r c)
/-- a String whose value is not laid yet is no literal -/
theorem safeNull {Z : State} {EL : List (String × Nat)} {vm : Vm} {h : Heap} {x : Addr} (hal : Z.vm.Alike vm) (E : Exa Z h x "java/lang/String") (F : Fld Z h x "java/lang/String" "value" "[B" .null) : Safe Z EL vm h x := fun B => by
  obtain ⟨cell, k, e1, e2, e3, -, -⟩ := E
  obtain ⟨cell', cf, kf, i, f, f1, f2, f3, f4, f5, f6, f7⟩ := F
  cases e1.symm.trans f1
  obtain ⟨p, -, u, a, -, q, -, G, rfl | rfl⟩ := B
  · cases (show h[q.sa]? = some q.sC from G.ha).symm.trans e1
    obtain ⟨cS, ⟨⟨-, -, -, ⟨c1, k1, i1, g1, -⟩, -, -, -, v1, -⟩, -⟩, -⟩ := G
    obtain ⟨k', z⟩ := ff_back (U := Wst Z vm h) hal g1
    have e4 := z.symm.trans f2
    simp only [Option.some.injEq, Prod.mk.injEq] at e4
    rw [e4.2.2.2, f7] at v1
    cases v1
  · cases (show h[q.sd]? = some q.SA from G.hd).symm.trans e1
    obtain ⟨cS, -, -, g, -⟩ := G
    have g' : vm.findClass "[B" = some q.SA.cls := g
    rw [hal.findClass] at g'
    obtain ⟨k1, q1, q2⟩ := Vm.findClass_spec g'
    obtain ⟨k2, q3, q4⟩ := Vm.findClass_spec e2
    cases q1.symm.trans q3
    exact absurd (q2.symm.trans q4) (by decide)
theorem safe1 {Z : State} {EL : List (String × Nat)} {vm : Vm} {h : Heap} {x : Addr} (S : Safe Z EL vm h x) : ∀ y ∈ [x], Safe Z EL vm h y := fun y q => by cases List.mem_singleton.mp q; exact S
theorem ieq {x y : Int32} (h : x.toInt = y.toInt) : x = y := Int32.toInt_inj.mp h
theorem narB (x : Int32) : nar .byte (x.toInt8.toInt32) = x.toInt8.toInt32 := by simp [nar]
end Own2
section Own3
/-- x is a String of the chars cs -/
def Str (Z : State) (h : Heap) (x : Addr) (cs : List Int32) : Prop := Exa Z h x "java/lang/String" ∧ (∀ c ∈ cs, ¬ c < 0 ∧ ¬ (65535 : Int32) < c) ∧ cs.length ≤ 4000 ∧ ∃ (t : Addr) (kb : ClassId) (cd N2 : Int32) (vs : List Value), Fld Z h x "java/lang/String" "value" "[B" (.ref t) ∧ Fld Z h x "java/lang/String" "coder" "B" (.int cd) ∧ Arv Z h t kb .byte N2 vs (.int 0) ∧ StrChars.Road.CodA cs cd N2 vs
/-- a is no byte array -/
def NB (Z : State) (h : Heap) (a : Addr) : Prop := (∃ (C : String) (n : Nat) (a0 : Array Value), Exa Z h a C ∧ (Jvm.Cond.instantiable C n).before a0 Z = true) ∨ ∃ (cl : Cell) (ty : FieldType), Arr Z h a cl ty ∧ ty ≠ .byte
theorem NB.ne {Z : State} {h : Heap} {a t : Addr} {k : ClassId} {z : Int32} {vs : List Value} {d : Value} (N : NB Z h a) (A : Arv Z h t k .byte z vs d) : t ≠ a := by
  rcases N with ⟨C, n, a0, E, w⟩ | ⟨cl, ty, B, hty⟩
  · exact Ne.symm (Exa.neArv E A w)
  · rintro rfl
    obtain ⟨cl', ⟨A1, ⟨-, kA, hkA, compA, hkindA⟩, -⟩, -⟩ := A
    obtain ⟨B1, ⟨-, kB, hkB, compB, hkindB⟩, -⟩ := B
    cases A1.symm.trans B1
    cases hkA.symm.trans hkB
    have := hkindA.symm.trans hkindB
    injection this with _ e
    exact hty e.symm
theorem nbE {Z : State} {h : Heap} {a : Addr} {C : String} {n : Nat} {a0 : Array Value} (E : Exa Z h a C) (w : (Jvm.Cond.instantiable C n).before a0 Z = true) : NB Z h a := Or.inl ⟨C, n, a0, E, w⟩
theorem nbA {Z : State} {h : Heap} {a : Addr} {k : ClassId} {ty : FieldType} {z : Int32} {vs : List Value} {d : Value} (A : Arv Z h a k ty z vs d) (q : ty ≠ .byte) : NB Z h a := by obtain ⟨cl, B, -⟩ := A; exact Or.inr ⟨cl, ty, B, q⟩
theorem Str.lt {Z : State} {h : Heap} {x : Addr} {cs : List Int32} (S : Str Z h x cs) : x < h.size := S.1.lt
theorem Str.ext {Z : State} {h h' : Heap} {x : Addr} {cs : List Int32} (S : Str Z h x cs) (E : Ext h h') : Str Z h' x cs := by
  obtain ⟨s1, s2, s3, t, kb, cd, N2, vs, s4, s5, s6, s7⟩ := S
  exact ⟨s1.ext E, s2, s3, t, kb, cd, N2, vs, s4.ext E, s5.ext E, s6.ext E, s7⟩
theorem Str.keep {Z : State} {h h' : Heap} {x : Addr} {cs : List Int32} {ws : List Addr} (S : Str Z h x cs) (K : Keep h h' ws) (q : ∀ a ∈ ws, x ≠ a ∧ NB Z h a) : Str Z h' x cs := by
  obtain ⟨s1, s2, s3, t, kb, cd, N2, vs, s4, s5, s6, s7⟩ := S
  have n1 : x ∉ ws := fun m => (q x m).1 rfl
  have n2 : t ∉ ws := fun m => (q t m).2.ne s6 rfl
  exact ⟨s1.keep K, s2, s3, t, kb, cd, N2, vs, s4.keep K n1, s5.keep K n1, s6.keep K n2, s7⟩
theorem Str.wr {Z : State} {h h' : Heap} {x a : Addr} {cs : List Int32} {sl : Nat} {v : Value} (S : Str Z h x cs) (W : Wr h h' a sl v) (q1 : x ≠ a) (q2 : NB Z h a) : Str Z h' x cs := S.keep (Keep.of_wr W) (allS ⟨q1, q2⟩ all0)
theorem strOf {Z : State} {h : Heap} {x t : Addr} {kb : ClassId} {cs : List Int32} {n : Nat} (hn : cs.length = n) (hb : ∀ c ∈ cs, ¬ c < 0 ∧ ¬ (255 : Int32) < c) (h4 : n ≤ 4000) (E : Exa Z h x "java/lang/String") (C : Fld Z h x "java/lang/String" "coder" "B" (.int 0)) (V : Fld Z h x "java/lang/String" "value" "[B" (.ref t)) (B : Arv Z h t kb .byte (Int32.ofNat n) ((cs.map (fun c => c.toInt8.toInt32)).map Value.int) (.int 0)) : Str Z h x cs :=
  ⟨E, upC cs hb, by rw [hn]; exact h4, t, kb, 0, _, _, V, C, B, StrChars.Road.codOf hn (fun c hc => (hb c hc).2)⟩
theorem strE {Z : State} {h : Heap} {x t : Addr} {kb : ClassId} (E : Exa Z h x "java/lang/String") (C : Fld Z h x "java/lang/String" "coder" "B" (.int 0)) (V : Fld Z h x "java/lang/String" "value" "[B" (.ref t)) (B : Arv Z h t kb .byte (0 : Int32) [] (.int 0)) : Str Z h x [] :=
  strOf (n := 0) rfl lat0 (by decide) E C V B
end Own3
section Own4
variable {p : Program} {l : Launch} {e : Env} {R rm : Room} {s : State} {m : MethodId} {args : Array Value} {below : List Frame} {meth : Method} {c : Code} {own nm : String} {bytes : ByteArray} {ml : Nat} {rt : Option FieldType} {Z : State} {a0 : Array Value} {EL : List (String × Nat)} {h0 : Heap} {ws : List Addr} {T : State} {h h' : Heap} {cells slots : Nat} {Q : Outcome → State → Prop} {pc : Nat} {Ls : Array Slot} {rest : List Value}
/-- equals of two Strings of known chars -/
theorem Pos.strEq (P : Pos p l e R s m args below meth c own nm bytes ml rt Z a0 EL h0 ws T h cells slots) {index W : Nat} {x y : Addr} {cs ds : List Int32} {zc : Int32} {ps : List FieldType} {r : Option FieldType} {C : String}
    (w1 : (Jvm.Cond.methodLink own index (⟨C, "equals", "(Ljava/lang/Object;)Z"⟩ : MethodName)).before a0 Z = true) (w2 : (Jvm.Cond.declares (⟨C, "equals", "(Ljava/lang/Object;)Z"⟩ : MethodName)).before a0 Z = true) (w5 : (Jvm.Cond.selects "java/lang/String" (⟨C, "equals", "(Ljava/lang/Object;)Z"⟩ : MethodName) (⟨"java/lang/String", "equals", "(Ljava/lang/Object;)Z"⟩ : MethodName)).before a0 Z = true) (hnf : ∀ vm0, Z.Warmed39 vm0 → NotFace (s.setVm vm0) (⟨C, "equals", "(Ljava/lang/Object;)Z"⟩ : MethodName)) (w6 : (Jvm.Cond.instanceMethod (⟨"java/lang/String", "equals", "(Ljava/lang/Object;)Z"⟩ : MethodName)).before a0 Z = true) (hy : C ≠ "java/lang/invoke/MethodHandle" ∧ C ≠ "java/lang/invoke/VarHandle")
    (wq : ∀ d ∈ StrChars.Road.wordsEq, d.before a0 Z = true) (wi : (Jvm.Cond.instantiable "java/lang/String" 4).before a0 Z = true) (S0 : Sta Z Z.heap "java/lang/String" "COMPACT_STRINGS" "Z" (.int zc)) (Pz : ¬ zc = 0) (S1 : Str Z h x cs) (S2 : Str Z h y ds)
    (hf : 2 ≤ R.frames) (hl : W + 28 ≤ R.locals) (hc : cells + 0 ≤ R.cells) (hs : slots + 0 ≤ R.slots) (pd : parseMethodDescriptor "(Ljava/lang/Object;)Z" = some ⟨ps, r⟩) (hlen : 1 = ps.length) (hsz : Ls.size = ml) (hW : (rest.map fun v => v.category).sum ≤ W) (hd : decode bytes pc = .ok (.invokevirtual index, 3))
    (k1 : ∀ T', Pos p l e R s m args below meth c own nm bytes ml rt Z a0 EL h0 ws T' h cells slots → cs = ds → Go p e below Q (T'.setTop (mkF m (pc + 3) Ls (.int 1 :: rest))))
    (k0 : ∀ T', Pos p l e R s m args below meth c own nm bytes ml rt Z a0 EL h0 ws T' h cells slots → ¬ cs = ds → Go p e below Q (T'.setTop (mkF m (pc + 3) Ls (.int 0 :: rest)))) : Go p e below Q (T.setTop (mkF m pc Ls (.ref y :: .ref x :: rest))) := by
  have O := P.old
  obtain ⟨e1, b1, l1, t1, kb1, c1, n1, v1, F1, G1, A1, D1⟩ := S1
  obtain ⟨e2, b2, l2, t2, kb2, c2, n2, v2, F2, G2, A2, D2⟩ := S2
  refine P.virtB (W := W) (ws' := []) (Qx := fun v h' L => ((v = some (.int 1) ∧ cs = ds) ∨ (v = some (.int 0) ∧ ¬ cs = ds)) ∧ L = [] ∧ h' = h) w1 w2 w5 hnf w6 hy e1 (fun vm0 hZ => StrChars.Road.eqW (W := W) hZ wq (kI := 4) wi e1 F1 G1 A1 D1 b1 l1 e2 F2 G2 A2 D2 b2 l2 (S0.ext O) Pz hf hl) (argsL := [.ref y]) rfl (fun v h' L q => ⟨by rw [q.2.1]; exact Fr.nil _, by rw [q.2.2]; exact Keep.refl _ _⟩) hc hs all0 (fun _ _ _ _ => all0) pd hlen rfl hsz hW hd ?_
  intro v T' h' L P' q
  obtain ⟨q, -, hh⟩ := q
  rw [hh] at P'
  rcases q with ⟨rfl, q⟩ | ⟨rfl, q⟩
  · exact k1 T' P' q
  · exact k0 T' P' q
end Own4
section Own5
variable {p : Program} {l : Launch} {e : Env} {R rm : Room} {s : State} {m : MethodId} {args : Array Value} {below : List Frame} {meth : Method} {c : Code} {own nm : String} {bytes : ByteArray} {ml : Nat} {rt : Option FieldType} {Z : State} {a0 : Array Value} {EL : List (String × Nat)} {h0 : Heap} {ws : List Addr} {T : State} {h h' : Heap} {cells slots : Nat} {Q : Outcome → State → Prop} {pc : Nat} {Ls : Array Slot} {rest : List Value}
theorem noAsg {C S K : String} {n : Nat} (w : (Jvm.Cond.superclass C S).before a0 Z = true) (wr : (Jvm.Cond.noSuperclass S).before a0 Z = true) (wi : (Jvm.Cond.instantiable K n).before a0 Z = true) (h1 : C ≠ K) (h2 : S ≠ K) : ∃ c t, Z.vm.findClass C = some c ∧ Z.vm.findClass K = some t ∧ Z.vm.assignable c t = false := by
  obtain ⟨t, kt, g1, g2, g3, g4, -, -⟩ := Cond.instantiable_spec wi
  obtain ⟨c, f0⟩ := found_sup w
  obtain ⟨p, k, kp, f1, f2, f3, f4, f5, f6, f7⟩ := Cond.superclass_spec f0 w
  obtain ⟨o, ko, r1, r2, r3, r4, r5⟩ := Cond.noSuperclass_spec wr
  obtain rfl : o = p := Option.some.inj (r1.symm.trans f1)
  have n1 := ids_ne f0 g1 h1
  have n2 := ids_ne f1 g1 h2
  have hi : kt.isInterface = false := by
    cases hq : kt.isInterface with
    | false => rfl
    | true => rw [hq] at g4; simp at g4
  have n4 : ∀ fuel, Z.vm.isSubclassAux fuel o t = false := fun fuel => by
    cases fuel with
    | zero => rfl
    | succ f => simp [Vm.isSubclassAux, n2, r2, r3]
  have n3 : ∀ fuel, Z.vm.isSubclassAux fuel c t = false := fun fuel => by
    cases fuel with
    | zero => rfl
    | succ f => simp [Vm.isSubclassAux, n1, f2, f4, n4]
  refine ⟨c, t, f0, g1, ?_⟩
  show Z.vm.assignableAux (255 + 1) c t = false
  simp [Vm.assignableAux, n1, f2, g2, f5, g3, hi, Vm.isSubclass, n3]
theorem Pos.instN (P : Pos p l e R s m args below meth c own nm bytes ml rt Z a0 EL h0 ws T h cells slots) {K C : String} {index : Nat} (w : (Jvm.Cond.classLink own index K).before a0 Z = true) {a : Addr} (E : Exa Z h a C) (F : ∃ c t, Z.vm.findClass C = some c ∧ Z.vm.findClass K = some t ∧ Z.vm.assignable c t = false) (hd : decode bytes pc = .ok (.instanceof index, 3))
    (k : ∀ T', Pos p l e R s m args below meth c own nm bytes ml rt Z a0 EL h0 ws T' h cells slots → Go p e below Q (T'.setTop (mkF m (pc + 3) Ls (.int 0 :: rest)))) : Go p e below Q (T.setTop (mkF m pc Ls (.ref a :: rest))) :=
  P.same (V := fun T' => T'.setTop (mkF m (pc + 3) Ls (.int 0 :: rest))) (fun vm0 locs X hx hby hml hZ hown eT => instNo X hx hZ hown w eT E F (g := mkF m pc Ls (.ref a :: rest)) rfl rfl (hb hby hd)) k
theorem Pos.inst0 (P : Pos p l e R s m args below meth c own nm bytes ml rt Z a0 EL h0 ws T h cells slots) {index : Nat} (hd : decode bytes pc = .ok (.instanceof index, 3))
    (g : Go p e below Q (T.setTop (mkF m (pc + 3) Ls (.int 0 :: rest)))) : Go p e below Q (T.setTop (mkF m pc Ls (.null :: rest))) :=
  P.st (fun vm0 locs X hx hy t k => X.instanceofNull hx (g := mkF m pc Ls (.null :: rest)) rfl rfl (hb hy hd) _ k) g
end Own5
section Own8
variable {p : Program} {l : Launch} {e : Env} {R rm : Room} {s : State} {m : MethodId} {args : Array Value} {below : List Frame} {meth : Method} {c : Code} {own nm : String} {bytes : ByteArray} {ml : Nat} {rt : Option FieldType} {Z : State} {a0 : Array Value} {EL : List (String × Nat)} {h0 : Heap} {ws : List Addr} {T : State} {h h' : Heap} {cells slots : Nat} {Q : Outcome → State → Prop} {pc : Nat} {Ls : Array Slot} {rest : List Value}
/-- an array of the start: its cell, its length -/
theorem arrAt {args : Array Value} {t : Term} {a : Addr} {ty : FieldType} {n : Int32} (ev : t.eval args Z none [] Z = some (.ref a)) (hA : (Jvm.Cond.arrayOf t ty).value args Z none Z [] = some true) (hL : (Jvm.Cond.eq (.length t) (.int n)).value args Z none Z [] = some true) : ∃ cl, Arr Z Z.heap a cl ty ∧ cl.slots.size < 2 ^ 31 ∧ cl.slots.size.toInt32 = n := by
  obtain ⟨cl, A⟩ := Arr.start ev hA
  have e := eqv_i (Term.int_eval n) hL
  have f := A.fin (U := Z) (Vm.Alike.refl _)
  simp only [Term.eval, ev, Option.bind_eq_bind, Option.bind_some, f] at e
  split at e
  · rename_i hlt; exact ⟨cl, A, hlt, by simpa using e⟩
  · cases e
theorem eqv_r {args : Array Value} {X F : Term} {y : Addr} (hF : F.eval args Z none [] Z = some (.ref y)) (h : (Jvm.Cond.eq X F).value args Z none Z [] = some true) : X.eval args Z none [] Z = some (.ref y) := by
  obtain ⟨x, y', e1, e2, k1, k2⟩ := cmp_v (Or.inl h)
  cases hF.symm.trans e2
  have hx : x.isRef = true := by
    cases x <;> first | rfl | exact k1.1 | (obtain ⟨z, q⟩ := k1; cases q)
  have q := gotT (eq_R e1 hF hx rfl) h
  exact e1.trans (congrArg some q)
theorem slotAt {args : Array Value} {t : Term} {a : Addr} {cl : Cell} {j : Int32} {v : Value} (ev : t.eval args Z none [] Z = some (.ref a)) (hc : Z.heap[a]? = some cl) (h : (Term.elem t (.int j)).eval args Z none [] Z = some v) : cl.slots[j.toNatClampNeg]? = some v := (elem_in h ev (Term.int_eval j) hc).2
/-- a String of the start, by its words -/
theorem strAt {args : Array Value} {t : Term} {x : Addr} {n : Int32} {cs : List Int32} (hf : Fit Z) (ev : t.eval args Z none [] Z = some (.ref x)) (hE : (Jvm.Cond.exactly t "java/lang/String").value args Z none Z [] = some true) (hC : (Jvm.Cond.eq (.field t "java/lang/String" "coder" "B") (.int 0)).value args Z none Z [] = some true) (hA : (Jvm.Cond.arrayOf (.field t "java/lang/String" "value" "[B") .byte).value args Z none Z [] = some true) (hL : (Jvm.Cond.eq (.length (.field t "java/lang/String" "value" "[B")) (.int n)).value args Z none Z [] = some true)
    (hn : n = Int32.ofNat cs.length) (h0 : ¬ n < 0) (hl : n.toNatClampNeg = cs.length) (h4 : cs.length ≤ 4000) (hb : ∀ c ∈ cs, ¬ c < 0 ∧ ¬ (255 : Int32) < c)
    (hS : ∀ (a : Addr) (cl : Cell), (Term.field t "java/lang/String" "value" "[B").eval args Z none [] Z = some (.ref a) → Z.heap[a]? = some cl → HasL cl 0 ((cs.map (fun c => c.toInt8.toInt32)).map Value.int)) : Str Z Z.heap x cs := by
  obtain ⟨a, ea⟩ := arr_v hA
  obtain ⟨cl, Ar, q1, q2⟩ := arrAt ea hA hL
  have E := Exa.start ev hE
  have C : Fld Z Z.heap x "java/lang/String" "coder" "B" (.int 0) := Fld.start ((fld_at ev).symm.trans (eqv_i (Term.int_eval 0) hC))
  have Vf : Fld Z Z.heap x "java/lang/String" "value" "[B" (.ref a) := Fld.start ((fld_at ev).symm.trans ea)
  have B : Arv Z Z.heap a cl.cls .byte n ((cs.map (fun c => c.toInt8.toInt32)).map Value.int) (.int 0) := Arv.start hf Ar q1 q2 h0 (by simp [hl]) (hS a cl ea Ar.1)
  subst hn
  exact strOf rfl hb h4 E C Vf B
theorem Pos.clone (P : Pos p l e R s m args below meth c own nm bytes ml rt Z a0 EL h0 ws T h cells slots) {ad : String} {index W cap : Nat} {a : Addr} {k : ClassId} {ty : FieldType} {z : Int32} {vs : List Value} {dv : Value}
    (w1 : (Jvm.Cond.methodLink own index ⟨ad, "clone", "()Ljava/lang/Object;"⟩).before a0 Z = true) (w2 : (Jvm.Cond.sameMethod ad "java/lang/Object" "clone" "()Ljava/lang/Object;").before a0 Z = true) (w3 : (Jvm.Cond.native ⟨"java/lang/Object", "clone", "()Ljava/lang/Object;"⟩).before a0 Z = true) (w4 : (Jvm.Cond.instanceMethod ⟨"java/lang/Object", "clone", "()Ljava/lang/Object;"⟩).before a0 Z = true) (w5 : (Jvm.Cond.selects ad ⟨ad, "clone", "()Ljava/lang/Object;"⟩ ⟨"java/lang/Object", "clone", "()Ljava/lang/Object;"⟩).before a0 Z = true) (w6 : (Jvm.Cond.castable ad "java/lang/Cloneable").before a0 Z = true)
    (A : Arv Z h a k ty z vs dv) (E : Exa Z h a ad) (hd : decode bytes pc = .ok (.invokevirtual index, 3)) (hsz : Ls.size = ml) (hf : 1 ≤ R.frames) (hW : (rest.map fun v => v.category).sum ≤ W) (hl : W + 14 ≤ R.locals) (hcap : z.toNatClampNeg ≤ cap) (hc : cells + 1 ≤ R.cells) (hsl : slots + cap ≤ R.slots)
    (kk : ∀ T' h' x, x = h.size → Pos p l e R s m args below meth c own nm bytes ml rt Z a0 EL h0 ws T' h' (cells + 1) (slots + cap) → Ext h h' → Arv Z h' x k ty z vs dv → Exa Z h' x ad → Go p e below Q (T'.setTop (mkF m (pc + 3) Ls (.ref x :: rest)))) : Go p e below Q (T.setTop (mkF m pc Ls (.ref a :: rest))) := by
  have hml : c.maxLocals = ml := by obtain ⟨vm0, k0, locs, X, ⟨hx, hby, hml, -⟩, -⟩ := P; exact hml
  exact P.grow (V := fun T' => T'.setTop (mkF m (pc + 3) Ls (.ref h.size :: rest))) (A := fun T' h' => Arv Z h' h.size k ty z vs dv ∧ Exa Z h' h.size ad)
    (fun vm0 locs X hx hby hZ hown eT => by
      obtain ⟨T', h', X', e', E', A', F', st⟩ := cloneH X hx hZ hown w1 w2 w3 w4 w5 w6 eT A.arh E (g := mkF m pc Ls (.ref a :: rest)) rfl (by rw [hml]; exact hsz) rfl (hb hby hd) hf (W := W) (by show 2 * 0 + _ ≤ _; rw [Nat.mul_zero, Nat.zero_add]; exact hW) hl hcap hc hsl
      exact ⟨T', h', X', e', E', ⟨A', F'⟩, st⟩)
    (fun T' h' P' E' A' => kk T' h' _ rfl P' E' A'.1 A'.2)
theorem finOf {r : Int32} {n : Nat} (h : ¬ r < 0 ∧ r.toNatClampNeg < n) : ∃ k : Fin n, r = Int32.ofNat k.val := by
  obtain ⟨h1, h2⟩ := h
  rw [Int32.lt_iff_toInt_lt] at h1
  have e0 : (0 : Int32).toInt = 0 := rfl
  have h3 : r.toInt.toNat < n := h2
  have hb := r.toInt_lt
  exact ⟨⟨r.toInt.toNat, h3⟩, Int32.toInt_inj.mp (by show r.toInt = (Int32.ofNat r.toInt.toNat).toInt; rw [Int32.toInt_ofNat_small (by omega)]; omega)⟩
/-- (char) (int) (x & 255L): from 0 to 255, and a char -/
theorem chr255L {x : Int64} {y : Int32} (h : (((x &&& (255 : Int64)).toInt32).toUInt32.toUInt16.toUInt32.toInt32) = y) : (¬ y < 0 ∧ ¬ (255 : Int32) < y) ∧ nar .char y = y := by
  have e : (x &&& (255 : Int64)).toInt32 = x.toInt32 &&& (255 : Int32) := by
    apply Int32.toBitVec_inj.mp
    simp only [Int32.toBitVec_and, Int64.toBitVec_toInt32, Int64.toBitVec_and]
    ext i hi
    simp [BitVec.getElem_signExtend]
  rw [e] at h
  exact chr255 h
end Own8
theorem wSt {Z : State} {a0 : Array Value} (hw : ∀ d ∈ tables_1, d.before a0 Z = true) : ∀ d ∈ Bundle.stringAtoms, d.before a0 Z = true := fun d hd => hw d ((by decide +kernel : ∀ d ∈ Bundle.stringAtoms, d ∈ tables_1) d hd)
theorem wStr {Z : State} {a0 : Array Value} (hw : ∀ d ∈ tables_1, d.before a0 Z = true) : ∀ d ∈ StrChars.Road.words, d.before a0 Z = true := fun d hd => hw d ((by decide +kernel : ∀ d ∈ StrChars.Road.words, d ∈ tables_1) d hd)
theorem wEq {Z : State} {a0 : Array Value} (hw : ∀ d ∈ tables_1, d.before a0 Z = true) : ∀ d ∈ StrChars.Road.wordsEq, d.before a0 Z = true := fun d hd => hw d ((by decide +kernel : ∀ d ∈ StrChars.Road.wordsEq, d ∈ tables_1) d hd)
theorem d1_0 : decode jdk_42_method_3_code 0 = .ok (.aload_n 0, 1) := by decide +kernel
theorem d1_1 : decode jdk_42_method_3_code 1 = .ok (.aload_n 1, 1) := by decide +kernel
theorem d1_2 : decode jdk_42_method_3_code 2 = .ok (.iconst 0, 1) := by decide +kernel
theorem d1_3 : decode jdk_42_method_3_code 3 = .ok (.aload_n 1, 1) := by decide +kernel
theorem d1_4 : decode jdk_42_method_3_code 4 = .ok (.arraylength, 1) := by decide +kernel
theorem d1_5 : decode jdk_42_method_3_code 5 = .ok (.aconst_null, 1) := by decide +kernel
theorem d1_6 : decode jdk_42_method_3_code 6 = .ok (.invokespecial 27, 3) := by decide +kernel
theorem d1_9 : decode jdk_42_method_3_code 9 = .ok (.return_, 1) := by decide +kernel
theorem d2_0 : decode jdk_42_method_149_code 0 = .ok (.aload_n 0, 1) := by decide +kernel
theorem d2_1 : decode jdk_42_method_149_code 1 = .ok (.invokespecial 1, 3) := by decide +kernel
theorem d2_4 : decode jdk_42_method_149_code 4 = .ok (.iload_n 3, 1) := by decide +kernel
theorem d2_5 : decode jdk_42_method_149_code 5 = .ok (.ifCond .ne 22, 3) := by decide +kernel
theorem d2_8 : decode jdk_42_method_149_code 8 = .ok (.aload_n 0, 1) := by decide +kernel
theorem d2_9 : decode jdk_42_method_149_code 9 = .ok (.ldc 7, 2) := by decide +kernel
theorem d2_11 : decode jdk_42_method_149_code 11 = .ok (.getfield 9, 3) := by decide +kernel
theorem d2_14 : decode jdk_42_method_149_code 14 = .ok (.putfield 9, 3) := by decide +kernel
theorem d2_17 : decode jdk_42_method_149_code 17 = .ok (.aload_n 0, 1) := by decide +kernel
theorem d2_18 : decode jdk_42_method_149_code 18 = .ok (.ldc 7, 2) := by decide +kernel
theorem d2_20 : decode jdk_42_method_149_code 20 = .ok (.getfield 15, 3) := by decide +kernel
theorem d2_23 : decode jdk_42_method_149_code 23 = .ok (.putfield 15, 3) := by decide +kernel
theorem d2_26 : decode jdk_42_method_149_code 26 = .ok (.return_, 1) := by decide +kernel
theorem d7_0 : decode jdk_42_method_66_code 0 = .ok (.aload_n 0, 1) := by decide +kernel
theorem d7_1 : decode jdk_42_method_66_code 1 = .ok (.aload_n 1, 1) := by decide +kernel
theorem d7_2 : decode jdk_42_method_66_code 2 = .ok (.if_acmp .ne 5, 3) := by decide +kernel
theorem d7_7 : decode jdk_42_method_66_code 7 = .ok (.aload_n 1, 1) := by decide +kernel
theorem d7_8 : decode jdk_42_method_66_code 8 = .ok (.instanceof 10, 3) := by decide +kernel
theorem d7_11 : decode jdk_42_method_66_code 11 = .ok (.ifCond .eq 43, 3) := by decide +kernel
theorem d7_54 : decode jdk_42_method_66_code 54 = .ok (.iconst 0, 1) := by decide +kernel
theorem d7_55 : decode jdk_42_method_66_code 55 = .ok (.ireturn, 1) := by decide +kernel
theorem d9_0 : decode prog_11_method_4_code 0 = .ok (.aconst_null, 1) := by decide +kernel
theorem d9_1 : decode prog_11_method_4_code 1 = .ok (.astore_n 1, 1) := by decide +kernel
theorem d9_2 : decode prog_11_method_4_code 2 = .ok (.invokestatic 43, 3) := by decide +kernel
theorem d9_5 : decode prog_11_method_4_code 5 = .ok (.astore_n 2, 1) := by decide +kernel
theorem d9_6 : decode prog_11_method_4_code 6 = .ok (.aload_n 2, 1) := by decide +kernel
theorem d9_7 : decode prog_11_method_4_code 7 = .ok (.arraylength, 1) := by decide +kernel
theorem d9_8 : decode prog_11_method_4_code 8 = .ok (.istore_n 3, 1) := by decide +kernel
theorem d9_9 : decode prog_11_method_4_code 9 = .ok (.iconst 0, 1) := by decide +kernel
theorem d9_10 : decode prog_11_method_4_code 10 = .ok (.istore 4, 2) := by decide +kernel
theorem d9_12 : decode prog_11_method_4_code 12 = .ok (.iload 4, 2) := by decide +kernel
theorem d9_14 : decode prog_11_method_4_code 14 = .ok (.iload_n 3, 1) := by decide +kernel
theorem d9_15 : decode prog_11_method_4_code 15 = .ok (.if_icmp .ge 30, 3) := by decide +kernel
theorem d9_18 : decode prog_11_method_4_code 18 = .ok (.aload_n 2, 1) := by decide +kernel
theorem d9_19 : decode prog_11_method_4_code 19 = .ok (.iload 4, 2) := by decide +kernel
theorem d9_21 : decode prog_11_method_4_code 21 = .ok (.aaload, 1) := by decide +kernel
theorem d9_22 : decode prog_11_method_4_code 22 = .ok (.astore 5, 2) := by decide +kernel
theorem d9_24 : decode prog_11_method_4_code 24 = .ok (.aload 5, 2) := by decide +kernel
theorem d9_26 : decode prog_11_method_4_code 26 = .ok (.getfield 29, 3) := by decide +kernel
theorem d9_29 : decode prog_11_method_4_code 29 = .ok (.aload_n 0, 1) := by decide +kernel
theorem d9_30 : decode prog_11_method_4_code 30 = .ok (.invokevirtual 47, 3) := by decide +kernel
theorem d9_33 : decode prog_11_method_4_code 33 = .ok (.ifCond .eq 6, 3) := by decide +kernel
theorem d9_36 : decode prog_11_method_4_code 36 = .ok (.aload 5, 2) := by decide +kernel
theorem d9_38 : decode prog_11_method_4_code 38 = .ok (.astore_n 1, 1) := by decide +kernel
theorem d9_39 : decode prog_11_method_4_code 39 = .ok (.iinc 4 1, 3) := by decide +kernel
theorem d9_42 : decode prog_11_method_4_code 42 = .ok (.goto (-30), 3) := by decide +kernel
theorem d9_45 : decode prog_11_method_4_code 45 = .ok (.aload_n 1, 1) := by decide +kernel
theorem d9_46 : decode prog_11_method_4_code 46 = .ok (.areturn, 1) := by decide +kernel
theorem d10_0 : decode prog_11_method_1_code 0 = .ok (.getstatic 10, 3) := by decide +kernel
theorem d10_3 : decode prog_11_method_1_code 3 = .ok (.invokevirtual 14, 3) := by decide +kernel
theorem d10_6 : decode prog_11_method_1_code 6 = .ok (.checkcast 15, 3) := by decide +kernel
theorem d10_9 : decode prog_11_method_1_code 9 = .ok (.areturn, 1) := by decide +kernel
theorem d11_0 : decode method_3_code 0 = .ok (.iload_n 2, 1) := by decide +kernel
theorem d11_1 : decode method_3_code 1 = .ok (.ifCond .ne 10, 3) := by decide +kernel
theorem d11_4 : decode method_3_code 4 = .ok (.iconst 0, 1) := by decide +kernel
theorem d11_5 : decode method_3_code 5 = .ok (.newarray .char, 2) := by decide +kernel
theorem d11_7 : decode method_3_code 7 = .ok (.astore_n 3, 1) := by decide +kernel
theorem d11_8 : decode method_3_code 8 = .ok (.goto 96, 3) := by decide +kernel
theorem d11_11 : decode method_3_code 11 = .ok (.iload_n 2, 1) := by decide +kernel
theorem d11_12 : decode method_3_code 12 = .ok (.iconst 1, 1) := by decide +kernel
theorem d11_13 : decode method_3_code 13 = .ok (.if_icmp .ne 10, 3) := by decide +kernel
theorem d11_16 : decode method_3_code 16 = .ok (.iconst 1, 1) := by decide +kernel
theorem d11_17 : decode method_3_code 17 = .ok (.newarray .char, 2) := by decide +kernel
theorem d11_19 : decode method_3_code 19 = .ok (.astore_n 3, 1) := by decide +kernel
theorem d11_20 : decode method_3_code 20 = .ok (.goto 84, 3) := by decide +kernel
theorem d11_23 : decode method_3_code 23 = .ok (.iload_n 2, 1) := by decide +kernel
theorem d11_24 : decode method_3_code 24 = .ok (.iconst 2, 1) := by decide +kernel
theorem d11_25 : decode method_3_code 25 = .ok (.if_icmp .ne 10, 3) := by decide +kernel
theorem d11_28 : decode method_3_code 28 = .ok (.iconst 2, 1) := by decide +kernel
theorem d11_29 : decode method_3_code 29 = .ok (.newarray .char, 2) := by decide +kernel
theorem d11_31 : decode method_3_code 31 = .ok (.astore_n 3, 1) := by decide +kernel
theorem d11_32 : decode method_3_code 32 = .ok (.goto 72, 3) := by decide +kernel
theorem d11_35 : decode method_3_code 35 = .ok (.iload_n 2, 1) := by decide +kernel
theorem d11_36 : decode method_3_code 36 = .ok (.iconst 3, 1) := by decide +kernel
theorem d11_37 : decode method_3_code 37 = .ok (.if_icmp .ne 10, 3) := by decide +kernel
theorem d11_40 : decode method_3_code 40 = .ok (.iconst 3, 1) := by decide +kernel
theorem d11_41 : decode method_3_code 41 = .ok (.newarray .char, 2) := by decide +kernel
theorem d11_43 : decode method_3_code 43 = .ok (.astore_n 3, 1) := by decide +kernel
theorem d11_44 : decode method_3_code 44 = .ok (.goto 60, 3) := by decide +kernel
theorem d11_47 : decode method_3_code 47 = .ok (.iload_n 2, 1) := by decide +kernel
theorem d11_48 : decode method_3_code 48 = .ok (.iconst 4, 1) := by decide +kernel
theorem d11_49 : decode method_3_code 49 = .ok (.if_icmp .ne 10, 3) := by decide +kernel
theorem d11_52 : decode method_3_code 52 = .ok (.iconst 4, 1) := by decide +kernel
theorem d11_53 : decode method_3_code 53 = .ok (.newarray .char, 2) := by decide +kernel
theorem d11_55 : decode method_3_code 55 = .ok (.astore_n 3, 1) := by decide +kernel
theorem d11_56 : decode method_3_code 56 = .ok (.goto 48, 3) := by decide +kernel
theorem d11_59 : decode method_3_code 59 = .ok (.iload_n 2, 1) := by decide +kernel
theorem d11_60 : decode method_3_code 60 = .ok (.iconst 5, 1) := by decide +kernel
theorem d11_61 : decode method_3_code 61 = .ok (.if_icmp .ne 10, 3) := by decide +kernel
theorem d11_64 : decode method_3_code 64 = .ok (.iconst 5, 1) := by decide +kernel
theorem d11_65 : decode method_3_code 65 = .ok (.newarray .char, 2) := by decide +kernel
theorem d11_67 : decode method_3_code 67 = .ok (.astore_n 3, 1) := by decide +kernel
theorem d11_68 : decode method_3_code 68 = .ok (.goto 36, 3) := by decide +kernel
theorem d11_71 : decode method_3_code 71 = .ok (.iload_n 2, 1) := by decide +kernel
theorem d11_72 : decode method_3_code 72 = .ok (.bipush 6, 2) := by decide +kernel
theorem d11_74 : decode method_3_code 74 = .ok (.if_icmp .ne 11, 3) := by decide +kernel
theorem d11_77 : decode method_3_code 77 = .ok (.bipush 6, 2) := by decide +kernel
theorem d11_79 : decode method_3_code 79 = .ok (.newarray .char, 2) := by decide +kernel
theorem d11_81 : decode method_3_code 81 = .ok (.astore_n 3, 1) := by decide +kernel
theorem d11_82 : decode method_3_code 82 = .ok (.goto 22, 3) := by decide +kernel
theorem d11_85 : decode method_3_code 85 = .ok (.iload_n 2, 1) := by decide +kernel
theorem d11_86 : decode method_3_code 86 = .ok (.bipush 7, 2) := by decide +kernel
theorem d11_88 : decode method_3_code 88 = .ok (.if_icmp .ne 11, 3) := by decide +kernel
theorem d11_91 : decode method_3_code 91 = .ok (.bipush 7, 2) := by decide +kernel
theorem d11_93 : decode method_3_code 93 = .ok (.newarray .char, 2) := by decide +kernel
theorem d11_95 : decode method_3_code 95 = .ok (.astore_n 3, 1) := by decide +kernel
theorem d11_96 : decode method_3_code 96 = .ok (.goto 8, 3) := by decide +kernel
theorem d11_99 : decode method_3_code 99 = .ok (.bipush 8, 2) := by decide +kernel
theorem d11_101 : decode method_3_code 101 = .ok (.newarray .char, 2) := by decide +kernel
theorem d11_103 : decode method_3_code 103 = .ok (.astore_n 3, 1) := by decide +kernel
theorem d11_104 : decode method_3_code 104 = .ok (.aload_n 3, 1) := by decide +kernel
theorem d11_105 : decode method_3_code 105 = .ok (.arraylength, 1) := by decide +kernel
theorem d11_106 : decode method_3_code 106 = .ok (.ifCond .le 11, 3) := by decide +kernel
theorem d11_109 : decode method_3_code 109 = .ok (.aload_n 3, 1) := by decide +kernel
theorem d11_110 : decode method_3_code 110 = .ok (.iconst 0, 1) := by decide +kernel
theorem d11_111 : decode method_3_code 111 = .ok (.lload_n 0, 1) := by decide +kernel
theorem d11_112 : decode method_3_code 112 = .ok (.iconst 0, 1) := by decide +kernel
theorem d11_113 : decode method_3_code 113 = .ok (.invokestatic 9, 3) := by decide +kernel
theorem d11_116 : decode method_3_code 116 = .ok (.castore, 1) := by decide +kernel
theorem d11_117 : decode method_3_code 117 = .ok (.aload_n 3, 1) := by decide +kernel
theorem d11_118 : decode method_3_code 118 = .ok (.arraylength, 1) := by decide +kernel
theorem d11_119 : decode method_3_code 119 = .ok (.iconst 1, 1) := by decide +kernel
theorem d11_120 : decode method_3_code 120 = .ok (.if_icmp .le 11, 3) := by decide +kernel
theorem d11_123 : decode method_3_code 123 = .ok (.aload_n 3, 1) := by decide +kernel
theorem d11_124 : decode method_3_code 124 = .ok (.iconst 1, 1) := by decide +kernel
theorem d11_125 : decode method_3_code 125 = .ok (.lload_n 0, 1) := by decide +kernel
theorem d11_126 : decode method_3_code 126 = .ok (.iconst 1, 1) := by decide +kernel
theorem d11_127 : decode method_3_code 127 = .ok (.invokestatic 9, 3) := by decide +kernel
theorem d11_130 : decode method_3_code 130 = .ok (.castore, 1) := by decide +kernel
theorem d11_131 : decode method_3_code 131 = .ok (.aload_n 3, 1) := by decide +kernel
theorem d11_132 : decode method_3_code 132 = .ok (.arraylength, 1) := by decide +kernel
theorem d11_133 : decode method_3_code 133 = .ok (.iconst 2, 1) := by decide +kernel
theorem d11_134 : decode method_3_code 134 = .ok (.if_icmp .le 11, 3) := by decide +kernel
theorem d11_137 : decode method_3_code 137 = .ok (.aload_n 3, 1) := by decide +kernel
theorem d11_138 : decode method_3_code 138 = .ok (.iconst 2, 1) := by decide +kernel
theorem d11_139 : decode method_3_code 139 = .ok (.lload_n 0, 1) := by decide +kernel
theorem d11_140 : decode method_3_code 140 = .ok (.iconst 2, 1) := by decide +kernel
theorem d11_141 : decode method_3_code 141 = .ok (.invokestatic 9, 3) := by decide +kernel
theorem d11_144 : decode method_3_code 144 = .ok (.castore, 1) := by decide +kernel
theorem d11_145 : decode method_3_code 145 = .ok (.aload_n 3, 1) := by decide +kernel
theorem d11_146 : decode method_3_code 146 = .ok (.arraylength, 1) := by decide +kernel
theorem d11_147 : decode method_3_code 147 = .ok (.iconst 3, 1) := by decide +kernel
theorem d11_148 : decode method_3_code 148 = .ok (.if_icmp .le 11, 3) := by decide +kernel
theorem d11_151 : decode method_3_code 151 = .ok (.aload_n 3, 1) := by decide +kernel
theorem d11_152 : decode method_3_code 152 = .ok (.iconst 3, 1) := by decide +kernel
theorem d11_153 : decode method_3_code 153 = .ok (.lload_n 0, 1) := by decide +kernel
theorem d11_154 : decode method_3_code 154 = .ok (.iconst 3, 1) := by decide +kernel
theorem d11_155 : decode method_3_code 155 = .ok (.invokestatic 9, 3) := by decide +kernel
theorem d11_158 : decode method_3_code 158 = .ok (.castore, 1) := by decide +kernel
theorem d11_159 : decode method_3_code 159 = .ok (.aload_n 3, 1) := by decide +kernel
theorem d11_160 : decode method_3_code 160 = .ok (.arraylength, 1) := by decide +kernel
theorem d11_161 : decode method_3_code 161 = .ok (.iconst 4, 1) := by decide +kernel
theorem d11_162 : decode method_3_code 162 = .ok (.if_icmp .le 11, 3) := by decide +kernel
theorem d11_165 : decode method_3_code 165 = .ok (.aload_n 3, 1) := by decide +kernel
theorem d11_166 : decode method_3_code 166 = .ok (.iconst 4, 1) := by decide +kernel
theorem d11_167 : decode method_3_code 167 = .ok (.lload_n 0, 1) := by decide +kernel
theorem d11_168 : decode method_3_code 168 = .ok (.iconst 4, 1) := by decide +kernel
theorem d11_169 : decode method_3_code 169 = .ok (.invokestatic 9, 3) := by decide +kernel
theorem d11_172 : decode method_3_code 172 = .ok (.castore, 1) := by decide +kernel
theorem d11_173 : decode method_3_code 173 = .ok (.aload_n 3, 1) := by decide +kernel
theorem d11_174 : decode method_3_code 174 = .ok (.arraylength, 1) := by decide +kernel
theorem d11_175 : decode method_3_code 175 = .ok (.iconst 5, 1) := by decide +kernel
theorem d11_176 : decode method_3_code 176 = .ok (.if_icmp .le 11, 3) := by decide +kernel
theorem d11_179 : decode method_3_code 179 = .ok (.aload_n 3, 1) := by decide +kernel
theorem d11_180 : decode method_3_code 180 = .ok (.iconst 5, 1) := by decide +kernel
theorem d11_181 : decode method_3_code 181 = .ok (.lload_n 0, 1) := by decide +kernel
theorem d11_182 : decode method_3_code 182 = .ok (.iconst 5, 1) := by decide +kernel
theorem d11_183 : decode method_3_code 183 = .ok (.invokestatic 9, 3) := by decide +kernel
theorem d11_186 : decode method_3_code 186 = .ok (.castore, 1) := by decide +kernel
theorem d11_187 : decode method_3_code 187 = .ok (.aload_n 3, 1) := by decide +kernel
theorem d11_188 : decode method_3_code 188 = .ok (.arraylength, 1) := by decide +kernel
theorem d11_189 : decode method_3_code 189 = .ok (.bipush 6, 2) := by decide +kernel
theorem d11_191 : decode method_3_code 191 = .ok (.if_icmp .le 13, 3) := by decide +kernel
theorem d11_194 : decode method_3_code 194 = .ok (.aload_n 3, 1) := by decide +kernel
theorem d11_195 : decode method_3_code 195 = .ok (.bipush 6, 2) := by decide +kernel
theorem d11_197 : decode method_3_code 197 = .ok (.lload_n 0, 1) := by decide +kernel
theorem d11_198 : decode method_3_code 198 = .ok (.bipush 6, 2) := by decide +kernel
theorem d11_200 : decode method_3_code 200 = .ok (.invokestatic 9, 3) := by decide +kernel
theorem d11_203 : decode method_3_code 203 = .ok (.castore, 1) := by decide +kernel
theorem d11_204 : decode method_3_code 204 = .ok (.aload_n 3, 1) := by decide +kernel
theorem d11_205 : decode method_3_code 205 = .ok (.arraylength, 1) := by decide +kernel
theorem d11_206 : decode method_3_code 206 = .ok (.bipush 7, 2) := by decide +kernel
theorem d11_208 : decode method_3_code 208 = .ok (.if_icmp .le 13, 3) := by decide +kernel
theorem d11_211 : decode method_3_code 211 = .ok (.aload_n 3, 1) := by decide +kernel
theorem d11_212 : decode method_3_code 212 = .ok (.bipush 7, 2) := by decide +kernel
theorem d11_214 : decode method_3_code 214 = .ok (.lload_n 0, 1) := by decide +kernel
theorem d11_215 : decode method_3_code 215 = .ok (.bipush 7, 2) := by decide +kernel
theorem d11_217 : decode method_3_code 217 = .ok (.invokestatic 9, 3) := by decide +kernel
theorem d11_220 : decode method_3_code 220 = .ok (.castore, 1) := by decide +kernel
theorem d11_221 : decode method_3_code 221 = .ok (.new 15, 3) := by decide +kernel
theorem d11_224 : decode method_3_code 224 = .ok (.dup, 1) := by decide +kernel
theorem d11_225 : decode method_3_code 225 = .ok (.aload_n 3, 1) := by decide +kernel
theorem d11_226 : decode method_3_code 226 = .ok (.invokespecial 17, 3) := by decide +kernel
theorem d11_229 : decode method_3_code 229 = .ok (.areturn, 1) := by decide +kernel
theorem d12_0 : decode method_2_code 0 = .ok (.lload_n 0, 1) := by decide +kernel
theorem d12_1 : decode method_2_code 1 = .ok (.bipush 8, 2) := by decide +kernel
theorem d12_3 : decode method_2_code 3 = .ok (.iload_n 2, 1) := by decide +kernel
theorem d12_4 : decode method_2_code 4 = .ok (.imul, 1) := by decide +kernel
theorem d12_5 : decode method_2_code 5 = .ok (.lushr, 1) := by decide +kernel
theorem d12_6 : decode method_2_code 6 = .ok (.ldc2_w 7, 3) := by decide +kernel
theorem d12_9 : decode method_2_code 9 = .ok (.land, 1) := by decide +kernel
theorem d12_10 : decode method_2_code 10 = .ok (.l2i, 1) := by decide +kernel
theorem d12_11 : decode method_2_code 11 = .ok (.i2c, 1) := by decide +kernel
theorem d12_12 : decode method_2_code 12 = .ok (.ireturn, 1) := by decide +kernel
theorem pd_0 : parseMethodDescriptor "([CIILjava/lang/Void;)V" = some ⟨[(.array .char), .int, .int, (.object "java/lang/Void")], none⟩ := by decide +kernel
theorem pd_1 : parseMethodDescriptor "([C)V" = some ⟨[(.array .char)], none⟩ := by decide +kernel
theorem pd_2 : parseMethodDescriptor "(JI)C" = some ⟨[.long, .int], some .char⟩ := by decide +kernel
theorem pd_3 : parseMethodDescriptor "()[Lcom/example/certain_answers/certainanswers/store/Kind;" = some ⟨[], some (.array (.object "com/example/certain_answers/certainanswers/store/Kind"))⟩ := by decide +kernel
theorem pd_4 : parseMethodDescriptor "(Ljava/lang/Object;)Z" = some ⟨[(.object "java/lang/Object")], some .boolean⟩ := by decide +kernel
theorem pd_5 : parseMethodDescriptor "(JI)Ljava/lang/String;" = some ⟨[.long, .int], some (.object "java/lang/String")⟩ := by decide +kernel
theorem pd_6 : parseMethodDescriptor "(Ljava/lang/String;)Lcom/example/certain_answers/certainanswers/store/Kind;" = some ⟨[(.object "java/lang/String")], some (.object "com/example/certain_answers/certainanswers/store/Kind")⟩ := by decide +kernel
theorem pn_1 : plainName "com/example/certain_answers/certainanswers/store/Kind" = true := by first | (simp [plainName, overriddenIn]; done) | decide +kernel
theorem pn_2 : plainName "com/example/certain_answers/certainanswers/store/KindNamedPinLaw" = true := by first | (simp [plainName, overriddenIn]; done) | decide +kernel
theorem pn_0 : plainName "java/lang/String" = true := by first | (simp [plainName, overriddenIn]; done) | decide +kernel
/-- the first n of these chars (all three from 3 on) -/
def cs3 (n a b c : Int32) : List Int32 := if n = 0 then [] else if n = 1 then [a] else if n = 2 then [a, b] else [a, b, c]
theorem cs3_0 {n a b c : Int32} (h : n = 0) : cs3 n a b c = [] := if_pos h
theorem cs3_1 {n a b c : Int32} (h : ¬ n = 0) (h1 : n = 1) : cs3 n a b c = [a] := by unfold cs3; rw [if_neg h, if_pos h1]
theorem cs3_2 {n a b c : Int32} (h : ¬ n = 0) (h1 : ¬ n = 1) (h2 : n = 2) : cs3 n a b c = [a, b] := by unfold cs3; rw [if_neg h, if_neg h1, if_pos h2]
theorem cs3_3 {n a b c : Int32} (h : ¬ n = 0) (h1 : ¬ n = 1) (h2 : ¬ n = 2) : cs3 n a b c = [a, b, c] := by unfold cs3; rw [if_neg h, if_neg h1, if_neg h2]

section Own6
theorem mask3 (x : Int32) : (x &&& 3) = 0 ∨ (x &&& 3) = 1 ∨ (x &&& 3) = 2 ∨ (x &&& 3) = 3 := by
  have h : (x &&& 3).toBitVec.toNat < 4 := by
    simp only [Int32.toBitVec_and, BitVec.toNat_and]
    exact Nat.lt_succ_of_le Nat.and_le_right
  have e : (x &&& 3) = Int32.ofNat (x &&& 3).toBitVec.toNat := by
    apply Int32.toBitVec_inj.mp
    show _ = BitVec.ofNat 32 _
    rw [BitVec.ofNat_toNat]; simp
  have t : ∀ k : Fin 4, Int32.ofNat k.val = 0 ∨ Int32.ofNat k.val = 1 ∨ Int32.ofNat k.val = 2 ∨ Int32.ofNat k.val = 3 := by decide
  rw [e]; exact t ⟨_, h⟩
/-- one char for one low byte -/
theorem chrI (x y : Int32) : ((x &&& (255 : Int32)).toUInt32.toUInt16.toUInt32.toInt32) = ((y &&& (255 : Int32)).toUInt32.toUInt16.toUInt32.toInt32) ↔ (x &&& (255 : Int32)) = (y &&& (255 : Int32)) := by
  refine ⟨fun h => ?_, fun h => by rw [h]⟩
  have t : ∀ k : Fin 256, (Int32.ofNat k.val).toUInt32.toUInt16.toUInt32.toInt32 = Int32.ofNat k.val := by decide +kernel
  obtain ⟨k, e⟩ := mask255 x
  obtain ⟨k', e'⟩ := mask255 y
  rw [e, e'] at h ⊢
  rwa [t k, t k'] at h
theorem cs3_ne {n m a b c a' b' c' : Int32} (hn : n = 0 ∨ n = 1 ∨ n = 2 ∨ n = 3) (hm : m = 0 ∨ m = 1 ∨ m = 2 ∨ m = 3) (h : ¬ n = m) : ¬ cs3 n a b c = cs3 m a' b' c' := by
  rcases hn with rfl | rfl | rfl | rfl <;> rcases hm with rfl | rfl | rfl | rfl <;> first | exact absurd rfl h | (simp [cs3])
theorem cs3_e1 {a b c a' b' c' : Int32} : cs3 1 a b c = cs3 1 a' b' c' ↔ a = a' := by simp [cs3]
theorem cs3_e2 {a b c a' b' c' : Int32} : cs3 2 a b c = cs3 2 a' b' c' ↔ a = a' ∧ b = b' := by simp [cs3]
theorem cs3_e3 {a b c a' b' c' : Int32} : cs3 3 a b c = cs3 3 a' b' c' ↔ a = a' ∧ b = b' ∧ c = c' := by simp [cs3]
end Own6
section Own7
/-- the rest by 19 of what isn't negative -/
theorem rem_lt {x : Int32} {k : Int32} {n : Nat} (hx : ¬ x < 0) (hk : k.toInt = n) (hn : 0 < n) : ¬ x % k < 0 ∧ (x % k).toNatClampNeg < n := by
  rw [Int32.lt_iff_toInt_lt] at hx
  have e0 : (0 : Int32).toInt = 0 := rfl
  have e : (x % k).toInt = x.toInt.tmod k.toInt := Int32.toInt_mod _ _
  rw [hk] at e
  have p : x.toInt.tmod (n : Int) = x.toInt % (n : Int) := Int.tmod_eq_emod_of_nonneg (by omega)
  have p1 : 0 ≤ x.toInt % (n : Int) := Int.emod_nonneg _ (by omega)
  have p2 : x.toInt % (n : Int) < (n : Int) := Int.emod_lt_of_pos _ (by omega)
  refine ⟨by rw [Int32.lt_iff_toInt_lt, e0]; omega, ?_⟩
  show (x % k).toInt.toNat < n
  omega
theorem mask31 (x : Int32) : ¬ (x &&& (2147483647 : Int32)) < 0 := by
  rw [Int32.lt_iff_toInt_lt]
  have e : (x &&& (2147483647 : Int32)).toInt = (x &&& (2147483647 : Int32)).toBitVec.toInt := rfl
  have h : (x &&& (2147483647 : Int32)).toBitVec.toNat < 2147483648 := by
    simp only [Int32.toBitVec_and, BitVec.toNat_and]
    exact Nat.lt_succ_of_le Nat.and_le_right
  rw [e, BitVec.toInt_eq_toNat_of_lt (by omega)]
  have e0 : (0 : Int32).toInt = 0 := rfl
  omega
/-- a logical shift by one place or more isn't negative -/
theorem ushr_nn (x : Int32) (k : Nat) (hk : 0 < k) (h32 : k < 32) {y : Int32} (hy : (y &&& 31).toUInt32 = UInt32.ofNat k) : ¬ ((x.toUInt32 >>> (y &&& 31).toUInt32).toInt32) < 0 := by
  rw [hy, Int32.lt_iff_toInt_lt]
  have e0 : (0 : Int32).toInt = 0 := rfl
  have h1 : (x.toUInt32 >>> UInt32.ofNat k).toNat < 2147483648 := by
    rw [UInt32.toNat_shiftRight]
    have : (UInt32.ofNat k).toNat = k := by rw [UInt32.toNat_ofNat']; omega
    rw [this, Nat.mod_eq_of_lt h32, Nat.shiftRight_eq_div_pow]
    have hx := x.toUInt32.toNat_lt
    have : 2 ^ 1 ≤ 2 ^ k := Nat.pow_le_pow_right (by decide) hk
    have h2 : x.toUInt32.toNat / 2 ^ k ≤ x.toUInt32.toNat / 2 ^ 1 := Nat.div_le_div_left this (by decide)
    omega
  have e1 : ((x.toUInt32 >>> UInt32.ofNat k).toInt32).toInt = ((x.toUInt32 >>> UInt32.ofNat k).toBitVec).toInt := rfl
  rw [e1, BitVec.toInt_eq_toNat_of_lt (by show 2 * (x.toUInt32 >>> UInt32.ofNat k).toNat < _; omega)]
  omega
/-- a Latin-1 char changed in its low byte -/
theorem xorChr {x y z : Int32} (hx : ¬ x < 0 ∧ ¬ (255 : Int32) < x) (hy : ¬ y < 0 ∧ ¬ (255 : Int32) < y) (h : ((x ^^^ y).toUInt32.toUInt16.toUInt32.toInt32) = z) : (¬ z < 0 ∧ ¬ (255 : Int32) < z) ∧ nar .char z = z := by
  have r : ∀ x : Int32, (¬ x < 0 ∧ ¬ (255 : Int32) < x) → x &&& 255 = x := fun x hx => by
    rw [Int32.lt_iff_toInt_lt, Int32.lt_iff_toInt_lt] at hx
    have e0 : (0 : Int32).toInt = 0 := rfl
    have e1 : (255 : Int32).toInt = 255 := rfl
    obtain ⟨k, hk⟩ : ∃ k : Nat, x.toInt = k := ⟨x.toInt.toNat, by omega⟩
    have t : ∀ k : Fin 256, Int32.ofNat k.val &&& 255 = Int32.ofNat k.val := by decide +kernel
    have hx' : x = Int32.ofNat k := Int32.toInt_inj.mp (by rw [hk, Int32.toInt_ofNat_small (by omega)])
    rw [hx']; exact t ⟨k, by omega⟩
  have e : (x ^^^ y) = (x ^^^ y) &&& 255 := by
    rw [← r x hx, ← r y hy]
    apply Int32.toBitVec_inj.mp
    simp only [Int32.toBitVec_and, Int32.toBitVec_xor]
    ext i
    simp
    cases x.toBitVec[i] <;> cases y.toBitVec[i] <;> simp
  rw [e] at h
  exact chr255 h
theorem lat255 (x : Int32) : ¬ (x &&& (255 : Int32)) < 0 ∧ ¬ (255 : Int32) < (x &&& (255 : Int32)) := by
  have t : ∀ k : Fin 256, ¬ Int32.ofNat k.val < 0 ∧ ¬ (255 : Int32) < Int32.ofNat k.val := by decide +kernel
  obtain ⟨k, e⟩ := mask255 x
  rw [e]; exact t k
end Own7

theorem rem5 {x : Int32} (hx : ¬ x < 0) : (x % (5 : Int32)) = 0 ∨ (x % (5 : Int32)) = 1 ∨ (x % (5 : Int32)) = 2 ∨ (x % (5 : Int32)) = 3 ∨ (x % (5 : Int32)) = 4 := by
  obtain ⟨k, e⟩ := finOf (rem_lt (n := 5) (k := 5) hx rfl (by decide))
  have t : ∀ k : Fin 5, Int32.ofNat k.val = 0 ∨ Int32.ofNat k.val = 1 ∨ Int32.ofNat k.val = 2 ∨ Int32.ofNat k.val = 3 ∨ Int32.ofNat k.val = 4 := by decide
  rw [e]; exact t k
theorem rem8 {x : Int32} (hx : ¬ x < 0) : (x % (8 : Int32)) = 0 ∨ (x % (8 : Int32)) = 1 ∨ (x % (8 : Int32)) = 2 ∨ (x % (8 : Int32)) = 3 ∨ (x % (8 : Int32)) = 4 ∨ (x % (8 : Int32)) = 5 ∨ (x % (8 : Int32)) = 6 ∨ (x % (8 : Int32)) = 7 := by
  obtain ⟨k, e⟩ := finOf (rem_lt (n := 8) (k := 8) hx rfl (by decide))
  have t : ∀ k : Fin 8, Int32.ofNat k.val = 0 ∨ Int32.ofNat k.val = 1 ∨ Int32.ofNat k.val = 2 ∨ Int32.ofNat k.val = 3 ∨ Int32.ofNat k.val = 4 ∨ Int32.ofNat k.val = 5 ∨ Int32.ofNat k.val = 6 ∨ Int32.ofNat k.val = 7 := by decide
  rw [e]; exact t k
theorem rem9 {x : Int32} (hx : ¬ x < 0) : (x % (9 : Int32)) = 0 ∨ (x % (9 : Int32)) = 1 ∨ (x % (9 : Int32)) = 2 ∨ (x % (9 : Int32)) = 3 ∨ (x % (9 : Int32)) = 4 ∨ (x % (9 : Int32)) = 5 ∨ (x % (9 : Int32)) = 6 ∨ (x % (9 : Int32)) = 7 ∨ (x % (9 : Int32)) = 8 := by
  obtain ⟨k, e⟩ := finOf (rem_lt (n := 9) (k := 9) hx rfl (by decide))
  have t : ∀ k : Fin 9, Int32.ofNat k.val = 0 ∨ Int32.ofNat k.val = 1 ∨ Int32.ofNat k.val = 2 ∨ Int32.ofNat k.val = 3 ∨ Int32.ofNat k.val = 4 ∨ Int32.ofNat k.val = 5 ∨ Int32.ofNat k.val = 6 ∨ Int32.ofNat k.val = 7 ∨ Int32.ofNat k.val = 8 := by decide
  rw [e]; exact t k

def R_initE4 : Room := { frames := 1, cells := 4, slots := 8, locals := 12 }
def Q_initE4 (Z : State) (x : Addr) (h0 : Heap) (v : Option Value) (h : Heap) : Prop := v = none ∧ Exa Z h x "java/lang/String" ∧ Fld Z h x "java/lang/String" "coder" "B" (.int (0 : Int32)) ∧ ∃ (t : Addr) (kb : ClassId), Fld Z h x "java/lang/String" "value" "[B" (.ref t) ∧ Arv Z h t kb .byte (0 : Int32) [] (.int 0)
set_option maxRecDepth 65536 in
set_option maxHeartbeats 40000000 in
theorem initE4 (l : Launch) (Z : State) (a0 : Array Value) (hw : ∀ d ∈ tables_1, d.before a0 Z = true) (hEL : EW Z a0 EL0) (zc : Int32) (S0 : Sta Z Z.heap "java/lang/String" "COMPACT_STRINGS" "Z" (.int zc)) (Pz : ¬ zc = 0) (w_CLASS s_CLASS : Addr) (S_CLASS : Sta Z Z.heap "com/example/certain_answers/certainanswers/store/Kind" "CLASS" "Lcom/example/certain_answers/certainanswers/store/Kind;" (.ref w_CLASS)) (E_CLASS : Exa Z Z.heap w_CLASS "com/example/certain_answers/certainanswers/store/Kind") (F_CLASS : Fld Z Z.heap w_CLASS "com/example/certain_answers/certainanswers/store/Kind" "word" "Ljava/lang/String;" (.ref s_CLASS)) (X_CLASS : Str Z Z.heap s_CLASS ([(99 : Int32), (108 : Int32), (97 : Int32), (115 : Int32), (115 : Int32)] : List Int32)) (w_PROPERTY s_PROPERTY : Addr) (S_PROPERTY : Sta Z Z.heap "com/example/certain_answers/certainanswers/store/Kind" "PROPERTY" "Lcom/example/certain_answers/certainanswers/store/Kind;" (.ref w_PROPERTY)) (E_PROPERTY : Exa Z Z.heap w_PROPERTY "com/example/certain_answers/certainanswers/store/Kind") (F_PROPERTY : Fld Z Z.heap w_PROPERTY "com/example/certain_answers/certainanswers/store/Kind" "word" "Ljava/lang/String;" (.ref s_PROPERTY)) (X_PROPERTY : Str Z Z.heap s_PROPERTY ([(112 : Int32), (114 : Int32), (111 : Int32), (112 : Int32), (101 : Int32), (114 : Int32), (116 : Int32), (121 : Int32)] : List Int32)) (w_V : Addr) (k_V : ClassId) (S_V : Sta Z Z.heap "com/example/certain_answers/certainanswers/store/Kind" "$VALUES" "[Lcom/example/certain_answers/certainanswers/store/Kind;" (.ref w_V)) (E_V : Exa Z Z.heap w_V "[Lcom/example/certain_answers/certainanswers/store/Kind;") (A_V : Arv Z Z.heap w_V k_V (.object "com/example/certain_answers/certainanswers/store/Kind") (2 : Int32) [(.ref w_CLASS), (.ref w_PROPERTY)] .null) (x b : Addr) (h0 : Heap) (hO : Ext Z.heap h0) (E : Exa Z h0 x "java/lang/String") (V : Fld Z h0 x "java/lang/String" "value" "[B" .null) (C : Fld Z h0 x "java/lang/String" "coder" "B" (.int (0 : Int32))) (gx : Z.heap.size ≤ x) (hmem : ("java/lang/String", 7) ∈ EL0) :
    Con l Z EL0 [] (⟨"java/lang/String", "<init>", "([CIILjava/lang/Void;)V"⟩ : MethodName) jdk_42_method_149_code 6 none R_initE4 #[(.ref x), (.ref b), (.int (0 : Int32)), (.int (0 : Int32)), .null] h0 [x] (Q_initE4 Z x h0) := by
  refine Con.of (y := (⟨"java/lang/String", "<init>", "([CIILjava/lang/Void;)V"⟩ : MethodName)) (f0 := fun m => mkF m 0 #[.val (.ref x), .val (.ref b), .val (.int (0 : Int32)), .val (.int (0 : Int32)), .val .null, .unset] []) (plainFor_of_name pn_0) hEL hO (fun m => by skip <;> first | (simp [entryFrame, mkF, argsToLocals, Value.category, maxLocals]; done) | rfl) ?_
  intro p e s m below meth c s₁ P0
  show Go p e below _ (s₁.setTop (mkF m 0 #[.val (.ref x), .val (.ref b), .val (.int (0 : Int32)), .val (.int (0 : Int32)), .val .null, .unset] []))
  refine P0.xs (fun hA hx hy t k => XS.aloadN hA hx rfl (hb hy d2_0) rfl rfl  k) ?_
  show Go p e below _ (s₁.setTop (mkF m 1 #[.val (.ref x), .val (.ref b), .val (.int (0 : Int32)), .val (.int (0 : Int32)), .val .null, .unset] [(.ref x)]))
  refine P0.init0 (W := 0) (hw _ (List.mem_of_getElem? (i := 12) rfl)) (hw _ (List.mem_of_getElem? (i := 13) rfl)) (hw _ (List.mem_of_getElem? (i := 14) rfl)) d2_1 rfl (by decide) (Nat.le_of_eq rfl) (by decide) fun T1 P1 => ?_
  show Go p e below _ (T1.setTop (mkF m 4 #[.val (.ref x), .val (.ref b), .val (.int (0 : Int32)), .val (.int (0 : Int32)), .val .null, .unset] []))
  refine P1.xs (fun hA hx hy t k => XS.iloadN hA hx rfl (hb hy d2_4) rfl  k) ?_
  show Go p e below _ (T1.setTop (mkF m 5 #[.val (.ref x), .val (.ref b), .val (.int (0 : Int32)), .val (.int (0 : Int32)), .val .null, .unset] [(.int (0 : Int32))]))
  refine P1.xs (fun hA hx hy t k => XS.ifNo hA hx rfl (hb hy d2_5) rfl ((if0 _ _).trans (teq rfl).2) k) ?_
  show Go p e below _ (T1.setTop (mkF m 8 #[.val (.ref x), .val (.ref b), .val (.int (0 : Int32)), .val (.int (0 : Int32)), .val .null, .unset] []))
  refine P1.xs (fun hA hx hy t k => XS.aloadN hA hx rfl (hb hy d2_8) rfl rfl  k) ?_
  show Go p e below _ (T1.setTop (mkF m 9 #[.val (.ref x), .val (.ref b), .val (.int (0 : Int32)), .val (.int (0 : Int32)), .val .null, .unset] [(.ref x)]))
  refine P1.ldcR (hw _ (List.mem_of_getElem? (i := 78) rfl)) (wSt hw) hmem (vs := []) (z := (0 : Int32)) ⟨by decide, by decide⟩ (by decide) (by decide) d2_9 (n := 0) (by decide) (by decide) (by decide) (by decide) fun T2 h2 o2 b2 k2 P2 E2 A2 C2 V2 B2 => ?_
  show Go p e below _ (T2.setTop (mkF m 11 #[.val (.ref x), .val (.ref b), .val (.int (0 : Int32)), .val (.int (0 : Int32)), .val .null, .unset] [(.ref o2), (.ref x)]))
  refine P2.getF (host := "") (Or.inl (hw _ (List.mem_of_getElem? (i := 29) rfl))) Via.refl V2 d2_11 fun T3 P3 => ?_
  show Go p e below _ (T3.setTop (mkF m 14 #[.val (.ref x), .val (.ref b), .val (.int (0 : Int32)), .val (.int (0 : Int32)), .val .null, .unset] [(.ref b2), (.ref x)]))
  have Ec5 : Exa Z h2 x "java/lang/String" := (E.ext E2)
  have Fc6 : Fld Z h2 x "java/lang/String" "coder" "B" (.int (0 : Int32)) := (C.ext E2)
  have Fc7 : Fld Z h2 x "java/lang/String" "value" "[B" .null := (V.ext E2)
  refine P3.putF (hw _ (List.mem_of_getElem? (i := 29) rfl)) Via.refl Fc7 Ec5 (Or.inr ⟨(hw _ (List.mem_of_getElem? (i := 30) rfl)), rfl, rfl⟩) (hw _ (List.mem_of_getElem? (i := 3) rfl)) (ty := (.array .byte)) (v' := (.ref b2)) (by decide) rfl rfl d2_14 (fun vm hs hal hr => hr.safe E.lt (safeNull hs E V)) gx (Or.inl (List.mem_of_getElem? (i := 0) rfl)) fun T4 h4 P4 W4 => ?_
  show Go p e below _ (T4.setTop (mkF m 17 #[.val (.ref x), .val (.ref b), .val (.int (0 : Int32)), .val (.int (0 : Int32)), .val .null, .unset] []))
  refine P4.xs (fun hA hx hy t k => XS.aloadN hA hx rfl (hb hy d2_17) rfl rfl  k) ?_
  show Go p e below _ (T4.setTop (mkF m 18 #[.val (.ref x), .val (.ref b), .val (.int (0 : Int32)), .val (.int (0 : Int32)), .val .null, .unset] [(.ref x)]))
  refine P4.ldcR (hw _ (List.mem_of_getElem? (i := 78) rfl)) (wSt hw) hmem (vs := []) (z := (0 : Int32)) ⟨by decide, by decide⟩ (by decide) (by decide) d2_18 (n := 0) (by decide) (by decide) (by decide) (by decide) fun T8 h8 o8 b8 k8 P8 E8 A8 C8 V8 B8 => ?_
  show Go p e below _ (T8.setTop (mkF m 20 #[.val (.ref x), .val (.ref b), .val (.int (0 : Int32)), .val (.int (0 : Int32)), .val .null, .unset] [(.ref o8), (.ref x)]))
  refine P8.getF (host := "") (Or.inl (hw _ (List.mem_of_getElem? (i := 27) rfl))) Via.refl C8 d2_20 fun T9 P9 => ?_
  show Go p e below _ (T9.setTop (mkF m 23 #[.val (.ref x), .val (.ref b), .val (.int (0 : Int32)), .val (.int (0 : Int32)), .val .null, .unset] [(.int (0 : Int32)), (.ref x)]))
  have Ec11 : Exa Z h8 x "java/lang/String" := ((Ec5.wr W4).ext E8)
  have Fc12 : Fld Z h8 x "java/lang/String" "coder" "B" (.int (0 : Int32)) := ((Fc6.other W4 (Or.inr (slot_ne (Or.inr (hw _ (List.mem_of_getElem? (i := 28) rfl))) (Or.inr (hw _ (List.mem_of_getElem? (i := 30) rfl))) (by decide) (t := .byte) (t' := (.array .byte)) (by decide) (by decide)))).ext E8)
  have Fc13 : Fld Z h8 x "java/lang/String" "value" "[B" (.ref b2) := ((Fc7.same W4).ext E8)
  have Ac14 : Arv Z h8 b2 k2 .byte (0 : Int32) [] (.int 0) := ((B2.other W4 (Ne.symm (Exa.neArv (E.ext E2) B2 (hw _ (List.mem_of_getElem? (i := 3) rfl))))).ext E8)
  refine P9.putF (hw _ (List.mem_of_getElem? (i := 27) rfl)) Via.refl Fc12 Ec11 (Or.inr ⟨(hw _ (List.mem_of_getElem? (i := 28) rfl)), rfl, rfl⟩) (hw _ (List.mem_of_getElem? (i := 3) rfl)) (ty := .byte) (v' := (.int (0 : Int32))) (by decide) rfl rfl d2_23 (fun vm hs hal hr => hr.safe E.lt (safeNull hs E V)) gx (Or.inl (List.mem_of_getElem? (i := 0) rfl)) fun T10 h10 P10 W10 => ?_
  show Go p e below _ (T10.setTop (mkF m 26 #[.val (.ref x), .val (.ref b), .val (.int (0 : Int32)), .val (.int (0 : Int32)), .val .null, .unset] []))
  have Ec15 : Exa Z h10 x "java/lang/String" := (Ec11.wr W10)
  have Fc16 : Fld Z h10 x "java/lang/String" "coder" "B" (.int (0 : Int32)) := (Fc12.same W10)
  have Fc17 : Fld Z h10 x "java/lang/String" "value" "[B" (.ref b2) := (Fc13.other W10 (Or.inr (slot_ne (Or.inr (hw _ (List.mem_of_getElem? (i := 30) rfl))) (Or.inr (hw _ (List.mem_of_getElem? (i := 28) rfl))) (by decide) (t := (.array .byte)) (t' := .byte) (by decide) (by decide))))
  have Ac18 : Arv Z h10 b2 k2 .byte (0 : Int32) [] (.int 0) := (Ac14.other W10 (Ne.symm (Exa.neArv ((Ec5.wr W4).ext E8) ((B2.other W4 (Ne.symm (Exa.neArv (E.ext E2) B2 (hw _ (List.mem_of_getElem? (i := 3) rfl))))).ext E8) (hw _ (List.mem_of_getElem? (i := 3) rfl)))))
  exact P10.retV rfl d2_26 (by decide) (by decide) ⟨rfl, Ec15, Fc16, b2, _, Fc17, Ac18⟩

def R_initE1 : Room := { frames := 2, cells := 4, slots := 8, locals := 29 }
def Q_initE1 (Z : State) (x : Addr) (h0 : Heap) (v : Option Value) (h : Heap) : Prop := v = none ∧ Exa Z h x "java/lang/String" ∧ Fld Z h x "java/lang/String" "coder" "B" (.int (0 : Int32)) ∧ ∃ (t : Addr) (kb : ClassId), Fld Z h x "java/lang/String" "value" "[B" (.ref t) ∧ Arv Z h t kb .byte (0 : Int32) [] (.int 0)
set_option maxRecDepth 65536 in
set_option maxHeartbeats 40000000 in
theorem initE1 (l : Launch) (Z : State) (a0 : Array Value) (hw : ∀ d ∈ tables_1, d.before a0 Z = true) (hEL : EW Z a0 EL0) (zc : Int32) (S0 : Sta Z Z.heap "java/lang/String" "COMPACT_STRINGS" "Z" (.int zc)) (Pz : ¬ zc = 0) (w_CLASS s_CLASS : Addr) (S_CLASS : Sta Z Z.heap "com/example/certain_answers/certainanswers/store/Kind" "CLASS" "Lcom/example/certain_answers/certainanswers/store/Kind;" (.ref w_CLASS)) (E_CLASS : Exa Z Z.heap w_CLASS "com/example/certain_answers/certainanswers/store/Kind") (F_CLASS : Fld Z Z.heap w_CLASS "com/example/certain_answers/certainanswers/store/Kind" "word" "Ljava/lang/String;" (.ref s_CLASS)) (X_CLASS : Str Z Z.heap s_CLASS ([(99 : Int32), (108 : Int32), (97 : Int32), (115 : Int32), (115 : Int32)] : List Int32)) (w_PROPERTY s_PROPERTY : Addr) (S_PROPERTY : Sta Z Z.heap "com/example/certain_answers/certainanswers/store/Kind" "PROPERTY" "Lcom/example/certain_answers/certainanswers/store/Kind;" (.ref w_PROPERTY)) (E_PROPERTY : Exa Z Z.heap w_PROPERTY "com/example/certain_answers/certainanswers/store/Kind") (F_PROPERTY : Fld Z Z.heap w_PROPERTY "com/example/certain_answers/certainanswers/store/Kind" "word" "Ljava/lang/String;" (.ref s_PROPERTY)) (X_PROPERTY : Str Z Z.heap s_PROPERTY ([(112 : Int32), (114 : Int32), (111 : Int32), (112 : Int32), (101 : Int32), (114 : Int32), (116 : Int32), (121 : Int32)] : List Int32)) (w_V : Addr) (k_V : ClassId) (S_V : Sta Z Z.heap "com/example/certain_answers/certainanswers/store/Kind" "$VALUES" "[Lcom/example/certain_answers/certainanswers/store/Kind;" (.ref w_V)) (E_V : Exa Z Z.heap w_V "[Lcom/example/certain_answers/certainanswers/store/Kind;") (A_V : Arv Z Z.heap w_V k_V (.object "com/example/certain_answers/certainanswers/store/Kind") (2 : Int32) [(.ref w_CLASS), (.ref w_PROPERTY)] .null) (x b : Addr) (kc : ClassId) (h0 : Heap) (hO : Ext Z.heap h0) (E : Exa Z h0 x "java/lang/String") (V : Fld Z h0 x "java/lang/String" "value" "[B" .null) (C : Fld Z h0 x "java/lang/String" "coder" "B" (.int (0 : Int32))) (gx : Z.heap.size ≤ x) (hmem : ("java/lang/String", 7) ∈ EL0) (A : Arv Z h0 b kc .char (0 : Int32) [] (.int (0 : Int32))) :
    Con l Z EL0 [] (⟨"java/lang/String", "<init>", "([C)V"⟩ : MethodName) jdk_42_method_3_code 2 none R_initE1 #[(.ref x), (.ref b)] h0 [x] (Q_initE1 Z x h0) := by
  refine Con.of (y := (⟨"java/lang/String", "<init>", "([C)V"⟩ : MethodName)) (f0 := fun m => mkF m 0 #[.val (.ref x), .val (.ref b)] []) (plainFor_of_name pn_0) hEL hO (fun m => by skip <;> first | (simp [entryFrame, mkF, argsToLocals, Value.category, maxLocals]; done) | rfl) ?_
  intro p e s m below meth c s₁ P0
  show Go p e below _ (s₁.setTop (mkF m 0 #[.val (.ref x), .val (.ref b)] []))
  refine P0.xs (fun hA hx hy t k => XS.aloadN hA hx rfl (hb hy d1_0) rfl rfl  k) ?_
  show Go p e below _ (s₁.setTop (mkF m 1 #[.val (.ref x), .val (.ref b)] [(.ref x)]))
  refine P0.xs (fun hA hx hy t k => XS.aloadN hA hx rfl (hb hy d1_1) rfl rfl  k) ?_
  show Go p e below _ (s₁.setTop (mkF m 2 #[.val (.ref x), .val (.ref b)] [(.ref b), (.ref x)]))
  refine P0.xs (fun hA hx hy t k => XS.iconst hA hx rfl (hb hy d1_2) k) ?_
  show Go p e below _ (s₁.setTop (mkF m 3 #[.val (.ref x), .val (.ref b)] [(.int (0 : Int32)), (.ref b), (.ref x)]))
  refine P0.xs (fun hA hx hy t k => XS.aloadN hA hx rfl (hb hy d1_3) rfl rfl  k) ?_
  show Go p e below _ (s₁.setTop (mkF m 4 #[.val (.ref x), .val (.ref b)] [(.ref b), (.int (0 : Int32)), (.ref b), (.ref x)]))
  refine P0.alen A d1_4 ?_
  show Go p e below _ (s₁.setTop (mkF m 5 #[.val (.ref x), .val (.ref b)] [(.int (0 : Int32)), (.int (0 : Int32)), (.ref b), (.ref x)]))
  refine P0.xs (fun hA hx hy t k => XS.aconstNull hA hx rfl (hb hy d1_5) k) ?_
  show Go p e below _ (s₁.setTop (mkF m 6 #[.val (.ref x), .val (.ref b)] [.null, (.int (0 : Int32)), (.int (0 : Int32)), (.ref b), (.ref x)]))
  refine P0.callI rfl (hw _ (List.mem_of_getElem? (i := 8) rfl)) (hw _ (List.mem_of_getElem? (i := 9) rfl)) (hw _ (List.mem_of_getElem? (i := 4) rfl)) (hw _ (List.mem_of_getElem? (i := 11) rfl)) (by decide) (initE4 l Z a0 hw hEL zc S0 Pz w_CLASS s_CLASS S_CLASS E_CLASS F_CLASS X_CLASS w_PROPERTY s_PROPERTY S_PROPERTY E_PROPERTY F_PROPERTY X_PROPERTY w_V k_V S_V E_V A_V x b h0 P0.old E V C gx hmem) (W := 0) (by decide) (by decide) (by decide) (by decide) (allS (Or.inl (List.mem_of_getElem? (i := 0) rfl)) all0) pd_0 (argsL := [(.ref b), (.int (0 : Int32)), (.int (0 : Int32)), .null]) rfl rfl rfl (Nat.le_of_eq rfl) d1_6 fun v19 T19 h19 P19 K19 Q19 => ?_
  obtain ⟨rfl, E19, C19, b19, k19, V19, B19⟩ := Q19
  show Go p e below _ (T19.setTop (mkF m 9 #[.val (.ref x), .val (.ref b)] []))
  exact P19.retV rfl d1_9 (by decide) (by decide) ⟨rfl, E19, C19, b19, _, V19, B19⟩

def R_eqNul : Room := { frames := 0, cells := 0, slots := 0, locals := 0 }
def Q_eqNul (Z : State)  (h0 : Heap) (v : Option Value) (h : Heap) : Prop := v = some (.int (0 : Int32)) ∧ h = h0
set_option maxRecDepth 65536 in
set_option maxHeartbeats 40000000 in
theorem eqNul (l : Launch) (Z : State) (a0 : Array Value) (hw : ∀ d ∈ tables_1, d.before a0 Z = true) (hEL : EW Z a0 EL0) (zc : Int32) (S0 : Sta Z Z.heap "java/lang/String" "COMPACT_STRINGS" "Z" (.int zc)) (Pz : ¬ zc = 0) (w_CLASS s_CLASS : Addr) (S_CLASS : Sta Z Z.heap "com/example/certain_answers/certainanswers/store/Kind" "CLASS" "Lcom/example/certain_answers/certainanswers/store/Kind;" (.ref w_CLASS)) (E_CLASS : Exa Z Z.heap w_CLASS "com/example/certain_answers/certainanswers/store/Kind") (F_CLASS : Fld Z Z.heap w_CLASS "com/example/certain_answers/certainanswers/store/Kind" "word" "Ljava/lang/String;" (.ref s_CLASS)) (X_CLASS : Str Z Z.heap s_CLASS ([(99 : Int32), (108 : Int32), (97 : Int32), (115 : Int32), (115 : Int32)] : List Int32)) (w_PROPERTY s_PROPERTY : Addr) (S_PROPERTY : Sta Z Z.heap "com/example/certain_answers/certainanswers/store/Kind" "PROPERTY" "Lcom/example/certain_answers/certainanswers/store/Kind;" (.ref w_PROPERTY)) (E_PROPERTY : Exa Z Z.heap w_PROPERTY "com/example/certain_answers/certainanswers/store/Kind") (F_PROPERTY : Fld Z Z.heap w_PROPERTY "com/example/certain_answers/certainanswers/store/Kind" "word" "Ljava/lang/String;" (.ref s_PROPERTY)) (X_PROPERTY : Str Z Z.heap s_PROPERTY ([(112 : Int32), (114 : Int32), (111 : Int32), (112 : Int32), (101 : Int32), (114 : Int32), (116 : Int32), (121 : Int32)] : List Int32)) (w_V : Addr) (k_V : ClassId) (S_V : Sta Z Z.heap "com/example/certain_answers/certainanswers/store/Kind" "$VALUES" "[Lcom/example/certain_answers/certainanswers/store/Kind;" (.ref w_V)) (E_V : Exa Z Z.heap w_V "[Lcom/example/certain_answers/certainanswers/store/Kind;") (A_V : Arv Z Z.heap w_V k_V (.object "com/example/certain_answers/certainanswers/store/Kind") (2 : Int32) [(.ref w_CLASS), (.ref w_PROPERTY)] .null) (x : Addr) (h0 : Heap) (hO : Ext Z.heap h0)  :
    Con l Z EL0 [] (⟨"java/lang/String", "equals", "(Ljava/lang/Object;)Z"⟩ : MethodName) jdk_42_method_66_code 3 (some .boolean) R_eqNul #[(.ref x), .null] h0 [] (Q_eqNul Z  h0) := by
  refine Con.of (y := (⟨"java/lang/String", "equals", "(Ljava/lang/Object;)Z"⟩ : MethodName)) (f0 := fun m => mkF m 0 #[.val (.ref x), .val .null, .unset] []) (plainFor_of_name pn_0) hEL hO (fun m => by skip <;> first | (simp [entryFrame, mkF, argsToLocals, Value.category, maxLocals]; done) | rfl) ?_
  intro p e s m below meth c s₁ P0
  show Go p e below _ (s₁.setTop (mkF m 0 #[.val (.ref x), .val .null, .unset] []))
  refine P0.xs (fun hA hx hy t k => XS.aloadN hA hx rfl (hb hy d7_0) rfl rfl  k) ?_
  show Go p e below _ (s₁.setTop (mkF m 1 #[.val (.ref x), .val .null, .unset] [(.ref x)]))
  refine P0.xs (fun hA hx hy t k => XS.aloadN hA hx rfl (hb hy d7_1) rfl rfl  k) ?_
  show Go p e below _ (s₁.setTop (mkF m 2 #[.val (.ref x), .val .null, .unset] [.null, (.ref x)]))
  refine P0.st (fun vm0 locs X hx hy t k => Jvm.RoadKit.acmp (g := (mkF m 2 #[.val (.ref x), .val .null, .unset] [.null, (.ref x)])) X hx rfl rfl rfl (pc0 := 2) (pc' := 7) (same := false) rfl (hb hy d7_2) rfl (decide_eq_false nofun) (by decide) (by decide) k) ?_
  show Go p e below _ (s₁.setTop (mkF m 7 #[.val (.ref x), .val .null, .unset] []))
  refine P0.xs (fun hA hx hy t k => XS.aloadN hA hx rfl (hb hy d7_7) rfl rfl  k) ?_
  show Go p e below _ (s₁.setTop (mkF m 8 #[.val (.ref x), .val .null, .unset] [.null]))
  refine P0.inst0 d7_8 ?_
  show Go p e below _ (s₁.setTop (mkF m 11 #[.val (.ref x), .val .null, .unset] [(.int (0 : Int32))]))
  refine P0.xs (fun hA hx hy t k => XS.ifYes hA hx rfl (pc0 := 11) (pc' := 54) rfl (hb hy d7_11) rfl ((if0 _ _).trans (teq rfl).1) (by decide) (by decide) k) ?_
  show Go p e below _ (s₁.setTop (mkF m 54 #[.val (.ref x), .val .null, .unset] []))
  refine P0.xs (fun hA hx hy t k => XS.iconst hA hx rfl (hb hy d7_54) k) ?_
  show Go p e below _ (s₁.setTop (mkF m 55 #[.val (.ref x), .val .null, .unset] [(.int (0 : Int32))]))
  exact P0.retN (t := .boolean) rfl (by simp) d7_55 (by decide) (by decide) ⟨rfl, rfl⟩

def R_mVals : Room := { frames := 1, cells := 1, slots := 2, locals := 14 }
def Q_mVals (Z : State) (k : ClassId) (w_CLASS w_PROPERTY : Addr) (h0 : Heap) (v : Option Value) (h : Heap) : Prop := ∃ (x : Addr), v = some (.ref x) ∧ h0.size ≤ x ∧ Arv Z h x k (.object "com/example/certain_answers/certainanswers/store/Kind") (2 : Int32) [(.ref w_CLASS), (.ref w_PROPERTY)] .null
set_option maxRecDepth 65536 in
set_option maxHeartbeats 40000000 in
theorem mVals (l : Launch) (Z : State) (a0 : Array Value) (hw : ∀ d ∈ tables_1, d.before a0 Z = true) (hEL : EW Z a0 EL0) (zc : Int32) (S0 : Sta Z Z.heap "java/lang/String" "COMPACT_STRINGS" "Z" (.int zc)) (Pz : ¬ zc = 0) (w_CLASS s_CLASS : Addr) (S_CLASS : Sta Z Z.heap "com/example/certain_answers/certainanswers/store/Kind" "CLASS" "Lcom/example/certain_answers/certainanswers/store/Kind;" (.ref w_CLASS)) (E_CLASS : Exa Z Z.heap w_CLASS "com/example/certain_answers/certainanswers/store/Kind") (F_CLASS : Fld Z Z.heap w_CLASS "com/example/certain_answers/certainanswers/store/Kind" "word" "Ljava/lang/String;" (.ref s_CLASS)) (X_CLASS : Str Z Z.heap s_CLASS ([(99 : Int32), (108 : Int32), (97 : Int32), (115 : Int32), (115 : Int32)] : List Int32)) (w_PROPERTY s_PROPERTY : Addr) (S_PROPERTY : Sta Z Z.heap "com/example/certain_answers/certainanswers/store/Kind" "PROPERTY" "Lcom/example/certain_answers/certainanswers/store/Kind;" (.ref w_PROPERTY)) (E_PROPERTY : Exa Z Z.heap w_PROPERTY "com/example/certain_answers/certainanswers/store/Kind") (F_PROPERTY : Fld Z Z.heap w_PROPERTY "com/example/certain_answers/certainanswers/store/Kind" "word" "Ljava/lang/String;" (.ref s_PROPERTY)) (X_PROPERTY : Str Z Z.heap s_PROPERTY ([(112 : Int32), (114 : Int32), (111 : Int32), (112 : Int32), (101 : Int32), (114 : Int32), (116 : Int32), (121 : Int32)] : List Int32)) (w_V : Addr) (k_V : ClassId) (S_V : Sta Z Z.heap "com/example/certain_answers/certainanswers/store/Kind" "$VALUES" "[Lcom/example/certain_answers/certainanswers/store/Kind;" (.ref w_V)) (E_V : Exa Z Z.heap w_V "[Lcom/example/certain_answers/certainanswers/store/Kind;") (A_V : Arv Z Z.heap w_V k_V (.object "com/example/certain_answers/certainanswers/store/Kind") (2 : Int32) [(.ref w_CLASS), (.ref w_PROPERTY)] .null)  (h0 : Heap) (hO : Ext Z.heap h0)  :
    Con l Z EL0 [] (⟨"com/example/certain_answers/certainanswers/store/Kind", "values", "()[Lcom/example/certain_answers/certainanswers/store/Kind;"⟩ : MethodName) prog_11_method_1_code 0 (some (.array (.object "com/example/certain_answers/certainanswers/store/Kind"))) R_mVals #[] h0 [] (Q_mVals Z k_V w_CLASS w_PROPERTY h0) := by
  refine Con.of (y := (⟨"com/example/certain_answers/certainanswers/store/Kind", "values", "()[Lcom/example/certain_answers/certainanswers/store/Kind;"⟩ : MethodName)) (f0 := fun m => mkF m 0 #[] []) (plainFor_of_name pn_1) hEL hO (fun m => by skip <;> first | (simp [entryFrame, mkF, argsToLocals, Value.category, maxLocals]; done) | rfl) ?_
  intro p e s m below meth c s₁ P0
  show Go p e below _ (s₁.setTop (mkF m 0 #[] []))
  refine P0.getS (host := "") (Or.inl (hw _ (List.mem_of_getElem? (i := 53) rfl))) Via.refl S_V d10_0 fun T21 P21 => ?_
  show Go p e below _ (T21.setTop (mkF m 3 #[] [(.ref w_V)]))
  refine P21.clone (W := 0) (cap := 2) (hw _ (List.mem_of_getElem? (i := 55) rfl)) (hw _ (List.mem_of_getElem? (i := 56) rfl)) (hw _ (List.mem_of_getElem? (i := 60) rfl)) (hw _ (List.mem_of_getElem? (i := 58) rfl)) (hw _ (List.mem_of_getElem? (i := 59) rfl)) (hw _ (List.mem_of_getElem? (i := 61) rfl)) (A_V.ext P21.old) (E_V.ext P21.old) d10_3 rfl (by decide) (by decide) (by decide) (by decide) (by decide) (by decide) fun T22 h22 o22 g22 P22 E22 A22 F22 => ?_
  have gz_o22 : Z.heap.size ≤ o22 := Nat.le_trans P21.old.1 (Nat.le_of_eq g22.symm)
  have gw_o22 : h0.size ≤ o22 := Nat.le_trans P21.kept.1 (Nat.le_of_eq g22.symm)
  show Go p e below _ (T22.setTop (mkF m 6 #[] [(.ref o22)]))
  refine P22.cast (hw _ (List.mem_of_getElem? (i := 64) rfl)) (Ins.self F22) d10_6 fun T23 P23 => ?_
  show Go p e below _ (T23.setTop (mkF m 9 #[] [(.ref o22)]))
  exact P23.retR rfl rfl rfl d10_9 (by decide) (by decide) ⟨o22, rfl, gw_o22, A22⟩

def R_mAt : Room := { frames := 0, cells := 0, slots := 0, locals := 0 }
def Q_mAt (Z : State)  (h0 : Heap) (v : Option Value) (h : Heap) : Prop := ∃ ch : Int32, v = some (.int ch) ∧ (¬ ch < 0 ∧ ¬ (255 : Int32) < ch) ∧ nar .char ch = ch ∧ h = h0
set_option maxRecDepth 65536 in
set_option maxHeartbeats 40000000 in
theorem mAt (l : Launch) (Z : State) (a0 : Array Value) (hw : ∀ d ∈ tables_1, d.before a0 Z = true) (hEL : EW Z a0 EL0) (zc : Int32) (S0 : Sta Z Z.heap "java/lang/String" "COMPACT_STRINGS" "Z" (.int zc)) (Pz : ¬ zc = 0) (w_CLASS s_CLASS : Addr) (S_CLASS : Sta Z Z.heap "com/example/certain_answers/certainanswers/store/Kind" "CLASS" "Lcom/example/certain_answers/certainanswers/store/Kind;" (.ref w_CLASS)) (E_CLASS : Exa Z Z.heap w_CLASS "com/example/certain_answers/certainanswers/store/Kind") (F_CLASS : Fld Z Z.heap w_CLASS "com/example/certain_answers/certainanswers/store/Kind" "word" "Ljava/lang/String;" (.ref s_CLASS)) (X_CLASS : Str Z Z.heap s_CLASS ([(99 : Int32), (108 : Int32), (97 : Int32), (115 : Int32), (115 : Int32)] : List Int32)) (w_PROPERTY s_PROPERTY : Addr) (S_PROPERTY : Sta Z Z.heap "com/example/certain_answers/certainanswers/store/Kind" "PROPERTY" "Lcom/example/certain_answers/certainanswers/store/Kind;" (.ref w_PROPERTY)) (E_PROPERTY : Exa Z Z.heap w_PROPERTY "com/example/certain_answers/certainanswers/store/Kind") (F_PROPERTY : Fld Z Z.heap w_PROPERTY "com/example/certain_answers/certainanswers/store/Kind" "word" "Ljava/lang/String;" (.ref s_PROPERTY)) (X_PROPERTY : Str Z Z.heap s_PROPERTY ([(112 : Int32), (114 : Int32), (111 : Int32), (112 : Int32), (101 : Int32), (114 : Int32), (116 : Int32), (121 : Int32)] : List Int32)) (w_V : Addr) (k_V : ClassId) (S_V : Sta Z Z.heap "com/example/certain_answers/certainanswers/store/Kind" "$VALUES" "[Lcom/example/certain_answers/certainanswers/store/Kind;" (.ref w_V)) (E_V : Exa Z Z.heap w_V "[Lcom/example/certain_answers/certainanswers/store/Kind;") (A_V : Arv Z Z.heap w_V k_V (.object "com/example/certain_answers/certainanswers/store/Kind") (2 : Int32) [(.ref w_CLASS), (.ref w_PROPERTY)] .null) (aa : Int64) (ii : Int32) (h0 : Heap) (hO : Ext Z.heap h0)  :
    Con l Z EL0 [] (⟨"com/example/certain_answers/certainanswers/store/KindNamedPinLaw", "at", "(JI)C"⟩ : MethodName) method_2_code 3 (some .char) R_mAt #[(.long aa), (.int ii)] h0 [] (Q_mAt Z  h0) := by
  refine Con.of (y := (⟨"com/example/certain_answers/certainanswers/store/KindNamedPinLaw", "at", "(JI)C"⟩ : MethodName)) (f0 := fun m => mkF m 0 #[.val (.long aa), .second, .val (.int ii)] []) (plainFor_of_name pn_2) hEL hO (fun m => by skip <;> first | (simp [entryFrame, mkF, argsToLocals, Value.category, maxLocals]; done) | rfl) ?_
  intro p e s m below meth c s₁ P0
  show Go p e below _ (s₁.setTop (mkF m 0 #[.val (.long aa), .second, .val (.int ii)] []))
  refine P0.xs (fun hA hx hy t k => XS.lloadN hA hx rfl (hb hy d12_0) rfl  k) ?_
  show Go p e below _ (s₁.setTop (mkF m 1 #[.val (.long aa), .second, .val (.int ii)] [(.long aa)]))
  refine P0.xs (fun hA hx hy t k => XS.bipush hA hx rfl (hb hy d12_1) k) ?_
  show Go p e below _ (s₁.setTop (mkF m 3 #[.val (.long aa), .second, .val (.int ii)] [(.int (8 : Int32)), (.long aa)]))
  refine P0.xs (fun hA hx hy t k => XS.iloadN hA hx rfl (hb hy d12_3) rfl  k) ?_
  show Go p e below _ (s₁.setTop (mkF m 4 #[.val (.long aa), .second, .val (.int ii)] [(.int ii), (.int (8 : Int32)), (.long aa)]))
  refine P0.xs (fun hA hx hy t k => XS.imul hA hx rfl (hb hy d12_4) rfl k) ?_
  show Go p e below _ (s₁.setTop (mkF m 5 #[.val (.long aa), .second, .val (.int ii)] [(.int ((8 : Int32) * ii)), (.long aa)]))
  refine P0.xs (fun hA hx hy t k => XS.lushr hA hx rfl (hb hy d12_5) rfl k) ?_
  show Go p e below _ (s₁.setTop (mkF m 6 #[.val (.long aa), .second, .val (.int ii)] [(.long ((aa.toUInt64 >>> (((8 : Int32) * ii) &&& 0x3f).toInt64.toUInt64).toInt64))]))
  refine P0.ldc2 (hw _ (List.mem_of_getElem? (i := 77) rfl)) d12_6 ?_
  show Go p e below _ (s₁.setTop (mkF m 9 #[.val (.long aa), .second, .val (.int ii)] [(.long (255 : Int64)), (.long ((aa.toUInt64 >>> (((8 : Int32) * ii) &&& 0x3f).toInt64.toUInt64).toInt64))]))
  refine P0.xs (fun hA hx hy t k => XS.land hA hx rfl (hb hy d12_9) rfl k) ?_
  show Go p e below _ (s₁.setTop (mkF m 10 #[.val (.long aa), .second, .val (.int ii)] [(.long (((aa.toUInt64 >>> (((8 : Int32) * ii) &&& 0x3f).toInt64.toUInt64).toInt64) &&& (255 : Int64)))]))
  refine P0.xs (fun hA hx hy t k => XS.l2i hA hx rfl (hb hy d12_10) rfl k) ?_
  show Go p e below _ (s₁.setTop (mkF m 11 #[.val (.long aa), .second, .val (.int ii)] [(.int ((((aa.toUInt64 >>> (((8 : Int32) * ii) &&& 0x3f).toInt64.toUInt64).toInt64) &&& (255 : Int64)).toInt32))]))
  refine P0.xs (fun hA hx hy t k => XS.i2c hA hx rfl (hb hy d12_11) rfl k) ?_
  show Go p e below _ (s₁.setTop (mkF m 12 #[.val (.long aa), .second, .val (.int ii)] [(.int (((((aa.toUInt64 >>> (((8 : Int32) * ii) &&& 0x3f).toInt64.toUInt64).toInt64) &&& (255 : Int64)).toInt32).toUInt32.toUInt16.toUInt32.toInt32))]))
  generalize hch24 : (((((aa.toUInt64 >>> (((8 : Int32) * ii) &&& 0x3f).toInt64.toUInt64).toInt64) &&& (255 : Int64)).toInt32).toUInt32.toUInt16.toUInt32.toInt32) = ch24
  obtain ⟨lch24, nch24⟩ := chr255L hch24
  show Go p e below _ (s₁.setTop (mkF m 12 #[.val (.long aa), .second, .val (.int ii)] [(.int ch24)]))
  exact P0.retN (t := .char) rfl (by simp) d12_12 (by decide) (by decide) ⟨ch24, by rw [nch24], lch24, nch24, rfl⟩

def R_mDrawn : Room := { frames := 4, cells := 6, slots := 20, locals := 66 }
def Q_mDrawn (Z : State)  (h0 : Heap) (v : Option Value) (h : Heap) : Prop := ∃ (x : Addr) (cs : List Int32), v = some (.ref x) ∧ h0.size ≤ x ∧ Str Z h x cs
set_option maxRecDepth 65536 in
set_option maxHeartbeats 40000000 in
theorem mDrawn (l : Launch) (Z : State) (a0 : Array Value) (hw : ∀ d ∈ tables_1, d.before a0 Z = true) (hEL : EW Z a0 EL0) (zc : Int32) (S0 : Sta Z Z.heap "java/lang/String" "COMPACT_STRINGS" "Z" (.int zc)) (Pz : ¬ zc = 0) (w_CLASS s_CLASS : Addr) (S_CLASS : Sta Z Z.heap "com/example/certain_answers/certainanswers/store/Kind" "CLASS" "Lcom/example/certain_answers/certainanswers/store/Kind;" (.ref w_CLASS)) (E_CLASS : Exa Z Z.heap w_CLASS "com/example/certain_answers/certainanswers/store/Kind") (F_CLASS : Fld Z Z.heap w_CLASS "com/example/certain_answers/certainanswers/store/Kind" "word" "Ljava/lang/String;" (.ref s_CLASS)) (X_CLASS : Str Z Z.heap s_CLASS ([(99 : Int32), (108 : Int32), (97 : Int32), (115 : Int32), (115 : Int32)] : List Int32)) (w_PROPERTY s_PROPERTY : Addr) (S_PROPERTY : Sta Z Z.heap "com/example/certain_answers/certainanswers/store/Kind" "PROPERTY" "Lcom/example/certain_answers/certainanswers/store/Kind;" (.ref w_PROPERTY)) (E_PROPERTY : Exa Z Z.heap w_PROPERTY "com/example/certain_answers/certainanswers/store/Kind") (F_PROPERTY : Fld Z Z.heap w_PROPERTY "com/example/certain_answers/certainanswers/store/Kind" "word" "Ljava/lang/String;" (.ref s_PROPERTY)) (X_PROPERTY : Str Z Z.heap s_PROPERTY ([(112 : Int32), (114 : Int32), (111 : Int32), (112 : Int32), (101 : Int32), (114 : Int32), (116 : Int32), (121 : Int32)] : List Int32)) (w_V : Addr) (k_V : ClassId) (S_V : Sta Z Z.heap "com/example/certain_answers/certainanswers/store/Kind" "$VALUES" "[Lcom/example/certain_answers/certainanswers/store/Kind;" (.ref w_V)) (E_V : Exa Z Z.heap w_V "[Lcom/example/certain_answers/certainanswers/store/Kind;") (A_V : Arv Z Z.heap w_V k_V (.object "com/example/certain_answers/certainanswers/store/Kind") (2 : Int32) [(.ref w_CLASS), (.ref w_PROPERTY)] .null) (aa : Int64) (nn : Int32) (h0 : Heap) (hO : Ext Z.heap h0) (hn : nn = 0 ∨ nn = 1 ∨ nn = 2 ∨ nn = 3 ∨ nn = 4 ∨ nn = 5 ∨ nn = 6 ∨ nn = 7 ∨ nn = 8) :
    Con l Z EL0 [] (⟨"com/example/certain_answers/certainanswers/store/KindNamedPinLaw", "drawn", "(JI)Ljava/lang/String;"⟩ : MethodName) method_3_code 4 (some (.object "java/lang/String")) R_mDrawn #[(.long aa), (.int nn)] h0 [] (Q_mDrawn Z  h0) := by
  refine Con.of (y := (⟨"com/example/certain_answers/certainanswers/store/KindNamedPinLaw", "drawn", "(JI)Ljava/lang/String;"⟩ : MethodName)) (f0 := fun m => mkF m 0 #[.val (.long aa), .second, .val (.int nn), .unset] []) (plainFor_of_name pn_2) hEL hO (fun m => by skip <;> first | (simp [entryFrame, mkF, argsToLocals, Value.category, maxLocals]; done) | rfl) ?_
  intro p e s m below meth c s₁ P0
  show Go p e below _ (s₁.setTop (mkF m 0 #[.val (.long aa), .second, .val (.int nn), .unset] []))
  rcases hn with rfl | rfl | rfl | rfl | rfl | rfl | rfl | rfl | rfl
  · show Go p e below _ (s₁.setTop (mkF m 0 #[.val (.long aa), .second, .val (.int (0 : Int32)), .unset] []))
    refine P0.xs (fun hA hx hy t k => XS.iloadN hA hx rfl (hb hy d11_0) rfl  k) ?_
    show Go p e below _ (s₁.setTop (mkF m 1 #[.val (.long aa), .second, .val (.int (0 : Int32)), .unset] [(.int (0 : Int32))]))
    refine P0.xs (fun hA hx hy t k => XS.ifNo hA hx rfl (hb hy d11_1) rfl ((if0 _ _).trans (teq (by decide)).2) k) ?_
    show Go p e below _ (s₁.setTop (mkF m 4 #[.val (.long aa), .second, .val (.int (0 : Int32)), .unset] []))
    refine P0.xs (fun hA hx hy t k => XS.iconst hA hx rfl (hb hy d11_4) k) ?_
    show Go p e below _ (s₁.setTop (mkF m 5 #[.val (.long aa), .second, .val (.int (0 : Int32)), .unset] [(.int (0 : Int32))]))
    refine P0.newP (aty := .char) (hw _ (List.mem_of_getElem? (i := 1) rfl)) d11_5 (by decide) (cap := 0) (by decide) (by decide) (by decide) (by decide) fun T25 h25 o25 k25 g25 P25 E25 A25 => ?_
    have gz_o25 : Z.heap.size ≤ o25 := Nat.le_trans P0.old.1 (Nat.le_of_eq g25.symm)
    have gw_o25 : h0.size ≤ o25 := Nat.le_trans P0.kept.1 (Nat.le_of_eq g25.symm)
    have V25 : Arv Z h25 o25 k25 .char (0 : Int32) [] (.int (0 : Int32)) := Arv.pad A25 (pad_rep [] (.int (0 : Int32)) 0)
    show Go p e below _ (T25.setTop (mkF m 7 #[.val (.long aa), .second, .val (.int (0 : Int32)), .unset] [(.ref o25)]))
    refine P25.xs (fun hA hx hy t k => XS.astoreN hA hx rfl (hb hy d11_7) rfl rfl (l' := #[.val (.long aa), .second, .val (.int (0 : Int32)), .val (.ref o25)]) rfl k) ?_
    show Go p e below _ (T25.setTop (mkF m 8 #[.val (.long aa), .second, .val (.int (0 : Int32)), .val (.ref o25)] []))
    refine P25.xs (fun hA hx hy t k => XS.goto hA hx rfl (pc0 := 8) (pc' := 104) rfl (hb hy d11_8) (by decide) (by decide) k) ?_
    show Go p e below _ (T25.setTop (mkF m 104 #[.val (.long aa), .second, .val (.int (0 : Int32)), .val (.ref o25)] []))
    refine P25.xs (fun hA hx hy t k => XS.aloadN hA hx rfl (hb hy d11_104) rfl rfl  k) ?_
    show Go p e below _ (T25.setTop (mkF m 105 #[.val (.long aa), .second, .val (.int (0 : Int32)), .val (.ref o25)] [(.ref o25)]))
    refine P25.alen V25 d11_105 ?_
    show Go p e below _ (T25.setTop (mkF m 106 #[.val (.long aa), .second, .val (.int (0 : Int32)), .val (.ref o25)] [(.int (0 : Int32))]))
    refine P25.xs (fun hA hx hy t k => XS.ifYes hA hx rfl (pc0 := 106) (pc' := 117) rfl (hb hy d11_106) rfl ((if0 _ _).trans (flt (by decide)).2.2.2) (by decide) (by decide) k) ?_
    show Go p e below _ (T25.setTop (mkF m 117 #[.val (.long aa), .second, .val (.int (0 : Int32)), .val (.ref o25)] []))
    refine P25.xs (fun hA hx hy t k => XS.aloadN hA hx rfl (hb hy d11_117) rfl rfl  k) ?_
    show Go p e below _ (T25.setTop (mkF m 118 #[.val (.long aa), .second, .val (.int (0 : Int32)), .val (.ref o25)] [(.ref o25)]))
    refine P25.alen V25 d11_118 ?_
    show Go p e below _ (T25.setTop (mkF m 119 #[.val (.long aa), .second, .val (.int (0 : Int32)), .val (.ref o25)] [(.int (0 : Int32))]))
    refine P25.xs (fun hA hx hy t k => XS.iconst hA hx rfl (hb hy d11_119) k) ?_
    show Go p e below _ (T25.setTop (mkF m 120 #[.val (.long aa), .second, .val (.int (0 : Int32)), .val (.ref o25)] [(.int (1 : Int32)), (.int (0 : Int32))]))
    refine P25.xs (fun hA hx hy t k => XS.icmpYes hA hx rfl (pc0 := 120) (pc' := 131) rfl (hb hy d11_120) rfl (flt (by decide)).2.2.2 (by decide) (by decide) k) ?_
    show Go p e below _ (T25.setTop (mkF m 131 #[.val (.long aa), .second, .val (.int (0 : Int32)), .val (.ref o25)] []))
    refine P25.xs (fun hA hx hy t k => XS.aloadN hA hx rfl (hb hy d11_131) rfl rfl  k) ?_
    show Go p e below _ (T25.setTop (mkF m 132 #[.val (.long aa), .second, .val (.int (0 : Int32)), .val (.ref o25)] [(.ref o25)]))
    refine P25.alen V25 d11_132 ?_
    show Go p e below _ (T25.setTop (mkF m 133 #[.val (.long aa), .second, .val (.int (0 : Int32)), .val (.ref o25)] [(.int (0 : Int32))]))
    refine P25.xs (fun hA hx hy t k => XS.iconst hA hx rfl (hb hy d11_133) k) ?_
    show Go p e below _ (T25.setTop (mkF m 134 #[.val (.long aa), .second, .val (.int (0 : Int32)), .val (.ref o25)] [(.int (2 : Int32)), (.int (0 : Int32))]))
    refine P25.xs (fun hA hx hy t k => XS.icmpYes hA hx rfl (pc0 := 134) (pc' := 145) rfl (hb hy d11_134) rfl (flt (by decide)).2.2.2 (by decide) (by decide) k) ?_
    show Go p e below _ (T25.setTop (mkF m 145 #[.val (.long aa), .second, .val (.int (0 : Int32)), .val (.ref o25)] []))
    refine P25.xs (fun hA hx hy t k => XS.aloadN hA hx rfl (hb hy d11_145) rfl rfl  k) ?_
    show Go p e below _ (T25.setTop (mkF m 146 #[.val (.long aa), .second, .val (.int (0 : Int32)), .val (.ref o25)] [(.ref o25)]))
    refine P25.alen V25 d11_146 ?_
    show Go p e below _ (T25.setTop (mkF m 147 #[.val (.long aa), .second, .val (.int (0 : Int32)), .val (.ref o25)] [(.int (0 : Int32))]))
    refine P25.xs (fun hA hx hy t k => XS.iconst hA hx rfl (hb hy d11_147) k) ?_
    show Go p e below _ (T25.setTop (mkF m 148 #[.val (.long aa), .second, .val (.int (0 : Int32)), .val (.ref o25)] [(.int (3 : Int32)), (.int (0 : Int32))]))
    refine P25.xs (fun hA hx hy t k => XS.icmpYes hA hx rfl (pc0 := 148) (pc' := 159) rfl (hb hy d11_148) rfl (flt (by decide)).2.2.2 (by decide) (by decide) k) ?_
    show Go p e below _ (T25.setTop (mkF m 159 #[.val (.long aa), .second, .val (.int (0 : Int32)), .val (.ref o25)] []))
    refine P25.xs (fun hA hx hy t k => XS.aloadN hA hx rfl (hb hy d11_159) rfl rfl  k) ?_
    show Go p e below _ (T25.setTop (mkF m 160 #[.val (.long aa), .second, .val (.int (0 : Int32)), .val (.ref o25)] [(.ref o25)]))
    refine P25.alen V25 d11_160 ?_
    show Go p e below _ (T25.setTop (mkF m 161 #[.val (.long aa), .second, .val (.int (0 : Int32)), .val (.ref o25)] [(.int (0 : Int32))]))
    refine P25.xs (fun hA hx hy t k => XS.iconst hA hx rfl (hb hy d11_161) k) ?_
    show Go p e below _ (T25.setTop (mkF m 162 #[.val (.long aa), .second, .val (.int (0 : Int32)), .val (.ref o25)] [(.int (4 : Int32)), (.int (0 : Int32))]))
    refine P25.xs (fun hA hx hy t k => XS.icmpYes hA hx rfl (pc0 := 162) (pc' := 173) rfl (hb hy d11_162) rfl (flt (by decide)).2.2.2 (by decide) (by decide) k) ?_
    show Go p e below _ (T25.setTop (mkF m 173 #[.val (.long aa), .second, .val (.int (0 : Int32)), .val (.ref o25)] []))
    refine P25.xs (fun hA hx hy t k => XS.aloadN hA hx rfl (hb hy d11_173) rfl rfl  k) ?_
    show Go p e below _ (T25.setTop (mkF m 174 #[.val (.long aa), .second, .val (.int (0 : Int32)), .val (.ref o25)] [(.ref o25)]))
    refine P25.alen V25 d11_174 ?_
    show Go p e below _ (T25.setTop (mkF m 175 #[.val (.long aa), .second, .val (.int (0 : Int32)), .val (.ref o25)] [(.int (0 : Int32))]))
    refine P25.xs (fun hA hx hy t k => XS.iconst hA hx rfl (hb hy d11_175) k) ?_
    show Go p e below _ (T25.setTop (mkF m 176 #[.val (.long aa), .second, .val (.int (0 : Int32)), .val (.ref o25)] [(.int (5 : Int32)), (.int (0 : Int32))]))
    refine P25.xs (fun hA hx hy t k => XS.icmpYes hA hx rfl (pc0 := 176) (pc' := 187) rfl (hb hy d11_176) rfl (flt (by decide)).2.2.2 (by decide) (by decide) k) ?_
    show Go p e below _ (T25.setTop (mkF m 187 #[.val (.long aa), .second, .val (.int (0 : Int32)), .val (.ref o25)] []))
    refine P25.xs (fun hA hx hy t k => XS.aloadN hA hx rfl (hb hy d11_187) rfl rfl  k) ?_
    show Go p e below _ (T25.setTop (mkF m 188 #[.val (.long aa), .second, .val (.int (0 : Int32)), .val (.ref o25)] [(.ref o25)]))
    refine P25.alen V25 d11_188 ?_
    show Go p e below _ (T25.setTop (mkF m 189 #[.val (.long aa), .second, .val (.int (0 : Int32)), .val (.ref o25)] [(.int (0 : Int32))]))
    refine P25.xs (fun hA hx hy t k => XS.bipush hA hx rfl (hb hy d11_189) k) ?_
    show Go p e below _ (T25.setTop (mkF m 191 #[.val (.long aa), .second, .val (.int (0 : Int32)), .val (.ref o25)] [(.int (6 : Int32)), (.int (0 : Int32))]))
    refine P25.xs (fun hA hx hy t k => XS.icmpYes hA hx rfl (pc0 := 191) (pc' := 204) rfl (hb hy d11_191) rfl (flt (by decide)).2.2.2 (by decide) (by decide) k) ?_
    show Go p e below _ (T25.setTop (mkF m 204 #[.val (.long aa), .second, .val (.int (0 : Int32)), .val (.ref o25)] []))
    refine P25.xs (fun hA hx hy t k => XS.aloadN hA hx rfl (hb hy d11_204) rfl rfl  k) ?_
    show Go p e below _ (T25.setTop (mkF m 205 #[.val (.long aa), .second, .val (.int (0 : Int32)), .val (.ref o25)] [(.ref o25)]))
    refine P25.alen V25 d11_205 ?_
    show Go p e below _ (T25.setTop (mkF m 206 #[.val (.long aa), .second, .val (.int (0 : Int32)), .val (.ref o25)] [(.int (0 : Int32))]))
    refine P25.xs (fun hA hx hy t k => XS.bipush hA hx rfl (hb hy d11_206) k) ?_
    show Go p e below _ (T25.setTop (mkF m 208 #[.val (.long aa), .second, .val (.int (0 : Int32)), .val (.ref o25)] [(.int (7 : Int32)), (.int (0 : Int32))]))
    refine P25.xs (fun hA hx hy t k => XS.icmpYes hA hx rfl (pc0 := 208) (pc' := 221) rfl (hb hy d11_208) rfl (flt (by decide)).2.2.2 (by decide) (by decide) k) ?_
    show Go p e below _ (T25.setTop (mkF m 221 #[.val (.long aa), .second, .val (.int (0 : Int32)), .val (.ref o25)] []))
    refine P25.newO (hw _ (List.mem_of_getElem? (i := 2) rfl)) (hw _ (List.mem_of_getElem? (i := 3) rfl)) (hw _ (List.mem_of_getElem? (i := 4) rfl)) d11_221 (by decide) (by decide) fun T26 h26 o26 g26 P26 E26 A26 D26 => ?_
    have ne_o25_o26 : o25 ≠ o26 := Nat.ne_of_lt (Nat.lt_of_lt_of_le V25.lt (Nat.le_of_eq g26.symm))
    have gz_o26 : Z.heap.size ≤ o26 := Nat.le_trans P25.old.1 (Nat.le_of_eq g26.symm)
    have gw_o26 : h0.size ≤ o26 := Nat.le_trans P25.kept.1 (Nat.le_of_eq g26.symm)
    have F26_coder : Fld Z h26 o26 "java/lang/String" "coder" "B" (.int (0 : Int32)) := D26 (Or.inr (hw _ (List.mem_of_getElem? (i := 28) rfl))) (ty := .byte) (by decide)
    have F26_value : Fld Z h26 o26 "java/lang/String" "value" "[B" .null := D26 (Or.inr (hw _ (List.mem_of_getElem? (i := 30) rfl))) (ty := (.array .byte)) (by decide)
    show Go p e below _ (T26.setTop (mkF m 224 #[.val (.long aa), .second, .val (.int (0 : Int32)), .val (.ref o25)] [(.ref o26)]))
    refine P26.xs (fun hA hx hy t k => XS.dup hA hx rfl (hb hy d11_224) rfl rfl k) ?_
    show Go p e below _ (T26.setTop (mkF m 225 #[.val (.long aa), .second, .val (.int (0 : Int32)), .val (.ref o25)] [(.ref o26), (.ref o26)]))
    refine P26.xs (fun hA hx hy t k => XS.aloadN hA hx rfl (hb hy d11_225) rfl rfl  k) ?_
    show Go p e below _ (T26.setTop (mkF m 226 #[.val (.long aa), .second, .val (.int (0 : Int32)), .val (.ref o25)] [(.ref o25), (.ref o26), (.ref o26)]))
    have Ac27 : Arv Z h26 o25 k25 .char (0 : Int32) [] (.int (0 : Int32)) := (V25.ext E26)
    have hmem : ("java/lang/String", 7) ∈ EL0 := (by decide)
    refine P26.callI rfl (hw _ (List.mem_of_getElem? (i := 5) rfl)) (hw _ (List.mem_of_getElem? (i := 6) rfl)) (hw _ (List.mem_of_getElem? (i := 4) rfl)) (hw _ (List.mem_of_getElem? (i := 7) rfl)) (by decide) (initE1 l Z a0 hw hEL zc S0 Pz w_CLASS s_CLASS S_CLASS E_CLASS F_CLASS X_CLASS w_PROPERTY s_PROPERTY S_PROPERTY E_PROPERTY F_PROPERTY X_PROPERTY w_V k_V S_V E_V A_V o26 o25 k25 h26 P26.old A26 F26_value F26_coder gz_o26 hmem Ac27) (W := 1) (by decide) (by decide) (by decide) (by decide) (allS (Or.inr gw_o26) all0) pd_1 (argsL := [(.ref o25)]) rfl rfl rfl (Nat.le_of_eq rfl) d11_226 fun v28 T28 h28 P28 K28 Q28 => ?_
    obtain ⟨rfl, E28, C28, b28, k28, V28, B28⟩ := Q28
    show Go p e below _ (T28.setTop (mkF m 229 #[.val (.long aa), .second, .val (.int (0 : Int32)), .val (.ref o25)] [(.ref o26)]))
    have Ac29 : Arv Z h28 o25 k25 .char (0 : Int32) [] (.int (0 : Int32)) := (Ac27.keep K28 (ninS ne_o25_o26 nin0))
    exact P28.retR rfl rfl rfl d11_229 (by decide) (by decide) ⟨o26, [], rfl, gw_o26, (strE E28 C28 V28 B28)⟩
  · show Go p e below _ (s₁.setTop (mkF m 0 #[.val (.long aa), .second, .val (.int (1 : Int32)), .unset] []))
    refine P0.xs (fun hA hx hy t k => XS.iloadN hA hx rfl (hb hy d11_0) rfl  k) ?_
    show Go p e below _ (s₁.setTop (mkF m 1 #[.val (.long aa), .second, .val (.int (1 : Int32)), .unset] [(.int (1 : Int32))]))
    refine P0.xs (fun hA hx hy t k => XS.ifYes hA hx rfl (pc0 := 1) (pc' := 11) rfl (hb hy d11_1) rfl ((if0 _ _).trans (feq (by decide)).2) (by decide) (by decide) k) ?_
    show Go p e below _ (s₁.setTop (mkF m 11 #[.val (.long aa), .second, .val (.int (1 : Int32)), .unset] []))
    refine P0.xs (fun hA hx hy t k => XS.iloadN hA hx rfl (hb hy d11_11) rfl  k) ?_
    show Go p e below _ (s₁.setTop (mkF m 12 #[.val (.long aa), .second, .val (.int (1 : Int32)), .unset] [(.int (1 : Int32))]))
    refine P0.xs (fun hA hx hy t k => XS.iconst hA hx rfl (hb hy d11_12) k) ?_
    show Go p e below _ (s₁.setTop (mkF m 13 #[.val (.long aa), .second, .val (.int (1 : Int32)), .unset] [(.int (1 : Int32)), (.int (1 : Int32))]))
    refine P0.xs (fun hA hx hy t k => XS.icmpNo hA hx rfl (hb hy d11_13) rfl (teq (by decide)).2 k) ?_
    show Go p e below _ (s₁.setTop (mkF m 16 #[.val (.long aa), .second, .val (.int (1 : Int32)), .unset] []))
    refine P0.xs (fun hA hx hy t k => XS.iconst hA hx rfl (hb hy d11_16) k) ?_
    show Go p e below _ (s₁.setTop (mkF m 17 #[.val (.long aa), .second, .val (.int (1 : Int32)), .unset] [(.int (1 : Int32))]))
    refine P0.newP (aty := .char) (hw _ (List.mem_of_getElem? (i := 1) rfl)) d11_17 (by decide) (cap := 1) (by decide) (by decide) (by decide) (by decide) fun T30 h30 o30 k30 g30 P30 E30 A30 => ?_
    have gz_o30 : Z.heap.size ≤ o30 := Nat.le_trans P0.old.1 (Nat.le_of_eq g30.symm)
    have gw_o30 : h0.size ≤ o30 := Nat.le_trans P0.kept.1 (Nat.le_of_eq g30.symm)
    have V30 : Arv Z h30 o30 k30 .char (1 : Int32) [(.int (0 : Int32))] (.int (0 : Int32)) := Arv.pad A30 (pad_rep [] (.int (0 : Int32)) 1)
    show Go p e below _ (T30.setTop (mkF m 19 #[.val (.long aa), .second, .val (.int (1 : Int32)), .unset] [(.ref o30)]))
    refine P30.xs (fun hA hx hy t k => XS.astoreN hA hx rfl (hb hy d11_19) rfl rfl (l' := #[.val (.long aa), .second, .val (.int (1 : Int32)), .val (.ref o30)]) rfl k) ?_
    show Go p e below _ (T30.setTop (mkF m 20 #[.val (.long aa), .second, .val (.int (1 : Int32)), .val (.ref o30)] []))
    refine P30.xs (fun hA hx hy t k => XS.goto hA hx rfl (pc0 := 20) (pc' := 104) rfl (hb hy d11_20) (by decide) (by decide) k) ?_
    show Go p e below _ (T30.setTop (mkF m 104 #[.val (.long aa), .second, .val (.int (1 : Int32)), .val (.ref o30)] []))
    refine P30.xs (fun hA hx hy t k => XS.aloadN hA hx rfl (hb hy d11_104) rfl rfl  k) ?_
    show Go p e below _ (T30.setTop (mkF m 105 #[.val (.long aa), .second, .val (.int (1 : Int32)), .val (.ref o30)] [(.ref o30)]))
    refine P30.alen V30 d11_105 ?_
    show Go p e below _ (T30.setTop (mkF m 106 #[.val (.long aa), .second, .val (.int (1 : Int32)), .val (.ref o30)] [(.int (1 : Int32))]))
    refine P30.xs (fun hA hx hy t k => XS.ifNo hA hx rfl (hb hy d11_106) rfl ((if0 _ _).trans (tlt (by decide)).2.2.2) k) ?_
    show Go p e below _ (T30.setTop (mkF m 109 #[.val (.long aa), .second, .val (.int (1 : Int32)), .val (.ref o30)] []))
    refine P30.xs (fun hA hx hy t k => XS.aloadN hA hx rfl (hb hy d11_109) rfl rfl  k) ?_
    show Go p e below _ (T30.setTop (mkF m 110 #[.val (.long aa), .second, .val (.int (1 : Int32)), .val (.ref o30)] [(.ref o30)]))
    refine P30.xs (fun hA hx hy t k => XS.iconst hA hx rfl (hb hy d11_110) k) ?_
    show Go p e below _ (T30.setTop (mkF m 111 #[.val (.long aa), .second, .val (.int (1 : Int32)), .val (.ref o30)] [(.int (0 : Int32)), (.ref o30)]))
    refine P30.xs (fun hA hx hy t k => XS.lloadN hA hx rfl (hb hy d11_111) rfl  k) ?_
    show Go p e below _ (T30.setTop (mkF m 112 #[.val (.long aa), .second, .val (.int (1 : Int32)), .val (.ref o30)] [(.long aa), (.int (0 : Int32)), (.ref o30)]))
    refine P30.xs (fun hA hx hy t k => XS.iconst hA hx rfl (hb hy d11_112) k) ?_
    show Go p e below _ (T30.setTop (mkF m 113 #[.val (.long aa), .second, .val (.int (1 : Int32)), .val (.ref o30)] [(.int (0 : Int32)), (.long aa), (.int (0 : Int32)), (.ref o30)]))
    refine P30.callS (hw _ (List.mem_of_getElem? (i := 74) rfl)) (hw _ (List.mem_of_getElem? (i := 75) rfl)) (hw _ (List.mem_of_getElem? (i := 72) rfl)) (hw _ (List.mem_of_getElem? (i := 76) rfl)) (by decide) (mAt l Z a0 hw hEL zc S0 Pz w_CLASS s_CLASS S_CLASS E_CLASS F_CLASS X_CLASS w_PROPERTY s_PROPERTY S_PROPERTY E_PROPERTY F_PROPERTY X_PROPERTY w_V k_V S_V E_V A_V aa (0 : Int32) h30 P30.old) (W := 2) (by decide) (by decide) (by decide) (by decide) all0 pd_2 (argsL := [(.long aa), (.int (0 : Int32))]) rfl rfl rfl (Nat.le_of_eq rfl) d11_113 fun v31 T31 h31 P31 K31 Q31 => ?_
    obtain ⟨ch31, rfl, lch31, nch31, hh31⟩ := Q31
    rw [hh31] at P31
    show Go p e below _ (T31.setTop (mkF m 116 #[.val (.long aa), .second, .val (.int (1 : Int32)), .val (.ref o30)] [(.int ch31), (.int (0 : Int32)), (.ref o30)]))
    refine P31.stC V30 0 (by decide) (by decide) (by decide) (Nat.le_of_ble_eq_true rfl) (x' := ch31) nch31 d11_116 gz_o30 (Or.inr gw_o30) fun T32 h32 P32 W32 V32 => ?_
    have Va32 : Arv Z h32 o30 k30 .char (1 : Int32) [(.int ch31)] (.int (0 : Int32)) := V32
    show Go p e below _ (T32.setTop (mkF m 117 #[.val (.long aa), .second, .val (.int (1 : Int32)), .val (.ref o30)] []))
    refine P32.xs (fun hA hx hy t k => XS.aloadN hA hx rfl (hb hy d11_117) rfl rfl  k) ?_
    show Go p e below _ (T32.setTop (mkF m 118 #[.val (.long aa), .second, .val (.int (1 : Int32)), .val (.ref o30)] [(.ref o30)]))
    refine P32.alen Va32 d11_118 ?_
    show Go p e below _ (T32.setTop (mkF m 119 #[.val (.long aa), .second, .val (.int (1 : Int32)), .val (.ref o30)] [(.int (1 : Int32))]))
    refine P32.xs (fun hA hx hy t k => XS.iconst hA hx rfl (hb hy d11_119) k) ?_
    show Go p e below _ (T32.setTop (mkF m 120 #[.val (.long aa), .second, .val (.int (1 : Int32)), .val (.ref o30)] [(.int (1 : Int32)), (.int (1 : Int32))]))
    refine P32.xs (fun hA hx hy t k => XS.icmpYes hA hx rfl (pc0 := 120) (pc' := 131) rfl (hb hy d11_120) rfl (flt (by decide)).2.2.2 (by decide) (by decide) k) ?_
    show Go p e below _ (T32.setTop (mkF m 131 #[.val (.long aa), .second, .val (.int (1 : Int32)), .val (.ref o30)] []))
    refine P32.xs (fun hA hx hy t k => XS.aloadN hA hx rfl (hb hy d11_131) rfl rfl  k) ?_
    show Go p e below _ (T32.setTop (mkF m 132 #[.val (.long aa), .second, .val (.int (1 : Int32)), .val (.ref o30)] [(.ref o30)]))
    refine P32.alen Va32 d11_132 ?_
    show Go p e below _ (T32.setTop (mkF m 133 #[.val (.long aa), .second, .val (.int (1 : Int32)), .val (.ref o30)] [(.int (1 : Int32))]))
    refine P32.xs (fun hA hx hy t k => XS.iconst hA hx rfl (hb hy d11_133) k) ?_
    show Go p e below _ (T32.setTop (mkF m 134 #[.val (.long aa), .second, .val (.int (1 : Int32)), .val (.ref o30)] [(.int (2 : Int32)), (.int (1 : Int32))]))
    refine P32.xs (fun hA hx hy t k => XS.icmpYes hA hx rfl (pc0 := 134) (pc' := 145) rfl (hb hy d11_134) rfl (flt (by decide)).2.2.2 (by decide) (by decide) k) ?_
    show Go p e below _ (T32.setTop (mkF m 145 #[.val (.long aa), .second, .val (.int (1 : Int32)), .val (.ref o30)] []))
    refine P32.xs (fun hA hx hy t k => XS.aloadN hA hx rfl (hb hy d11_145) rfl rfl  k) ?_
    show Go p e below _ (T32.setTop (mkF m 146 #[.val (.long aa), .second, .val (.int (1 : Int32)), .val (.ref o30)] [(.ref o30)]))
    refine P32.alen Va32 d11_146 ?_
    show Go p e below _ (T32.setTop (mkF m 147 #[.val (.long aa), .second, .val (.int (1 : Int32)), .val (.ref o30)] [(.int (1 : Int32))]))
    refine P32.xs (fun hA hx hy t k => XS.iconst hA hx rfl (hb hy d11_147) k) ?_
    show Go p e below _ (T32.setTop (mkF m 148 #[.val (.long aa), .second, .val (.int (1 : Int32)), .val (.ref o30)] [(.int (3 : Int32)), (.int (1 : Int32))]))
    refine P32.xs (fun hA hx hy t k => XS.icmpYes hA hx rfl (pc0 := 148) (pc' := 159) rfl (hb hy d11_148) rfl (flt (by decide)).2.2.2 (by decide) (by decide) k) ?_
    show Go p e below _ (T32.setTop (mkF m 159 #[.val (.long aa), .second, .val (.int (1 : Int32)), .val (.ref o30)] []))
    refine P32.xs (fun hA hx hy t k => XS.aloadN hA hx rfl (hb hy d11_159) rfl rfl  k) ?_
    show Go p e below _ (T32.setTop (mkF m 160 #[.val (.long aa), .second, .val (.int (1 : Int32)), .val (.ref o30)] [(.ref o30)]))
    refine P32.alen Va32 d11_160 ?_
    show Go p e below _ (T32.setTop (mkF m 161 #[.val (.long aa), .second, .val (.int (1 : Int32)), .val (.ref o30)] [(.int (1 : Int32))]))
    refine P32.xs (fun hA hx hy t k => XS.iconst hA hx rfl (hb hy d11_161) k) ?_
    show Go p e below _ (T32.setTop (mkF m 162 #[.val (.long aa), .second, .val (.int (1 : Int32)), .val (.ref o30)] [(.int (4 : Int32)), (.int (1 : Int32))]))
    refine P32.xs (fun hA hx hy t k => XS.icmpYes hA hx rfl (pc0 := 162) (pc' := 173) rfl (hb hy d11_162) rfl (flt (by decide)).2.2.2 (by decide) (by decide) k) ?_
    show Go p e below _ (T32.setTop (mkF m 173 #[.val (.long aa), .second, .val (.int (1 : Int32)), .val (.ref o30)] []))
    refine P32.xs (fun hA hx hy t k => XS.aloadN hA hx rfl (hb hy d11_173) rfl rfl  k) ?_
    show Go p e below _ (T32.setTop (mkF m 174 #[.val (.long aa), .second, .val (.int (1 : Int32)), .val (.ref o30)] [(.ref o30)]))
    refine P32.alen Va32 d11_174 ?_
    show Go p e below _ (T32.setTop (mkF m 175 #[.val (.long aa), .second, .val (.int (1 : Int32)), .val (.ref o30)] [(.int (1 : Int32))]))
    refine P32.xs (fun hA hx hy t k => XS.iconst hA hx rfl (hb hy d11_175) k) ?_
    show Go p e below _ (T32.setTop (mkF m 176 #[.val (.long aa), .second, .val (.int (1 : Int32)), .val (.ref o30)] [(.int (5 : Int32)), (.int (1 : Int32))]))
    refine P32.xs (fun hA hx hy t k => XS.icmpYes hA hx rfl (pc0 := 176) (pc' := 187) rfl (hb hy d11_176) rfl (flt (by decide)).2.2.2 (by decide) (by decide) k) ?_
    show Go p e below _ (T32.setTop (mkF m 187 #[.val (.long aa), .second, .val (.int (1 : Int32)), .val (.ref o30)] []))
    refine P32.xs (fun hA hx hy t k => XS.aloadN hA hx rfl (hb hy d11_187) rfl rfl  k) ?_
    show Go p e below _ (T32.setTop (mkF m 188 #[.val (.long aa), .second, .val (.int (1 : Int32)), .val (.ref o30)] [(.ref o30)]))
    refine P32.alen Va32 d11_188 ?_
    show Go p e below _ (T32.setTop (mkF m 189 #[.val (.long aa), .second, .val (.int (1 : Int32)), .val (.ref o30)] [(.int (1 : Int32))]))
    refine P32.xs (fun hA hx hy t k => XS.bipush hA hx rfl (hb hy d11_189) k) ?_
    show Go p e below _ (T32.setTop (mkF m 191 #[.val (.long aa), .second, .val (.int (1 : Int32)), .val (.ref o30)] [(.int (6 : Int32)), (.int (1 : Int32))]))
    refine P32.xs (fun hA hx hy t k => XS.icmpYes hA hx rfl (pc0 := 191) (pc' := 204) rfl (hb hy d11_191) rfl (flt (by decide)).2.2.2 (by decide) (by decide) k) ?_
    show Go p e below _ (T32.setTop (mkF m 204 #[.val (.long aa), .second, .val (.int (1 : Int32)), .val (.ref o30)] []))
    refine P32.xs (fun hA hx hy t k => XS.aloadN hA hx rfl (hb hy d11_204) rfl rfl  k) ?_
    show Go p e below _ (T32.setTop (mkF m 205 #[.val (.long aa), .second, .val (.int (1 : Int32)), .val (.ref o30)] [(.ref o30)]))
    refine P32.alen Va32 d11_205 ?_
    show Go p e below _ (T32.setTop (mkF m 206 #[.val (.long aa), .second, .val (.int (1 : Int32)), .val (.ref o30)] [(.int (1 : Int32))]))
    refine P32.xs (fun hA hx hy t k => XS.bipush hA hx rfl (hb hy d11_206) k) ?_
    show Go p e below _ (T32.setTop (mkF m 208 #[.val (.long aa), .second, .val (.int (1 : Int32)), .val (.ref o30)] [(.int (7 : Int32)), (.int (1 : Int32))]))
    refine P32.xs (fun hA hx hy t k => XS.icmpYes hA hx rfl (pc0 := 208) (pc' := 221) rfl (hb hy d11_208) rfl (flt (by decide)).2.2.2 (by decide) (by decide) k) ?_
    show Go p e below _ (T32.setTop (mkF m 221 #[.val (.long aa), .second, .val (.int (1 : Int32)), .val (.ref o30)] []))
    refine P32.newO (hw _ (List.mem_of_getElem? (i := 2) rfl)) (hw _ (List.mem_of_getElem? (i := 3) rfl)) (hw _ (List.mem_of_getElem? (i := 4) rfl)) d11_221 (by decide) (by decide) fun T33 h33 o33 g33 P33 E33 A33 D33 => ?_
    have ne_o30_o33 : o30 ≠ o33 := Nat.ne_of_lt (Nat.lt_of_lt_of_le Va32.lt (Nat.le_of_eq g33.symm))
    have gz_o33 : Z.heap.size ≤ o33 := Nat.le_trans P32.old.1 (Nat.le_of_eq g33.symm)
    have gw_o33 : h0.size ≤ o33 := Nat.le_trans P32.kept.1 (Nat.le_of_eq g33.symm)
    have F33_coder : Fld Z h33 o33 "java/lang/String" "coder" "B" (.int (0 : Int32)) := D33 (Or.inr (hw _ (List.mem_of_getElem? (i := 28) rfl))) (ty := .byte) (by decide)
    have F33_value : Fld Z h33 o33 "java/lang/String" "value" "[B" .null := D33 (Or.inr (hw _ (List.mem_of_getElem? (i := 30) rfl))) (ty := (.array .byte)) (by decide)
    show Go p e below _ (T33.setTop (mkF m 224 #[.val (.long aa), .second, .val (.int (1 : Int32)), .val (.ref o30)] [(.ref o33)]))
    refine P33.xs (fun hA hx hy t k => XS.dup hA hx rfl (hb hy d11_224) rfl rfl k) ?_
    show Go p e below _ (T33.setTop (mkF m 225 #[.val (.long aa), .second, .val (.int (1 : Int32)), .val (.ref o30)] [(.ref o33), (.ref o33)]))
    refine P33.xs (fun hA hx hy t k => XS.aloadN hA hx rfl (hb hy d11_225) rfl rfl  k) ?_
    show Go p e below _ (T33.setTop (mkF m 226 #[.val (.long aa), .second, .val (.int (1 : Int32)), .val (.ref o30)] [(.ref o30), (.ref o33), (.ref o33)]))
    have Ac34 : Arv Z h33 o30 k30 .char (1 : Int32) [(.int ch31)] (.int (0 : Int32)) := (Va32.ext E33)
    refine P33.specB (W := 1) (ws' := [o33]) rfl (hw _ (List.mem_of_getElem? (i := 5) rfl)) (hw _ (List.mem_of_getElem? (i := 6) rfl)) (hw _ (List.mem_of_getElem? (i := 7) rfl)) (by decide) (fun vm0 hZ => StrChars.Road.backV (W := 1) hZ (wStr hw) (kI := 4) (hw _ (List.mem_of_getElem? (i := 3) rfl)) (cs := ([ch31] : List Int32)) (bs := ([ch31] : List Int32).map (fun c => c.toInt8.toInt32)) (n := 1) gz_o33 P33.old.1 A33 F33_value F33_coder Ac34 (S0.ext P33.old) Pz rfl rfl (by decide) (by decide) (latS lch31 lat0) rfl (by decide) (by decide)) rfl (fun v h' L q => ⟨q.2.1, q.2.2.1⟩) (by decide) (by decide) (allS ⟨(Or.inr gw_o33), gz_o33⟩ all0) (fun vm hs hal hr => safe1 (safeNull hal A33 F33_value)) pd_1 (argsL := [(.ref o30)]) rfl rfl rfl (Nat.le_of_eq rfl) d11_226 fun v35 T35 h35 L35 P35 Q35 => ?_
    obtain ⟨rfl, N35, K35, E35, C35, b35, k35, gb35, gc35, gd35, V35, B35⟩ := Q35
    show Go p e below _ (T35.setTop (mkF m 229 #[.val (.long aa), .second, .val (.int (1 : Int32)), .val (.ref o30)] [(.ref o33)]))
    have Ac36 : Arv Z h35 o30 k30 .char (1 : Int32) [(.int ch31)] (.int (0 : Int32)) := (Ac34.keep K35 (ninS ne_o30_o33 nin0))
    exact P35.retR rfl rfl rfl d11_229 (by decide) (by decide) ⟨o33, ([ch31] : List Int32), rfl, gw_o33, (strOf (n := 1) rfl (latS lch31 lat0) (by decide) E35 C35 V35 B35)⟩
  · show Go p e below _ (s₁.setTop (mkF m 0 #[.val (.long aa), .second, .val (.int (2 : Int32)), .unset] []))
    refine P0.xs (fun hA hx hy t k => XS.iloadN hA hx rfl (hb hy d11_0) rfl  k) ?_
    show Go p e below _ (s₁.setTop (mkF m 1 #[.val (.long aa), .second, .val (.int (2 : Int32)), .unset] [(.int (2 : Int32))]))
    refine P0.xs (fun hA hx hy t k => XS.ifYes hA hx rfl (pc0 := 1) (pc' := 11) rfl (hb hy d11_1) rfl ((if0 _ _).trans (feq (by decide)).2) (by decide) (by decide) k) ?_
    show Go p e below _ (s₁.setTop (mkF m 11 #[.val (.long aa), .second, .val (.int (2 : Int32)), .unset] []))
    refine P0.xs (fun hA hx hy t k => XS.iloadN hA hx rfl (hb hy d11_11) rfl  k) ?_
    show Go p e below _ (s₁.setTop (mkF m 12 #[.val (.long aa), .second, .val (.int (2 : Int32)), .unset] [(.int (2 : Int32))]))
    refine P0.xs (fun hA hx hy t k => XS.iconst hA hx rfl (hb hy d11_12) k) ?_
    show Go p e below _ (s₁.setTop (mkF m 13 #[.val (.long aa), .second, .val (.int (2 : Int32)), .unset] [(.int (1 : Int32)), (.int (2 : Int32))]))
    refine P0.xs (fun hA hx hy t k => XS.icmpYes hA hx rfl (pc0 := 13) (pc' := 23) rfl (hb hy d11_13) rfl (feq (by decide)).2 (by decide) (by decide) k) ?_
    show Go p e below _ (s₁.setTop (mkF m 23 #[.val (.long aa), .second, .val (.int (2 : Int32)), .unset] []))
    refine P0.xs (fun hA hx hy t k => XS.iloadN hA hx rfl (hb hy d11_23) rfl  k) ?_
    show Go p e below _ (s₁.setTop (mkF m 24 #[.val (.long aa), .second, .val (.int (2 : Int32)), .unset] [(.int (2 : Int32))]))
    refine P0.xs (fun hA hx hy t k => XS.iconst hA hx rfl (hb hy d11_24) k) ?_
    show Go p e below _ (s₁.setTop (mkF m 25 #[.val (.long aa), .second, .val (.int (2 : Int32)), .unset] [(.int (2 : Int32)), (.int (2 : Int32))]))
    refine P0.xs (fun hA hx hy t k => XS.icmpNo hA hx rfl (hb hy d11_25) rfl (teq (by decide)).2 k) ?_
    show Go p e below _ (s₁.setTop (mkF m 28 #[.val (.long aa), .second, .val (.int (2 : Int32)), .unset] []))
    refine P0.xs (fun hA hx hy t k => XS.iconst hA hx rfl (hb hy d11_28) k) ?_
    show Go p e below _ (s₁.setTop (mkF m 29 #[.val (.long aa), .second, .val (.int (2 : Int32)), .unset] [(.int (2 : Int32))]))
    refine P0.newP (aty := .char) (hw _ (List.mem_of_getElem? (i := 1) rfl)) d11_29 (by decide) (cap := 2) (by decide) (by decide) (by decide) (by decide) fun T37 h37 o37 k37 g37 P37 E37 A37 => ?_
    have gz_o37 : Z.heap.size ≤ o37 := Nat.le_trans P0.old.1 (Nat.le_of_eq g37.symm)
    have gw_o37 : h0.size ≤ o37 := Nat.le_trans P0.kept.1 (Nat.le_of_eq g37.symm)
    have V37 : Arv Z h37 o37 k37 .char (2 : Int32) [(.int (0 : Int32)), (.int (0 : Int32))] (.int (0 : Int32)) := Arv.pad A37 (pad_rep [] (.int (0 : Int32)) 2)
    show Go p e below _ (T37.setTop (mkF m 31 #[.val (.long aa), .second, .val (.int (2 : Int32)), .unset] [(.ref o37)]))
    refine P37.xs (fun hA hx hy t k => XS.astoreN hA hx rfl (hb hy d11_31) rfl rfl (l' := #[.val (.long aa), .second, .val (.int (2 : Int32)), .val (.ref o37)]) rfl k) ?_
    show Go p e below _ (T37.setTop (mkF m 32 #[.val (.long aa), .second, .val (.int (2 : Int32)), .val (.ref o37)] []))
    refine P37.xs (fun hA hx hy t k => XS.goto hA hx rfl (pc0 := 32) (pc' := 104) rfl (hb hy d11_32) (by decide) (by decide) k) ?_
    show Go p e below _ (T37.setTop (mkF m 104 #[.val (.long aa), .second, .val (.int (2 : Int32)), .val (.ref o37)] []))
    refine P37.xs (fun hA hx hy t k => XS.aloadN hA hx rfl (hb hy d11_104) rfl rfl  k) ?_
    show Go p e below _ (T37.setTop (mkF m 105 #[.val (.long aa), .second, .val (.int (2 : Int32)), .val (.ref o37)] [(.ref o37)]))
    refine P37.alen V37 d11_105 ?_
    show Go p e below _ (T37.setTop (mkF m 106 #[.val (.long aa), .second, .val (.int (2 : Int32)), .val (.ref o37)] [(.int (2 : Int32))]))
    refine P37.xs (fun hA hx hy t k => XS.ifNo hA hx rfl (hb hy d11_106) rfl ((if0 _ _).trans (tlt (by decide)).2.2.2) k) ?_
    show Go p e below _ (T37.setTop (mkF m 109 #[.val (.long aa), .second, .val (.int (2 : Int32)), .val (.ref o37)] []))
    refine P37.xs (fun hA hx hy t k => XS.aloadN hA hx rfl (hb hy d11_109) rfl rfl  k) ?_
    show Go p e below _ (T37.setTop (mkF m 110 #[.val (.long aa), .second, .val (.int (2 : Int32)), .val (.ref o37)] [(.ref o37)]))
    refine P37.xs (fun hA hx hy t k => XS.iconst hA hx rfl (hb hy d11_110) k) ?_
    show Go p e below _ (T37.setTop (mkF m 111 #[.val (.long aa), .second, .val (.int (2 : Int32)), .val (.ref o37)] [(.int (0 : Int32)), (.ref o37)]))
    refine P37.xs (fun hA hx hy t k => XS.lloadN hA hx rfl (hb hy d11_111) rfl  k) ?_
    show Go p e below _ (T37.setTop (mkF m 112 #[.val (.long aa), .second, .val (.int (2 : Int32)), .val (.ref o37)] [(.long aa), (.int (0 : Int32)), (.ref o37)]))
    refine P37.xs (fun hA hx hy t k => XS.iconst hA hx rfl (hb hy d11_112) k) ?_
    show Go p e below _ (T37.setTop (mkF m 113 #[.val (.long aa), .second, .val (.int (2 : Int32)), .val (.ref o37)] [(.int (0 : Int32)), (.long aa), (.int (0 : Int32)), (.ref o37)]))
    refine P37.callS (hw _ (List.mem_of_getElem? (i := 74) rfl)) (hw _ (List.mem_of_getElem? (i := 75) rfl)) (hw _ (List.mem_of_getElem? (i := 72) rfl)) (hw _ (List.mem_of_getElem? (i := 76) rfl)) (by decide) (mAt l Z a0 hw hEL zc S0 Pz w_CLASS s_CLASS S_CLASS E_CLASS F_CLASS X_CLASS w_PROPERTY s_PROPERTY S_PROPERTY E_PROPERTY F_PROPERTY X_PROPERTY w_V k_V S_V E_V A_V aa (0 : Int32) h37 P37.old) (W := 2) (by decide) (by decide) (by decide) (by decide) all0 pd_2 (argsL := [(.long aa), (.int (0 : Int32))]) rfl rfl rfl (Nat.le_of_eq rfl) d11_113 fun v38 T38 h38 P38 K38 Q38 => ?_
    obtain ⟨ch38, rfl, lch38, nch38, hh38⟩ := Q38
    rw [hh38] at P38
    show Go p e below _ (T38.setTop (mkF m 116 #[.val (.long aa), .second, .val (.int (2 : Int32)), .val (.ref o37)] [(.int ch38), (.int (0 : Int32)), (.ref o37)]))
    refine P38.stC V37 0 (by decide) (by decide) (by decide) (Nat.le_of_ble_eq_true rfl) (x' := ch38) nch38 d11_116 gz_o37 (Or.inr gw_o37) fun T39 h39 P39 W39 V39 => ?_
    have Va39 : Arv Z h39 o37 k37 .char (2 : Int32) [(.int ch38), (.int (0 : Int32))] (.int (0 : Int32)) := V39
    show Go p e below _ (T39.setTop (mkF m 117 #[.val (.long aa), .second, .val (.int (2 : Int32)), .val (.ref o37)] []))
    refine P39.xs (fun hA hx hy t k => XS.aloadN hA hx rfl (hb hy d11_117) rfl rfl  k) ?_
    show Go p e below _ (T39.setTop (mkF m 118 #[.val (.long aa), .second, .val (.int (2 : Int32)), .val (.ref o37)] [(.ref o37)]))
    refine P39.alen Va39 d11_118 ?_
    show Go p e below _ (T39.setTop (mkF m 119 #[.val (.long aa), .second, .val (.int (2 : Int32)), .val (.ref o37)] [(.int (2 : Int32))]))
    refine P39.xs (fun hA hx hy t k => XS.iconst hA hx rfl (hb hy d11_119) k) ?_
    show Go p e below _ (T39.setTop (mkF m 120 #[.val (.long aa), .second, .val (.int (2 : Int32)), .val (.ref o37)] [(.int (1 : Int32)), (.int (2 : Int32))]))
    refine P39.xs (fun hA hx hy t k => XS.icmpNo hA hx rfl (hb hy d11_120) rfl (tlt (by decide)).2.2.2 k) ?_
    show Go p e below _ (T39.setTop (mkF m 123 #[.val (.long aa), .second, .val (.int (2 : Int32)), .val (.ref o37)] []))
    refine P39.xs (fun hA hx hy t k => XS.aloadN hA hx rfl (hb hy d11_123) rfl rfl  k) ?_
    show Go p e below _ (T39.setTop (mkF m 124 #[.val (.long aa), .second, .val (.int (2 : Int32)), .val (.ref o37)] [(.ref o37)]))
    refine P39.xs (fun hA hx hy t k => XS.iconst hA hx rfl (hb hy d11_124) k) ?_
    show Go p e below _ (T39.setTop (mkF m 125 #[.val (.long aa), .second, .val (.int (2 : Int32)), .val (.ref o37)] [(.int (1 : Int32)), (.ref o37)]))
    refine P39.xs (fun hA hx hy t k => XS.lloadN hA hx rfl (hb hy d11_125) rfl  k) ?_
    show Go p e below _ (T39.setTop (mkF m 126 #[.val (.long aa), .second, .val (.int (2 : Int32)), .val (.ref o37)] [(.long aa), (.int (1 : Int32)), (.ref o37)]))
    refine P39.xs (fun hA hx hy t k => XS.iconst hA hx rfl (hb hy d11_126) k) ?_
    show Go p e below _ (T39.setTop (mkF m 127 #[.val (.long aa), .second, .val (.int (2 : Int32)), .val (.ref o37)] [(.int (1 : Int32)), (.long aa), (.int (1 : Int32)), (.ref o37)]))
    refine P39.callS (hw _ (List.mem_of_getElem? (i := 74) rfl)) (hw _ (List.mem_of_getElem? (i := 75) rfl)) (hw _ (List.mem_of_getElem? (i := 72) rfl)) (hw _ (List.mem_of_getElem? (i := 76) rfl)) (by decide) (mAt l Z a0 hw hEL zc S0 Pz w_CLASS s_CLASS S_CLASS E_CLASS F_CLASS X_CLASS w_PROPERTY s_PROPERTY S_PROPERTY E_PROPERTY F_PROPERTY X_PROPERTY w_V k_V S_V E_V A_V aa (1 : Int32) h39 P39.old) (W := 2) (by decide) (by decide) (by decide) (by decide) all0 pd_2 (argsL := [(.long aa), (.int (1 : Int32))]) rfl rfl rfl (Nat.le_of_eq rfl) d11_127 fun v40 T40 h40 P40 K40 Q40 => ?_
    obtain ⟨ch40, rfl, lch40, nch40, hh40⟩ := Q40
    rw [hh40] at P40
    show Go p e below _ (T40.setTop (mkF m 130 #[.val (.long aa), .second, .val (.int (2 : Int32)), .val (.ref o37)] [(.int ch40), (.int (1 : Int32)), (.ref o37)]))
    refine P40.stC Va39 1 (by decide) (by decide) (by decide) (Nat.le_of_ble_eq_true rfl) (x' := ch40) nch40 d11_130 gz_o37 (Or.inr gw_o37) fun T41 h41 P41 W41 V41 => ?_
    have Va41 : Arv Z h41 o37 k37 .char (2 : Int32) [(.int ch38), (.int ch40)] (.int (0 : Int32)) := V41
    show Go p e below _ (T41.setTop (mkF m 131 #[.val (.long aa), .second, .val (.int (2 : Int32)), .val (.ref o37)] []))
    refine P41.xs (fun hA hx hy t k => XS.aloadN hA hx rfl (hb hy d11_131) rfl rfl  k) ?_
    show Go p e below _ (T41.setTop (mkF m 132 #[.val (.long aa), .second, .val (.int (2 : Int32)), .val (.ref o37)] [(.ref o37)]))
    refine P41.alen Va41 d11_132 ?_
    show Go p e below _ (T41.setTop (mkF m 133 #[.val (.long aa), .second, .val (.int (2 : Int32)), .val (.ref o37)] [(.int (2 : Int32))]))
    refine P41.xs (fun hA hx hy t k => XS.iconst hA hx rfl (hb hy d11_133) k) ?_
    show Go p e below _ (T41.setTop (mkF m 134 #[.val (.long aa), .second, .val (.int (2 : Int32)), .val (.ref o37)] [(.int (2 : Int32)), (.int (2 : Int32))]))
    refine P41.xs (fun hA hx hy t k => XS.icmpYes hA hx rfl (pc0 := 134) (pc' := 145) rfl (hb hy d11_134) rfl (flt (by decide)).2.2.2 (by decide) (by decide) k) ?_
    show Go p e below _ (T41.setTop (mkF m 145 #[.val (.long aa), .second, .val (.int (2 : Int32)), .val (.ref o37)] []))
    refine P41.xs (fun hA hx hy t k => XS.aloadN hA hx rfl (hb hy d11_145) rfl rfl  k) ?_
    show Go p e below _ (T41.setTop (mkF m 146 #[.val (.long aa), .second, .val (.int (2 : Int32)), .val (.ref o37)] [(.ref o37)]))
    refine P41.alen Va41 d11_146 ?_
    show Go p e below _ (T41.setTop (mkF m 147 #[.val (.long aa), .second, .val (.int (2 : Int32)), .val (.ref o37)] [(.int (2 : Int32))]))
    refine P41.xs (fun hA hx hy t k => XS.iconst hA hx rfl (hb hy d11_147) k) ?_
    show Go p e below _ (T41.setTop (mkF m 148 #[.val (.long aa), .second, .val (.int (2 : Int32)), .val (.ref o37)] [(.int (3 : Int32)), (.int (2 : Int32))]))
    refine P41.xs (fun hA hx hy t k => XS.icmpYes hA hx rfl (pc0 := 148) (pc' := 159) rfl (hb hy d11_148) rfl (flt (by decide)).2.2.2 (by decide) (by decide) k) ?_
    show Go p e below _ (T41.setTop (mkF m 159 #[.val (.long aa), .second, .val (.int (2 : Int32)), .val (.ref o37)] []))
    refine P41.xs (fun hA hx hy t k => XS.aloadN hA hx rfl (hb hy d11_159) rfl rfl  k) ?_
    show Go p e below _ (T41.setTop (mkF m 160 #[.val (.long aa), .second, .val (.int (2 : Int32)), .val (.ref o37)] [(.ref o37)]))
    refine P41.alen Va41 d11_160 ?_
    show Go p e below _ (T41.setTop (mkF m 161 #[.val (.long aa), .second, .val (.int (2 : Int32)), .val (.ref o37)] [(.int (2 : Int32))]))
    refine P41.xs (fun hA hx hy t k => XS.iconst hA hx rfl (hb hy d11_161) k) ?_
    show Go p e below _ (T41.setTop (mkF m 162 #[.val (.long aa), .second, .val (.int (2 : Int32)), .val (.ref o37)] [(.int (4 : Int32)), (.int (2 : Int32))]))
    refine P41.xs (fun hA hx hy t k => XS.icmpYes hA hx rfl (pc0 := 162) (pc' := 173) rfl (hb hy d11_162) rfl (flt (by decide)).2.2.2 (by decide) (by decide) k) ?_
    show Go p e below _ (T41.setTop (mkF m 173 #[.val (.long aa), .second, .val (.int (2 : Int32)), .val (.ref o37)] []))
    refine P41.xs (fun hA hx hy t k => XS.aloadN hA hx rfl (hb hy d11_173) rfl rfl  k) ?_
    show Go p e below _ (T41.setTop (mkF m 174 #[.val (.long aa), .second, .val (.int (2 : Int32)), .val (.ref o37)] [(.ref o37)]))
    refine P41.alen Va41 d11_174 ?_
    show Go p e below _ (T41.setTop (mkF m 175 #[.val (.long aa), .second, .val (.int (2 : Int32)), .val (.ref o37)] [(.int (2 : Int32))]))
    refine P41.xs (fun hA hx hy t k => XS.iconst hA hx rfl (hb hy d11_175) k) ?_
    show Go p e below _ (T41.setTop (mkF m 176 #[.val (.long aa), .second, .val (.int (2 : Int32)), .val (.ref o37)] [(.int (5 : Int32)), (.int (2 : Int32))]))
    refine P41.xs (fun hA hx hy t k => XS.icmpYes hA hx rfl (pc0 := 176) (pc' := 187) rfl (hb hy d11_176) rfl (flt (by decide)).2.2.2 (by decide) (by decide) k) ?_
    show Go p e below _ (T41.setTop (mkF m 187 #[.val (.long aa), .second, .val (.int (2 : Int32)), .val (.ref o37)] []))
    refine P41.xs (fun hA hx hy t k => XS.aloadN hA hx rfl (hb hy d11_187) rfl rfl  k) ?_
    show Go p e below _ (T41.setTop (mkF m 188 #[.val (.long aa), .second, .val (.int (2 : Int32)), .val (.ref o37)] [(.ref o37)]))
    refine P41.alen Va41 d11_188 ?_
    show Go p e below _ (T41.setTop (mkF m 189 #[.val (.long aa), .second, .val (.int (2 : Int32)), .val (.ref o37)] [(.int (2 : Int32))]))
    refine P41.xs (fun hA hx hy t k => XS.bipush hA hx rfl (hb hy d11_189) k) ?_
    show Go p e below _ (T41.setTop (mkF m 191 #[.val (.long aa), .second, .val (.int (2 : Int32)), .val (.ref o37)] [(.int (6 : Int32)), (.int (2 : Int32))]))
    refine P41.xs (fun hA hx hy t k => XS.icmpYes hA hx rfl (pc0 := 191) (pc' := 204) rfl (hb hy d11_191) rfl (flt (by decide)).2.2.2 (by decide) (by decide) k) ?_
    show Go p e below _ (T41.setTop (mkF m 204 #[.val (.long aa), .second, .val (.int (2 : Int32)), .val (.ref o37)] []))
    refine P41.xs (fun hA hx hy t k => XS.aloadN hA hx rfl (hb hy d11_204) rfl rfl  k) ?_
    show Go p e below _ (T41.setTop (mkF m 205 #[.val (.long aa), .second, .val (.int (2 : Int32)), .val (.ref o37)] [(.ref o37)]))
    refine P41.alen Va41 d11_205 ?_
    show Go p e below _ (T41.setTop (mkF m 206 #[.val (.long aa), .second, .val (.int (2 : Int32)), .val (.ref o37)] [(.int (2 : Int32))]))
    refine P41.xs (fun hA hx hy t k => XS.bipush hA hx rfl (hb hy d11_206) k) ?_
    show Go p e below _ (T41.setTop (mkF m 208 #[.val (.long aa), .second, .val (.int (2 : Int32)), .val (.ref o37)] [(.int (7 : Int32)), (.int (2 : Int32))]))
    refine P41.xs (fun hA hx hy t k => XS.icmpYes hA hx rfl (pc0 := 208) (pc' := 221) rfl (hb hy d11_208) rfl (flt (by decide)).2.2.2 (by decide) (by decide) k) ?_
    show Go p e below _ (T41.setTop (mkF m 221 #[.val (.long aa), .second, .val (.int (2 : Int32)), .val (.ref o37)] []))
    refine P41.newO (hw _ (List.mem_of_getElem? (i := 2) rfl)) (hw _ (List.mem_of_getElem? (i := 3) rfl)) (hw _ (List.mem_of_getElem? (i := 4) rfl)) d11_221 (by decide) (by decide) fun T42 h42 o42 g42 P42 E42 A42 D42 => ?_
    have ne_o37_o42 : o37 ≠ o42 := Nat.ne_of_lt (Nat.lt_of_lt_of_le Va41.lt (Nat.le_of_eq g42.symm))
    have gz_o42 : Z.heap.size ≤ o42 := Nat.le_trans P41.old.1 (Nat.le_of_eq g42.symm)
    have gw_o42 : h0.size ≤ o42 := Nat.le_trans P41.kept.1 (Nat.le_of_eq g42.symm)
    have F42_coder : Fld Z h42 o42 "java/lang/String" "coder" "B" (.int (0 : Int32)) := D42 (Or.inr (hw _ (List.mem_of_getElem? (i := 28) rfl))) (ty := .byte) (by decide)
    have F42_value : Fld Z h42 o42 "java/lang/String" "value" "[B" .null := D42 (Or.inr (hw _ (List.mem_of_getElem? (i := 30) rfl))) (ty := (.array .byte)) (by decide)
    show Go p e below _ (T42.setTop (mkF m 224 #[.val (.long aa), .second, .val (.int (2 : Int32)), .val (.ref o37)] [(.ref o42)]))
    refine P42.xs (fun hA hx hy t k => XS.dup hA hx rfl (hb hy d11_224) rfl rfl k) ?_
    show Go p e below _ (T42.setTop (mkF m 225 #[.val (.long aa), .second, .val (.int (2 : Int32)), .val (.ref o37)] [(.ref o42), (.ref o42)]))
    refine P42.xs (fun hA hx hy t k => XS.aloadN hA hx rfl (hb hy d11_225) rfl rfl  k) ?_
    show Go p e below _ (T42.setTop (mkF m 226 #[.val (.long aa), .second, .val (.int (2 : Int32)), .val (.ref o37)] [(.ref o37), (.ref o42), (.ref o42)]))
    have Ac43 : Arv Z h42 o37 k37 .char (2 : Int32) [(.int ch38), (.int ch40)] (.int (0 : Int32)) := (Va41.ext E42)
    refine P42.specB (W := 1) (ws' := [o42]) rfl (hw _ (List.mem_of_getElem? (i := 5) rfl)) (hw _ (List.mem_of_getElem? (i := 6) rfl)) (hw _ (List.mem_of_getElem? (i := 7) rfl)) (by decide) (fun vm0 hZ => StrChars.Road.backV (W := 1) hZ (wStr hw) (kI := 4) (hw _ (List.mem_of_getElem? (i := 3) rfl)) (cs := ([ch38, ch40] : List Int32)) (bs := ([ch38, ch40] : List Int32).map (fun c => c.toInt8.toInt32)) (n := 2) gz_o42 P42.old.1 A42 F42_value F42_coder Ac43 (S0.ext P42.old) Pz rfl rfl (by decide) (by decide) (latS lch38 (latS lch40 lat0)) rfl (by decide) (by decide)) rfl (fun v h' L q => ⟨q.2.1, q.2.2.1⟩) (by decide) (by decide) (allS ⟨(Or.inr gw_o42), gz_o42⟩ all0) (fun vm hs hal hr => safe1 (safeNull hal A42 F42_value)) pd_1 (argsL := [(.ref o37)]) rfl rfl rfl (Nat.le_of_eq rfl) d11_226 fun v44 T44 h44 L44 P44 Q44 => ?_
    obtain ⟨rfl, N44, K44, E44, C44, b44, k44, gb44, gc44, gd44, V44, B44⟩ := Q44
    show Go p e below _ (T44.setTop (mkF m 229 #[.val (.long aa), .second, .val (.int (2 : Int32)), .val (.ref o37)] [(.ref o42)]))
    have Ac45 : Arv Z h44 o37 k37 .char (2 : Int32) [(.int ch38), (.int ch40)] (.int (0 : Int32)) := (Ac43.keep K44 (ninS ne_o37_o42 nin0))
    exact P44.retR rfl rfl rfl d11_229 (by decide) (by decide) ⟨o42, ([ch38, ch40] : List Int32), rfl, gw_o42, (strOf (n := 2) rfl (latS lch38 (latS lch40 lat0)) (by decide) E44 C44 V44 B44)⟩
  · show Go p e below _ (s₁.setTop (mkF m 0 #[.val (.long aa), .second, .val (.int (3 : Int32)), .unset] []))
    refine P0.xs (fun hA hx hy t k => XS.iloadN hA hx rfl (hb hy d11_0) rfl  k) ?_
    show Go p e below _ (s₁.setTop (mkF m 1 #[.val (.long aa), .second, .val (.int (3 : Int32)), .unset] [(.int (3 : Int32))]))
    refine P0.xs (fun hA hx hy t k => XS.ifYes hA hx rfl (pc0 := 1) (pc' := 11) rfl (hb hy d11_1) rfl ((if0 _ _).trans (feq (by decide)).2) (by decide) (by decide) k) ?_
    show Go p e below _ (s₁.setTop (mkF m 11 #[.val (.long aa), .second, .val (.int (3 : Int32)), .unset] []))
    refine P0.xs (fun hA hx hy t k => XS.iloadN hA hx rfl (hb hy d11_11) rfl  k) ?_
    show Go p e below _ (s₁.setTop (mkF m 12 #[.val (.long aa), .second, .val (.int (3 : Int32)), .unset] [(.int (3 : Int32))]))
    refine P0.xs (fun hA hx hy t k => XS.iconst hA hx rfl (hb hy d11_12) k) ?_
    show Go p e below _ (s₁.setTop (mkF m 13 #[.val (.long aa), .second, .val (.int (3 : Int32)), .unset] [(.int (1 : Int32)), (.int (3 : Int32))]))
    refine P0.xs (fun hA hx hy t k => XS.icmpYes hA hx rfl (pc0 := 13) (pc' := 23) rfl (hb hy d11_13) rfl (feq (by decide)).2 (by decide) (by decide) k) ?_
    show Go p e below _ (s₁.setTop (mkF m 23 #[.val (.long aa), .second, .val (.int (3 : Int32)), .unset] []))
    refine P0.xs (fun hA hx hy t k => XS.iloadN hA hx rfl (hb hy d11_23) rfl  k) ?_
    show Go p e below _ (s₁.setTop (mkF m 24 #[.val (.long aa), .second, .val (.int (3 : Int32)), .unset] [(.int (3 : Int32))]))
    refine P0.xs (fun hA hx hy t k => XS.iconst hA hx rfl (hb hy d11_24) k) ?_
    show Go p e below _ (s₁.setTop (mkF m 25 #[.val (.long aa), .second, .val (.int (3 : Int32)), .unset] [(.int (2 : Int32)), (.int (3 : Int32))]))
    refine P0.xs (fun hA hx hy t k => XS.icmpYes hA hx rfl (pc0 := 25) (pc' := 35) rfl (hb hy d11_25) rfl (feq (by decide)).2 (by decide) (by decide) k) ?_
    show Go p e below _ (s₁.setTop (mkF m 35 #[.val (.long aa), .second, .val (.int (3 : Int32)), .unset] []))
    refine P0.xs (fun hA hx hy t k => XS.iloadN hA hx rfl (hb hy d11_35) rfl  k) ?_
    show Go p e below _ (s₁.setTop (mkF m 36 #[.val (.long aa), .second, .val (.int (3 : Int32)), .unset] [(.int (3 : Int32))]))
    refine P0.xs (fun hA hx hy t k => XS.iconst hA hx rfl (hb hy d11_36) k) ?_
    show Go p e below _ (s₁.setTop (mkF m 37 #[.val (.long aa), .second, .val (.int (3 : Int32)), .unset] [(.int (3 : Int32)), (.int (3 : Int32))]))
    refine P0.xs (fun hA hx hy t k => XS.icmpNo hA hx rfl (hb hy d11_37) rfl (teq (by decide)).2 k) ?_
    show Go p e below _ (s₁.setTop (mkF m 40 #[.val (.long aa), .second, .val (.int (3 : Int32)), .unset] []))
    refine P0.xs (fun hA hx hy t k => XS.iconst hA hx rfl (hb hy d11_40) k) ?_
    show Go p e below _ (s₁.setTop (mkF m 41 #[.val (.long aa), .second, .val (.int (3 : Int32)), .unset] [(.int (3 : Int32))]))
    refine P0.newP (aty := .char) (hw _ (List.mem_of_getElem? (i := 1) rfl)) d11_41 (by decide) (cap := 3) (by decide) (by decide) (by decide) (by decide) fun T46 h46 o46 k46 g46 P46 E46 A46 => ?_
    have gz_o46 : Z.heap.size ≤ o46 := Nat.le_trans P0.old.1 (Nat.le_of_eq g46.symm)
    have gw_o46 : h0.size ≤ o46 := Nat.le_trans P0.kept.1 (Nat.le_of_eq g46.symm)
    have V46 : Arv Z h46 o46 k46 .char (3 : Int32) [(.int (0 : Int32)), (.int (0 : Int32)), (.int (0 : Int32))] (.int (0 : Int32)) := Arv.pad A46 (pad_rep [] (.int (0 : Int32)) 3)
    show Go p e below _ (T46.setTop (mkF m 43 #[.val (.long aa), .second, .val (.int (3 : Int32)), .unset] [(.ref o46)]))
    refine P46.xs (fun hA hx hy t k => XS.astoreN hA hx rfl (hb hy d11_43) rfl rfl (l' := #[.val (.long aa), .second, .val (.int (3 : Int32)), .val (.ref o46)]) rfl k) ?_
    show Go p e below _ (T46.setTop (mkF m 44 #[.val (.long aa), .second, .val (.int (3 : Int32)), .val (.ref o46)] []))
    refine P46.xs (fun hA hx hy t k => XS.goto hA hx rfl (pc0 := 44) (pc' := 104) rfl (hb hy d11_44) (by decide) (by decide) k) ?_
    show Go p e below _ (T46.setTop (mkF m 104 #[.val (.long aa), .second, .val (.int (3 : Int32)), .val (.ref o46)] []))
    refine P46.xs (fun hA hx hy t k => XS.aloadN hA hx rfl (hb hy d11_104) rfl rfl  k) ?_
    show Go p e below _ (T46.setTop (mkF m 105 #[.val (.long aa), .second, .val (.int (3 : Int32)), .val (.ref o46)] [(.ref o46)]))
    refine P46.alen V46 d11_105 ?_
    show Go p e below _ (T46.setTop (mkF m 106 #[.val (.long aa), .second, .val (.int (3 : Int32)), .val (.ref o46)] [(.int (3 : Int32))]))
    refine P46.xs (fun hA hx hy t k => XS.ifNo hA hx rfl (hb hy d11_106) rfl ((if0 _ _).trans (tlt (by decide)).2.2.2) k) ?_
    show Go p e below _ (T46.setTop (mkF m 109 #[.val (.long aa), .second, .val (.int (3 : Int32)), .val (.ref o46)] []))
    refine P46.xs (fun hA hx hy t k => XS.aloadN hA hx rfl (hb hy d11_109) rfl rfl  k) ?_
    show Go p e below _ (T46.setTop (mkF m 110 #[.val (.long aa), .second, .val (.int (3 : Int32)), .val (.ref o46)] [(.ref o46)]))
    refine P46.xs (fun hA hx hy t k => XS.iconst hA hx rfl (hb hy d11_110) k) ?_
    show Go p e below _ (T46.setTop (mkF m 111 #[.val (.long aa), .second, .val (.int (3 : Int32)), .val (.ref o46)] [(.int (0 : Int32)), (.ref o46)]))
    refine P46.xs (fun hA hx hy t k => XS.lloadN hA hx rfl (hb hy d11_111) rfl  k) ?_
    show Go p e below _ (T46.setTop (mkF m 112 #[.val (.long aa), .second, .val (.int (3 : Int32)), .val (.ref o46)] [(.long aa), (.int (0 : Int32)), (.ref o46)]))
    refine P46.xs (fun hA hx hy t k => XS.iconst hA hx rfl (hb hy d11_112) k) ?_
    show Go p e below _ (T46.setTop (mkF m 113 #[.val (.long aa), .second, .val (.int (3 : Int32)), .val (.ref o46)] [(.int (0 : Int32)), (.long aa), (.int (0 : Int32)), (.ref o46)]))
    refine P46.callS (hw _ (List.mem_of_getElem? (i := 74) rfl)) (hw _ (List.mem_of_getElem? (i := 75) rfl)) (hw _ (List.mem_of_getElem? (i := 72) rfl)) (hw _ (List.mem_of_getElem? (i := 76) rfl)) (by decide) (mAt l Z a0 hw hEL zc S0 Pz w_CLASS s_CLASS S_CLASS E_CLASS F_CLASS X_CLASS w_PROPERTY s_PROPERTY S_PROPERTY E_PROPERTY F_PROPERTY X_PROPERTY w_V k_V S_V E_V A_V aa (0 : Int32) h46 P46.old) (W := 2) (by decide) (by decide) (by decide) (by decide) all0 pd_2 (argsL := [(.long aa), (.int (0 : Int32))]) rfl rfl rfl (Nat.le_of_eq rfl) d11_113 fun v47 T47 h47 P47 K47 Q47 => ?_
    obtain ⟨ch47, rfl, lch47, nch47, hh47⟩ := Q47
    rw [hh47] at P47
    show Go p e below _ (T47.setTop (mkF m 116 #[.val (.long aa), .second, .val (.int (3 : Int32)), .val (.ref o46)] [(.int ch47), (.int (0 : Int32)), (.ref o46)]))
    refine P47.stC V46 0 (by decide) (by decide) (by decide) (Nat.le_of_ble_eq_true rfl) (x' := ch47) nch47 d11_116 gz_o46 (Or.inr gw_o46) fun T48 h48 P48 W48 V48 => ?_
    have Va48 : Arv Z h48 o46 k46 .char (3 : Int32) [(.int ch47), (.int (0 : Int32)), (.int (0 : Int32))] (.int (0 : Int32)) := V48
    show Go p e below _ (T48.setTop (mkF m 117 #[.val (.long aa), .second, .val (.int (3 : Int32)), .val (.ref o46)] []))
    refine P48.xs (fun hA hx hy t k => XS.aloadN hA hx rfl (hb hy d11_117) rfl rfl  k) ?_
    show Go p e below _ (T48.setTop (mkF m 118 #[.val (.long aa), .second, .val (.int (3 : Int32)), .val (.ref o46)] [(.ref o46)]))
    refine P48.alen Va48 d11_118 ?_
    show Go p e below _ (T48.setTop (mkF m 119 #[.val (.long aa), .second, .val (.int (3 : Int32)), .val (.ref o46)] [(.int (3 : Int32))]))
    refine P48.xs (fun hA hx hy t k => XS.iconst hA hx rfl (hb hy d11_119) k) ?_
    show Go p e below _ (T48.setTop (mkF m 120 #[.val (.long aa), .second, .val (.int (3 : Int32)), .val (.ref o46)] [(.int (1 : Int32)), (.int (3 : Int32))]))
    refine P48.xs (fun hA hx hy t k => XS.icmpNo hA hx rfl (hb hy d11_120) rfl (tlt (by decide)).2.2.2 k) ?_
    show Go p e below _ (T48.setTop (mkF m 123 #[.val (.long aa), .second, .val (.int (3 : Int32)), .val (.ref o46)] []))
    refine P48.xs (fun hA hx hy t k => XS.aloadN hA hx rfl (hb hy d11_123) rfl rfl  k) ?_
    show Go p e below _ (T48.setTop (mkF m 124 #[.val (.long aa), .second, .val (.int (3 : Int32)), .val (.ref o46)] [(.ref o46)]))
    refine P48.xs (fun hA hx hy t k => XS.iconst hA hx rfl (hb hy d11_124) k) ?_
    show Go p e below _ (T48.setTop (mkF m 125 #[.val (.long aa), .second, .val (.int (3 : Int32)), .val (.ref o46)] [(.int (1 : Int32)), (.ref o46)]))
    refine P48.xs (fun hA hx hy t k => XS.lloadN hA hx rfl (hb hy d11_125) rfl  k) ?_
    show Go p e below _ (T48.setTop (mkF m 126 #[.val (.long aa), .second, .val (.int (3 : Int32)), .val (.ref o46)] [(.long aa), (.int (1 : Int32)), (.ref o46)]))
    refine P48.xs (fun hA hx hy t k => XS.iconst hA hx rfl (hb hy d11_126) k) ?_
    show Go p e below _ (T48.setTop (mkF m 127 #[.val (.long aa), .second, .val (.int (3 : Int32)), .val (.ref o46)] [(.int (1 : Int32)), (.long aa), (.int (1 : Int32)), (.ref o46)]))
    refine P48.callS (hw _ (List.mem_of_getElem? (i := 74) rfl)) (hw _ (List.mem_of_getElem? (i := 75) rfl)) (hw _ (List.mem_of_getElem? (i := 72) rfl)) (hw _ (List.mem_of_getElem? (i := 76) rfl)) (by decide) (mAt l Z a0 hw hEL zc S0 Pz w_CLASS s_CLASS S_CLASS E_CLASS F_CLASS X_CLASS w_PROPERTY s_PROPERTY S_PROPERTY E_PROPERTY F_PROPERTY X_PROPERTY w_V k_V S_V E_V A_V aa (1 : Int32) h48 P48.old) (W := 2) (by decide) (by decide) (by decide) (by decide) all0 pd_2 (argsL := [(.long aa), (.int (1 : Int32))]) rfl rfl rfl (Nat.le_of_eq rfl) d11_127 fun v49 T49 h49 P49 K49 Q49 => ?_
    obtain ⟨ch49, rfl, lch49, nch49, hh49⟩ := Q49
    rw [hh49] at P49
    show Go p e below _ (T49.setTop (mkF m 130 #[.val (.long aa), .second, .val (.int (3 : Int32)), .val (.ref o46)] [(.int ch49), (.int (1 : Int32)), (.ref o46)]))
    refine P49.stC Va48 1 (by decide) (by decide) (by decide) (Nat.le_of_ble_eq_true rfl) (x' := ch49) nch49 d11_130 gz_o46 (Or.inr gw_o46) fun T50 h50 P50 W50 V50 => ?_
    have Va50 : Arv Z h50 o46 k46 .char (3 : Int32) [(.int ch47), (.int ch49), (.int (0 : Int32))] (.int (0 : Int32)) := V50
    show Go p e below _ (T50.setTop (mkF m 131 #[.val (.long aa), .second, .val (.int (3 : Int32)), .val (.ref o46)] []))
    refine P50.xs (fun hA hx hy t k => XS.aloadN hA hx rfl (hb hy d11_131) rfl rfl  k) ?_
    show Go p e below _ (T50.setTop (mkF m 132 #[.val (.long aa), .second, .val (.int (3 : Int32)), .val (.ref o46)] [(.ref o46)]))
    refine P50.alen Va50 d11_132 ?_
    show Go p e below _ (T50.setTop (mkF m 133 #[.val (.long aa), .second, .val (.int (3 : Int32)), .val (.ref o46)] [(.int (3 : Int32))]))
    refine P50.xs (fun hA hx hy t k => XS.iconst hA hx rfl (hb hy d11_133) k) ?_
    show Go p e below _ (T50.setTop (mkF m 134 #[.val (.long aa), .second, .val (.int (3 : Int32)), .val (.ref o46)] [(.int (2 : Int32)), (.int (3 : Int32))]))
    refine P50.xs (fun hA hx hy t k => XS.icmpNo hA hx rfl (hb hy d11_134) rfl (tlt (by decide)).2.2.2 k) ?_
    show Go p e below _ (T50.setTop (mkF m 137 #[.val (.long aa), .second, .val (.int (3 : Int32)), .val (.ref o46)] []))
    refine P50.xs (fun hA hx hy t k => XS.aloadN hA hx rfl (hb hy d11_137) rfl rfl  k) ?_
    show Go p e below _ (T50.setTop (mkF m 138 #[.val (.long aa), .second, .val (.int (3 : Int32)), .val (.ref o46)] [(.ref o46)]))
    refine P50.xs (fun hA hx hy t k => XS.iconst hA hx rfl (hb hy d11_138) k) ?_
    show Go p e below _ (T50.setTop (mkF m 139 #[.val (.long aa), .second, .val (.int (3 : Int32)), .val (.ref o46)] [(.int (2 : Int32)), (.ref o46)]))
    refine P50.xs (fun hA hx hy t k => XS.lloadN hA hx rfl (hb hy d11_139) rfl  k) ?_
    show Go p e below _ (T50.setTop (mkF m 140 #[.val (.long aa), .second, .val (.int (3 : Int32)), .val (.ref o46)] [(.long aa), (.int (2 : Int32)), (.ref o46)]))
    refine P50.xs (fun hA hx hy t k => XS.iconst hA hx rfl (hb hy d11_140) k) ?_
    show Go p e below _ (T50.setTop (mkF m 141 #[.val (.long aa), .second, .val (.int (3 : Int32)), .val (.ref o46)] [(.int (2 : Int32)), (.long aa), (.int (2 : Int32)), (.ref o46)]))
    refine P50.callS (hw _ (List.mem_of_getElem? (i := 74) rfl)) (hw _ (List.mem_of_getElem? (i := 75) rfl)) (hw _ (List.mem_of_getElem? (i := 72) rfl)) (hw _ (List.mem_of_getElem? (i := 76) rfl)) (by decide) (mAt l Z a0 hw hEL zc S0 Pz w_CLASS s_CLASS S_CLASS E_CLASS F_CLASS X_CLASS w_PROPERTY s_PROPERTY S_PROPERTY E_PROPERTY F_PROPERTY X_PROPERTY w_V k_V S_V E_V A_V aa (2 : Int32) h50 P50.old) (W := 2) (by decide) (by decide) (by decide) (by decide) all0 pd_2 (argsL := [(.long aa), (.int (2 : Int32))]) rfl rfl rfl (Nat.le_of_eq rfl) d11_141 fun v51 T51 h51 P51 K51 Q51 => ?_
    obtain ⟨ch51, rfl, lch51, nch51, hh51⟩ := Q51
    rw [hh51] at P51
    show Go p e below _ (T51.setTop (mkF m 144 #[.val (.long aa), .second, .val (.int (3 : Int32)), .val (.ref o46)] [(.int ch51), (.int (2 : Int32)), (.ref o46)]))
    refine P51.stC Va50 2 (by decide) (by decide) (by decide) (Nat.le_of_ble_eq_true rfl) (x' := ch51) nch51 d11_144 gz_o46 (Or.inr gw_o46) fun T52 h52 P52 W52 V52 => ?_
    have Va52 : Arv Z h52 o46 k46 .char (3 : Int32) [(.int ch47), (.int ch49), (.int ch51)] (.int (0 : Int32)) := V52
    show Go p e below _ (T52.setTop (mkF m 145 #[.val (.long aa), .second, .val (.int (3 : Int32)), .val (.ref o46)] []))
    refine P52.xs (fun hA hx hy t k => XS.aloadN hA hx rfl (hb hy d11_145) rfl rfl  k) ?_
    show Go p e below _ (T52.setTop (mkF m 146 #[.val (.long aa), .second, .val (.int (3 : Int32)), .val (.ref o46)] [(.ref o46)]))
    refine P52.alen Va52 d11_146 ?_
    show Go p e below _ (T52.setTop (mkF m 147 #[.val (.long aa), .second, .val (.int (3 : Int32)), .val (.ref o46)] [(.int (3 : Int32))]))
    refine P52.xs (fun hA hx hy t k => XS.iconst hA hx rfl (hb hy d11_147) k) ?_
    show Go p e below _ (T52.setTop (mkF m 148 #[.val (.long aa), .second, .val (.int (3 : Int32)), .val (.ref o46)] [(.int (3 : Int32)), (.int (3 : Int32))]))
    refine P52.xs (fun hA hx hy t k => XS.icmpYes hA hx rfl (pc0 := 148) (pc' := 159) rfl (hb hy d11_148) rfl (flt (by decide)).2.2.2 (by decide) (by decide) k) ?_
    show Go p e below _ (T52.setTop (mkF m 159 #[.val (.long aa), .second, .val (.int (3 : Int32)), .val (.ref o46)] []))
    refine P52.xs (fun hA hx hy t k => XS.aloadN hA hx rfl (hb hy d11_159) rfl rfl  k) ?_
    show Go p e below _ (T52.setTop (mkF m 160 #[.val (.long aa), .second, .val (.int (3 : Int32)), .val (.ref o46)] [(.ref o46)]))
    refine P52.alen Va52 d11_160 ?_
    show Go p e below _ (T52.setTop (mkF m 161 #[.val (.long aa), .second, .val (.int (3 : Int32)), .val (.ref o46)] [(.int (3 : Int32))]))
    refine P52.xs (fun hA hx hy t k => XS.iconst hA hx rfl (hb hy d11_161) k) ?_
    show Go p e below _ (T52.setTop (mkF m 162 #[.val (.long aa), .second, .val (.int (3 : Int32)), .val (.ref o46)] [(.int (4 : Int32)), (.int (3 : Int32))]))
    refine P52.xs (fun hA hx hy t k => XS.icmpYes hA hx rfl (pc0 := 162) (pc' := 173) rfl (hb hy d11_162) rfl (flt (by decide)).2.2.2 (by decide) (by decide) k) ?_
    show Go p e below _ (T52.setTop (mkF m 173 #[.val (.long aa), .second, .val (.int (3 : Int32)), .val (.ref o46)] []))
    refine P52.xs (fun hA hx hy t k => XS.aloadN hA hx rfl (hb hy d11_173) rfl rfl  k) ?_
    show Go p e below _ (T52.setTop (mkF m 174 #[.val (.long aa), .second, .val (.int (3 : Int32)), .val (.ref o46)] [(.ref o46)]))
    refine P52.alen Va52 d11_174 ?_
    show Go p e below _ (T52.setTop (mkF m 175 #[.val (.long aa), .second, .val (.int (3 : Int32)), .val (.ref o46)] [(.int (3 : Int32))]))
    refine P52.xs (fun hA hx hy t k => XS.iconst hA hx rfl (hb hy d11_175) k) ?_
    show Go p e below _ (T52.setTop (mkF m 176 #[.val (.long aa), .second, .val (.int (3 : Int32)), .val (.ref o46)] [(.int (5 : Int32)), (.int (3 : Int32))]))
    refine P52.xs (fun hA hx hy t k => XS.icmpYes hA hx rfl (pc0 := 176) (pc' := 187) rfl (hb hy d11_176) rfl (flt (by decide)).2.2.2 (by decide) (by decide) k) ?_
    show Go p e below _ (T52.setTop (mkF m 187 #[.val (.long aa), .second, .val (.int (3 : Int32)), .val (.ref o46)] []))
    refine P52.xs (fun hA hx hy t k => XS.aloadN hA hx rfl (hb hy d11_187) rfl rfl  k) ?_
    show Go p e below _ (T52.setTop (mkF m 188 #[.val (.long aa), .second, .val (.int (3 : Int32)), .val (.ref o46)] [(.ref o46)]))
    refine P52.alen Va52 d11_188 ?_
    show Go p e below _ (T52.setTop (mkF m 189 #[.val (.long aa), .second, .val (.int (3 : Int32)), .val (.ref o46)] [(.int (3 : Int32))]))
    refine P52.xs (fun hA hx hy t k => XS.bipush hA hx rfl (hb hy d11_189) k) ?_
    show Go p e below _ (T52.setTop (mkF m 191 #[.val (.long aa), .second, .val (.int (3 : Int32)), .val (.ref o46)] [(.int (6 : Int32)), (.int (3 : Int32))]))
    refine P52.xs (fun hA hx hy t k => XS.icmpYes hA hx rfl (pc0 := 191) (pc' := 204) rfl (hb hy d11_191) rfl (flt (by decide)).2.2.2 (by decide) (by decide) k) ?_
    show Go p e below _ (T52.setTop (mkF m 204 #[.val (.long aa), .second, .val (.int (3 : Int32)), .val (.ref o46)] []))
    refine P52.xs (fun hA hx hy t k => XS.aloadN hA hx rfl (hb hy d11_204) rfl rfl  k) ?_
    show Go p e below _ (T52.setTop (mkF m 205 #[.val (.long aa), .second, .val (.int (3 : Int32)), .val (.ref o46)] [(.ref o46)]))
    refine P52.alen Va52 d11_205 ?_
    show Go p e below _ (T52.setTop (mkF m 206 #[.val (.long aa), .second, .val (.int (3 : Int32)), .val (.ref o46)] [(.int (3 : Int32))]))
    refine P52.xs (fun hA hx hy t k => XS.bipush hA hx rfl (hb hy d11_206) k) ?_
    show Go p e below _ (T52.setTop (mkF m 208 #[.val (.long aa), .second, .val (.int (3 : Int32)), .val (.ref o46)] [(.int (7 : Int32)), (.int (3 : Int32))]))
    refine P52.xs (fun hA hx hy t k => XS.icmpYes hA hx rfl (pc0 := 208) (pc' := 221) rfl (hb hy d11_208) rfl (flt (by decide)).2.2.2 (by decide) (by decide) k) ?_
    show Go p e below _ (T52.setTop (mkF m 221 #[.val (.long aa), .second, .val (.int (3 : Int32)), .val (.ref o46)] []))
    refine P52.newO (hw _ (List.mem_of_getElem? (i := 2) rfl)) (hw _ (List.mem_of_getElem? (i := 3) rfl)) (hw _ (List.mem_of_getElem? (i := 4) rfl)) d11_221 (by decide) (by decide) fun T53 h53 o53 g53 P53 E53 A53 D53 => ?_
    have ne_o46_o53 : o46 ≠ o53 := Nat.ne_of_lt (Nat.lt_of_lt_of_le Va52.lt (Nat.le_of_eq g53.symm))
    have gz_o53 : Z.heap.size ≤ o53 := Nat.le_trans P52.old.1 (Nat.le_of_eq g53.symm)
    have gw_o53 : h0.size ≤ o53 := Nat.le_trans P52.kept.1 (Nat.le_of_eq g53.symm)
    have F53_coder : Fld Z h53 o53 "java/lang/String" "coder" "B" (.int (0 : Int32)) := D53 (Or.inr (hw _ (List.mem_of_getElem? (i := 28) rfl))) (ty := .byte) (by decide)
    have F53_value : Fld Z h53 o53 "java/lang/String" "value" "[B" .null := D53 (Or.inr (hw _ (List.mem_of_getElem? (i := 30) rfl))) (ty := (.array .byte)) (by decide)
    show Go p e below _ (T53.setTop (mkF m 224 #[.val (.long aa), .second, .val (.int (3 : Int32)), .val (.ref o46)] [(.ref o53)]))
    refine P53.xs (fun hA hx hy t k => XS.dup hA hx rfl (hb hy d11_224) rfl rfl k) ?_
    show Go p e below _ (T53.setTop (mkF m 225 #[.val (.long aa), .second, .val (.int (3 : Int32)), .val (.ref o46)] [(.ref o53), (.ref o53)]))
    refine P53.xs (fun hA hx hy t k => XS.aloadN hA hx rfl (hb hy d11_225) rfl rfl  k) ?_
    show Go p e below _ (T53.setTop (mkF m 226 #[.val (.long aa), .second, .val (.int (3 : Int32)), .val (.ref o46)] [(.ref o46), (.ref o53), (.ref o53)]))
    have Ac54 : Arv Z h53 o46 k46 .char (3 : Int32) [(.int ch47), (.int ch49), (.int ch51)] (.int (0 : Int32)) := (Va52.ext E53)
    refine P53.specB (W := 1) (ws' := [o53]) rfl (hw _ (List.mem_of_getElem? (i := 5) rfl)) (hw _ (List.mem_of_getElem? (i := 6) rfl)) (hw _ (List.mem_of_getElem? (i := 7) rfl)) (by decide) (fun vm0 hZ => StrChars.Road.backV (W := 1) hZ (wStr hw) (kI := 4) (hw _ (List.mem_of_getElem? (i := 3) rfl)) (cs := ([ch47, ch49, ch51] : List Int32)) (bs := ([ch47, ch49, ch51] : List Int32).map (fun c => c.toInt8.toInt32)) (n := 3) gz_o53 P53.old.1 A53 F53_value F53_coder Ac54 (S0.ext P53.old) Pz rfl rfl (by decide) (by decide) (latS lch47 (latS lch49 (latS lch51 lat0))) rfl (by decide) (by decide)) rfl (fun v h' L q => ⟨q.2.1, q.2.2.1⟩) (by decide) (by decide) (allS ⟨(Or.inr gw_o53), gz_o53⟩ all0) (fun vm hs hal hr => safe1 (safeNull hal A53 F53_value)) pd_1 (argsL := [(.ref o46)]) rfl rfl rfl (Nat.le_of_eq rfl) d11_226 fun v55 T55 h55 L55 P55 Q55 => ?_
    obtain ⟨rfl, N55, K55, E55, C55, b55, k55, gb55, gc55, gd55, V55, B55⟩ := Q55
    show Go p e below _ (T55.setTop (mkF m 229 #[.val (.long aa), .second, .val (.int (3 : Int32)), .val (.ref o46)] [(.ref o53)]))
    have Ac56 : Arv Z h55 o46 k46 .char (3 : Int32) [(.int ch47), (.int ch49), (.int ch51)] (.int (0 : Int32)) := (Ac54.keep K55 (ninS ne_o46_o53 nin0))
    exact P55.retR rfl rfl rfl d11_229 (by decide) (by decide) ⟨o53, ([ch47, ch49, ch51] : List Int32), rfl, gw_o53, (strOf (n := 3) rfl (latS lch47 (latS lch49 (latS lch51 lat0))) (by decide) E55 C55 V55 B55)⟩
  · show Go p e below _ (s₁.setTop (mkF m 0 #[.val (.long aa), .second, .val (.int (4 : Int32)), .unset] []))
    refine P0.xs (fun hA hx hy t k => XS.iloadN hA hx rfl (hb hy d11_0) rfl  k) ?_
    show Go p e below _ (s₁.setTop (mkF m 1 #[.val (.long aa), .second, .val (.int (4 : Int32)), .unset] [(.int (4 : Int32))]))
    refine P0.xs (fun hA hx hy t k => XS.ifYes hA hx rfl (pc0 := 1) (pc' := 11) rfl (hb hy d11_1) rfl ((if0 _ _).trans (feq (by decide)).2) (by decide) (by decide) k) ?_
    show Go p e below _ (s₁.setTop (mkF m 11 #[.val (.long aa), .second, .val (.int (4 : Int32)), .unset] []))
    refine P0.xs (fun hA hx hy t k => XS.iloadN hA hx rfl (hb hy d11_11) rfl  k) ?_
    show Go p e below _ (s₁.setTop (mkF m 12 #[.val (.long aa), .second, .val (.int (4 : Int32)), .unset] [(.int (4 : Int32))]))
    refine P0.xs (fun hA hx hy t k => XS.iconst hA hx rfl (hb hy d11_12) k) ?_
    show Go p e below _ (s₁.setTop (mkF m 13 #[.val (.long aa), .second, .val (.int (4 : Int32)), .unset] [(.int (1 : Int32)), (.int (4 : Int32))]))
    refine P0.xs (fun hA hx hy t k => XS.icmpYes hA hx rfl (pc0 := 13) (pc' := 23) rfl (hb hy d11_13) rfl (feq (by decide)).2 (by decide) (by decide) k) ?_
    show Go p e below _ (s₁.setTop (mkF m 23 #[.val (.long aa), .second, .val (.int (4 : Int32)), .unset] []))
    refine P0.xs (fun hA hx hy t k => XS.iloadN hA hx rfl (hb hy d11_23) rfl  k) ?_
    show Go p e below _ (s₁.setTop (mkF m 24 #[.val (.long aa), .second, .val (.int (4 : Int32)), .unset] [(.int (4 : Int32))]))
    refine P0.xs (fun hA hx hy t k => XS.iconst hA hx rfl (hb hy d11_24) k) ?_
    show Go p e below _ (s₁.setTop (mkF m 25 #[.val (.long aa), .second, .val (.int (4 : Int32)), .unset] [(.int (2 : Int32)), (.int (4 : Int32))]))
    refine P0.xs (fun hA hx hy t k => XS.icmpYes hA hx rfl (pc0 := 25) (pc' := 35) rfl (hb hy d11_25) rfl (feq (by decide)).2 (by decide) (by decide) k) ?_
    show Go p e below _ (s₁.setTop (mkF m 35 #[.val (.long aa), .second, .val (.int (4 : Int32)), .unset] []))
    refine P0.xs (fun hA hx hy t k => XS.iloadN hA hx rfl (hb hy d11_35) rfl  k) ?_
    show Go p e below _ (s₁.setTop (mkF m 36 #[.val (.long aa), .second, .val (.int (4 : Int32)), .unset] [(.int (4 : Int32))]))
    refine P0.xs (fun hA hx hy t k => XS.iconst hA hx rfl (hb hy d11_36) k) ?_
    show Go p e below _ (s₁.setTop (mkF m 37 #[.val (.long aa), .second, .val (.int (4 : Int32)), .unset] [(.int (3 : Int32)), (.int (4 : Int32))]))
    refine P0.xs (fun hA hx hy t k => XS.icmpYes hA hx rfl (pc0 := 37) (pc' := 47) rfl (hb hy d11_37) rfl (feq (by decide)).2 (by decide) (by decide) k) ?_
    show Go p e below _ (s₁.setTop (mkF m 47 #[.val (.long aa), .second, .val (.int (4 : Int32)), .unset] []))
    refine P0.xs (fun hA hx hy t k => XS.iloadN hA hx rfl (hb hy d11_47) rfl  k) ?_
    show Go p e below _ (s₁.setTop (mkF m 48 #[.val (.long aa), .second, .val (.int (4 : Int32)), .unset] [(.int (4 : Int32))]))
    refine P0.xs (fun hA hx hy t k => XS.iconst hA hx rfl (hb hy d11_48) k) ?_
    show Go p e below _ (s₁.setTop (mkF m 49 #[.val (.long aa), .second, .val (.int (4 : Int32)), .unset] [(.int (4 : Int32)), (.int (4 : Int32))]))
    refine P0.xs (fun hA hx hy t k => XS.icmpNo hA hx rfl (hb hy d11_49) rfl (teq (by decide)).2 k) ?_
    show Go p e below _ (s₁.setTop (mkF m 52 #[.val (.long aa), .second, .val (.int (4 : Int32)), .unset] []))
    refine P0.xs (fun hA hx hy t k => XS.iconst hA hx rfl (hb hy d11_52) k) ?_
    show Go p e below _ (s₁.setTop (mkF m 53 #[.val (.long aa), .second, .val (.int (4 : Int32)), .unset] [(.int (4 : Int32))]))
    refine P0.newP (aty := .char) (hw _ (List.mem_of_getElem? (i := 1) rfl)) d11_53 (by decide) (cap := 4) (by decide) (by decide) (by decide) (by decide) fun T57 h57 o57 k57 g57 P57 E57 A57 => ?_
    have gz_o57 : Z.heap.size ≤ o57 := Nat.le_trans P0.old.1 (Nat.le_of_eq g57.symm)
    have gw_o57 : h0.size ≤ o57 := Nat.le_trans P0.kept.1 (Nat.le_of_eq g57.symm)
    have V57 : Arv Z h57 o57 k57 .char (4 : Int32) [(.int (0 : Int32)), (.int (0 : Int32)), (.int (0 : Int32)), (.int (0 : Int32))] (.int (0 : Int32)) := Arv.pad A57 (pad_rep [] (.int (0 : Int32)) 4)
    show Go p e below _ (T57.setTop (mkF m 55 #[.val (.long aa), .second, .val (.int (4 : Int32)), .unset] [(.ref o57)]))
    refine P57.xs (fun hA hx hy t k => XS.astoreN hA hx rfl (hb hy d11_55) rfl rfl (l' := #[.val (.long aa), .second, .val (.int (4 : Int32)), .val (.ref o57)]) rfl k) ?_
    show Go p e below _ (T57.setTop (mkF m 56 #[.val (.long aa), .second, .val (.int (4 : Int32)), .val (.ref o57)] []))
    refine P57.xs (fun hA hx hy t k => XS.goto hA hx rfl (pc0 := 56) (pc' := 104) rfl (hb hy d11_56) (by decide) (by decide) k) ?_
    show Go p e below _ (T57.setTop (mkF m 104 #[.val (.long aa), .second, .val (.int (4 : Int32)), .val (.ref o57)] []))
    refine P57.xs (fun hA hx hy t k => XS.aloadN hA hx rfl (hb hy d11_104) rfl rfl  k) ?_
    show Go p e below _ (T57.setTop (mkF m 105 #[.val (.long aa), .second, .val (.int (4 : Int32)), .val (.ref o57)] [(.ref o57)]))
    refine P57.alen V57 d11_105 ?_
    show Go p e below _ (T57.setTop (mkF m 106 #[.val (.long aa), .second, .val (.int (4 : Int32)), .val (.ref o57)] [(.int (4 : Int32))]))
    refine P57.xs (fun hA hx hy t k => XS.ifNo hA hx rfl (hb hy d11_106) rfl ((if0 _ _).trans (tlt (by decide)).2.2.2) k) ?_
    show Go p e below _ (T57.setTop (mkF m 109 #[.val (.long aa), .second, .val (.int (4 : Int32)), .val (.ref o57)] []))
    refine P57.xs (fun hA hx hy t k => XS.aloadN hA hx rfl (hb hy d11_109) rfl rfl  k) ?_
    show Go p e below _ (T57.setTop (mkF m 110 #[.val (.long aa), .second, .val (.int (4 : Int32)), .val (.ref o57)] [(.ref o57)]))
    refine P57.xs (fun hA hx hy t k => XS.iconst hA hx rfl (hb hy d11_110) k) ?_
    show Go p e below _ (T57.setTop (mkF m 111 #[.val (.long aa), .second, .val (.int (4 : Int32)), .val (.ref o57)] [(.int (0 : Int32)), (.ref o57)]))
    refine P57.xs (fun hA hx hy t k => XS.lloadN hA hx rfl (hb hy d11_111) rfl  k) ?_
    show Go p e below _ (T57.setTop (mkF m 112 #[.val (.long aa), .second, .val (.int (4 : Int32)), .val (.ref o57)] [(.long aa), (.int (0 : Int32)), (.ref o57)]))
    refine P57.xs (fun hA hx hy t k => XS.iconst hA hx rfl (hb hy d11_112) k) ?_
    show Go p e below _ (T57.setTop (mkF m 113 #[.val (.long aa), .second, .val (.int (4 : Int32)), .val (.ref o57)] [(.int (0 : Int32)), (.long aa), (.int (0 : Int32)), (.ref o57)]))
    refine P57.callS (hw _ (List.mem_of_getElem? (i := 74) rfl)) (hw _ (List.mem_of_getElem? (i := 75) rfl)) (hw _ (List.mem_of_getElem? (i := 72) rfl)) (hw _ (List.mem_of_getElem? (i := 76) rfl)) (by decide) (mAt l Z a0 hw hEL zc S0 Pz w_CLASS s_CLASS S_CLASS E_CLASS F_CLASS X_CLASS w_PROPERTY s_PROPERTY S_PROPERTY E_PROPERTY F_PROPERTY X_PROPERTY w_V k_V S_V E_V A_V aa (0 : Int32) h57 P57.old) (W := 2) (by decide) (by decide) (by decide) (by decide) all0 pd_2 (argsL := [(.long aa), (.int (0 : Int32))]) rfl rfl rfl (Nat.le_of_eq rfl) d11_113 fun v58 T58 h58 P58 K58 Q58 => ?_
    obtain ⟨ch58, rfl, lch58, nch58, hh58⟩ := Q58
    rw [hh58] at P58
    show Go p e below _ (T58.setTop (mkF m 116 #[.val (.long aa), .second, .val (.int (4 : Int32)), .val (.ref o57)] [(.int ch58), (.int (0 : Int32)), (.ref o57)]))
    refine P58.stC V57 0 (by decide) (by decide) (by decide) (Nat.le_of_ble_eq_true rfl) (x' := ch58) nch58 d11_116 gz_o57 (Or.inr gw_o57) fun T59 h59 P59 W59 V59 => ?_
    have Va59 : Arv Z h59 o57 k57 .char (4 : Int32) [(.int ch58), (.int (0 : Int32)), (.int (0 : Int32)), (.int (0 : Int32))] (.int (0 : Int32)) := V59
    show Go p e below _ (T59.setTop (mkF m 117 #[.val (.long aa), .second, .val (.int (4 : Int32)), .val (.ref o57)] []))
    refine P59.xs (fun hA hx hy t k => XS.aloadN hA hx rfl (hb hy d11_117) rfl rfl  k) ?_
    show Go p e below _ (T59.setTop (mkF m 118 #[.val (.long aa), .second, .val (.int (4 : Int32)), .val (.ref o57)] [(.ref o57)]))
    refine P59.alen Va59 d11_118 ?_
    show Go p e below _ (T59.setTop (mkF m 119 #[.val (.long aa), .second, .val (.int (4 : Int32)), .val (.ref o57)] [(.int (4 : Int32))]))
    refine P59.xs (fun hA hx hy t k => XS.iconst hA hx rfl (hb hy d11_119) k) ?_
    show Go p e below _ (T59.setTop (mkF m 120 #[.val (.long aa), .second, .val (.int (4 : Int32)), .val (.ref o57)] [(.int (1 : Int32)), (.int (4 : Int32))]))
    refine P59.xs (fun hA hx hy t k => XS.icmpNo hA hx rfl (hb hy d11_120) rfl (tlt (by decide)).2.2.2 k) ?_
    show Go p e below _ (T59.setTop (mkF m 123 #[.val (.long aa), .second, .val (.int (4 : Int32)), .val (.ref o57)] []))
    refine P59.xs (fun hA hx hy t k => XS.aloadN hA hx rfl (hb hy d11_123) rfl rfl  k) ?_
    show Go p e below _ (T59.setTop (mkF m 124 #[.val (.long aa), .second, .val (.int (4 : Int32)), .val (.ref o57)] [(.ref o57)]))
    refine P59.xs (fun hA hx hy t k => XS.iconst hA hx rfl (hb hy d11_124) k) ?_
    show Go p e below _ (T59.setTop (mkF m 125 #[.val (.long aa), .second, .val (.int (4 : Int32)), .val (.ref o57)] [(.int (1 : Int32)), (.ref o57)]))
    refine P59.xs (fun hA hx hy t k => XS.lloadN hA hx rfl (hb hy d11_125) rfl  k) ?_
    show Go p e below _ (T59.setTop (mkF m 126 #[.val (.long aa), .second, .val (.int (4 : Int32)), .val (.ref o57)] [(.long aa), (.int (1 : Int32)), (.ref o57)]))
    refine P59.xs (fun hA hx hy t k => XS.iconst hA hx rfl (hb hy d11_126) k) ?_
    show Go p e below _ (T59.setTop (mkF m 127 #[.val (.long aa), .second, .val (.int (4 : Int32)), .val (.ref o57)] [(.int (1 : Int32)), (.long aa), (.int (1 : Int32)), (.ref o57)]))
    refine P59.callS (hw _ (List.mem_of_getElem? (i := 74) rfl)) (hw _ (List.mem_of_getElem? (i := 75) rfl)) (hw _ (List.mem_of_getElem? (i := 72) rfl)) (hw _ (List.mem_of_getElem? (i := 76) rfl)) (by decide) (mAt l Z a0 hw hEL zc S0 Pz w_CLASS s_CLASS S_CLASS E_CLASS F_CLASS X_CLASS w_PROPERTY s_PROPERTY S_PROPERTY E_PROPERTY F_PROPERTY X_PROPERTY w_V k_V S_V E_V A_V aa (1 : Int32) h59 P59.old) (W := 2) (by decide) (by decide) (by decide) (by decide) all0 pd_2 (argsL := [(.long aa), (.int (1 : Int32))]) rfl rfl rfl (Nat.le_of_eq rfl) d11_127 fun v60 T60 h60 P60 K60 Q60 => ?_
    obtain ⟨ch60, rfl, lch60, nch60, hh60⟩ := Q60
    rw [hh60] at P60
    show Go p e below _ (T60.setTop (mkF m 130 #[.val (.long aa), .second, .val (.int (4 : Int32)), .val (.ref o57)] [(.int ch60), (.int (1 : Int32)), (.ref o57)]))
    refine P60.stC Va59 1 (by decide) (by decide) (by decide) (Nat.le_of_ble_eq_true rfl) (x' := ch60) nch60 d11_130 gz_o57 (Or.inr gw_o57) fun T61 h61 P61 W61 V61 => ?_
    have Va61 : Arv Z h61 o57 k57 .char (4 : Int32) [(.int ch58), (.int ch60), (.int (0 : Int32)), (.int (0 : Int32))] (.int (0 : Int32)) := V61
    show Go p e below _ (T61.setTop (mkF m 131 #[.val (.long aa), .second, .val (.int (4 : Int32)), .val (.ref o57)] []))
    refine P61.xs (fun hA hx hy t k => XS.aloadN hA hx rfl (hb hy d11_131) rfl rfl  k) ?_
    show Go p e below _ (T61.setTop (mkF m 132 #[.val (.long aa), .second, .val (.int (4 : Int32)), .val (.ref o57)] [(.ref o57)]))
    refine P61.alen Va61 d11_132 ?_
    show Go p e below _ (T61.setTop (mkF m 133 #[.val (.long aa), .second, .val (.int (4 : Int32)), .val (.ref o57)] [(.int (4 : Int32))]))
    refine P61.xs (fun hA hx hy t k => XS.iconst hA hx rfl (hb hy d11_133) k) ?_
    show Go p e below _ (T61.setTop (mkF m 134 #[.val (.long aa), .second, .val (.int (4 : Int32)), .val (.ref o57)] [(.int (2 : Int32)), (.int (4 : Int32))]))
    refine P61.xs (fun hA hx hy t k => XS.icmpNo hA hx rfl (hb hy d11_134) rfl (tlt (by decide)).2.2.2 k) ?_
    show Go p e below _ (T61.setTop (mkF m 137 #[.val (.long aa), .second, .val (.int (4 : Int32)), .val (.ref o57)] []))
    refine P61.xs (fun hA hx hy t k => XS.aloadN hA hx rfl (hb hy d11_137) rfl rfl  k) ?_
    show Go p e below _ (T61.setTop (mkF m 138 #[.val (.long aa), .second, .val (.int (4 : Int32)), .val (.ref o57)] [(.ref o57)]))
    refine P61.xs (fun hA hx hy t k => XS.iconst hA hx rfl (hb hy d11_138) k) ?_
    show Go p e below _ (T61.setTop (mkF m 139 #[.val (.long aa), .second, .val (.int (4 : Int32)), .val (.ref o57)] [(.int (2 : Int32)), (.ref o57)]))
    refine P61.xs (fun hA hx hy t k => XS.lloadN hA hx rfl (hb hy d11_139) rfl  k) ?_
    show Go p e below _ (T61.setTop (mkF m 140 #[.val (.long aa), .second, .val (.int (4 : Int32)), .val (.ref o57)] [(.long aa), (.int (2 : Int32)), (.ref o57)]))
    refine P61.xs (fun hA hx hy t k => XS.iconst hA hx rfl (hb hy d11_140) k) ?_
    show Go p e below _ (T61.setTop (mkF m 141 #[.val (.long aa), .second, .val (.int (4 : Int32)), .val (.ref o57)] [(.int (2 : Int32)), (.long aa), (.int (2 : Int32)), (.ref o57)]))
    refine P61.callS (hw _ (List.mem_of_getElem? (i := 74) rfl)) (hw _ (List.mem_of_getElem? (i := 75) rfl)) (hw _ (List.mem_of_getElem? (i := 72) rfl)) (hw _ (List.mem_of_getElem? (i := 76) rfl)) (by decide) (mAt l Z a0 hw hEL zc S0 Pz w_CLASS s_CLASS S_CLASS E_CLASS F_CLASS X_CLASS w_PROPERTY s_PROPERTY S_PROPERTY E_PROPERTY F_PROPERTY X_PROPERTY w_V k_V S_V E_V A_V aa (2 : Int32) h61 P61.old) (W := 2) (by decide) (by decide) (by decide) (by decide) all0 pd_2 (argsL := [(.long aa), (.int (2 : Int32))]) rfl rfl rfl (Nat.le_of_eq rfl) d11_141 fun v62 T62 h62 P62 K62 Q62 => ?_
    obtain ⟨ch62, rfl, lch62, nch62, hh62⟩ := Q62
    rw [hh62] at P62
    show Go p e below _ (T62.setTop (mkF m 144 #[.val (.long aa), .second, .val (.int (4 : Int32)), .val (.ref o57)] [(.int ch62), (.int (2 : Int32)), (.ref o57)]))
    refine P62.stC Va61 2 (by decide) (by decide) (by decide) (Nat.le_of_ble_eq_true rfl) (x' := ch62) nch62 d11_144 gz_o57 (Or.inr gw_o57) fun T63 h63 P63 W63 V63 => ?_
    have Va63 : Arv Z h63 o57 k57 .char (4 : Int32) [(.int ch58), (.int ch60), (.int ch62), (.int (0 : Int32))] (.int (0 : Int32)) := V63
    show Go p e below _ (T63.setTop (mkF m 145 #[.val (.long aa), .second, .val (.int (4 : Int32)), .val (.ref o57)] []))
    refine P63.xs (fun hA hx hy t k => XS.aloadN hA hx rfl (hb hy d11_145) rfl rfl  k) ?_
    show Go p e below _ (T63.setTop (mkF m 146 #[.val (.long aa), .second, .val (.int (4 : Int32)), .val (.ref o57)] [(.ref o57)]))
    refine P63.alen Va63 d11_146 ?_
    show Go p e below _ (T63.setTop (mkF m 147 #[.val (.long aa), .second, .val (.int (4 : Int32)), .val (.ref o57)] [(.int (4 : Int32))]))
    refine P63.xs (fun hA hx hy t k => XS.iconst hA hx rfl (hb hy d11_147) k) ?_
    show Go p e below _ (T63.setTop (mkF m 148 #[.val (.long aa), .second, .val (.int (4 : Int32)), .val (.ref o57)] [(.int (3 : Int32)), (.int (4 : Int32))]))
    refine P63.xs (fun hA hx hy t k => XS.icmpNo hA hx rfl (hb hy d11_148) rfl (tlt (by decide)).2.2.2 k) ?_
    show Go p e below _ (T63.setTop (mkF m 151 #[.val (.long aa), .second, .val (.int (4 : Int32)), .val (.ref o57)] []))
    refine P63.xs (fun hA hx hy t k => XS.aloadN hA hx rfl (hb hy d11_151) rfl rfl  k) ?_
    show Go p e below _ (T63.setTop (mkF m 152 #[.val (.long aa), .second, .val (.int (4 : Int32)), .val (.ref o57)] [(.ref o57)]))
    refine P63.xs (fun hA hx hy t k => XS.iconst hA hx rfl (hb hy d11_152) k) ?_
    show Go p e below _ (T63.setTop (mkF m 153 #[.val (.long aa), .second, .val (.int (4 : Int32)), .val (.ref o57)] [(.int (3 : Int32)), (.ref o57)]))
    refine P63.xs (fun hA hx hy t k => XS.lloadN hA hx rfl (hb hy d11_153) rfl  k) ?_
    show Go p e below _ (T63.setTop (mkF m 154 #[.val (.long aa), .second, .val (.int (4 : Int32)), .val (.ref o57)] [(.long aa), (.int (3 : Int32)), (.ref o57)]))
    refine P63.xs (fun hA hx hy t k => XS.iconst hA hx rfl (hb hy d11_154) k) ?_
    show Go p e below _ (T63.setTop (mkF m 155 #[.val (.long aa), .second, .val (.int (4 : Int32)), .val (.ref o57)] [(.int (3 : Int32)), (.long aa), (.int (3 : Int32)), (.ref o57)]))
    refine P63.callS (hw _ (List.mem_of_getElem? (i := 74) rfl)) (hw _ (List.mem_of_getElem? (i := 75) rfl)) (hw _ (List.mem_of_getElem? (i := 72) rfl)) (hw _ (List.mem_of_getElem? (i := 76) rfl)) (by decide) (mAt l Z a0 hw hEL zc S0 Pz w_CLASS s_CLASS S_CLASS E_CLASS F_CLASS X_CLASS w_PROPERTY s_PROPERTY S_PROPERTY E_PROPERTY F_PROPERTY X_PROPERTY w_V k_V S_V E_V A_V aa (3 : Int32) h63 P63.old) (W := 2) (by decide) (by decide) (by decide) (by decide) all0 pd_2 (argsL := [(.long aa), (.int (3 : Int32))]) rfl rfl rfl (Nat.le_of_eq rfl) d11_155 fun v64 T64 h64 P64 K64 Q64 => ?_
    obtain ⟨ch64, rfl, lch64, nch64, hh64⟩ := Q64
    rw [hh64] at P64
    show Go p e below _ (T64.setTop (mkF m 158 #[.val (.long aa), .second, .val (.int (4 : Int32)), .val (.ref o57)] [(.int ch64), (.int (3 : Int32)), (.ref o57)]))
    refine P64.stC Va63 3 (by decide) (by decide) (by decide) (Nat.le_of_ble_eq_true rfl) (x' := ch64) nch64 d11_158 gz_o57 (Or.inr gw_o57) fun T65 h65 P65 W65 V65 => ?_
    have Va65 : Arv Z h65 o57 k57 .char (4 : Int32) [(.int ch58), (.int ch60), (.int ch62), (.int ch64)] (.int (0 : Int32)) := V65
    show Go p e below _ (T65.setTop (mkF m 159 #[.val (.long aa), .second, .val (.int (4 : Int32)), .val (.ref o57)] []))
    refine P65.xs (fun hA hx hy t k => XS.aloadN hA hx rfl (hb hy d11_159) rfl rfl  k) ?_
    show Go p e below _ (T65.setTop (mkF m 160 #[.val (.long aa), .second, .val (.int (4 : Int32)), .val (.ref o57)] [(.ref o57)]))
    refine P65.alen Va65 d11_160 ?_
    show Go p e below _ (T65.setTop (mkF m 161 #[.val (.long aa), .second, .val (.int (4 : Int32)), .val (.ref o57)] [(.int (4 : Int32))]))
    refine P65.xs (fun hA hx hy t k => XS.iconst hA hx rfl (hb hy d11_161) k) ?_
    show Go p e below _ (T65.setTop (mkF m 162 #[.val (.long aa), .second, .val (.int (4 : Int32)), .val (.ref o57)] [(.int (4 : Int32)), (.int (4 : Int32))]))
    refine P65.xs (fun hA hx hy t k => XS.icmpYes hA hx rfl (pc0 := 162) (pc' := 173) rfl (hb hy d11_162) rfl (flt (by decide)).2.2.2 (by decide) (by decide) k) ?_
    show Go p e below _ (T65.setTop (mkF m 173 #[.val (.long aa), .second, .val (.int (4 : Int32)), .val (.ref o57)] []))
    refine P65.xs (fun hA hx hy t k => XS.aloadN hA hx rfl (hb hy d11_173) rfl rfl  k) ?_
    show Go p e below _ (T65.setTop (mkF m 174 #[.val (.long aa), .second, .val (.int (4 : Int32)), .val (.ref o57)] [(.ref o57)]))
    refine P65.alen Va65 d11_174 ?_
    show Go p e below _ (T65.setTop (mkF m 175 #[.val (.long aa), .second, .val (.int (4 : Int32)), .val (.ref o57)] [(.int (4 : Int32))]))
    refine P65.xs (fun hA hx hy t k => XS.iconst hA hx rfl (hb hy d11_175) k) ?_
    show Go p e below _ (T65.setTop (mkF m 176 #[.val (.long aa), .second, .val (.int (4 : Int32)), .val (.ref o57)] [(.int (5 : Int32)), (.int (4 : Int32))]))
    refine P65.xs (fun hA hx hy t k => XS.icmpYes hA hx rfl (pc0 := 176) (pc' := 187) rfl (hb hy d11_176) rfl (flt (by decide)).2.2.2 (by decide) (by decide) k) ?_
    show Go p e below _ (T65.setTop (mkF m 187 #[.val (.long aa), .second, .val (.int (4 : Int32)), .val (.ref o57)] []))
    refine P65.xs (fun hA hx hy t k => XS.aloadN hA hx rfl (hb hy d11_187) rfl rfl  k) ?_
    show Go p e below _ (T65.setTop (mkF m 188 #[.val (.long aa), .second, .val (.int (4 : Int32)), .val (.ref o57)] [(.ref o57)]))
    refine P65.alen Va65 d11_188 ?_
    show Go p e below _ (T65.setTop (mkF m 189 #[.val (.long aa), .second, .val (.int (4 : Int32)), .val (.ref o57)] [(.int (4 : Int32))]))
    refine P65.xs (fun hA hx hy t k => XS.bipush hA hx rfl (hb hy d11_189) k) ?_
    show Go p e below _ (T65.setTop (mkF m 191 #[.val (.long aa), .second, .val (.int (4 : Int32)), .val (.ref o57)] [(.int (6 : Int32)), (.int (4 : Int32))]))
    refine P65.xs (fun hA hx hy t k => XS.icmpYes hA hx rfl (pc0 := 191) (pc' := 204) rfl (hb hy d11_191) rfl (flt (by decide)).2.2.2 (by decide) (by decide) k) ?_
    show Go p e below _ (T65.setTop (mkF m 204 #[.val (.long aa), .second, .val (.int (4 : Int32)), .val (.ref o57)] []))
    refine P65.xs (fun hA hx hy t k => XS.aloadN hA hx rfl (hb hy d11_204) rfl rfl  k) ?_
    show Go p e below _ (T65.setTop (mkF m 205 #[.val (.long aa), .second, .val (.int (4 : Int32)), .val (.ref o57)] [(.ref o57)]))
    refine P65.alen Va65 d11_205 ?_
    show Go p e below _ (T65.setTop (mkF m 206 #[.val (.long aa), .second, .val (.int (4 : Int32)), .val (.ref o57)] [(.int (4 : Int32))]))
    refine P65.xs (fun hA hx hy t k => XS.bipush hA hx rfl (hb hy d11_206) k) ?_
    show Go p e below _ (T65.setTop (mkF m 208 #[.val (.long aa), .second, .val (.int (4 : Int32)), .val (.ref o57)] [(.int (7 : Int32)), (.int (4 : Int32))]))
    refine P65.xs (fun hA hx hy t k => XS.icmpYes hA hx rfl (pc0 := 208) (pc' := 221) rfl (hb hy d11_208) rfl (flt (by decide)).2.2.2 (by decide) (by decide) k) ?_
    show Go p e below _ (T65.setTop (mkF m 221 #[.val (.long aa), .second, .val (.int (4 : Int32)), .val (.ref o57)] []))
    refine P65.newO (hw _ (List.mem_of_getElem? (i := 2) rfl)) (hw _ (List.mem_of_getElem? (i := 3) rfl)) (hw _ (List.mem_of_getElem? (i := 4) rfl)) d11_221 (by decide) (by decide) fun T66 h66 o66 g66 P66 E66 A66 D66 => ?_
    have ne_o57_o66 : o57 ≠ o66 := Nat.ne_of_lt (Nat.lt_of_lt_of_le Va65.lt (Nat.le_of_eq g66.symm))
    have gz_o66 : Z.heap.size ≤ o66 := Nat.le_trans P65.old.1 (Nat.le_of_eq g66.symm)
    have gw_o66 : h0.size ≤ o66 := Nat.le_trans P65.kept.1 (Nat.le_of_eq g66.symm)
    have F66_coder : Fld Z h66 o66 "java/lang/String" "coder" "B" (.int (0 : Int32)) := D66 (Or.inr (hw _ (List.mem_of_getElem? (i := 28) rfl))) (ty := .byte) (by decide)
    have F66_value : Fld Z h66 o66 "java/lang/String" "value" "[B" .null := D66 (Or.inr (hw _ (List.mem_of_getElem? (i := 30) rfl))) (ty := (.array .byte)) (by decide)
    show Go p e below _ (T66.setTop (mkF m 224 #[.val (.long aa), .second, .val (.int (4 : Int32)), .val (.ref o57)] [(.ref o66)]))
    refine P66.xs (fun hA hx hy t k => XS.dup hA hx rfl (hb hy d11_224) rfl rfl k) ?_
    show Go p e below _ (T66.setTop (mkF m 225 #[.val (.long aa), .second, .val (.int (4 : Int32)), .val (.ref o57)] [(.ref o66), (.ref o66)]))
    refine P66.xs (fun hA hx hy t k => XS.aloadN hA hx rfl (hb hy d11_225) rfl rfl  k) ?_
    show Go p e below _ (T66.setTop (mkF m 226 #[.val (.long aa), .second, .val (.int (4 : Int32)), .val (.ref o57)] [(.ref o57), (.ref o66), (.ref o66)]))
    have Ac67 : Arv Z h66 o57 k57 .char (4 : Int32) [(.int ch58), (.int ch60), (.int ch62), (.int ch64)] (.int (0 : Int32)) := (Va65.ext E66)
    refine P66.specB (W := 1) (ws' := [o66]) rfl (hw _ (List.mem_of_getElem? (i := 5) rfl)) (hw _ (List.mem_of_getElem? (i := 6) rfl)) (hw _ (List.mem_of_getElem? (i := 7) rfl)) (by decide) (fun vm0 hZ => StrChars.Road.backV (W := 1) hZ (wStr hw) (kI := 4) (hw _ (List.mem_of_getElem? (i := 3) rfl)) (cs := ([ch58, ch60, ch62, ch64] : List Int32)) (bs := ([ch58, ch60, ch62, ch64] : List Int32).map (fun c => c.toInt8.toInt32)) (n := 4) gz_o66 P66.old.1 A66 F66_value F66_coder Ac67 (S0.ext P66.old) Pz rfl rfl (by decide) (by decide) (latS lch58 (latS lch60 (latS lch62 (latS lch64 lat0)))) rfl (by decide) (by decide)) rfl (fun v h' L q => ⟨q.2.1, q.2.2.1⟩) (by decide) (by decide) (allS ⟨(Or.inr gw_o66), gz_o66⟩ all0) (fun vm hs hal hr => safe1 (safeNull hal A66 F66_value)) pd_1 (argsL := [(.ref o57)]) rfl rfl rfl (Nat.le_of_eq rfl) d11_226 fun v68 T68 h68 L68 P68 Q68 => ?_
    obtain ⟨rfl, N68, K68, E68, C68, b68, k68, gb68, gc68, gd68, V68, B68⟩ := Q68
    show Go p e below _ (T68.setTop (mkF m 229 #[.val (.long aa), .second, .val (.int (4 : Int32)), .val (.ref o57)] [(.ref o66)]))
    have Ac69 : Arv Z h68 o57 k57 .char (4 : Int32) [(.int ch58), (.int ch60), (.int ch62), (.int ch64)] (.int (0 : Int32)) := (Ac67.keep K68 (ninS ne_o57_o66 nin0))
    exact P68.retR rfl rfl rfl d11_229 (by decide) (by decide) ⟨o66, ([ch58, ch60, ch62, ch64] : List Int32), rfl, gw_o66, (strOf (n := 4) rfl (latS lch58 (latS lch60 (latS lch62 (latS lch64 lat0)))) (by decide) E68 C68 V68 B68)⟩
  · show Go p e below _ (s₁.setTop (mkF m 0 #[.val (.long aa), .second, .val (.int (5 : Int32)), .unset] []))
    refine P0.xs (fun hA hx hy t k => XS.iloadN hA hx rfl (hb hy d11_0) rfl  k) ?_
    show Go p e below _ (s₁.setTop (mkF m 1 #[.val (.long aa), .second, .val (.int (5 : Int32)), .unset] [(.int (5 : Int32))]))
    refine P0.xs (fun hA hx hy t k => XS.ifYes hA hx rfl (pc0 := 1) (pc' := 11) rfl (hb hy d11_1) rfl ((if0 _ _).trans (feq (by decide)).2) (by decide) (by decide) k) ?_
    show Go p e below _ (s₁.setTop (mkF m 11 #[.val (.long aa), .second, .val (.int (5 : Int32)), .unset] []))
    refine P0.xs (fun hA hx hy t k => XS.iloadN hA hx rfl (hb hy d11_11) rfl  k) ?_
    show Go p e below _ (s₁.setTop (mkF m 12 #[.val (.long aa), .second, .val (.int (5 : Int32)), .unset] [(.int (5 : Int32))]))
    refine P0.xs (fun hA hx hy t k => XS.iconst hA hx rfl (hb hy d11_12) k) ?_
    show Go p e below _ (s₁.setTop (mkF m 13 #[.val (.long aa), .second, .val (.int (5 : Int32)), .unset] [(.int (1 : Int32)), (.int (5 : Int32))]))
    refine P0.xs (fun hA hx hy t k => XS.icmpYes hA hx rfl (pc0 := 13) (pc' := 23) rfl (hb hy d11_13) rfl (feq (by decide)).2 (by decide) (by decide) k) ?_
    show Go p e below _ (s₁.setTop (mkF m 23 #[.val (.long aa), .second, .val (.int (5 : Int32)), .unset] []))
    refine P0.xs (fun hA hx hy t k => XS.iloadN hA hx rfl (hb hy d11_23) rfl  k) ?_
    show Go p e below _ (s₁.setTop (mkF m 24 #[.val (.long aa), .second, .val (.int (5 : Int32)), .unset] [(.int (5 : Int32))]))
    refine P0.xs (fun hA hx hy t k => XS.iconst hA hx rfl (hb hy d11_24) k) ?_
    show Go p e below _ (s₁.setTop (mkF m 25 #[.val (.long aa), .second, .val (.int (5 : Int32)), .unset] [(.int (2 : Int32)), (.int (5 : Int32))]))
    refine P0.xs (fun hA hx hy t k => XS.icmpYes hA hx rfl (pc0 := 25) (pc' := 35) rfl (hb hy d11_25) rfl (feq (by decide)).2 (by decide) (by decide) k) ?_
    show Go p e below _ (s₁.setTop (mkF m 35 #[.val (.long aa), .second, .val (.int (5 : Int32)), .unset] []))
    refine P0.xs (fun hA hx hy t k => XS.iloadN hA hx rfl (hb hy d11_35) rfl  k) ?_
    show Go p e below _ (s₁.setTop (mkF m 36 #[.val (.long aa), .second, .val (.int (5 : Int32)), .unset] [(.int (5 : Int32))]))
    refine P0.xs (fun hA hx hy t k => XS.iconst hA hx rfl (hb hy d11_36) k) ?_
    show Go p e below _ (s₁.setTop (mkF m 37 #[.val (.long aa), .second, .val (.int (5 : Int32)), .unset] [(.int (3 : Int32)), (.int (5 : Int32))]))
    refine P0.xs (fun hA hx hy t k => XS.icmpYes hA hx rfl (pc0 := 37) (pc' := 47) rfl (hb hy d11_37) rfl (feq (by decide)).2 (by decide) (by decide) k) ?_
    show Go p e below _ (s₁.setTop (mkF m 47 #[.val (.long aa), .second, .val (.int (5 : Int32)), .unset] []))
    refine P0.xs (fun hA hx hy t k => XS.iloadN hA hx rfl (hb hy d11_47) rfl  k) ?_
    show Go p e below _ (s₁.setTop (mkF m 48 #[.val (.long aa), .second, .val (.int (5 : Int32)), .unset] [(.int (5 : Int32))]))
    refine P0.xs (fun hA hx hy t k => XS.iconst hA hx rfl (hb hy d11_48) k) ?_
    show Go p e below _ (s₁.setTop (mkF m 49 #[.val (.long aa), .second, .val (.int (5 : Int32)), .unset] [(.int (4 : Int32)), (.int (5 : Int32))]))
    refine P0.xs (fun hA hx hy t k => XS.icmpYes hA hx rfl (pc0 := 49) (pc' := 59) rfl (hb hy d11_49) rfl (feq (by decide)).2 (by decide) (by decide) k) ?_
    show Go p e below _ (s₁.setTop (mkF m 59 #[.val (.long aa), .second, .val (.int (5 : Int32)), .unset] []))
    refine P0.xs (fun hA hx hy t k => XS.iloadN hA hx rfl (hb hy d11_59) rfl  k) ?_
    show Go p e below _ (s₁.setTop (mkF m 60 #[.val (.long aa), .second, .val (.int (5 : Int32)), .unset] [(.int (5 : Int32))]))
    refine P0.xs (fun hA hx hy t k => XS.iconst hA hx rfl (hb hy d11_60) k) ?_
    show Go p e below _ (s₁.setTop (mkF m 61 #[.val (.long aa), .second, .val (.int (5 : Int32)), .unset] [(.int (5 : Int32)), (.int (5 : Int32))]))
    refine P0.xs (fun hA hx hy t k => XS.icmpNo hA hx rfl (hb hy d11_61) rfl (teq (by decide)).2 k) ?_
    show Go p e below _ (s₁.setTop (mkF m 64 #[.val (.long aa), .second, .val (.int (5 : Int32)), .unset] []))
    refine P0.xs (fun hA hx hy t k => XS.iconst hA hx rfl (hb hy d11_64) k) ?_
    show Go p e below _ (s₁.setTop (mkF m 65 #[.val (.long aa), .second, .val (.int (5 : Int32)), .unset] [(.int (5 : Int32))]))
    refine P0.newP (aty := .char) (hw _ (List.mem_of_getElem? (i := 1) rfl)) d11_65 (by decide) (cap := 5) (by decide) (by decide) (by decide) (by decide) fun T70 h70 o70 k70 g70 P70 E70 A70 => ?_
    have gz_o70 : Z.heap.size ≤ o70 := Nat.le_trans P0.old.1 (Nat.le_of_eq g70.symm)
    have gw_o70 : h0.size ≤ o70 := Nat.le_trans P0.kept.1 (Nat.le_of_eq g70.symm)
    have V70 : Arv Z h70 o70 k70 .char (5 : Int32) [(.int (0 : Int32)), (.int (0 : Int32)), (.int (0 : Int32)), (.int (0 : Int32)), (.int (0 : Int32))] (.int (0 : Int32)) := Arv.pad A70 (pad_rep [] (.int (0 : Int32)) 5)
    show Go p e below _ (T70.setTop (mkF m 67 #[.val (.long aa), .second, .val (.int (5 : Int32)), .unset] [(.ref o70)]))
    refine P70.xs (fun hA hx hy t k => XS.astoreN hA hx rfl (hb hy d11_67) rfl rfl (l' := #[.val (.long aa), .second, .val (.int (5 : Int32)), .val (.ref o70)]) rfl k) ?_
    show Go p e below _ (T70.setTop (mkF m 68 #[.val (.long aa), .second, .val (.int (5 : Int32)), .val (.ref o70)] []))
    refine P70.xs (fun hA hx hy t k => XS.goto hA hx rfl (pc0 := 68) (pc' := 104) rfl (hb hy d11_68) (by decide) (by decide) k) ?_
    show Go p e below _ (T70.setTop (mkF m 104 #[.val (.long aa), .second, .val (.int (5 : Int32)), .val (.ref o70)] []))
    refine P70.xs (fun hA hx hy t k => XS.aloadN hA hx rfl (hb hy d11_104) rfl rfl  k) ?_
    show Go p e below _ (T70.setTop (mkF m 105 #[.val (.long aa), .second, .val (.int (5 : Int32)), .val (.ref o70)] [(.ref o70)]))
    refine P70.alen V70 d11_105 ?_
    show Go p e below _ (T70.setTop (mkF m 106 #[.val (.long aa), .second, .val (.int (5 : Int32)), .val (.ref o70)] [(.int (5 : Int32))]))
    refine P70.xs (fun hA hx hy t k => XS.ifNo hA hx rfl (hb hy d11_106) rfl ((if0 _ _).trans (tlt (by decide)).2.2.2) k) ?_
    show Go p e below _ (T70.setTop (mkF m 109 #[.val (.long aa), .second, .val (.int (5 : Int32)), .val (.ref o70)] []))
    refine P70.xs (fun hA hx hy t k => XS.aloadN hA hx rfl (hb hy d11_109) rfl rfl  k) ?_
    show Go p e below _ (T70.setTop (mkF m 110 #[.val (.long aa), .second, .val (.int (5 : Int32)), .val (.ref o70)] [(.ref o70)]))
    refine P70.xs (fun hA hx hy t k => XS.iconst hA hx rfl (hb hy d11_110) k) ?_
    show Go p e below _ (T70.setTop (mkF m 111 #[.val (.long aa), .second, .val (.int (5 : Int32)), .val (.ref o70)] [(.int (0 : Int32)), (.ref o70)]))
    refine P70.xs (fun hA hx hy t k => XS.lloadN hA hx rfl (hb hy d11_111) rfl  k) ?_
    show Go p e below _ (T70.setTop (mkF m 112 #[.val (.long aa), .second, .val (.int (5 : Int32)), .val (.ref o70)] [(.long aa), (.int (0 : Int32)), (.ref o70)]))
    refine P70.xs (fun hA hx hy t k => XS.iconst hA hx rfl (hb hy d11_112) k) ?_
    show Go p e below _ (T70.setTop (mkF m 113 #[.val (.long aa), .second, .val (.int (5 : Int32)), .val (.ref o70)] [(.int (0 : Int32)), (.long aa), (.int (0 : Int32)), (.ref o70)]))
    refine P70.callS (hw _ (List.mem_of_getElem? (i := 74) rfl)) (hw _ (List.mem_of_getElem? (i := 75) rfl)) (hw _ (List.mem_of_getElem? (i := 72) rfl)) (hw _ (List.mem_of_getElem? (i := 76) rfl)) (by decide) (mAt l Z a0 hw hEL zc S0 Pz w_CLASS s_CLASS S_CLASS E_CLASS F_CLASS X_CLASS w_PROPERTY s_PROPERTY S_PROPERTY E_PROPERTY F_PROPERTY X_PROPERTY w_V k_V S_V E_V A_V aa (0 : Int32) h70 P70.old) (W := 2) (by decide) (by decide) (by decide) (by decide) all0 pd_2 (argsL := [(.long aa), (.int (0 : Int32))]) rfl rfl rfl (Nat.le_of_eq rfl) d11_113 fun v71 T71 h71 P71 K71 Q71 => ?_
    obtain ⟨ch71, rfl, lch71, nch71, hh71⟩ := Q71
    rw [hh71] at P71
    show Go p e below _ (T71.setTop (mkF m 116 #[.val (.long aa), .second, .val (.int (5 : Int32)), .val (.ref o70)] [(.int ch71), (.int (0 : Int32)), (.ref o70)]))
    refine P71.stC V70 0 (by decide) (by decide) (by decide) (Nat.le_of_ble_eq_true rfl) (x' := ch71) nch71 d11_116 gz_o70 (Or.inr gw_o70) fun T72 h72 P72 W72 V72 => ?_
    have Va72 : Arv Z h72 o70 k70 .char (5 : Int32) [(.int ch71), (.int (0 : Int32)), (.int (0 : Int32)), (.int (0 : Int32)), (.int (0 : Int32))] (.int (0 : Int32)) := V72
    show Go p e below _ (T72.setTop (mkF m 117 #[.val (.long aa), .second, .val (.int (5 : Int32)), .val (.ref o70)] []))
    refine P72.xs (fun hA hx hy t k => XS.aloadN hA hx rfl (hb hy d11_117) rfl rfl  k) ?_
    show Go p e below _ (T72.setTop (mkF m 118 #[.val (.long aa), .second, .val (.int (5 : Int32)), .val (.ref o70)] [(.ref o70)]))
    refine P72.alen Va72 d11_118 ?_
    show Go p e below _ (T72.setTop (mkF m 119 #[.val (.long aa), .second, .val (.int (5 : Int32)), .val (.ref o70)] [(.int (5 : Int32))]))
    refine P72.xs (fun hA hx hy t k => XS.iconst hA hx rfl (hb hy d11_119) k) ?_
    show Go p e below _ (T72.setTop (mkF m 120 #[.val (.long aa), .second, .val (.int (5 : Int32)), .val (.ref o70)] [(.int (1 : Int32)), (.int (5 : Int32))]))
    refine P72.xs (fun hA hx hy t k => XS.icmpNo hA hx rfl (hb hy d11_120) rfl (tlt (by decide)).2.2.2 k) ?_
    show Go p e below _ (T72.setTop (mkF m 123 #[.val (.long aa), .second, .val (.int (5 : Int32)), .val (.ref o70)] []))
    refine P72.xs (fun hA hx hy t k => XS.aloadN hA hx rfl (hb hy d11_123) rfl rfl  k) ?_
    show Go p e below _ (T72.setTop (mkF m 124 #[.val (.long aa), .second, .val (.int (5 : Int32)), .val (.ref o70)] [(.ref o70)]))
    refine P72.xs (fun hA hx hy t k => XS.iconst hA hx rfl (hb hy d11_124) k) ?_
    show Go p e below _ (T72.setTop (mkF m 125 #[.val (.long aa), .second, .val (.int (5 : Int32)), .val (.ref o70)] [(.int (1 : Int32)), (.ref o70)]))
    refine P72.xs (fun hA hx hy t k => XS.lloadN hA hx rfl (hb hy d11_125) rfl  k) ?_
    show Go p e below _ (T72.setTop (mkF m 126 #[.val (.long aa), .second, .val (.int (5 : Int32)), .val (.ref o70)] [(.long aa), (.int (1 : Int32)), (.ref o70)]))
    refine P72.xs (fun hA hx hy t k => XS.iconst hA hx rfl (hb hy d11_126) k) ?_
    show Go p e below _ (T72.setTop (mkF m 127 #[.val (.long aa), .second, .val (.int (5 : Int32)), .val (.ref o70)] [(.int (1 : Int32)), (.long aa), (.int (1 : Int32)), (.ref o70)]))
    refine P72.callS (hw _ (List.mem_of_getElem? (i := 74) rfl)) (hw _ (List.mem_of_getElem? (i := 75) rfl)) (hw _ (List.mem_of_getElem? (i := 72) rfl)) (hw _ (List.mem_of_getElem? (i := 76) rfl)) (by decide) (mAt l Z a0 hw hEL zc S0 Pz w_CLASS s_CLASS S_CLASS E_CLASS F_CLASS X_CLASS w_PROPERTY s_PROPERTY S_PROPERTY E_PROPERTY F_PROPERTY X_PROPERTY w_V k_V S_V E_V A_V aa (1 : Int32) h72 P72.old) (W := 2) (by decide) (by decide) (by decide) (by decide) all0 pd_2 (argsL := [(.long aa), (.int (1 : Int32))]) rfl rfl rfl (Nat.le_of_eq rfl) d11_127 fun v73 T73 h73 P73 K73 Q73 => ?_
    obtain ⟨ch73, rfl, lch73, nch73, hh73⟩ := Q73
    rw [hh73] at P73
    show Go p e below _ (T73.setTop (mkF m 130 #[.val (.long aa), .second, .val (.int (5 : Int32)), .val (.ref o70)] [(.int ch73), (.int (1 : Int32)), (.ref o70)]))
    refine P73.stC Va72 1 (by decide) (by decide) (by decide) (Nat.le_of_ble_eq_true rfl) (x' := ch73) nch73 d11_130 gz_o70 (Or.inr gw_o70) fun T74 h74 P74 W74 V74 => ?_
    have Va74 : Arv Z h74 o70 k70 .char (5 : Int32) [(.int ch71), (.int ch73), (.int (0 : Int32)), (.int (0 : Int32)), (.int (0 : Int32))] (.int (0 : Int32)) := V74
    show Go p e below _ (T74.setTop (mkF m 131 #[.val (.long aa), .second, .val (.int (5 : Int32)), .val (.ref o70)] []))
    refine P74.xs (fun hA hx hy t k => XS.aloadN hA hx rfl (hb hy d11_131) rfl rfl  k) ?_
    show Go p e below _ (T74.setTop (mkF m 132 #[.val (.long aa), .second, .val (.int (5 : Int32)), .val (.ref o70)] [(.ref o70)]))
    refine P74.alen Va74 d11_132 ?_
    show Go p e below _ (T74.setTop (mkF m 133 #[.val (.long aa), .second, .val (.int (5 : Int32)), .val (.ref o70)] [(.int (5 : Int32))]))
    refine P74.xs (fun hA hx hy t k => XS.iconst hA hx rfl (hb hy d11_133) k) ?_
    show Go p e below _ (T74.setTop (mkF m 134 #[.val (.long aa), .second, .val (.int (5 : Int32)), .val (.ref o70)] [(.int (2 : Int32)), (.int (5 : Int32))]))
    refine P74.xs (fun hA hx hy t k => XS.icmpNo hA hx rfl (hb hy d11_134) rfl (tlt (by decide)).2.2.2 k) ?_
    show Go p e below _ (T74.setTop (mkF m 137 #[.val (.long aa), .second, .val (.int (5 : Int32)), .val (.ref o70)] []))
    refine P74.xs (fun hA hx hy t k => XS.aloadN hA hx rfl (hb hy d11_137) rfl rfl  k) ?_
    show Go p e below _ (T74.setTop (mkF m 138 #[.val (.long aa), .second, .val (.int (5 : Int32)), .val (.ref o70)] [(.ref o70)]))
    refine P74.xs (fun hA hx hy t k => XS.iconst hA hx rfl (hb hy d11_138) k) ?_
    show Go p e below _ (T74.setTop (mkF m 139 #[.val (.long aa), .second, .val (.int (5 : Int32)), .val (.ref o70)] [(.int (2 : Int32)), (.ref o70)]))
    refine P74.xs (fun hA hx hy t k => XS.lloadN hA hx rfl (hb hy d11_139) rfl  k) ?_
    show Go p e below _ (T74.setTop (mkF m 140 #[.val (.long aa), .second, .val (.int (5 : Int32)), .val (.ref o70)] [(.long aa), (.int (2 : Int32)), (.ref o70)]))
    refine P74.xs (fun hA hx hy t k => XS.iconst hA hx rfl (hb hy d11_140) k) ?_
    show Go p e below _ (T74.setTop (mkF m 141 #[.val (.long aa), .second, .val (.int (5 : Int32)), .val (.ref o70)] [(.int (2 : Int32)), (.long aa), (.int (2 : Int32)), (.ref o70)]))
    refine P74.callS (hw _ (List.mem_of_getElem? (i := 74) rfl)) (hw _ (List.mem_of_getElem? (i := 75) rfl)) (hw _ (List.mem_of_getElem? (i := 72) rfl)) (hw _ (List.mem_of_getElem? (i := 76) rfl)) (by decide) (mAt l Z a0 hw hEL zc S0 Pz w_CLASS s_CLASS S_CLASS E_CLASS F_CLASS X_CLASS w_PROPERTY s_PROPERTY S_PROPERTY E_PROPERTY F_PROPERTY X_PROPERTY w_V k_V S_V E_V A_V aa (2 : Int32) h74 P74.old) (W := 2) (by decide) (by decide) (by decide) (by decide) all0 pd_2 (argsL := [(.long aa), (.int (2 : Int32))]) rfl rfl rfl (Nat.le_of_eq rfl) d11_141 fun v75 T75 h75 P75 K75 Q75 => ?_
    obtain ⟨ch75, rfl, lch75, nch75, hh75⟩ := Q75
    rw [hh75] at P75
    show Go p e below _ (T75.setTop (mkF m 144 #[.val (.long aa), .second, .val (.int (5 : Int32)), .val (.ref o70)] [(.int ch75), (.int (2 : Int32)), (.ref o70)]))
    refine P75.stC Va74 2 (by decide) (by decide) (by decide) (Nat.le_of_ble_eq_true rfl) (x' := ch75) nch75 d11_144 gz_o70 (Or.inr gw_o70) fun T76 h76 P76 W76 V76 => ?_
    have Va76 : Arv Z h76 o70 k70 .char (5 : Int32) [(.int ch71), (.int ch73), (.int ch75), (.int (0 : Int32)), (.int (0 : Int32))] (.int (0 : Int32)) := V76
    show Go p e below _ (T76.setTop (mkF m 145 #[.val (.long aa), .second, .val (.int (5 : Int32)), .val (.ref o70)] []))
    refine P76.xs (fun hA hx hy t k => XS.aloadN hA hx rfl (hb hy d11_145) rfl rfl  k) ?_
    show Go p e below _ (T76.setTop (mkF m 146 #[.val (.long aa), .second, .val (.int (5 : Int32)), .val (.ref o70)] [(.ref o70)]))
    refine P76.alen Va76 d11_146 ?_
    show Go p e below _ (T76.setTop (mkF m 147 #[.val (.long aa), .second, .val (.int (5 : Int32)), .val (.ref o70)] [(.int (5 : Int32))]))
    refine P76.xs (fun hA hx hy t k => XS.iconst hA hx rfl (hb hy d11_147) k) ?_
    show Go p e below _ (T76.setTop (mkF m 148 #[.val (.long aa), .second, .val (.int (5 : Int32)), .val (.ref o70)] [(.int (3 : Int32)), (.int (5 : Int32))]))
    refine P76.xs (fun hA hx hy t k => XS.icmpNo hA hx rfl (hb hy d11_148) rfl (tlt (by decide)).2.2.2 k) ?_
    show Go p e below _ (T76.setTop (mkF m 151 #[.val (.long aa), .second, .val (.int (5 : Int32)), .val (.ref o70)] []))
    refine P76.xs (fun hA hx hy t k => XS.aloadN hA hx rfl (hb hy d11_151) rfl rfl  k) ?_
    show Go p e below _ (T76.setTop (mkF m 152 #[.val (.long aa), .second, .val (.int (5 : Int32)), .val (.ref o70)] [(.ref o70)]))
    refine P76.xs (fun hA hx hy t k => XS.iconst hA hx rfl (hb hy d11_152) k) ?_
    show Go p e below _ (T76.setTop (mkF m 153 #[.val (.long aa), .second, .val (.int (5 : Int32)), .val (.ref o70)] [(.int (3 : Int32)), (.ref o70)]))
    refine P76.xs (fun hA hx hy t k => XS.lloadN hA hx rfl (hb hy d11_153) rfl  k) ?_
    show Go p e below _ (T76.setTop (mkF m 154 #[.val (.long aa), .second, .val (.int (5 : Int32)), .val (.ref o70)] [(.long aa), (.int (3 : Int32)), (.ref o70)]))
    refine P76.xs (fun hA hx hy t k => XS.iconst hA hx rfl (hb hy d11_154) k) ?_
    show Go p e below _ (T76.setTop (mkF m 155 #[.val (.long aa), .second, .val (.int (5 : Int32)), .val (.ref o70)] [(.int (3 : Int32)), (.long aa), (.int (3 : Int32)), (.ref o70)]))
    refine P76.callS (hw _ (List.mem_of_getElem? (i := 74) rfl)) (hw _ (List.mem_of_getElem? (i := 75) rfl)) (hw _ (List.mem_of_getElem? (i := 72) rfl)) (hw _ (List.mem_of_getElem? (i := 76) rfl)) (by decide) (mAt l Z a0 hw hEL zc S0 Pz w_CLASS s_CLASS S_CLASS E_CLASS F_CLASS X_CLASS w_PROPERTY s_PROPERTY S_PROPERTY E_PROPERTY F_PROPERTY X_PROPERTY w_V k_V S_V E_V A_V aa (3 : Int32) h76 P76.old) (W := 2) (by decide) (by decide) (by decide) (by decide) all0 pd_2 (argsL := [(.long aa), (.int (3 : Int32))]) rfl rfl rfl (Nat.le_of_eq rfl) d11_155 fun v77 T77 h77 P77 K77 Q77 => ?_
    obtain ⟨ch77, rfl, lch77, nch77, hh77⟩ := Q77
    rw [hh77] at P77
    show Go p e below _ (T77.setTop (mkF m 158 #[.val (.long aa), .second, .val (.int (5 : Int32)), .val (.ref o70)] [(.int ch77), (.int (3 : Int32)), (.ref o70)]))
    refine P77.stC Va76 3 (by decide) (by decide) (by decide) (Nat.le_of_ble_eq_true rfl) (x' := ch77) nch77 d11_158 gz_o70 (Or.inr gw_o70) fun T78 h78 P78 W78 V78 => ?_
    have Va78 : Arv Z h78 o70 k70 .char (5 : Int32) [(.int ch71), (.int ch73), (.int ch75), (.int ch77), (.int (0 : Int32))] (.int (0 : Int32)) := V78
    show Go p e below _ (T78.setTop (mkF m 159 #[.val (.long aa), .second, .val (.int (5 : Int32)), .val (.ref o70)] []))
    refine P78.xs (fun hA hx hy t k => XS.aloadN hA hx rfl (hb hy d11_159) rfl rfl  k) ?_
    show Go p e below _ (T78.setTop (mkF m 160 #[.val (.long aa), .second, .val (.int (5 : Int32)), .val (.ref o70)] [(.ref o70)]))
    refine P78.alen Va78 d11_160 ?_
    show Go p e below _ (T78.setTop (mkF m 161 #[.val (.long aa), .second, .val (.int (5 : Int32)), .val (.ref o70)] [(.int (5 : Int32))]))
    refine P78.xs (fun hA hx hy t k => XS.iconst hA hx rfl (hb hy d11_161) k) ?_
    show Go p e below _ (T78.setTop (mkF m 162 #[.val (.long aa), .second, .val (.int (5 : Int32)), .val (.ref o70)] [(.int (4 : Int32)), (.int (5 : Int32))]))
    refine P78.xs (fun hA hx hy t k => XS.icmpNo hA hx rfl (hb hy d11_162) rfl (tlt (by decide)).2.2.2 k) ?_
    show Go p e below _ (T78.setTop (mkF m 165 #[.val (.long aa), .second, .val (.int (5 : Int32)), .val (.ref o70)] []))
    refine P78.xs (fun hA hx hy t k => XS.aloadN hA hx rfl (hb hy d11_165) rfl rfl  k) ?_
    show Go p e below _ (T78.setTop (mkF m 166 #[.val (.long aa), .second, .val (.int (5 : Int32)), .val (.ref o70)] [(.ref o70)]))
    refine P78.xs (fun hA hx hy t k => XS.iconst hA hx rfl (hb hy d11_166) k) ?_
    show Go p e below _ (T78.setTop (mkF m 167 #[.val (.long aa), .second, .val (.int (5 : Int32)), .val (.ref o70)] [(.int (4 : Int32)), (.ref o70)]))
    refine P78.xs (fun hA hx hy t k => XS.lloadN hA hx rfl (hb hy d11_167) rfl  k) ?_
    show Go p e below _ (T78.setTop (mkF m 168 #[.val (.long aa), .second, .val (.int (5 : Int32)), .val (.ref o70)] [(.long aa), (.int (4 : Int32)), (.ref o70)]))
    refine P78.xs (fun hA hx hy t k => XS.iconst hA hx rfl (hb hy d11_168) k) ?_
    show Go p e below _ (T78.setTop (mkF m 169 #[.val (.long aa), .second, .val (.int (5 : Int32)), .val (.ref o70)] [(.int (4 : Int32)), (.long aa), (.int (4 : Int32)), (.ref o70)]))
    refine P78.callS (hw _ (List.mem_of_getElem? (i := 74) rfl)) (hw _ (List.mem_of_getElem? (i := 75) rfl)) (hw _ (List.mem_of_getElem? (i := 72) rfl)) (hw _ (List.mem_of_getElem? (i := 76) rfl)) (by decide) (mAt l Z a0 hw hEL zc S0 Pz w_CLASS s_CLASS S_CLASS E_CLASS F_CLASS X_CLASS w_PROPERTY s_PROPERTY S_PROPERTY E_PROPERTY F_PROPERTY X_PROPERTY w_V k_V S_V E_V A_V aa (4 : Int32) h78 P78.old) (W := 2) (by decide) (by decide) (by decide) (by decide) all0 pd_2 (argsL := [(.long aa), (.int (4 : Int32))]) rfl rfl rfl (Nat.le_of_eq rfl) d11_169 fun v79 T79 h79 P79 K79 Q79 => ?_
    obtain ⟨ch79, rfl, lch79, nch79, hh79⟩ := Q79
    rw [hh79] at P79
    show Go p e below _ (T79.setTop (mkF m 172 #[.val (.long aa), .second, .val (.int (5 : Int32)), .val (.ref o70)] [(.int ch79), (.int (4 : Int32)), (.ref o70)]))
    refine P79.stC Va78 4 (by decide) (by decide) (by decide) (Nat.le_of_ble_eq_true rfl) (x' := ch79) nch79 d11_172 gz_o70 (Or.inr gw_o70) fun T80 h80 P80 W80 V80 => ?_
    have Va80 : Arv Z h80 o70 k70 .char (5 : Int32) [(.int ch71), (.int ch73), (.int ch75), (.int ch77), (.int ch79)] (.int (0 : Int32)) := V80
    show Go p e below _ (T80.setTop (mkF m 173 #[.val (.long aa), .second, .val (.int (5 : Int32)), .val (.ref o70)] []))
    refine P80.xs (fun hA hx hy t k => XS.aloadN hA hx rfl (hb hy d11_173) rfl rfl  k) ?_
    show Go p e below _ (T80.setTop (mkF m 174 #[.val (.long aa), .second, .val (.int (5 : Int32)), .val (.ref o70)] [(.ref o70)]))
    refine P80.alen Va80 d11_174 ?_
    show Go p e below _ (T80.setTop (mkF m 175 #[.val (.long aa), .second, .val (.int (5 : Int32)), .val (.ref o70)] [(.int (5 : Int32))]))
    refine P80.xs (fun hA hx hy t k => XS.iconst hA hx rfl (hb hy d11_175) k) ?_
    show Go p e below _ (T80.setTop (mkF m 176 #[.val (.long aa), .second, .val (.int (5 : Int32)), .val (.ref o70)] [(.int (5 : Int32)), (.int (5 : Int32))]))
    refine P80.xs (fun hA hx hy t k => XS.icmpYes hA hx rfl (pc0 := 176) (pc' := 187) rfl (hb hy d11_176) rfl (flt (by decide)).2.2.2 (by decide) (by decide) k) ?_
    show Go p e below _ (T80.setTop (mkF m 187 #[.val (.long aa), .second, .val (.int (5 : Int32)), .val (.ref o70)] []))
    refine P80.xs (fun hA hx hy t k => XS.aloadN hA hx rfl (hb hy d11_187) rfl rfl  k) ?_
    show Go p e below _ (T80.setTop (mkF m 188 #[.val (.long aa), .second, .val (.int (5 : Int32)), .val (.ref o70)] [(.ref o70)]))
    refine P80.alen Va80 d11_188 ?_
    show Go p e below _ (T80.setTop (mkF m 189 #[.val (.long aa), .second, .val (.int (5 : Int32)), .val (.ref o70)] [(.int (5 : Int32))]))
    refine P80.xs (fun hA hx hy t k => XS.bipush hA hx rfl (hb hy d11_189) k) ?_
    show Go p e below _ (T80.setTop (mkF m 191 #[.val (.long aa), .second, .val (.int (5 : Int32)), .val (.ref o70)] [(.int (6 : Int32)), (.int (5 : Int32))]))
    refine P80.xs (fun hA hx hy t k => XS.icmpYes hA hx rfl (pc0 := 191) (pc' := 204) rfl (hb hy d11_191) rfl (flt (by decide)).2.2.2 (by decide) (by decide) k) ?_
    show Go p e below _ (T80.setTop (mkF m 204 #[.val (.long aa), .second, .val (.int (5 : Int32)), .val (.ref o70)] []))
    refine P80.xs (fun hA hx hy t k => XS.aloadN hA hx rfl (hb hy d11_204) rfl rfl  k) ?_
    show Go p e below _ (T80.setTop (mkF m 205 #[.val (.long aa), .second, .val (.int (5 : Int32)), .val (.ref o70)] [(.ref o70)]))
    refine P80.alen Va80 d11_205 ?_
    show Go p e below _ (T80.setTop (mkF m 206 #[.val (.long aa), .second, .val (.int (5 : Int32)), .val (.ref o70)] [(.int (5 : Int32))]))
    refine P80.xs (fun hA hx hy t k => XS.bipush hA hx rfl (hb hy d11_206) k) ?_
    show Go p e below _ (T80.setTop (mkF m 208 #[.val (.long aa), .second, .val (.int (5 : Int32)), .val (.ref o70)] [(.int (7 : Int32)), (.int (5 : Int32))]))
    refine P80.xs (fun hA hx hy t k => XS.icmpYes hA hx rfl (pc0 := 208) (pc' := 221) rfl (hb hy d11_208) rfl (flt (by decide)).2.2.2 (by decide) (by decide) k) ?_
    show Go p e below _ (T80.setTop (mkF m 221 #[.val (.long aa), .second, .val (.int (5 : Int32)), .val (.ref o70)] []))
    refine P80.newO (hw _ (List.mem_of_getElem? (i := 2) rfl)) (hw _ (List.mem_of_getElem? (i := 3) rfl)) (hw _ (List.mem_of_getElem? (i := 4) rfl)) d11_221 (by decide) (by decide) fun T81 h81 o81 g81 P81 E81 A81 D81 => ?_
    have ne_o70_o81 : o70 ≠ o81 := Nat.ne_of_lt (Nat.lt_of_lt_of_le Va80.lt (Nat.le_of_eq g81.symm))
    have gz_o81 : Z.heap.size ≤ o81 := Nat.le_trans P80.old.1 (Nat.le_of_eq g81.symm)
    have gw_o81 : h0.size ≤ o81 := Nat.le_trans P80.kept.1 (Nat.le_of_eq g81.symm)
    have F81_coder : Fld Z h81 o81 "java/lang/String" "coder" "B" (.int (0 : Int32)) := D81 (Or.inr (hw _ (List.mem_of_getElem? (i := 28) rfl))) (ty := .byte) (by decide)
    have F81_value : Fld Z h81 o81 "java/lang/String" "value" "[B" .null := D81 (Or.inr (hw _ (List.mem_of_getElem? (i := 30) rfl))) (ty := (.array .byte)) (by decide)
    show Go p e below _ (T81.setTop (mkF m 224 #[.val (.long aa), .second, .val (.int (5 : Int32)), .val (.ref o70)] [(.ref o81)]))
    refine P81.xs (fun hA hx hy t k => XS.dup hA hx rfl (hb hy d11_224) rfl rfl k) ?_
    show Go p e below _ (T81.setTop (mkF m 225 #[.val (.long aa), .second, .val (.int (5 : Int32)), .val (.ref o70)] [(.ref o81), (.ref o81)]))
    refine P81.xs (fun hA hx hy t k => XS.aloadN hA hx rfl (hb hy d11_225) rfl rfl  k) ?_
    show Go p e below _ (T81.setTop (mkF m 226 #[.val (.long aa), .second, .val (.int (5 : Int32)), .val (.ref o70)] [(.ref o70), (.ref o81), (.ref o81)]))
    have Ac82 : Arv Z h81 o70 k70 .char (5 : Int32) [(.int ch71), (.int ch73), (.int ch75), (.int ch77), (.int ch79)] (.int (0 : Int32)) := (Va80.ext E81)
    refine P81.specB (W := 1) (ws' := [o81]) rfl (hw _ (List.mem_of_getElem? (i := 5) rfl)) (hw _ (List.mem_of_getElem? (i := 6) rfl)) (hw _ (List.mem_of_getElem? (i := 7) rfl)) (by decide) (fun vm0 hZ => StrChars.Road.backV (W := 1) hZ (wStr hw) (kI := 4) (hw _ (List.mem_of_getElem? (i := 3) rfl)) (cs := ([ch71, ch73, ch75, ch77, ch79] : List Int32)) (bs := ([ch71, ch73, ch75, ch77, ch79] : List Int32).map (fun c => c.toInt8.toInt32)) (n := 5) gz_o81 P81.old.1 A81 F81_value F81_coder Ac82 (S0.ext P81.old) Pz rfl rfl (by decide) (by decide) (latS lch71 (latS lch73 (latS lch75 (latS lch77 (latS lch79 lat0))))) rfl (by decide) (by decide)) rfl (fun v h' L q => ⟨q.2.1, q.2.2.1⟩) (by decide) (by decide) (allS ⟨(Or.inr gw_o81), gz_o81⟩ all0) (fun vm hs hal hr => safe1 (safeNull hal A81 F81_value)) pd_1 (argsL := [(.ref o70)]) rfl rfl rfl (Nat.le_of_eq rfl) d11_226 fun v83 T83 h83 L83 P83 Q83 => ?_
    obtain ⟨rfl, N83, K83, E83, C83, b83, k83, gb83, gc83, gd83, V83, B83⟩ := Q83
    show Go p e below _ (T83.setTop (mkF m 229 #[.val (.long aa), .second, .val (.int (5 : Int32)), .val (.ref o70)] [(.ref o81)]))
    have Ac84 : Arv Z h83 o70 k70 .char (5 : Int32) [(.int ch71), (.int ch73), (.int ch75), (.int ch77), (.int ch79)] (.int (0 : Int32)) := (Ac82.keep K83 (ninS ne_o70_o81 nin0))
    exact P83.retR rfl rfl rfl d11_229 (by decide) (by decide) ⟨o81, ([ch71, ch73, ch75, ch77, ch79] : List Int32), rfl, gw_o81, (strOf (n := 5) rfl (latS lch71 (latS lch73 (latS lch75 (latS lch77 (latS lch79 lat0))))) (by decide) E83 C83 V83 B83)⟩
  · show Go p e below _ (s₁.setTop (mkF m 0 #[.val (.long aa), .second, .val (.int (6 : Int32)), .unset] []))
    refine P0.xs (fun hA hx hy t k => XS.iloadN hA hx rfl (hb hy d11_0) rfl  k) ?_
    show Go p e below _ (s₁.setTop (mkF m 1 #[.val (.long aa), .second, .val (.int (6 : Int32)), .unset] [(.int (6 : Int32))]))
    refine P0.xs (fun hA hx hy t k => XS.ifYes hA hx rfl (pc0 := 1) (pc' := 11) rfl (hb hy d11_1) rfl ((if0 _ _).trans (feq (by decide)).2) (by decide) (by decide) k) ?_
    show Go p e below _ (s₁.setTop (mkF m 11 #[.val (.long aa), .second, .val (.int (6 : Int32)), .unset] []))
    refine P0.xs (fun hA hx hy t k => XS.iloadN hA hx rfl (hb hy d11_11) rfl  k) ?_
    show Go p e below _ (s₁.setTop (mkF m 12 #[.val (.long aa), .second, .val (.int (6 : Int32)), .unset] [(.int (6 : Int32))]))
    refine P0.xs (fun hA hx hy t k => XS.iconst hA hx rfl (hb hy d11_12) k) ?_
    show Go p e below _ (s₁.setTop (mkF m 13 #[.val (.long aa), .second, .val (.int (6 : Int32)), .unset] [(.int (1 : Int32)), (.int (6 : Int32))]))
    refine P0.xs (fun hA hx hy t k => XS.icmpYes hA hx rfl (pc0 := 13) (pc' := 23) rfl (hb hy d11_13) rfl (feq (by decide)).2 (by decide) (by decide) k) ?_
    show Go p e below _ (s₁.setTop (mkF m 23 #[.val (.long aa), .second, .val (.int (6 : Int32)), .unset] []))
    refine P0.xs (fun hA hx hy t k => XS.iloadN hA hx rfl (hb hy d11_23) rfl  k) ?_
    show Go p e below _ (s₁.setTop (mkF m 24 #[.val (.long aa), .second, .val (.int (6 : Int32)), .unset] [(.int (6 : Int32))]))
    refine P0.xs (fun hA hx hy t k => XS.iconst hA hx rfl (hb hy d11_24) k) ?_
    show Go p e below _ (s₁.setTop (mkF m 25 #[.val (.long aa), .second, .val (.int (6 : Int32)), .unset] [(.int (2 : Int32)), (.int (6 : Int32))]))
    refine P0.xs (fun hA hx hy t k => XS.icmpYes hA hx rfl (pc0 := 25) (pc' := 35) rfl (hb hy d11_25) rfl (feq (by decide)).2 (by decide) (by decide) k) ?_
    show Go p e below _ (s₁.setTop (mkF m 35 #[.val (.long aa), .second, .val (.int (6 : Int32)), .unset] []))
    refine P0.xs (fun hA hx hy t k => XS.iloadN hA hx rfl (hb hy d11_35) rfl  k) ?_
    show Go p e below _ (s₁.setTop (mkF m 36 #[.val (.long aa), .second, .val (.int (6 : Int32)), .unset] [(.int (6 : Int32))]))
    refine P0.xs (fun hA hx hy t k => XS.iconst hA hx rfl (hb hy d11_36) k) ?_
    show Go p e below _ (s₁.setTop (mkF m 37 #[.val (.long aa), .second, .val (.int (6 : Int32)), .unset] [(.int (3 : Int32)), (.int (6 : Int32))]))
    refine P0.xs (fun hA hx hy t k => XS.icmpYes hA hx rfl (pc0 := 37) (pc' := 47) rfl (hb hy d11_37) rfl (feq (by decide)).2 (by decide) (by decide) k) ?_
    show Go p e below _ (s₁.setTop (mkF m 47 #[.val (.long aa), .second, .val (.int (6 : Int32)), .unset] []))
    refine P0.xs (fun hA hx hy t k => XS.iloadN hA hx rfl (hb hy d11_47) rfl  k) ?_
    show Go p e below _ (s₁.setTop (mkF m 48 #[.val (.long aa), .second, .val (.int (6 : Int32)), .unset] [(.int (6 : Int32))]))
    refine P0.xs (fun hA hx hy t k => XS.iconst hA hx rfl (hb hy d11_48) k) ?_
    show Go p e below _ (s₁.setTop (mkF m 49 #[.val (.long aa), .second, .val (.int (6 : Int32)), .unset] [(.int (4 : Int32)), (.int (6 : Int32))]))
    refine P0.xs (fun hA hx hy t k => XS.icmpYes hA hx rfl (pc0 := 49) (pc' := 59) rfl (hb hy d11_49) rfl (feq (by decide)).2 (by decide) (by decide) k) ?_
    show Go p e below _ (s₁.setTop (mkF m 59 #[.val (.long aa), .second, .val (.int (6 : Int32)), .unset] []))
    refine P0.xs (fun hA hx hy t k => XS.iloadN hA hx rfl (hb hy d11_59) rfl  k) ?_
    show Go p e below _ (s₁.setTop (mkF m 60 #[.val (.long aa), .second, .val (.int (6 : Int32)), .unset] [(.int (6 : Int32))]))
    refine P0.xs (fun hA hx hy t k => XS.iconst hA hx rfl (hb hy d11_60) k) ?_
    show Go p e below _ (s₁.setTop (mkF m 61 #[.val (.long aa), .second, .val (.int (6 : Int32)), .unset] [(.int (5 : Int32)), (.int (6 : Int32))]))
    refine P0.xs (fun hA hx hy t k => XS.icmpYes hA hx rfl (pc0 := 61) (pc' := 71) rfl (hb hy d11_61) rfl (feq (by decide)).2 (by decide) (by decide) k) ?_
    show Go p e below _ (s₁.setTop (mkF m 71 #[.val (.long aa), .second, .val (.int (6 : Int32)), .unset] []))
    refine P0.xs (fun hA hx hy t k => XS.iloadN hA hx rfl (hb hy d11_71) rfl  k) ?_
    show Go p e below _ (s₁.setTop (mkF m 72 #[.val (.long aa), .second, .val (.int (6 : Int32)), .unset] [(.int (6 : Int32))]))
    refine P0.xs (fun hA hx hy t k => XS.bipush hA hx rfl (hb hy d11_72) k) ?_
    show Go p e below _ (s₁.setTop (mkF m 74 #[.val (.long aa), .second, .val (.int (6 : Int32)), .unset] [(.int (6 : Int32)), (.int (6 : Int32))]))
    refine P0.xs (fun hA hx hy t k => XS.icmpNo hA hx rfl (hb hy d11_74) rfl (teq (by decide)).2 k) ?_
    show Go p e below _ (s₁.setTop (mkF m 77 #[.val (.long aa), .second, .val (.int (6 : Int32)), .unset] []))
    refine P0.xs (fun hA hx hy t k => XS.bipush hA hx rfl (hb hy d11_77) k) ?_
    show Go p e below _ (s₁.setTop (mkF m 79 #[.val (.long aa), .second, .val (.int (6 : Int32)), .unset] [(.int (6 : Int32))]))
    refine P0.newP (aty := .char) (hw _ (List.mem_of_getElem? (i := 1) rfl)) d11_79 (by decide) (cap := 6) (by decide) (by decide) (by decide) (by decide) fun T85 h85 o85 k85 g85 P85 E85 A85 => ?_
    have gz_o85 : Z.heap.size ≤ o85 := Nat.le_trans P0.old.1 (Nat.le_of_eq g85.symm)
    have gw_o85 : h0.size ≤ o85 := Nat.le_trans P0.kept.1 (Nat.le_of_eq g85.symm)
    have V85 : Arv Z h85 o85 k85 .char (6 : Int32) [(.int (0 : Int32)), (.int (0 : Int32)), (.int (0 : Int32)), (.int (0 : Int32)), (.int (0 : Int32)), (.int (0 : Int32))] (.int (0 : Int32)) := Arv.pad A85 (pad_rep [] (.int (0 : Int32)) 6)
    show Go p e below _ (T85.setTop (mkF m 81 #[.val (.long aa), .second, .val (.int (6 : Int32)), .unset] [(.ref o85)]))
    refine P85.xs (fun hA hx hy t k => XS.astoreN hA hx rfl (hb hy d11_81) rfl rfl (l' := #[.val (.long aa), .second, .val (.int (6 : Int32)), .val (.ref o85)]) rfl k) ?_
    show Go p e below _ (T85.setTop (mkF m 82 #[.val (.long aa), .second, .val (.int (6 : Int32)), .val (.ref o85)] []))
    refine P85.xs (fun hA hx hy t k => XS.goto hA hx rfl (pc0 := 82) (pc' := 104) rfl (hb hy d11_82) (by decide) (by decide) k) ?_
    show Go p e below _ (T85.setTop (mkF m 104 #[.val (.long aa), .second, .val (.int (6 : Int32)), .val (.ref o85)] []))
    refine P85.xs (fun hA hx hy t k => XS.aloadN hA hx rfl (hb hy d11_104) rfl rfl  k) ?_
    show Go p e below _ (T85.setTop (mkF m 105 #[.val (.long aa), .second, .val (.int (6 : Int32)), .val (.ref o85)] [(.ref o85)]))
    refine P85.alen V85 d11_105 ?_
    show Go p e below _ (T85.setTop (mkF m 106 #[.val (.long aa), .second, .val (.int (6 : Int32)), .val (.ref o85)] [(.int (6 : Int32))]))
    refine P85.xs (fun hA hx hy t k => XS.ifNo hA hx rfl (hb hy d11_106) rfl ((if0 _ _).trans (tlt (by decide)).2.2.2) k) ?_
    show Go p e below _ (T85.setTop (mkF m 109 #[.val (.long aa), .second, .val (.int (6 : Int32)), .val (.ref o85)] []))
    refine P85.xs (fun hA hx hy t k => XS.aloadN hA hx rfl (hb hy d11_109) rfl rfl  k) ?_
    show Go p e below _ (T85.setTop (mkF m 110 #[.val (.long aa), .second, .val (.int (6 : Int32)), .val (.ref o85)] [(.ref o85)]))
    refine P85.xs (fun hA hx hy t k => XS.iconst hA hx rfl (hb hy d11_110) k) ?_
    show Go p e below _ (T85.setTop (mkF m 111 #[.val (.long aa), .second, .val (.int (6 : Int32)), .val (.ref o85)] [(.int (0 : Int32)), (.ref o85)]))
    refine P85.xs (fun hA hx hy t k => XS.lloadN hA hx rfl (hb hy d11_111) rfl  k) ?_
    show Go p e below _ (T85.setTop (mkF m 112 #[.val (.long aa), .second, .val (.int (6 : Int32)), .val (.ref o85)] [(.long aa), (.int (0 : Int32)), (.ref o85)]))
    refine P85.xs (fun hA hx hy t k => XS.iconst hA hx rfl (hb hy d11_112) k) ?_
    show Go p e below _ (T85.setTop (mkF m 113 #[.val (.long aa), .second, .val (.int (6 : Int32)), .val (.ref o85)] [(.int (0 : Int32)), (.long aa), (.int (0 : Int32)), (.ref o85)]))
    refine P85.callS (hw _ (List.mem_of_getElem? (i := 74) rfl)) (hw _ (List.mem_of_getElem? (i := 75) rfl)) (hw _ (List.mem_of_getElem? (i := 72) rfl)) (hw _ (List.mem_of_getElem? (i := 76) rfl)) (by decide) (mAt l Z a0 hw hEL zc S0 Pz w_CLASS s_CLASS S_CLASS E_CLASS F_CLASS X_CLASS w_PROPERTY s_PROPERTY S_PROPERTY E_PROPERTY F_PROPERTY X_PROPERTY w_V k_V S_V E_V A_V aa (0 : Int32) h85 P85.old) (W := 2) (by decide) (by decide) (by decide) (by decide) all0 pd_2 (argsL := [(.long aa), (.int (0 : Int32))]) rfl rfl rfl (Nat.le_of_eq rfl) d11_113 fun v86 T86 h86 P86 K86 Q86 => ?_
    obtain ⟨ch86, rfl, lch86, nch86, hh86⟩ := Q86
    rw [hh86] at P86
    show Go p e below _ (T86.setTop (mkF m 116 #[.val (.long aa), .second, .val (.int (6 : Int32)), .val (.ref o85)] [(.int ch86), (.int (0 : Int32)), (.ref o85)]))
    refine P86.stC V85 0 (by decide) (by decide) (by decide) (Nat.le_of_ble_eq_true rfl) (x' := ch86) nch86 d11_116 gz_o85 (Or.inr gw_o85) fun T87 h87 P87 W87 V87 => ?_
    have Va87 : Arv Z h87 o85 k85 .char (6 : Int32) [(.int ch86), (.int (0 : Int32)), (.int (0 : Int32)), (.int (0 : Int32)), (.int (0 : Int32)), (.int (0 : Int32))] (.int (0 : Int32)) := V87
    show Go p e below _ (T87.setTop (mkF m 117 #[.val (.long aa), .second, .val (.int (6 : Int32)), .val (.ref o85)] []))
    refine P87.xs (fun hA hx hy t k => XS.aloadN hA hx rfl (hb hy d11_117) rfl rfl  k) ?_
    show Go p e below _ (T87.setTop (mkF m 118 #[.val (.long aa), .second, .val (.int (6 : Int32)), .val (.ref o85)] [(.ref o85)]))
    refine P87.alen Va87 d11_118 ?_
    show Go p e below _ (T87.setTop (mkF m 119 #[.val (.long aa), .second, .val (.int (6 : Int32)), .val (.ref o85)] [(.int (6 : Int32))]))
    refine P87.xs (fun hA hx hy t k => XS.iconst hA hx rfl (hb hy d11_119) k) ?_
    show Go p e below _ (T87.setTop (mkF m 120 #[.val (.long aa), .second, .val (.int (6 : Int32)), .val (.ref o85)] [(.int (1 : Int32)), (.int (6 : Int32))]))
    refine P87.xs (fun hA hx hy t k => XS.icmpNo hA hx rfl (hb hy d11_120) rfl (tlt (by decide)).2.2.2 k) ?_
    show Go p e below _ (T87.setTop (mkF m 123 #[.val (.long aa), .second, .val (.int (6 : Int32)), .val (.ref o85)] []))
    refine P87.xs (fun hA hx hy t k => XS.aloadN hA hx rfl (hb hy d11_123) rfl rfl  k) ?_
    show Go p e below _ (T87.setTop (mkF m 124 #[.val (.long aa), .second, .val (.int (6 : Int32)), .val (.ref o85)] [(.ref o85)]))
    refine P87.xs (fun hA hx hy t k => XS.iconst hA hx rfl (hb hy d11_124) k) ?_
    show Go p e below _ (T87.setTop (mkF m 125 #[.val (.long aa), .second, .val (.int (6 : Int32)), .val (.ref o85)] [(.int (1 : Int32)), (.ref o85)]))
    refine P87.xs (fun hA hx hy t k => XS.lloadN hA hx rfl (hb hy d11_125) rfl  k) ?_
    show Go p e below _ (T87.setTop (mkF m 126 #[.val (.long aa), .second, .val (.int (6 : Int32)), .val (.ref o85)] [(.long aa), (.int (1 : Int32)), (.ref o85)]))
    refine P87.xs (fun hA hx hy t k => XS.iconst hA hx rfl (hb hy d11_126) k) ?_
    show Go p e below _ (T87.setTop (mkF m 127 #[.val (.long aa), .second, .val (.int (6 : Int32)), .val (.ref o85)] [(.int (1 : Int32)), (.long aa), (.int (1 : Int32)), (.ref o85)]))
    refine P87.callS (hw _ (List.mem_of_getElem? (i := 74) rfl)) (hw _ (List.mem_of_getElem? (i := 75) rfl)) (hw _ (List.mem_of_getElem? (i := 72) rfl)) (hw _ (List.mem_of_getElem? (i := 76) rfl)) (by decide) (mAt l Z a0 hw hEL zc S0 Pz w_CLASS s_CLASS S_CLASS E_CLASS F_CLASS X_CLASS w_PROPERTY s_PROPERTY S_PROPERTY E_PROPERTY F_PROPERTY X_PROPERTY w_V k_V S_V E_V A_V aa (1 : Int32) h87 P87.old) (W := 2) (by decide) (by decide) (by decide) (by decide) all0 pd_2 (argsL := [(.long aa), (.int (1 : Int32))]) rfl rfl rfl (Nat.le_of_eq rfl) d11_127 fun v88 T88 h88 P88 K88 Q88 => ?_
    obtain ⟨ch88, rfl, lch88, nch88, hh88⟩ := Q88
    rw [hh88] at P88
    show Go p e below _ (T88.setTop (mkF m 130 #[.val (.long aa), .second, .val (.int (6 : Int32)), .val (.ref o85)] [(.int ch88), (.int (1 : Int32)), (.ref o85)]))
    refine P88.stC Va87 1 (by decide) (by decide) (by decide) (Nat.le_of_ble_eq_true rfl) (x' := ch88) nch88 d11_130 gz_o85 (Or.inr gw_o85) fun T89 h89 P89 W89 V89 => ?_
    have Va89 : Arv Z h89 o85 k85 .char (6 : Int32) [(.int ch86), (.int ch88), (.int (0 : Int32)), (.int (0 : Int32)), (.int (0 : Int32)), (.int (0 : Int32))] (.int (0 : Int32)) := V89
    show Go p e below _ (T89.setTop (mkF m 131 #[.val (.long aa), .second, .val (.int (6 : Int32)), .val (.ref o85)] []))
    refine P89.xs (fun hA hx hy t k => XS.aloadN hA hx rfl (hb hy d11_131) rfl rfl  k) ?_
    show Go p e below _ (T89.setTop (mkF m 132 #[.val (.long aa), .second, .val (.int (6 : Int32)), .val (.ref o85)] [(.ref o85)]))
    refine P89.alen Va89 d11_132 ?_
    show Go p e below _ (T89.setTop (mkF m 133 #[.val (.long aa), .second, .val (.int (6 : Int32)), .val (.ref o85)] [(.int (6 : Int32))]))
    refine P89.xs (fun hA hx hy t k => XS.iconst hA hx rfl (hb hy d11_133) k) ?_
    show Go p e below _ (T89.setTop (mkF m 134 #[.val (.long aa), .second, .val (.int (6 : Int32)), .val (.ref o85)] [(.int (2 : Int32)), (.int (6 : Int32))]))
    refine P89.xs (fun hA hx hy t k => XS.icmpNo hA hx rfl (hb hy d11_134) rfl (tlt (by decide)).2.2.2 k) ?_
    show Go p e below _ (T89.setTop (mkF m 137 #[.val (.long aa), .second, .val (.int (6 : Int32)), .val (.ref o85)] []))
    refine P89.xs (fun hA hx hy t k => XS.aloadN hA hx rfl (hb hy d11_137) rfl rfl  k) ?_
    show Go p e below _ (T89.setTop (mkF m 138 #[.val (.long aa), .second, .val (.int (6 : Int32)), .val (.ref o85)] [(.ref o85)]))
    refine P89.xs (fun hA hx hy t k => XS.iconst hA hx rfl (hb hy d11_138) k) ?_
    show Go p e below _ (T89.setTop (mkF m 139 #[.val (.long aa), .second, .val (.int (6 : Int32)), .val (.ref o85)] [(.int (2 : Int32)), (.ref o85)]))
    refine P89.xs (fun hA hx hy t k => XS.lloadN hA hx rfl (hb hy d11_139) rfl  k) ?_
    show Go p e below _ (T89.setTop (mkF m 140 #[.val (.long aa), .second, .val (.int (6 : Int32)), .val (.ref o85)] [(.long aa), (.int (2 : Int32)), (.ref o85)]))
    refine P89.xs (fun hA hx hy t k => XS.iconst hA hx rfl (hb hy d11_140) k) ?_
    show Go p e below _ (T89.setTop (mkF m 141 #[.val (.long aa), .second, .val (.int (6 : Int32)), .val (.ref o85)] [(.int (2 : Int32)), (.long aa), (.int (2 : Int32)), (.ref o85)]))
    refine P89.callS (hw _ (List.mem_of_getElem? (i := 74) rfl)) (hw _ (List.mem_of_getElem? (i := 75) rfl)) (hw _ (List.mem_of_getElem? (i := 72) rfl)) (hw _ (List.mem_of_getElem? (i := 76) rfl)) (by decide) (mAt l Z a0 hw hEL zc S0 Pz w_CLASS s_CLASS S_CLASS E_CLASS F_CLASS X_CLASS w_PROPERTY s_PROPERTY S_PROPERTY E_PROPERTY F_PROPERTY X_PROPERTY w_V k_V S_V E_V A_V aa (2 : Int32) h89 P89.old) (W := 2) (by decide) (by decide) (by decide) (by decide) all0 pd_2 (argsL := [(.long aa), (.int (2 : Int32))]) rfl rfl rfl (Nat.le_of_eq rfl) d11_141 fun v90 T90 h90 P90 K90 Q90 => ?_
    obtain ⟨ch90, rfl, lch90, nch90, hh90⟩ := Q90
    rw [hh90] at P90
    show Go p e below _ (T90.setTop (mkF m 144 #[.val (.long aa), .second, .val (.int (6 : Int32)), .val (.ref o85)] [(.int ch90), (.int (2 : Int32)), (.ref o85)]))
    refine P90.stC Va89 2 (by decide) (by decide) (by decide) (Nat.le_of_ble_eq_true rfl) (x' := ch90) nch90 d11_144 gz_o85 (Or.inr gw_o85) fun T91 h91 P91 W91 V91 => ?_
    have Va91 : Arv Z h91 o85 k85 .char (6 : Int32) [(.int ch86), (.int ch88), (.int ch90), (.int (0 : Int32)), (.int (0 : Int32)), (.int (0 : Int32))] (.int (0 : Int32)) := V91
    show Go p e below _ (T91.setTop (mkF m 145 #[.val (.long aa), .second, .val (.int (6 : Int32)), .val (.ref o85)] []))
    refine P91.xs (fun hA hx hy t k => XS.aloadN hA hx rfl (hb hy d11_145) rfl rfl  k) ?_
    show Go p e below _ (T91.setTop (mkF m 146 #[.val (.long aa), .second, .val (.int (6 : Int32)), .val (.ref o85)] [(.ref o85)]))
    refine P91.alen Va91 d11_146 ?_
    show Go p e below _ (T91.setTop (mkF m 147 #[.val (.long aa), .second, .val (.int (6 : Int32)), .val (.ref o85)] [(.int (6 : Int32))]))
    refine P91.xs (fun hA hx hy t k => XS.iconst hA hx rfl (hb hy d11_147) k) ?_
    show Go p e below _ (T91.setTop (mkF m 148 #[.val (.long aa), .second, .val (.int (6 : Int32)), .val (.ref o85)] [(.int (3 : Int32)), (.int (6 : Int32))]))
    refine P91.xs (fun hA hx hy t k => XS.icmpNo hA hx rfl (hb hy d11_148) rfl (tlt (by decide)).2.2.2 k) ?_
    show Go p e below _ (T91.setTop (mkF m 151 #[.val (.long aa), .second, .val (.int (6 : Int32)), .val (.ref o85)] []))
    refine P91.xs (fun hA hx hy t k => XS.aloadN hA hx rfl (hb hy d11_151) rfl rfl  k) ?_
    show Go p e below _ (T91.setTop (mkF m 152 #[.val (.long aa), .second, .val (.int (6 : Int32)), .val (.ref o85)] [(.ref o85)]))
    refine P91.xs (fun hA hx hy t k => XS.iconst hA hx rfl (hb hy d11_152) k) ?_
    show Go p e below _ (T91.setTop (mkF m 153 #[.val (.long aa), .second, .val (.int (6 : Int32)), .val (.ref o85)] [(.int (3 : Int32)), (.ref o85)]))
    refine P91.xs (fun hA hx hy t k => XS.lloadN hA hx rfl (hb hy d11_153) rfl  k) ?_
    show Go p e below _ (T91.setTop (mkF m 154 #[.val (.long aa), .second, .val (.int (6 : Int32)), .val (.ref o85)] [(.long aa), (.int (3 : Int32)), (.ref o85)]))
    refine P91.xs (fun hA hx hy t k => XS.iconst hA hx rfl (hb hy d11_154) k) ?_
    show Go p e below _ (T91.setTop (mkF m 155 #[.val (.long aa), .second, .val (.int (6 : Int32)), .val (.ref o85)] [(.int (3 : Int32)), (.long aa), (.int (3 : Int32)), (.ref o85)]))
    refine P91.callS (hw _ (List.mem_of_getElem? (i := 74) rfl)) (hw _ (List.mem_of_getElem? (i := 75) rfl)) (hw _ (List.mem_of_getElem? (i := 72) rfl)) (hw _ (List.mem_of_getElem? (i := 76) rfl)) (by decide) (mAt l Z a0 hw hEL zc S0 Pz w_CLASS s_CLASS S_CLASS E_CLASS F_CLASS X_CLASS w_PROPERTY s_PROPERTY S_PROPERTY E_PROPERTY F_PROPERTY X_PROPERTY w_V k_V S_V E_V A_V aa (3 : Int32) h91 P91.old) (W := 2) (by decide) (by decide) (by decide) (by decide) all0 pd_2 (argsL := [(.long aa), (.int (3 : Int32))]) rfl rfl rfl (Nat.le_of_eq rfl) d11_155 fun v92 T92 h92 P92 K92 Q92 => ?_
    obtain ⟨ch92, rfl, lch92, nch92, hh92⟩ := Q92
    rw [hh92] at P92
    show Go p e below _ (T92.setTop (mkF m 158 #[.val (.long aa), .second, .val (.int (6 : Int32)), .val (.ref o85)] [(.int ch92), (.int (3 : Int32)), (.ref o85)]))
    refine P92.stC Va91 3 (by decide) (by decide) (by decide) (Nat.le_of_ble_eq_true rfl) (x' := ch92) nch92 d11_158 gz_o85 (Or.inr gw_o85) fun T93 h93 P93 W93 V93 => ?_
    have Va93 : Arv Z h93 o85 k85 .char (6 : Int32) [(.int ch86), (.int ch88), (.int ch90), (.int ch92), (.int (0 : Int32)), (.int (0 : Int32))] (.int (0 : Int32)) := V93
    show Go p e below _ (T93.setTop (mkF m 159 #[.val (.long aa), .second, .val (.int (6 : Int32)), .val (.ref o85)] []))
    refine P93.xs (fun hA hx hy t k => XS.aloadN hA hx rfl (hb hy d11_159) rfl rfl  k) ?_
    show Go p e below _ (T93.setTop (mkF m 160 #[.val (.long aa), .second, .val (.int (6 : Int32)), .val (.ref o85)] [(.ref o85)]))
    refine P93.alen Va93 d11_160 ?_
    show Go p e below _ (T93.setTop (mkF m 161 #[.val (.long aa), .second, .val (.int (6 : Int32)), .val (.ref o85)] [(.int (6 : Int32))]))
    refine P93.xs (fun hA hx hy t k => XS.iconst hA hx rfl (hb hy d11_161) k) ?_
    show Go p e below _ (T93.setTop (mkF m 162 #[.val (.long aa), .second, .val (.int (6 : Int32)), .val (.ref o85)] [(.int (4 : Int32)), (.int (6 : Int32))]))
    refine P93.xs (fun hA hx hy t k => XS.icmpNo hA hx rfl (hb hy d11_162) rfl (tlt (by decide)).2.2.2 k) ?_
    show Go p e below _ (T93.setTop (mkF m 165 #[.val (.long aa), .second, .val (.int (6 : Int32)), .val (.ref o85)] []))
    refine P93.xs (fun hA hx hy t k => XS.aloadN hA hx rfl (hb hy d11_165) rfl rfl  k) ?_
    show Go p e below _ (T93.setTop (mkF m 166 #[.val (.long aa), .second, .val (.int (6 : Int32)), .val (.ref o85)] [(.ref o85)]))
    refine P93.xs (fun hA hx hy t k => XS.iconst hA hx rfl (hb hy d11_166) k) ?_
    show Go p e below _ (T93.setTop (mkF m 167 #[.val (.long aa), .second, .val (.int (6 : Int32)), .val (.ref o85)] [(.int (4 : Int32)), (.ref o85)]))
    refine P93.xs (fun hA hx hy t k => XS.lloadN hA hx rfl (hb hy d11_167) rfl  k) ?_
    show Go p e below _ (T93.setTop (mkF m 168 #[.val (.long aa), .second, .val (.int (6 : Int32)), .val (.ref o85)] [(.long aa), (.int (4 : Int32)), (.ref o85)]))
    refine P93.xs (fun hA hx hy t k => XS.iconst hA hx rfl (hb hy d11_168) k) ?_
    show Go p e below _ (T93.setTop (mkF m 169 #[.val (.long aa), .second, .val (.int (6 : Int32)), .val (.ref o85)] [(.int (4 : Int32)), (.long aa), (.int (4 : Int32)), (.ref o85)]))
    refine P93.callS (hw _ (List.mem_of_getElem? (i := 74) rfl)) (hw _ (List.mem_of_getElem? (i := 75) rfl)) (hw _ (List.mem_of_getElem? (i := 72) rfl)) (hw _ (List.mem_of_getElem? (i := 76) rfl)) (by decide) (mAt l Z a0 hw hEL zc S0 Pz w_CLASS s_CLASS S_CLASS E_CLASS F_CLASS X_CLASS w_PROPERTY s_PROPERTY S_PROPERTY E_PROPERTY F_PROPERTY X_PROPERTY w_V k_V S_V E_V A_V aa (4 : Int32) h93 P93.old) (W := 2) (by decide) (by decide) (by decide) (by decide) all0 pd_2 (argsL := [(.long aa), (.int (4 : Int32))]) rfl rfl rfl (Nat.le_of_eq rfl) d11_169 fun v94 T94 h94 P94 K94 Q94 => ?_
    obtain ⟨ch94, rfl, lch94, nch94, hh94⟩ := Q94
    rw [hh94] at P94
    show Go p e below _ (T94.setTop (mkF m 172 #[.val (.long aa), .second, .val (.int (6 : Int32)), .val (.ref o85)] [(.int ch94), (.int (4 : Int32)), (.ref o85)]))
    refine P94.stC Va93 4 (by decide) (by decide) (by decide) (Nat.le_of_ble_eq_true rfl) (x' := ch94) nch94 d11_172 gz_o85 (Or.inr gw_o85) fun T95 h95 P95 W95 V95 => ?_
    have Va95 : Arv Z h95 o85 k85 .char (6 : Int32) [(.int ch86), (.int ch88), (.int ch90), (.int ch92), (.int ch94), (.int (0 : Int32))] (.int (0 : Int32)) := V95
    show Go p e below _ (T95.setTop (mkF m 173 #[.val (.long aa), .second, .val (.int (6 : Int32)), .val (.ref o85)] []))
    refine P95.xs (fun hA hx hy t k => XS.aloadN hA hx rfl (hb hy d11_173) rfl rfl  k) ?_
    show Go p e below _ (T95.setTop (mkF m 174 #[.val (.long aa), .second, .val (.int (6 : Int32)), .val (.ref o85)] [(.ref o85)]))
    refine P95.alen Va95 d11_174 ?_
    show Go p e below _ (T95.setTop (mkF m 175 #[.val (.long aa), .second, .val (.int (6 : Int32)), .val (.ref o85)] [(.int (6 : Int32))]))
    refine P95.xs (fun hA hx hy t k => XS.iconst hA hx rfl (hb hy d11_175) k) ?_
    show Go p e below _ (T95.setTop (mkF m 176 #[.val (.long aa), .second, .val (.int (6 : Int32)), .val (.ref o85)] [(.int (5 : Int32)), (.int (6 : Int32))]))
    refine P95.xs (fun hA hx hy t k => XS.icmpNo hA hx rfl (hb hy d11_176) rfl (tlt (by decide)).2.2.2 k) ?_
    show Go p e below _ (T95.setTop (mkF m 179 #[.val (.long aa), .second, .val (.int (6 : Int32)), .val (.ref o85)] []))
    refine P95.xs (fun hA hx hy t k => XS.aloadN hA hx rfl (hb hy d11_179) rfl rfl  k) ?_
    show Go p e below _ (T95.setTop (mkF m 180 #[.val (.long aa), .second, .val (.int (6 : Int32)), .val (.ref o85)] [(.ref o85)]))
    refine P95.xs (fun hA hx hy t k => XS.iconst hA hx rfl (hb hy d11_180) k) ?_
    show Go p e below _ (T95.setTop (mkF m 181 #[.val (.long aa), .second, .val (.int (6 : Int32)), .val (.ref o85)] [(.int (5 : Int32)), (.ref o85)]))
    refine P95.xs (fun hA hx hy t k => XS.lloadN hA hx rfl (hb hy d11_181) rfl  k) ?_
    show Go p e below _ (T95.setTop (mkF m 182 #[.val (.long aa), .second, .val (.int (6 : Int32)), .val (.ref o85)] [(.long aa), (.int (5 : Int32)), (.ref o85)]))
    refine P95.xs (fun hA hx hy t k => XS.iconst hA hx rfl (hb hy d11_182) k) ?_
    show Go p e below _ (T95.setTop (mkF m 183 #[.val (.long aa), .second, .val (.int (6 : Int32)), .val (.ref o85)] [(.int (5 : Int32)), (.long aa), (.int (5 : Int32)), (.ref o85)]))
    refine P95.callS (hw _ (List.mem_of_getElem? (i := 74) rfl)) (hw _ (List.mem_of_getElem? (i := 75) rfl)) (hw _ (List.mem_of_getElem? (i := 72) rfl)) (hw _ (List.mem_of_getElem? (i := 76) rfl)) (by decide) (mAt l Z a0 hw hEL zc S0 Pz w_CLASS s_CLASS S_CLASS E_CLASS F_CLASS X_CLASS w_PROPERTY s_PROPERTY S_PROPERTY E_PROPERTY F_PROPERTY X_PROPERTY w_V k_V S_V E_V A_V aa (5 : Int32) h95 P95.old) (W := 2) (by decide) (by decide) (by decide) (by decide) all0 pd_2 (argsL := [(.long aa), (.int (5 : Int32))]) rfl rfl rfl (Nat.le_of_eq rfl) d11_183 fun v96 T96 h96 P96 K96 Q96 => ?_
    obtain ⟨ch96, rfl, lch96, nch96, hh96⟩ := Q96
    rw [hh96] at P96
    show Go p e below _ (T96.setTop (mkF m 186 #[.val (.long aa), .second, .val (.int (6 : Int32)), .val (.ref o85)] [(.int ch96), (.int (5 : Int32)), (.ref o85)]))
    refine P96.stC Va95 5 (by decide) (by decide) (by decide) (Nat.le_of_ble_eq_true rfl) (x' := ch96) nch96 d11_186 gz_o85 (Or.inr gw_o85) fun T97 h97 P97 W97 V97 => ?_
    have Va97 : Arv Z h97 o85 k85 .char (6 : Int32) [(.int ch86), (.int ch88), (.int ch90), (.int ch92), (.int ch94), (.int ch96)] (.int (0 : Int32)) := V97
    show Go p e below _ (T97.setTop (mkF m 187 #[.val (.long aa), .second, .val (.int (6 : Int32)), .val (.ref o85)] []))
    refine P97.xs (fun hA hx hy t k => XS.aloadN hA hx rfl (hb hy d11_187) rfl rfl  k) ?_
    show Go p e below _ (T97.setTop (mkF m 188 #[.val (.long aa), .second, .val (.int (6 : Int32)), .val (.ref o85)] [(.ref o85)]))
    refine P97.alen Va97 d11_188 ?_
    show Go p e below _ (T97.setTop (mkF m 189 #[.val (.long aa), .second, .val (.int (6 : Int32)), .val (.ref o85)] [(.int (6 : Int32))]))
    refine P97.xs (fun hA hx hy t k => XS.bipush hA hx rfl (hb hy d11_189) k) ?_
    show Go p e below _ (T97.setTop (mkF m 191 #[.val (.long aa), .second, .val (.int (6 : Int32)), .val (.ref o85)] [(.int (6 : Int32)), (.int (6 : Int32))]))
    refine P97.xs (fun hA hx hy t k => XS.icmpYes hA hx rfl (pc0 := 191) (pc' := 204) rfl (hb hy d11_191) rfl (flt (by decide)).2.2.2 (by decide) (by decide) k) ?_
    show Go p e below _ (T97.setTop (mkF m 204 #[.val (.long aa), .second, .val (.int (6 : Int32)), .val (.ref o85)] []))
    refine P97.xs (fun hA hx hy t k => XS.aloadN hA hx rfl (hb hy d11_204) rfl rfl  k) ?_
    show Go p e below _ (T97.setTop (mkF m 205 #[.val (.long aa), .second, .val (.int (6 : Int32)), .val (.ref o85)] [(.ref o85)]))
    refine P97.alen Va97 d11_205 ?_
    show Go p e below _ (T97.setTop (mkF m 206 #[.val (.long aa), .second, .val (.int (6 : Int32)), .val (.ref o85)] [(.int (6 : Int32))]))
    refine P97.xs (fun hA hx hy t k => XS.bipush hA hx rfl (hb hy d11_206) k) ?_
    show Go p e below _ (T97.setTop (mkF m 208 #[.val (.long aa), .second, .val (.int (6 : Int32)), .val (.ref o85)] [(.int (7 : Int32)), (.int (6 : Int32))]))
    refine P97.xs (fun hA hx hy t k => XS.icmpYes hA hx rfl (pc0 := 208) (pc' := 221) rfl (hb hy d11_208) rfl (flt (by decide)).2.2.2 (by decide) (by decide) k) ?_
    show Go p e below _ (T97.setTop (mkF m 221 #[.val (.long aa), .second, .val (.int (6 : Int32)), .val (.ref o85)] []))
    refine P97.newO (hw _ (List.mem_of_getElem? (i := 2) rfl)) (hw _ (List.mem_of_getElem? (i := 3) rfl)) (hw _ (List.mem_of_getElem? (i := 4) rfl)) d11_221 (by decide) (by decide) fun T98 h98 o98 g98 P98 E98 A98 D98 => ?_
    have ne_o85_o98 : o85 ≠ o98 := Nat.ne_of_lt (Nat.lt_of_lt_of_le Va97.lt (Nat.le_of_eq g98.symm))
    have gz_o98 : Z.heap.size ≤ o98 := Nat.le_trans P97.old.1 (Nat.le_of_eq g98.symm)
    have gw_o98 : h0.size ≤ o98 := Nat.le_trans P97.kept.1 (Nat.le_of_eq g98.symm)
    have F98_coder : Fld Z h98 o98 "java/lang/String" "coder" "B" (.int (0 : Int32)) := D98 (Or.inr (hw _ (List.mem_of_getElem? (i := 28) rfl))) (ty := .byte) (by decide)
    have F98_value : Fld Z h98 o98 "java/lang/String" "value" "[B" .null := D98 (Or.inr (hw _ (List.mem_of_getElem? (i := 30) rfl))) (ty := (.array .byte)) (by decide)
    show Go p e below _ (T98.setTop (mkF m 224 #[.val (.long aa), .second, .val (.int (6 : Int32)), .val (.ref o85)] [(.ref o98)]))
    refine P98.xs (fun hA hx hy t k => XS.dup hA hx rfl (hb hy d11_224) rfl rfl k) ?_
    show Go p e below _ (T98.setTop (mkF m 225 #[.val (.long aa), .second, .val (.int (6 : Int32)), .val (.ref o85)] [(.ref o98), (.ref o98)]))
    refine P98.xs (fun hA hx hy t k => XS.aloadN hA hx rfl (hb hy d11_225) rfl rfl  k) ?_
    show Go p e below _ (T98.setTop (mkF m 226 #[.val (.long aa), .second, .val (.int (6 : Int32)), .val (.ref o85)] [(.ref o85), (.ref o98), (.ref o98)]))
    have Ac99 : Arv Z h98 o85 k85 .char (6 : Int32) [(.int ch86), (.int ch88), (.int ch90), (.int ch92), (.int ch94), (.int ch96)] (.int (0 : Int32)) := (Va97.ext E98)
    refine P98.specB (W := 1) (ws' := [o98]) rfl (hw _ (List.mem_of_getElem? (i := 5) rfl)) (hw _ (List.mem_of_getElem? (i := 6) rfl)) (hw _ (List.mem_of_getElem? (i := 7) rfl)) (by decide) (fun vm0 hZ => StrChars.Road.backV (W := 1) hZ (wStr hw) (kI := 4) (hw _ (List.mem_of_getElem? (i := 3) rfl)) (cs := ([ch86, ch88, ch90, ch92, ch94, ch96] : List Int32)) (bs := ([ch86, ch88, ch90, ch92, ch94, ch96] : List Int32).map (fun c => c.toInt8.toInt32)) (n := 6) gz_o98 P98.old.1 A98 F98_value F98_coder Ac99 (S0.ext P98.old) Pz rfl rfl (by decide) (by decide) (latS lch86 (latS lch88 (latS lch90 (latS lch92 (latS lch94 (latS lch96 lat0)))))) rfl (by decide) (by decide)) rfl (fun v h' L q => ⟨q.2.1, q.2.2.1⟩) (by decide) (by decide) (allS ⟨(Or.inr gw_o98), gz_o98⟩ all0) (fun vm hs hal hr => safe1 (safeNull hal A98 F98_value)) pd_1 (argsL := [(.ref o85)]) rfl rfl rfl (Nat.le_of_eq rfl) d11_226 fun v100 T100 h100 L100 P100 Q100 => ?_
    obtain ⟨rfl, N100, K100, E100, C100, b100, k100, gb100, gc100, gd100, V100, B100⟩ := Q100
    show Go p e below _ (T100.setTop (mkF m 229 #[.val (.long aa), .second, .val (.int (6 : Int32)), .val (.ref o85)] [(.ref o98)]))
    have Ac101 : Arv Z h100 o85 k85 .char (6 : Int32) [(.int ch86), (.int ch88), (.int ch90), (.int ch92), (.int ch94), (.int ch96)] (.int (0 : Int32)) := (Ac99.keep K100 (ninS ne_o85_o98 nin0))
    exact P100.retR rfl rfl rfl d11_229 (by decide) (by decide) ⟨o98, ([ch86, ch88, ch90, ch92, ch94, ch96] : List Int32), rfl, gw_o98, (strOf (n := 6) rfl (latS lch86 (latS lch88 (latS lch90 (latS lch92 (latS lch94 (latS lch96 lat0)))))) (by decide) E100 C100 V100 B100)⟩
  · show Go p e below _ (s₁.setTop (mkF m 0 #[.val (.long aa), .second, .val (.int (7 : Int32)), .unset] []))
    refine P0.xs (fun hA hx hy t k => XS.iloadN hA hx rfl (hb hy d11_0) rfl  k) ?_
    show Go p e below _ (s₁.setTop (mkF m 1 #[.val (.long aa), .second, .val (.int (7 : Int32)), .unset] [(.int (7 : Int32))]))
    refine P0.xs (fun hA hx hy t k => XS.ifYes hA hx rfl (pc0 := 1) (pc' := 11) rfl (hb hy d11_1) rfl ((if0 _ _).trans (feq (by decide)).2) (by decide) (by decide) k) ?_
    show Go p e below _ (s₁.setTop (mkF m 11 #[.val (.long aa), .second, .val (.int (7 : Int32)), .unset] []))
    refine P0.xs (fun hA hx hy t k => XS.iloadN hA hx rfl (hb hy d11_11) rfl  k) ?_
    show Go p e below _ (s₁.setTop (mkF m 12 #[.val (.long aa), .second, .val (.int (7 : Int32)), .unset] [(.int (7 : Int32))]))
    refine P0.xs (fun hA hx hy t k => XS.iconst hA hx rfl (hb hy d11_12) k) ?_
    show Go p e below _ (s₁.setTop (mkF m 13 #[.val (.long aa), .second, .val (.int (7 : Int32)), .unset] [(.int (1 : Int32)), (.int (7 : Int32))]))
    refine P0.xs (fun hA hx hy t k => XS.icmpYes hA hx rfl (pc0 := 13) (pc' := 23) rfl (hb hy d11_13) rfl (feq (by decide)).2 (by decide) (by decide) k) ?_
    show Go p e below _ (s₁.setTop (mkF m 23 #[.val (.long aa), .second, .val (.int (7 : Int32)), .unset] []))
    refine P0.xs (fun hA hx hy t k => XS.iloadN hA hx rfl (hb hy d11_23) rfl  k) ?_
    show Go p e below _ (s₁.setTop (mkF m 24 #[.val (.long aa), .second, .val (.int (7 : Int32)), .unset] [(.int (7 : Int32))]))
    refine P0.xs (fun hA hx hy t k => XS.iconst hA hx rfl (hb hy d11_24) k) ?_
    show Go p e below _ (s₁.setTop (mkF m 25 #[.val (.long aa), .second, .val (.int (7 : Int32)), .unset] [(.int (2 : Int32)), (.int (7 : Int32))]))
    refine P0.xs (fun hA hx hy t k => XS.icmpYes hA hx rfl (pc0 := 25) (pc' := 35) rfl (hb hy d11_25) rfl (feq (by decide)).2 (by decide) (by decide) k) ?_
    show Go p e below _ (s₁.setTop (mkF m 35 #[.val (.long aa), .second, .val (.int (7 : Int32)), .unset] []))
    refine P0.xs (fun hA hx hy t k => XS.iloadN hA hx rfl (hb hy d11_35) rfl  k) ?_
    show Go p e below _ (s₁.setTop (mkF m 36 #[.val (.long aa), .second, .val (.int (7 : Int32)), .unset] [(.int (7 : Int32))]))
    refine P0.xs (fun hA hx hy t k => XS.iconst hA hx rfl (hb hy d11_36) k) ?_
    show Go p e below _ (s₁.setTop (mkF m 37 #[.val (.long aa), .second, .val (.int (7 : Int32)), .unset] [(.int (3 : Int32)), (.int (7 : Int32))]))
    refine P0.xs (fun hA hx hy t k => XS.icmpYes hA hx rfl (pc0 := 37) (pc' := 47) rfl (hb hy d11_37) rfl (feq (by decide)).2 (by decide) (by decide) k) ?_
    show Go p e below _ (s₁.setTop (mkF m 47 #[.val (.long aa), .second, .val (.int (7 : Int32)), .unset] []))
    refine P0.xs (fun hA hx hy t k => XS.iloadN hA hx rfl (hb hy d11_47) rfl  k) ?_
    show Go p e below _ (s₁.setTop (mkF m 48 #[.val (.long aa), .second, .val (.int (7 : Int32)), .unset] [(.int (7 : Int32))]))
    refine P0.xs (fun hA hx hy t k => XS.iconst hA hx rfl (hb hy d11_48) k) ?_
    show Go p e below _ (s₁.setTop (mkF m 49 #[.val (.long aa), .second, .val (.int (7 : Int32)), .unset] [(.int (4 : Int32)), (.int (7 : Int32))]))
    refine P0.xs (fun hA hx hy t k => XS.icmpYes hA hx rfl (pc0 := 49) (pc' := 59) rfl (hb hy d11_49) rfl (feq (by decide)).2 (by decide) (by decide) k) ?_
    show Go p e below _ (s₁.setTop (mkF m 59 #[.val (.long aa), .second, .val (.int (7 : Int32)), .unset] []))
    refine P0.xs (fun hA hx hy t k => XS.iloadN hA hx rfl (hb hy d11_59) rfl  k) ?_
    show Go p e below _ (s₁.setTop (mkF m 60 #[.val (.long aa), .second, .val (.int (7 : Int32)), .unset] [(.int (7 : Int32))]))
    refine P0.xs (fun hA hx hy t k => XS.iconst hA hx rfl (hb hy d11_60) k) ?_
    show Go p e below _ (s₁.setTop (mkF m 61 #[.val (.long aa), .second, .val (.int (7 : Int32)), .unset] [(.int (5 : Int32)), (.int (7 : Int32))]))
    refine P0.xs (fun hA hx hy t k => XS.icmpYes hA hx rfl (pc0 := 61) (pc' := 71) rfl (hb hy d11_61) rfl (feq (by decide)).2 (by decide) (by decide) k) ?_
    show Go p e below _ (s₁.setTop (mkF m 71 #[.val (.long aa), .second, .val (.int (7 : Int32)), .unset] []))
    refine P0.xs (fun hA hx hy t k => XS.iloadN hA hx rfl (hb hy d11_71) rfl  k) ?_
    show Go p e below _ (s₁.setTop (mkF m 72 #[.val (.long aa), .second, .val (.int (7 : Int32)), .unset] [(.int (7 : Int32))]))
    refine P0.xs (fun hA hx hy t k => XS.bipush hA hx rfl (hb hy d11_72) k) ?_
    show Go p e below _ (s₁.setTop (mkF m 74 #[.val (.long aa), .second, .val (.int (7 : Int32)), .unset] [(.int (6 : Int32)), (.int (7 : Int32))]))
    refine P0.xs (fun hA hx hy t k => XS.icmpYes hA hx rfl (pc0 := 74) (pc' := 85) rfl (hb hy d11_74) rfl (feq (by decide)).2 (by decide) (by decide) k) ?_
    show Go p e below _ (s₁.setTop (mkF m 85 #[.val (.long aa), .second, .val (.int (7 : Int32)), .unset] []))
    refine P0.xs (fun hA hx hy t k => XS.iloadN hA hx rfl (hb hy d11_85) rfl  k) ?_
    show Go p e below _ (s₁.setTop (mkF m 86 #[.val (.long aa), .second, .val (.int (7 : Int32)), .unset] [(.int (7 : Int32))]))
    refine P0.xs (fun hA hx hy t k => XS.bipush hA hx rfl (hb hy d11_86) k) ?_
    show Go p e below _ (s₁.setTop (mkF m 88 #[.val (.long aa), .second, .val (.int (7 : Int32)), .unset] [(.int (7 : Int32)), (.int (7 : Int32))]))
    refine P0.xs (fun hA hx hy t k => XS.icmpNo hA hx rfl (hb hy d11_88) rfl (teq (by decide)).2 k) ?_
    show Go p e below _ (s₁.setTop (mkF m 91 #[.val (.long aa), .second, .val (.int (7 : Int32)), .unset] []))
    refine P0.xs (fun hA hx hy t k => XS.bipush hA hx rfl (hb hy d11_91) k) ?_
    show Go p e below _ (s₁.setTop (mkF m 93 #[.val (.long aa), .second, .val (.int (7 : Int32)), .unset] [(.int (7 : Int32))]))
    refine P0.newP (aty := .char) (hw _ (List.mem_of_getElem? (i := 1) rfl)) d11_93 (by decide) (cap := 7) (by decide) (by decide) (by decide) (by decide) fun T102 h102 o102 k102 g102 P102 E102 A102 => ?_
    have gz_o102 : Z.heap.size ≤ o102 := Nat.le_trans P0.old.1 (Nat.le_of_eq g102.symm)
    have gw_o102 : h0.size ≤ o102 := Nat.le_trans P0.kept.1 (Nat.le_of_eq g102.symm)
    have V102 : Arv Z h102 o102 k102 .char (7 : Int32) [(.int (0 : Int32)), (.int (0 : Int32)), (.int (0 : Int32)), (.int (0 : Int32)), (.int (0 : Int32)), (.int (0 : Int32)), (.int (0 : Int32))] (.int (0 : Int32)) := Arv.pad A102 (pad_rep [] (.int (0 : Int32)) 7)
    show Go p e below _ (T102.setTop (mkF m 95 #[.val (.long aa), .second, .val (.int (7 : Int32)), .unset] [(.ref o102)]))
    refine P102.xs (fun hA hx hy t k => XS.astoreN hA hx rfl (hb hy d11_95) rfl rfl (l' := #[.val (.long aa), .second, .val (.int (7 : Int32)), .val (.ref o102)]) rfl k) ?_
    show Go p e below _ (T102.setTop (mkF m 96 #[.val (.long aa), .second, .val (.int (7 : Int32)), .val (.ref o102)] []))
    refine P102.xs (fun hA hx hy t k => XS.goto hA hx rfl (pc0 := 96) (pc' := 104) rfl (hb hy d11_96) (by decide) (by decide) k) ?_
    show Go p e below _ (T102.setTop (mkF m 104 #[.val (.long aa), .second, .val (.int (7 : Int32)), .val (.ref o102)] []))
    refine P102.xs (fun hA hx hy t k => XS.aloadN hA hx rfl (hb hy d11_104) rfl rfl  k) ?_
    show Go p e below _ (T102.setTop (mkF m 105 #[.val (.long aa), .second, .val (.int (7 : Int32)), .val (.ref o102)] [(.ref o102)]))
    refine P102.alen V102 d11_105 ?_
    show Go p e below _ (T102.setTop (mkF m 106 #[.val (.long aa), .second, .val (.int (7 : Int32)), .val (.ref o102)] [(.int (7 : Int32))]))
    refine P102.xs (fun hA hx hy t k => XS.ifNo hA hx rfl (hb hy d11_106) rfl ((if0 _ _).trans (tlt (by decide)).2.2.2) k) ?_
    show Go p e below _ (T102.setTop (mkF m 109 #[.val (.long aa), .second, .val (.int (7 : Int32)), .val (.ref o102)] []))
    refine P102.xs (fun hA hx hy t k => XS.aloadN hA hx rfl (hb hy d11_109) rfl rfl  k) ?_
    show Go p e below _ (T102.setTop (mkF m 110 #[.val (.long aa), .second, .val (.int (7 : Int32)), .val (.ref o102)] [(.ref o102)]))
    refine P102.xs (fun hA hx hy t k => XS.iconst hA hx rfl (hb hy d11_110) k) ?_
    show Go p e below _ (T102.setTop (mkF m 111 #[.val (.long aa), .second, .val (.int (7 : Int32)), .val (.ref o102)] [(.int (0 : Int32)), (.ref o102)]))
    refine P102.xs (fun hA hx hy t k => XS.lloadN hA hx rfl (hb hy d11_111) rfl  k) ?_
    show Go p e below _ (T102.setTop (mkF m 112 #[.val (.long aa), .second, .val (.int (7 : Int32)), .val (.ref o102)] [(.long aa), (.int (0 : Int32)), (.ref o102)]))
    refine P102.xs (fun hA hx hy t k => XS.iconst hA hx rfl (hb hy d11_112) k) ?_
    show Go p e below _ (T102.setTop (mkF m 113 #[.val (.long aa), .second, .val (.int (7 : Int32)), .val (.ref o102)] [(.int (0 : Int32)), (.long aa), (.int (0 : Int32)), (.ref o102)]))
    refine P102.callS (hw _ (List.mem_of_getElem? (i := 74) rfl)) (hw _ (List.mem_of_getElem? (i := 75) rfl)) (hw _ (List.mem_of_getElem? (i := 72) rfl)) (hw _ (List.mem_of_getElem? (i := 76) rfl)) (by decide) (mAt l Z a0 hw hEL zc S0 Pz w_CLASS s_CLASS S_CLASS E_CLASS F_CLASS X_CLASS w_PROPERTY s_PROPERTY S_PROPERTY E_PROPERTY F_PROPERTY X_PROPERTY w_V k_V S_V E_V A_V aa (0 : Int32) h102 P102.old) (W := 2) (by decide) (by decide) (by decide) (by decide) all0 pd_2 (argsL := [(.long aa), (.int (0 : Int32))]) rfl rfl rfl (Nat.le_of_eq rfl) d11_113 fun v103 T103 h103 P103 K103 Q103 => ?_
    obtain ⟨ch103, rfl, lch103, nch103, hh103⟩ := Q103
    rw [hh103] at P103
    show Go p e below _ (T103.setTop (mkF m 116 #[.val (.long aa), .second, .val (.int (7 : Int32)), .val (.ref o102)] [(.int ch103), (.int (0 : Int32)), (.ref o102)]))
    refine P103.stC V102 0 (by decide) (by decide) (by decide) (Nat.le_of_ble_eq_true rfl) (x' := ch103) nch103 d11_116 gz_o102 (Or.inr gw_o102) fun T104 h104 P104 W104 V104 => ?_
    have Va104 : Arv Z h104 o102 k102 .char (7 : Int32) [(.int ch103), (.int (0 : Int32)), (.int (0 : Int32)), (.int (0 : Int32)), (.int (0 : Int32)), (.int (0 : Int32)), (.int (0 : Int32))] (.int (0 : Int32)) := V104
    show Go p e below _ (T104.setTop (mkF m 117 #[.val (.long aa), .second, .val (.int (7 : Int32)), .val (.ref o102)] []))
    refine P104.xs (fun hA hx hy t k => XS.aloadN hA hx rfl (hb hy d11_117) rfl rfl  k) ?_
    show Go p e below _ (T104.setTop (mkF m 118 #[.val (.long aa), .second, .val (.int (7 : Int32)), .val (.ref o102)] [(.ref o102)]))
    refine P104.alen Va104 d11_118 ?_
    show Go p e below _ (T104.setTop (mkF m 119 #[.val (.long aa), .second, .val (.int (7 : Int32)), .val (.ref o102)] [(.int (7 : Int32))]))
    refine P104.xs (fun hA hx hy t k => XS.iconst hA hx rfl (hb hy d11_119) k) ?_
    show Go p e below _ (T104.setTop (mkF m 120 #[.val (.long aa), .second, .val (.int (7 : Int32)), .val (.ref o102)] [(.int (1 : Int32)), (.int (7 : Int32))]))
    refine P104.xs (fun hA hx hy t k => XS.icmpNo hA hx rfl (hb hy d11_120) rfl (tlt (by decide)).2.2.2 k) ?_
    show Go p e below _ (T104.setTop (mkF m 123 #[.val (.long aa), .second, .val (.int (7 : Int32)), .val (.ref o102)] []))
    refine P104.xs (fun hA hx hy t k => XS.aloadN hA hx rfl (hb hy d11_123) rfl rfl  k) ?_
    show Go p e below _ (T104.setTop (mkF m 124 #[.val (.long aa), .second, .val (.int (7 : Int32)), .val (.ref o102)] [(.ref o102)]))
    refine P104.xs (fun hA hx hy t k => XS.iconst hA hx rfl (hb hy d11_124) k) ?_
    show Go p e below _ (T104.setTop (mkF m 125 #[.val (.long aa), .second, .val (.int (7 : Int32)), .val (.ref o102)] [(.int (1 : Int32)), (.ref o102)]))
    refine P104.xs (fun hA hx hy t k => XS.lloadN hA hx rfl (hb hy d11_125) rfl  k) ?_
    show Go p e below _ (T104.setTop (mkF m 126 #[.val (.long aa), .second, .val (.int (7 : Int32)), .val (.ref o102)] [(.long aa), (.int (1 : Int32)), (.ref o102)]))
    refine P104.xs (fun hA hx hy t k => XS.iconst hA hx rfl (hb hy d11_126) k) ?_
    show Go p e below _ (T104.setTop (mkF m 127 #[.val (.long aa), .second, .val (.int (7 : Int32)), .val (.ref o102)] [(.int (1 : Int32)), (.long aa), (.int (1 : Int32)), (.ref o102)]))
    refine P104.callS (hw _ (List.mem_of_getElem? (i := 74) rfl)) (hw _ (List.mem_of_getElem? (i := 75) rfl)) (hw _ (List.mem_of_getElem? (i := 72) rfl)) (hw _ (List.mem_of_getElem? (i := 76) rfl)) (by decide) (mAt l Z a0 hw hEL zc S0 Pz w_CLASS s_CLASS S_CLASS E_CLASS F_CLASS X_CLASS w_PROPERTY s_PROPERTY S_PROPERTY E_PROPERTY F_PROPERTY X_PROPERTY w_V k_V S_V E_V A_V aa (1 : Int32) h104 P104.old) (W := 2) (by decide) (by decide) (by decide) (by decide) all0 pd_2 (argsL := [(.long aa), (.int (1 : Int32))]) rfl rfl rfl (Nat.le_of_eq rfl) d11_127 fun v105 T105 h105 P105 K105 Q105 => ?_
    obtain ⟨ch105, rfl, lch105, nch105, hh105⟩ := Q105
    rw [hh105] at P105
    show Go p e below _ (T105.setTop (mkF m 130 #[.val (.long aa), .second, .val (.int (7 : Int32)), .val (.ref o102)] [(.int ch105), (.int (1 : Int32)), (.ref o102)]))
    refine P105.stC Va104 1 (by decide) (by decide) (by decide) (Nat.le_of_ble_eq_true rfl) (x' := ch105) nch105 d11_130 gz_o102 (Or.inr gw_o102) fun T106 h106 P106 W106 V106 => ?_
    have Va106 : Arv Z h106 o102 k102 .char (7 : Int32) [(.int ch103), (.int ch105), (.int (0 : Int32)), (.int (0 : Int32)), (.int (0 : Int32)), (.int (0 : Int32)), (.int (0 : Int32))] (.int (0 : Int32)) := V106
    show Go p e below _ (T106.setTop (mkF m 131 #[.val (.long aa), .second, .val (.int (7 : Int32)), .val (.ref o102)] []))
    refine P106.xs (fun hA hx hy t k => XS.aloadN hA hx rfl (hb hy d11_131) rfl rfl  k) ?_
    show Go p e below _ (T106.setTop (mkF m 132 #[.val (.long aa), .second, .val (.int (7 : Int32)), .val (.ref o102)] [(.ref o102)]))
    refine P106.alen Va106 d11_132 ?_
    show Go p e below _ (T106.setTop (mkF m 133 #[.val (.long aa), .second, .val (.int (7 : Int32)), .val (.ref o102)] [(.int (7 : Int32))]))
    refine P106.xs (fun hA hx hy t k => XS.iconst hA hx rfl (hb hy d11_133) k) ?_
    show Go p e below _ (T106.setTop (mkF m 134 #[.val (.long aa), .second, .val (.int (7 : Int32)), .val (.ref o102)] [(.int (2 : Int32)), (.int (7 : Int32))]))
    refine P106.xs (fun hA hx hy t k => XS.icmpNo hA hx rfl (hb hy d11_134) rfl (tlt (by decide)).2.2.2 k) ?_
    show Go p e below _ (T106.setTop (mkF m 137 #[.val (.long aa), .second, .val (.int (7 : Int32)), .val (.ref o102)] []))
    refine P106.xs (fun hA hx hy t k => XS.aloadN hA hx rfl (hb hy d11_137) rfl rfl  k) ?_
    show Go p e below _ (T106.setTop (mkF m 138 #[.val (.long aa), .second, .val (.int (7 : Int32)), .val (.ref o102)] [(.ref o102)]))
    refine P106.xs (fun hA hx hy t k => XS.iconst hA hx rfl (hb hy d11_138) k) ?_
    show Go p e below _ (T106.setTop (mkF m 139 #[.val (.long aa), .second, .val (.int (7 : Int32)), .val (.ref o102)] [(.int (2 : Int32)), (.ref o102)]))
    refine P106.xs (fun hA hx hy t k => XS.lloadN hA hx rfl (hb hy d11_139) rfl  k) ?_
    show Go p e below _ (T106.setTop (mkF m 140 #[.val (.long aa), .second, .val (.int (7 : Int32)), .val (.ref o102)] [(.long aa), (.int (2 : Int32)), (.ref o102)]))
    refine P106.xs (fun hA hx hy t k => XS.iconst hA hx rfl (hb hy d11_140) k) ?_
    show Go p e below _ (T106.setTop (mkF m 141 #[.val (.long aa), .second, .val (.int (7 : Int32)), .val (.ref o102)] [(.int (2 : Int32)), (.long aa), (.int (2 : Int32)), (.ref o102)]))
    refine P106.callS (hw _ (List.mem_of_getElem? (i := 74) rfl)) (hw _ (List.mem_of_getElem? (i := 75) rfl)) (hw _ (List.mem_of_getElem? (i := 72) rfl)) (hw _ (List.mem_of_getElem? (i := 76) rfl)) (by decide) (mAt l Z a0 hw hEL zc S0 Pz w_CLASS s_CLASS S_CLASS E_CLASS F_CLASS X_CLASS w_PROPERTY s_PROPERTY S_PROPERTY E_PROPERTY F_PROPERTY X_PROPERTY w_V k_V S_V E_V A_V aa (2 : Int32) h106 P106.old) (W := 2) (by decide) (by decide) (by decide) (by decide) all0 pd_2 (argsL := [(.long aa), (.int (2 : Int32))]) rfl rfl rfl (Nat.le_of_eq rfl) d11_141 fun v107 T107 h107 P107 K107 Q107 => ?_
    obtain ⟨ch107, rfl, lch107, nch107, hh107⟩ := Q107
    rw [hh107] at P107
    show Go p e below _ (T107.setTop (mkF m 144 #[.val (.long aa), .second, .val (.int (7 : Int32)), .val (.ref o102)] [(.int ch107), (.int (2 : Int32)), (.ref o102)]))
    refine P107.stC Va106 2 (by decide) (by decide) (by decide) (Nat.le_of_ble_eq_true rfl) (x' := ch107) nch107 d11_144 gz_o102 (Or.inr gw_o102) fun T108 h108 P108 W108 V108 => ?_
    have Va108 : Arv Z h108 o102 k102 .char (7 : Int32) [(.int ch103), (.int ch105), (.int ch107), (.int (0 : Int32)), (.int (0 : Int32)), (.int (0 : Int32)), (.int (0 : Int32))] (.int (0 : Int32)) := V108
    show Go p e below _ (T108.setTop (mkF m 145 #[.val (.long aa), .second, .val (.int (7 : Int32)), .val (.ref o102)] []))
    refine P108.xs (fun hA hx hy t k => XS.aloadN hA hx rfl (hb hy d11_145) rfl rfl  k) ?_
    show Go p e below _ (T108.setTop (mkF m 146 #[.val (.long aa), .second, .val (.int (7 : Int32)), .val (.ref o102)] [(.ref o102)]))
    refine P108.alen Va108 d11_146 ?_
    show Go p e below _ (T108.setTop (mkF m 147 #[.val (.long aa), .second, .val (.int (7 : Int32)), .val (.ref o102)] [(.int (7 : Int32))]))
    refine P108.xs (fun hA hx hy t k => XS.iconst hA hx rfl (hb hy d11_147) k) ?_
    show Go p e below _ (T108.setTop (mkF m 148 #[.val (.long aa), .second, .val (.int (7 : Int32)), .val (.ref o102)] [(.int (3 : Int32)), (.int (7 : Int32))]))
    refine P108.xs (fun hA hx hy t k => XS.icmpNo hA hx rfl (hb hy d11_148) rfl (tlt (by decide)).2.2.2 k) ?_
    show Go p e below _ (T108.setTop (mkF m 151 #[.val (.long aa), .second, .val (.int (7 : Int32)), .val (.ref o102)] []))
    refine P108.xs (fun hA hx hy t k => XS.aloadN hA hx rfl (hb hy d11_151) rfl rfl  k) ?_
    show Go p e below _ (T108.setTop (mkF m 152 #[.val (.long aa), .second, .val (.int (7 : Int32)), .val (.ref o102)] [(.ref o102)]))
    refine P108.xs (fun hA hx hy t k => XS.iconst hA hx rfl (hb hy d11_152) k) ?_
    show Go p e below _ (T108.setTop (mkF m 153 #[.val (.long aa), .second, .val (.int (7 : Int32)), .val (.ref o102)] [(.int (3 : Int32)), (.ref o102)]))
    refine P108.xs (fun hA hx hy t k => XS.lloadN hA hx rfl (hb hy d11_153) rfl  k) ?_
    show Go p e below _ (T108.setTop (mkF m 154 #[.val (.long aa), .second, .val (.int (7 : Int32)), .val (.ref o102)] [(.long aa), (.int (3 : Int32)), (.ref o102)]))
    refine P108.xs (fun hA hx hy t k => XS.iconst hA hx rfl (hb hy d11_154) k) ?_
    show Go p e below _ (T108.setTop (mkF m 155 #[.val (.long aa), .second, .val (.int (7 : Int32)), .val (.ref o102)] [(.int (3 : Int32)), (.long aa), (.int (3 : Int32)), (.ref o102)]))
    refine P108.callS (hw _ (List.mem_of_getElem? (i := 74) rfl)) (hw _ (List.mem_of_getElem? (i := 75) rfl)) (hw _ (List.mem_of_getElem? (i := 72) rfl)) (hw _ (List.mem_of_getElem? (i := 76) rfl)) (by decide) (mAt l Z a0 hw hEL zc S0 Pz w_CLASS s_CLASS S_CLASS E_CLASS F_CLASS X_CLASS w_PROPERTY s_PROPERTY S_PROPERTY E_PROPERTY F_PROPERTY X_PROPERTY w_V k_V S_V E_V A_V aa (3 : Int32) h108 P108.old) (W := 2) (by decide) (by decide) (by decide) (by decide) all0 pd_2 (argsL := [(.long aa), (.int (3 : Int32))]) rfl rfl rfl (Nat.le_of_eq rfl) d11_155 fun v109 T109 h109 P109 K109 Q109 => ?_
    obtain ⟨ch109, rfl, lch109, nch109, hh109⟩ := Q109
    rw [hh109] at P109
    show Go p e below _ (T109.setTop (mkF m 158 #[.val (.long aa), .second, .val (.int (7 : Int32)), .val (.ref o102)] [(.int ch109), (.int (3 : Int32)), (.ref o102)]))
    refine P109.stC Va108 3 (by decide) (by decide) (by decide) (Nat.le_of_ble_eq_true rfl) (x' := ch109) nch109 d11_158 gz_o102 (Or.inr gw_o102) fun T110 h110 P110 W110 V110 => ?_
    have Va110 : Arv Z h110 o102 k102 .char (7 : Int32) [(.int ch103), (.int ch105), (.int ch107), (.int ch109), (.int (0 : Int32)), (.int (0 : Int32)), (.int (0 : Int32))] (.int (0 : Int32)) := V110
    show Go p e below _ (T110.setTop (mkF m 159 #[.val (.long aa), .second, .val (.int (7 : Int32)), .val (.ref o102)] []))
    refine P110.xs (fun hA hx hy t k => XS.aloadN hA hx rfl (hb hy d11_159) rfl rfl  k) ?_
    show Go p e below _ (T110.setTop (mkF m 160 #[.val (.long aa), .second, .val (.int (7 : Int32)), .val (.ref o102)] [(.ref o102)]))
    refine P110.alen Va110 d11_160 ?_
    show Go p e below _ (T110.setTop (mkF m 161 #[.val (.long aa), .second, .val (.int (7 : Int32)), .val (.ref o102)] [(.int (7 : Int32))]))
    refine P110.xs (fun hA hx hy t k => XS.iconst hA hx rfl (hb hy d11_161) k) ?_
    show Go p e below _ (T110.setTop (mkF m 162 #[.val (.long aa), .second, .val (.int (7 : Int32)), .val (.ref o102)] [(.int (4 : Int32)), (.int (7 : Int32))]))
    refine P110.xs (fun hA hx hy t k => XS.icmpNo hA hx rfl (hb hy d11_162) rfl (tlt (by decide)).2.2.2 k) ?_
    show Go p e below _ (T110.setTop (mkF m 165 #[.val (.long aa), .second, .val (.int (7 : Int32)), .val (.ref o102)] []))
    refine P110.xs (fun hA hx hy t k => XS.aloadN hA hx rfl (hb hy d11_165) rfl rfl  k) ?_
    show Go p e below _ (T110.setTop (mkF m 166 #[.val (.long aa), .second, .val (.int (7 : Int32)), .val (.ref o102)] [(.ref o102)]))
    refine P110.xs (fun hA hx hy t k => XS.iconst hA hx rfl (hb hy d11_166) k) ?_
    show Go p e below _ (T110.setTop (mkF m 167 #[.val (.long aa), .second, .val (.int (7 : Int32)), .val (.ref o102)] [(.int (4 : Int32)), (.ref o102)]))
    refine P110.xs (fun hA hx hy t k => XS.lloadN hA hx rfl (hb hy d11_167) rfl  k) ?_
    show Go p e below _ (T110.setTop (mkF m 168 #[.val (.long aa), .second, .val (.int (7 : Int32)), .val (.ref o102)] [(.long aa), (.int (4 : Int32)), (.ref o102)]))
    refine P110.xs (fun hA hx hy t k => XS.iconst hA hx rfl (hb hy d11_168) k) ?_
    show Go p e below _ (T110.setTop (mkF m 169 #[.val (.long aa), .second, .val (.int (7 : Int32)), .val (.ref o102)] [(.int (4 : Int32)), (.long aa), (.int (4 : Int32)), (.ref o102)]))
    refine P110.callS (hw _ (List.mem_of_getElem? (i := 74) rfl)) (hw _ (List.mem_of_getElem? (i := 75) rfl)) (hw _ (List.mem_of_getElem? (i := 72) rfl)) (hw _ (List.mem_of_getElem? (i := 76) rfl)) (by decide) (mAt l Z a0 hw hEL zc S0 Pz w_CLASS s_CLASS S_CLASS E_CLASS F_CLASS X_CLASS w_PROPERTY s_PROPERTY S_PROPERTY E_PROPERTY F_PROPERTY X_PROPERTY w_V k_V S_V E_V A_V aa (4 : Int32) h110 P110.old) (W := 2) (by decide) (by decide) (by decide) (by decide) all0 pd_2 (argsL := [(.long aa), (.int (4 : Int32))]) rfl rfl rfl (Nat.le_of_eq rfl) d11_169 fun v111 T111 h111 P111 K111 Q111 => ?_
    obtain ⟨ch111, rfl, lch111, nch111, hh111⟩ := Q111
    rw [hh111] at P111
    show Go p e below _ (T111.setTop (mkF m 172 #[.val (.long aa), .second, .val (.int (7 : Int32)), .val (.ref o102)] [(.int ch111), (.int (4 : Int32)), (.ref o102)]))
    refine P111.stC Va110 4 (by decide) (by decide) (by decide) (Nat.le_of_ble_eq_true rfl) (x' := ch111) nch111 d11_172 gz_o102 (Or.inr gw_o102) fun T112 h112 P112 W112 V112 => ?_
    have Va112 : Arv Z h112 o102 k102 .char (7 : Int32) [(.int ch103), (.int ch105), (.int ch107), (.int ch109), (.int ch111), (.int (0 : Int32)), (.int (0 : Int32))] (.int (0 : Int32)) := V112
    show Go p e below _ (T112.setTop (mkF m 173 #[.val (.long aa), .second, .val (.int (7 : Int32)), .val (.ref o102)] []))
    refine P112.xs (fun hA hx hy t k => XS.aloadN hA hx rfl (hb hy d11_173) rfl rfl  k) ?_
    show Go p e below _ (T112.setTop (mkF m 174 #[.val (.long aa), .second, .val (.int (7 : Int32)), .val (.ref o102)] [(.ref o102)]))
    refine P112.alen Va112 d11_174 ?_
    show Go p e below _ (T112.setTop (mkF m 175 #[.val (.long aa), .second, .val (.int (7 : Int32)), .val (.ref o102)] [(.int (7 : Int32))]))
    refine P112.xs (fun hA hx hy t k => XS.iconst hA hx rfl (hb hy d11_175) k) ?_
    show Go p e below _ (T112.setTop (mkF m 176 #[.val (.long aa), .second, .val (.int (7 : Int32)), .val (.ref o102)] [(.int (5 : Int32)), (.int (7 : Int32))]))
    refine P112.xs (fun hA hx hy t k => XS.icmpNo hA hx rfl (hb hy d11_176) rfl (tlt (by decide)).2.2.2 k) ?_
    show Go p e below _ (T112.setTop (mkF m 179 #[.val (.long aa), .second, .val (.int (7 : Int32)), .val (.ref o102)] []))
    refine P112.xs (fun hA hx hy t k => XS.aloadN hA hx rfl (hb hy d11_179) rfl rfl  k) ?_
    show Go p e below _ (T112.setTop (mkF m 180 #[.val (.long aa), .second, .val (.int (7 : Int32)), .val (.ref o102)] [(.ref o102)]))
    refine P112.xs (fun hA hx hy t k => XS.iconst hA hx rfl (hb hy d11_180) k) ?_
    show Go p e below _ (T112.setTop (mkF m 181 #[.val (.long aa), .second, .val (.int (7 : Int32)), .val (.ref o102)] [(.int (5 : Int32)), (.ref o102)]))
    refine P112.xs (fun hA hx hy t k => XS.lloadN hA hx rfl (hb hy d11_181) rfl  k) ?_
    show Go p e below _ (T112.setTop (mkF m 182 #[.val (.long aa), .second, .val (.int (7 : Int32)), .val (.ref o102)] [(.long aa), (.int (5 : Int32)), (.ref o102)]))
    refine P112.xs (fun hA hx hy t k => XS.iconst hA hx rfl (hb hy d11_182) k) ?_
    show Go p e below _ (T112.setTop (mkF m 183 #[.val (.long aa), .second, .val (.int (7 : Int32)), .val (.ref o102)] [(.int (5 : Int32)), (.long aa), (.int (5 : Int32)), (.ref o102)]))
    refine P112.callS (hw _ (List.mem_of_getElem? (i := 74) rfl)) (hw _ (List.mem_of_getElem? (i := 75) rfl)) (hw _ (List.mem_of_getElem? (i := 72) rfl)) (hw _ (List.mem_of_getElem? (i := 76) rfl)) (by decide) (mAt l Z a0 hw hEL zc S0 Pz w_CLASS s_CLASS S_CLASS E_CLASS F_CLASS X_CLASS w_PROPERTY s_PROPERTY S_PROPERTY E_PROPERTY F_PROPERTY X_PROPERTY w_V k_V S_V E_V A_V aa (5 : Int32) h112 P112.old) (W := 2) (by decide) (by decide) (by decide) (by decide) all0 pd_2 (argsL := [(.long aa), (.int (5 : Int32))]) rfl rfl rfl (Nat.le_of_eq rfl) d11_183 fun v113 T113 h113 P113 K113 Q113 => ?_
    obtain ⟨ch113, rfl, lch113, nch113, hh113⟩ := Q113
    rw [hh113] at P113
    show Go p e below _ (T113.setTop (mkF m 186 #[.val (.long aa), .second, .val (.int (7 : Int32)), .val (.ref o102)] [(.int ch113), (.int (5 : Int32)), (.ref o102)]))
    refine P113.stC Va112 5 (by decide) (by decide) (by decide) (Nat.le_of_ble_eq_true rfl) (x' := ch113) nch113 d11_186 gz_o102 (Or.inr gw_o102) fun T114 h114 P114 W114 V114 => ?_
    have Va114 : Arv Z h114 o102 k102 .char (7 : Int32) [(.int ch103), (.int ch105), (.int ch107), (.int ch109), (.int ch111), (.int ch113), (.int (0 : Int32))] (.int (0 : Int32)) := V114
    show Go p e below _ (T114.setTop (mkF m 187 #[.val (.long aa), .second, .val (.int (7 : Int32)), .val (.ref o102)] []))
    refine P114.xs (fun hA hx hy t k => XS.aloadN hA hx rfl (hb hy d11_187) rfl rfl  k) ?_
    show Go p e below _ (T114.setTop (mkF m 188 #[.val (.long aa), .second, .val (.int (7 : Int32)), .val (.ref o102)] [(.ref o102)]))
    refine P114.alen Va114 d11_188 ?_
    show Go p e below _ (T114.setTop (mkF m 189 #[.val (.long aa), .second, .val (.int (7 : Int32)), .val (.ref o102)] [(.int (7 : Int32))]))
    refine P114.xs (fun hA hx hy t k => XS.bipush hA hx rfl (hb hy d11_189) k) ?_
    show Go p e below _ (T114.setTop (mkF m 191 #[.val (.long aa), .second, .val (.int (7 : Int32)), .val (.ref o102)] [(.int (6 : Int32)), (.int (7 : Int32))]))
    refine P114.xs (fun hA hx hy t k => XS.icmpNo hA hx rfl (hb hy d11_191) rfl (tlt (by decide)).2.2.2 k) ?_
    show Go p e below _ (T114.setTop (mkF m 194 #[.val (.long aa), .second, .val (.int (7 : Int32)), .val (.ref o102)] []))
    refine P114.xs (fun hA hx hy t k => XS.aloadN hA hx rfl (hb hy d11_194) rfl rfl  k) ?_
    show Go p e below _ (T114.setTop (mkF m 195 #[.val (.long aa), .second, .val (.int (7 : Int32)), .val (.ref o102)] [(.ref o102)]))
    refine P114.xs (fun hA hx hy t k => XS.bipush hA hx rfl (hb hy d11_195) k) ?_
    show Go p e below _ (T114.setTop (mkF m 197 #[.val (.long aa), .second, .val (.int (7 : Int32)), .val (.ref o102)] [(.int (6 : Int32)), (.ref o102)]))
    refine P114.xs (fun hA hx hy t k => XS.lloadN hA hx rfl (hb hy d11_197) rfl  k) ?_
    show Go p e below _ (T114.setTop (mkF m 198 #[.val (.long aa), .second, .val (.int (7 : Int32)), .val (.ref o102)] [(.long aa), (.int (6 : Int32)), (.ref o102)]))
    refine P114.xs (fun hA hx hy t k => XS.bipush hA hx rfl (hb hy d11_198) k) ?_
    show Go p e below _ (T114.setTop (mkF m 200 #[.val (.long aa), .second, .val (.int (7 : Int32)), .val (.ref o102)] [(.int (6 : Int32)), (.long aa), (.int (6 : Int32)), (.ref o102)]))
    refine P114.callS (hw _ (List.mem_of_getElem? (i := 74) rfl)) (hw _ (List.mem_of_getElem? (i := 75) rfl)) (hw _ (List.mem_of_getElem? (i := 72) rfl)) (hw _ (List.mem_of_getElem? (i := 76) rfl)) (by decide) (mAt l Z a0 hw hEL zc S0 Pz w_CLASS s_CLASS S_CLASS E_CLASS F_CLASS X_CLASS w_PROPERTY s_PROPERTY S_PROPERTY E_PROPERTY F_PROPERTY X_PROPERTY w_V k_V S_V E_V A_V aa (6 : Int32) h114 P114.old) (W := 2) (by decide) (by decide) (by decide) (by decide) all0 pd_2 (argsL := [(.long aa), (.int (6 : Int32))]) rfl rfl rfl (Nat.le_of_eq rfl) d11_200 fun v115 T115 h115 P115 K115 Q115 => ?_
    obtain ⟨ch115, rfl, lch115, nch115, hh115⟩ := Q115
    rw [hh115] at P115
    show Go p e below _ (T115.setTop (mkF m 203 #[.val (.long aa), .second, .val (.int (7 : Int32)), .val (.ref o102)] [(.int ch115), (.int (6 : Int32)), (.ref o102)]))
    refine P115.stC Va114 6 (by decide) (by decide) (by decide) (Nat.le_of_ble_eq_true rfl) (x' := ch115) nch115 d11_203 gz_o102 (Or.inr gw_o102) fun T116 h116 P116 W116 V116 => ?_
    have Va116 : Arv Z h116 o102 k102 .char (7 : Int32) [(.int ch103), (.int ch105), (.int ch107), (.int ch109), (.int ch111), (.int ch113), (.int ch115)] (.int (0 : Int32)) := V116
    show Go p e below _ (T116.setTop (mkF m 204 #[.val (.long aa), .second, .val (.int (7 : Int32)), .val (.ref o102)] []))
    refine P116.xs (fun hA hx hy t k => XS.aloadN hA hx rfl (hb hy d11_204) rfl rfl  k) ?_
    show Go p e below _ (T116.setTop (mkF m 205 #[.val (.long aa), .second, .val (.int (7 : Int32)), .val (.ref o102)] [(.ref o102)]))
    refine P116.alen Va116 d11_205 ?_
    show Go p e below _ (T116.setTop (mkF m 206 #[.val (.long aa), .second, .val (.int (7 : Int32)), .val (.ref o102)] [(.int (7 : Int32))]))
    refine P116.xs (fun hA hx hy t k => XS.bipush hA hx rfl (hb hy d11_206) k) ?_
    show Go p e below _ (T116.setTop (mkF m 208 #[.val (.long aa), .second, .val (.int (7 : Int32)), .val (.ref o102)] [(.int (7 : Int32)), (.int (7 : Int32))]))
    refine P116.xs (fun hA hx hy t k => XS.icmpYes hA hx rfl (pc0 := 208) (pc' := 221) rfl (hb hy d11_208) rfl (flt (by decide)).2.2.2 (by decide) (by decide) k) ?_
    show Go p e below _ (T116.setTop (mkF m 221 #[.val (.long aa), .second, .val (.int (7 : Int32)), .val (.ref o102)] []))
    refine P116.newO (hw _ (List.mem_of_getElem? (i := 2) rfl)) (hw _ (List.mem_of_getElem? (i := 3) rfl)) (hw _ (List.mem_of_getElem? (i := 4) rfl)) d11_221 (by decide) (by decide) fun T117 h117 o117 g117 P117 E117 A117 D117 => ?_
    have ne_o102_o117 : o102 ≠ o117 := Nat.ne_of_lt (Nat.lt_of_lt_of_le Va116.lt (Nat.le_of_eq g117.symm))
    have gz_o117 : Z.heap.size ≤ o117 := Nat.le_trans P116.old.1 (Nat.le_of_eq g117.symm)
    have gw_o117 : h0.size ≤ o117 := Nat.le_trans P116.kept.1 (Nat.le_of_eq g117.symm)
    have F117_coder : Fld Z h117 o117 "java/lang/String" "coder" "B" (.int (0 : Int32)) := D117 (Or.inr (hw _ (List.mem_of_getElem? (i := 28) rfl))) (ty := .byte) (by decide)
    have F117_value : Fld Z h117 o117 "java/lang/String" "value" "[B" .null := D117 (Or.inr (hw _ (List.mem_of_getElem? (i := 30) rfl))) (ty := (.array .byte)) (by decide)
    show Go p e below _ (T117.setTop (mkF m 224 #[.val (.long aa), .second, .val (.int (7 : Int32)), .val (.ref o102)] [(.ref o117)]))
    refine P117.xs (fun hA hx hy t k => XS.dup hA hx rfl (hb hy d11_224) rfl rfl k) ?_
    show Go p e below _ (T117.setTop (mkF m 225 #[.val (.long aa), .second, .val (.int (7 : Int32)), .val (.ref o102)] [(.ref o117), (.ref o117)]))
    refine P117.xs (fun hA hx hy t k => XS.aloadN hA hx rfl (hb hy d11_225) rfl rfl  k) ?_
    show Go p e below _ (T117.setTop (mkF m 226 #[.val (.long aa), .second, .val (.int (7 : Int32)), .val (.ref o102)] [(.ref o102), (.ref o117), (.ref o117)]))
    have Ac118 : Arv Z h117 o102 k102 .char (7 : Int32) [(.int ch103), (.int ch105), (.int ch107), (.int ch109), (.int ch111), (.int ch113), (.int ch115)] (.int (0 : Int32)) := (Va116.ext E117)
    refine P117.specB (W := 1) (ws' := [o117]) rfl (hw _ (List.mem_of_getElem? (i := 5) rfl)) (hw _ (List.mem_of_getElem? (i := 6) rfl)) (hw _ (List.mem_of_getElem? (i := 7) rfl)) (by decide) (fun vm0 hZ => StrChars.Road.backV (W := 1) hZ (wStr hw) (kI := 4) (hw _ (List.mem_of_getElem? (i := 3) rfl)) (cs := ([ch103, ch105, ch107, ch109, ch111, ch113, ch115] : List Int32)) (bs := ([ch103, ch105, ch107, ch109, ch111, ch113, ch115] : List Int32).map (fun c => c.toInt8.toInt32)) (n := 7) gz_o117 P117.old.1 A117 F117_value F117_coder Ac118 (S0.ext P117.old) Pz rfl rfl (by decide) (by decide) (latS lch103 (latS lch105 (latS lch107 (latS lch109 (latS lch111 (latS lch113 (latS lch115 lat0))))))) rfl (by decide) (by decide)) rfl (fun v h' L q => ⟨q.2.1, q.2.2.1⟩) (by decide) (by decide) (allS ⟨(Or.inr gw_o117), gz_o117⟩ all0) (fun vm hs hal hr => safe1 (safeNull hal A117 F117_value)) pd_1 (argsL := [(.ref o102)]) rfl rfl rfl (Nat.le_of_eq rfl) d11_226 fun v119 T119 h119 L119 P119 Q119 => ?_
    obtain ⟨rfl, N119, K119, E119, C119, b119, k119, gb119, gc119, gd119, V119, B119⟩ := Q119
    show Go p e below _ (T119.setTop (mkF m 229 #[.val (.long aa), .second, .val (.int (7 : Int32)), .val (.ref o102)] [(.ref o117)]))
    have Ac120 : Arv Z h119 o102 k102 .char (7 : Int32) [(.int ch103), (.int ch105), (.int ch107), (.int ch109), (.int ch111), (.int ch113), (.int ch115)] (.int (0 : Int32)) := (Ac118.keep K119 (ninS ne_o102_o117 nin0))
    exact P119.retR rfl rfl rfl d11_229 (by decide) (by decide) ⟨o117, ([ch103, ch105, ch107, ch109, ch111, ch113, ch115] : List Int32), rfl, gw_o117, (strOf (n := 7) rfl (latS lch103 (latS lch105 (latS lch107 (latS lch109 (latS lch111 (latS lch113 (latS lch115 lat0))))))) (by decide) E119 C119 V119 B119)⟩
  · show Go p e below _ (s₁.setTop (mkF m 0 #[.val (.long aa), .second, .val (.int (8 : Int32)), .unset] []))
    refine P0.xs (fun hA hx hy t k => XS.iloadN hA hx rfl (hb hy d11_0) rfl  k) ?_
    show Go p e below _ (s₁.setTop (mkF m 1 #[.val (.long aa), .second, .val (.int (8 : Int32)), .unset] [(.int (8 : Int32))]))
    refine P0.xs (fun hA hx hy t k => XS.ifYes hA hx rfl (pc0 := 1) (pc' := 11) rfl (hb hy d11_1) rfl ((if0 _ _).trans (feq (by decide)).2) (by decide) (by decide) k) ?_
    show Go p e below _ (s₁.setTop (mkF m 11 #[.val (.long aa), .second, .val (.int (8 : Int32)), .unset] []))
    refine P0.xs (fun hA hx hy t k => XS.iloadN hA hx rfl (hb hy d11_11) rfl  k) ?_
    show Go p e below _ (s₁.setTop (mkF m 12 #[.val (.long aa), .second, .val (.int (8 : Int32)), .unset] [(.int (8 : Int32))]))
    refine P0.xs (fun hA hx hy t k => XS.iconst hA hx rfl (hb hy d11_12) k) ?_
    show Go p e below _ (s₁.setTop (mkF m 13 #[.val (.long aa), .second, .val (.int (8 : Int32)), .unset] [(.int (1 : Int32)), (.int (8 : Int32))]))
    refine P0.xs (fun hA hx hy t k => XS.icmpYes hA hx rfl (pc0 := 13) (pc' := 23) rfl (hb hy d11_13) rfl (feq (by decide)).2 (by decide) (by decide) k) ?_
    show Go p e below _ (s₁.setTop (mkF m 23 #[.val (.long aa), .second, .val (.int (8 : Int32)), .unset] []))
    refine P0.xs (fun hA hx hy t k => XS.iloadN hA hx rfl (hb hy d11_23) rfl  k) ?_
    show Go p e below _ (s₁.setTop (mkF m 24 #[.val (.long aa), .second, .val (.int (8 : Int32)), .unset] [(.int (8 : Int32))]))
    refine P0.xs (fun hA hx hy t k => XS.iconst hA hx rfl (hb hy d11_24) k) ?_
    show Go p e below _ (s₁.setTop (mkF m 25 #[.val (.long aa), .second, .val (.int (8 : Int32)), .unset] [(.int (2 : Int32)), (.int (8 : Int32))]))
    refine P0.xs (fun hA hx hy t k => XS.icmpYes hA hx rfl (pc0 := 25) (pc' := 35) rfl (hb hy d11_25) rfl (feq (by decide)).2 (by decide) (by decide) k) ?_
    show Go p e below _ (s₁.setTop (mkF m 35 #[.val (.long aa), .second, .val (.int (8 : Int32)), .unset] []))
    refine P0.xs (fun hA hx hy t k => XS.iloadN hA hx rfl (hb hy d11_35) rfl  k) ?_
    show Go p e below _ (s₁.setTop (mkF m 36 #[.val (.long aa), .second, .val (.int (8 : Int32)), .unset] [(.int (8 : Int32))]))
    refine P0.xs (fun hA hx hy t k => XS.iconst hA hx rfl (hb hy d11_36) k) ?_
    show Go p e below _ (s₁.setTop (mkF m 37 #[.val (.long aa), .second, .val (.int (8 : Int32)), .unset] [(.int (3 : Int32)), (.int (8 : Int32))]))
    refine P0.xs (fun hA hx hy t k => XS.icmpYes hA hx rfl (pc0 := 37) (pc' := 47) rfl (hb hy d11_37) rfl (feq (by decide)).2 (by decide) (by decide) k) ?_
    show Go p e below _ (s₁.setTop (mkF m 47 #[.val (.long aa), .second, .val (.int (8 : Int32)), .unset] []))
    refine P0.xs (fun hA hx hy t k => XS.iloadN hA hx rfl (hb hy d11_47) rfl  k) ?_
    show Go p e below _ (s₁.setTop (mkF m 48 #[.val (.long aa), .second, .val (.int (8 : Int32)), .unset] [(.int (8 : Int32))]))
    refine P0.xs (fun hA hx hy t k => XS.iconst hA hx rfl (hb hy d11_48) k) ?_
    show Go p e below _ (s₁.setTop (mkF m 49 #[.val (.long aa), .second, .val (.int (8 : Int32)), .unset] [(.int (4 : Int32)), (.int (8 : Int32))]))
    refine P0.xs (fun hA hx hy t k => XS.icmpYes hA hx rfl (pc0 := 49) (pc' := 59) rfl (hb hy d11_49) rfl (feq (by decide)).2 (by decide) (by decide) k) ?_
    show Go p e below _ (s₁.setTop (mkF m 59 #[.val (.long aa), .second, .val (.int (8 : Int32)), .unset] []))
    refine P0.xs (fun hA hx hy t k => XS.iloadN hA hx rfl (hb hy d11_59) rfl  k) ?_
    show Go p e below _ (s₁.setTop (mkF m 60 #[.val (.long aa), .second, .val (.int (8 : Int32)), .unset] [(.int (8 : Int32))]))
    refine P0.xs (fun hA hx hy t k => XS.iconst hA hx rfl (hb hy d11_60) k) ?_
    show Go p e below _ (s₁.setTop (mkF m 61 #[.val (.long aa), .second, .val (.int (8 : Int32)), .unset] [(.int (5 : Int32)), (.int (8 : Int32))]))
    refine P0.xs (fun hA hx hy t k => XS.icmpYes hA hx rfl (pc0 := 61) (pc' := 71) rfl (hb hy d11_61) rfl (feq (by decide)).2 (by decide) (by decide) k) ?_
    show Go p e below _ (s₁.setTop (mkF m 71 #[.val (.long aa), .second, .val (.int (8 : Int32)), .unset] []))
    refine P0.xs (fun hA hx hy t k => XS.iloadN hA hx rfl (hb hy d11_71) rfl  k) ?_
    show Go p e below _ (s₁.setTop (mkF m 72 #[.val (.long aa), .second, .val (.int (8 : Int32)), .unset] [(.int (8 : Int32))]))
    refine P0.xs (fun hA hx hy t k => XS.bipush hA hx rfl (hb hy d11_72) k) ?_
    show Go p e below _ (s₁.setTop (mkF m 74 #[.val (.long aa), .second, .val (.int (8 : Int32)), .unset] [(.int (6 : Int32)), (.int (8 : Int32))]))
    refine P0.xs (fun hA hx hy t k => XS.icmpYes hA hx rfl (pc0 := 74) (pc' := 85) rfl (hb hy d11_74) rfl (feq (by decide)).2 (by decide) (by decide) k) ?_
    show Go p e below _ (s₁.setTop (mkF m 85 #[.val (.long aa), .second, .val (.int (8 : Int32)), .unset] []))
    refine P0.xs (fun hA hx hy t k => XS.iloadN hA hx rfl (hb hy d11_85) rfl  k) ?_
    show Go p e below _ (s₁.setTop (mkF m 86 #[.val (.long aa), .second, .val (.int (8 : Int32)), .unset] [(.int (8 : Int32))]))
    refine P0.xs (fun hA hx hy t k => XS.bipush hA hx rfl (hb hy d11_86) k) ?_
    show Go p e below _ (s₁.setTop (mkF m 88 #[.val (.long aa), .second, .val (.int (8 : Int32)), .unset] [(.int (7 : Int32)), (.int (8 : Int32))]))
    refine P0.xs (fun hA hx hy t k => XS.icmpYes hA hx rfl (pc0 := 88) (pc' := 99) rfl (hb hy d11_88) rfl (feq (by decide)).2 (by decide) (by decide) k) ?_
    show Go p e below _ (s₁.setTop (mkF m 99 #[.val (.long aa), .second, .val (.int (8 : Int32)), .unset] []))
    refine P0.xs (fun hA hx hy t k => XS.bipush hA hx rfl (hb hy d11_99) k) ?_
    show Go p e below _ (s₁.setTop (mkF m 101 #[.val (.long aa), .second, .val (.int (8 : Int32)), .unset] [(.int (8 : Int32))]))
    refine P0.newP (aty := .char) (hw _ (List.mem_of_getElem? (i := 1) rfl)) d11_101 (by decide) (cap := 8) (by decide) (by decide) (by decide) (by decide) fun T121 h121 o121 k121 g121 P121 E121 A121 => ?_
    have gz_o121 : Z.heap.size ≤ o121 := Nat.le_trans P0.old.1 (Nat.le_of_eq g121.symm)
    have gw_o121 : h0.size ≤ o121 := Nat.le_trans P0.kept.1 (Nat.le_of_eq g121.symm)
    have V121 : Arv Z h121 o121 k121 .char (8 : Int32) [(.int (0 : Int32)), (.int (0 : Int32)), (.int (0 : Int32)), (.int (0 : Int32)), (.int (0 : Int32)), (.int (0 : Int32)), (.int (0 : Int32)), (.int (0 : Int32))] (.int (0 : Int32)) := Arv.pad A121 (pad_rep [] (.int (0 : Int32)) 8)
    show Go p e below _ (T121.setTop (mkF m 103 #[.val (.long aa), .second, .val (.int (8 : Int32)), .unset] [(.ref o121)]))
    refine P121.xs (fun hA hx hy t k => XS.astoreN hA hx rfl (hb hy d11_103) rfl rfl (l' := #[.val (.long aa), .second, .val (.int (8 : Int32)), .val (.ref o121)]) rfl k) ?_
    show Go p e below _ (T121.setTop (mkF m 104 #[.val (.long aa), .second, .val (.int (8 : Int32)), .val (.ref o121)] []))
    refine P121.xs (fun hA hx hy t k => XS.aloadN hA hx rfl (hb hy d11_104) rfl rfl  k) ?_
    show Go p e below _ (T121.setTop (mkF m 105 #[.val (.long aa), .second, .val (.int (8 : Int32)), .val (.ref o121)] [(.ref o121)]))
    refine P121.alen V121 d11_105 ?_
    show Go p e below _ (T121.setTop (mkF m 106 #[.val (.long aa), .second, .val (.int (8 : Int32)), .val (.ref o121)] [(.int (8 : Int32))]))
    refine P121.xs (fun hA hx hy t k => XS.ifNo hA hx rfl (hb hy d11_106) rfl ((if0 _ _).trans (tlt (by decide)).2.2.2) k) ?_
    show Go p e below _ (T121.setTop (mkF m 109 #[.val (.long aa), .second, .val (.int (8 : Int32)), .val (.ref o121)] []))
    refine P121.xs (fun hA hx hy t k => XS.aloadN hA hx rfl (hb hy d11_109) rfl rfl  k) ?_
    show Go p e below _ (T121.setTop (mkF m 110 #[.val (.long aa), .second, .val (.int (8 : Int32)), .val (.ref o121)] [(.ref o121)]))
    refine P121.xs (fun hA hx hy t k => XS.iconst hA hx rfl (hb hy d11_110) k) ?_
    show Go p e below _ (T121.setTop (mkF m 111 #[.val (.long aa), .second, .val (.int (8 : Int32)), .val (.ref o121)] [(.int (0 : Int32)), (.ref o121)]))
    refine P121.xs (fun hA hx hy t k => XS.lloadN hA hx rfl (hb hy d11_111) rfl  k) ?_
    show Go p e below _ (T121.setTop (mkF m 112 #[.val (.long aa), .second, .val (.int (8 : Int32)), .val (.ref o121)] [(.long aa), (.int (0 : Int32)), (.ref o121)]))
    refine P121.xs (fun hA hx hy t k => XS.iconst hA hx rfl (hb hy d11_112) k) ?_
    show Go p e below _ (T121.setTop (mkF m 113 #[.val (.long aa), .second, .val (.int (8 : Int32)), .val (.ref o121)] [(.int (0 : Int32)), (.long aa), (.int (0 : Int32)), (.ref o121)]))
    refine P121.callS (hw _ (List.mem_of_getElem? (i := 74) rfl)) (hw _ (List.mem_of_getElem? (i := 75) rfl)) (hw _ (List.mem_of_getElem? (i := 72) rfl)) (hw _ (List.mem_of_getElem? (i := 76) rfl)) (by decide) (mAt l Z a0 hw hEL zc S0 Pz w_CLASS s_CLASS S_CLASS E_CLASS F_CLASS X_CLASS w_PROPERTY s_PROPERTY S_PROPERTY E_PROPERTY F_PROPERTY X_PROPERTY w_V k_V S_V E_V A_V aa (0 : Int32) h121 P121.old) (W := 2) (by decide) (by decide) (by decide) (by decide) all0 pd_2 (argsL := [(.long aa), (.int (0 : Int32))]) rfl rfl rfl (Nat.le_of_eq rfl) d11_113 fun v122 T122 h122 P122 K122 Q122 => ?_
    obtain ⟨ch122, rfl, lch122, nch122, hh122⟩ := Q122
    rw [hh122] at P122
    show Go p e below _ (T122.setTop (mkF m 116 #[.val (.long aa), .second, .val (.int (8 : Int32)), .val (.ref o121)] [(.int ch122), (.int (0 : Int32)), (.ref o121)]))
    refine P122.stC V121 0 (by decide) (by decide) (by decide) (Nat.le_of_ble_eq_true rfl) (x' := ch122) nch122 d11_116 gz_o121 (Or.inr gw_o121) fun T123 h123 P123 W123 V123 => ?_
    have Va123 : Arv Z h123 o121 k121 .char (8 : Int32) [(.int ch122), (.int (0 : Int32)), (.int (0 : Int32)), (.int (0 : Int32)), (.int (0 : Int32)), (.int (0 : Int32)), (.int (0 : Int32)), (.int (0 : Int32))] (.int (0 : Int32)) := V123
    show Go p e below _ (T123.setTop (mkF m 117 #[.val (.long aa), .second, .val (.int (8 : Int32)), .val (.ref o121)] []))
    refine P123.xs (fun hA hx hy t k => XS.aloadN hA hx rfl (hb hy d11_117) rfl rfl  k) ?_
    show Go p e below _ (T123.setTop (mkF m 118 #[.val (.long aa), .second, .val (.int (8 : Int32)), .val (.ref o121)] [(.ref o121)]))
    refine P123.alen Va123 d11_118 ?_
    show Go p e below _ (T123.setTop (mkF m 119 #[.val (.long aa), .second, .val (.int (8 : Int32)), .val (.ref o121)] [(.int (8 : Int32))]))
    refine P123.xs (fun hA hx hy t k => XS.iconst hA hx rfl (hb hy d11_119) k) ?_
    show Go p e below _ (T123.setTop (mkF m 120 #[.val (.long aa), .second, .val (.int (8 : Int32)), .val (.ref o121)] [(.int (1 : Int32)), (.int (8 : Int32))]))
    refine P123.xs (fun hA hx hy t k => XS.icmpNo hA hx rfl (hb hy d11_120) rfl (tlt (by decide)).2.2.2 k) ?_
    show Go p e below _ (T123.setTop (mkF m 123 #[.val (.long aa), .second, .val (.int (8 : Int32)), .val (.ref o121)] []))
    refine P123.xs (fun hA hx hy t k => XS.aloadN hA hx rfl (hb hy d11_123) rfl rfl  k) ?_
    show Go p e below _ (T123.setTop (mkF m 124 #[.val (.long aa), .second, .val (.int (8 : Int32)), .val (.ref o121)] [(.ref o121)]))
    refine P123.xs (fun hA hx hy t k => XS.iconst hA hx rfl (hb hy d11_124) k) ?_
    show Go p e below _ (T123.setTop (mkF m 125 #[.val (.long aa), .second, .val (.int (8 : Int32)), .val (.ref o121)] [(.int (1 : Int32)), (.ref o121)]))
    refine P123.xs (fun hA hx hy t k => XS.lloadN hA hx rfl (hb hy d11_125) rfl  k) ?_
    show Go p e below _ (T123.setTop (mkF m 126 #[.val (.long aa), .second, .val (.int (8 : Int32)), .val (.ref o121)] [(.long aa), (.int (1 : Int32)), (.ref o121)]))
    refine P123.xs (fun hA hx hy t k => XS.iconst hA hx rfl (hb hy d11_126) k) ?_
    show Go p e below _ (T123.setTop (mkF m 127 #[.val (.long aa), .second, .val (.int (8 : Int32)), .val (.ref o121)] [(.int (1 : Int32)), (.long aa), (.int (1 : Int32)), (.ref o121)]))
    refine P123.callS (hw _ (List.mem_of_getElem? (i := 74) rfl)) (hw _ (List.mem_of_getElem? (i := 75) rfl)) (hw _ (List.mem_of_getElem? (i := 72) rfl)) (hw _ (List.mem_of_getElem? (i := 76) rfl)) (by decide) (mAt l Z a0 hw hEL zc S0 Pz w_CLASS s_CLASS S_CLASS E_CLASS F_CLASS X_CLASS w_PROPERTY s_PROPERTY S_PROPERTY E_PROPERTY F_PROPERTY X_PROPERTY w_V k_V S_V E_V A_V aa (1 : Int32) h123 P123.old) (W := 2) (by decide) (by decide) (by decide) (by decide) all0 pd_2 (argsL := [(.long aa), (.int (1 : Int32))]) rfl rfl rfl (Nat.le_of_eq rfl) d11_127 fun v124 T124 h124 P124 K124 Q124 => ?_
    obtain ⟨ch124, rfl, lch124, nch124, hh124⟩ := Q124
    rw [hh124] at P124
    show Go p e below _ (T124.setTop (mkF m 130 #[.val (.long aa), .second, .val (.int (8 : Int32)), .val (.ref o121)] [(.int ch124), (.int (1 : Int32)), (.ref o121)]))
    refine P124.stC Va123 1 (by decide) (by decide) (by decide) (Nat.le_of_ble_eq_true rfl) (x' := ch124) nch124 d11_130 gz_o121 (Or.inr gw_o121) fun T125 h125 P125 W125 V125 => ?_
    have Va125 : Arv Z h125 o121 k121 .char (8 : Int32) [(.int ch122), (.int ch124), (.int (0 : Int32)), (.int (0 : Int32)), (.int (0 : Int32)), (.int (0 : Int32)), (.int (0 : Int32)), (.int (0 : Int32))] (.int (0 : Int32)) := V125
    show Go p e below _ (T125.setTop (mkF m 131 #[.val (.long aa), .second, .val (.int (8 : Int32)), .val (.ref o121)] []))
    refine P125.xs (fun hA hx hy t k => XS.aloadN hA hx rfl (hb hy d11_131) rfl rfl  k) ?_
    show Go p e below _ (T125.setTop (mkF m 132 #[.val (.long aa), .second, .val (.int (8 : Int32)), .val (.ref o121)] [(.ref o121)]))
    refine P125.alen Va125 d11_132 ?_
    show Go p e below _ (T125.setTop (mkF m 133 #[.val (.long aa), .second, .val (.int (8 : Int32)), .val (.ref o121)] [(.int (8 : Int32))]))
    refine P125.xs (fun hA hx hy t k => XS.iconst hA hx rfl (hb hy d11_133) k) ?_
    show Go p e below _ (T125.setTop (mkF m 134 #[.val (.long aa), .second, .val (.int (8 : Int32)), .val (.ref o121)] [(.int (2 : Int32)), (.int (8 : Int32))]))
    refine P125.xs (fun hA hx hy t k => XS.icmpNo hA hx rfl (hb hy d11_134) rfl (tlt (by decide)).2.2.2 k) ?_
    show Go p e below _ (T125.setTop (mkF m 137 #[.val (.long aa), .second, .val (.int (8 : Int32)), .val (.ref o121)] []))
    refine P125.xs (fun hA hx hy t k => XS.aloadN hA hx rfl (hb hy d11_137) rfl rfl  k) ?_
    show Go p e below _ (T125.setTop (mkF m 138 #[.val (.long aa), .second, .val (.int (8 : Int32)), .val (.ref o121)] [(.ref o121)]))
    refine P125.xs (fun hA hx hy t k => XS.iconst hA hx rfl (hb hy d11_138) k) ?_
    show Go p e below _ (T125.setTop (mkF m 139 #[.val (.long aa), .second, .val (.int (8 : Int32)), .val (.ref o121)] [(.int (2 : Int32)), (.ref o121)]))
    refine P125.xs (fun hA hx hy t k => XS.lloadN hA hx rfl (hb hy d11_139) rfl  k) ?_
    show Go p e below _ (T125.setTop (mkF m 140 #[.val (.long aa), .second, .val (.int (8 : Int32)), .val (.ref o121)] [(.long aa), (.int (2 : Int32)), (.ref o121)]))
    refine P125.xs (fun hA hx hy t k => XS.iconst hA hx rfl (hb hy d11_140) k) ?_
    show Go p e below _ (T125.setTop (mkF m 141 #[.val (.long aa), .second, .val (.int (8 : Int32)), .val (.ref o121)] [(.int (2 : Int32)), (.long aa), (.int (2 : Int32)), (.ref o121)]))
    refine P125.callS (hw _ (List.mem_of_getElem? (i := 74) rfl)) (hw _ (List.mem_of_getElem? (i := 75) rfl)) (hw _ (List.mem_of_getElem? (i := 72) rfl)) (hw _ (List.mem_of_getElem? (i := 76) rfl)) (by decide) (mAt l Z a0 hw hEL zc S0 Pz w_CLASS s_CLASS S_CLASS E_CLASS F_CLASS X_CLASS w_PROPERTY s_PROPERTY S_PROPERTY E_PROPERTY F_PROPERTY X_PROPERTY w_V k_V S_V E_V A_V aa (2 : Int32) h125 P125.old) (W := 2) (by decide) (by decide) (by decide) (by decide) all0 pd_2 (argsL := [(.long aa), (.int (2 : Int32))]) rfl rfl rfl (Nat.le_of_eq rfl) d11_141 fun v126 T126 h126 P126 K126 Q126 => ?_
    obtain ⟨ch126, rfl, lch126, nch126, hh126⟩ := Q126
    rw [hh126] at P126
    show Go p e below _ (T126.setTop (mkF m 144 #[.val (.long aa), .second, .val (.int (8 : Int32)), .val (.ref o121)] [(.int ch126), (.int (2 : Int32)), (.ref o121)]))
    refine P126.stC Va125 2 (by decide) (by decide) (by decide) (Nat.le_of_ble_eq_true rfl) (x' := ch126) nch126 d11_144 gz_o121 (Or.inr gw_o121) fun T127 h127 P127 W127 V127 => ?_
    have Va127 : Arv Z h127 o121 k121 .char (8 : Int32) [(.int ch122), (.int ch124), (.int ch126), (.int (0 : Int32)), (.int (0 : Int32)), (.int (0 : Int32)), (.int (0 : Int32)), (.int (0 : Int32))] (.int (0 : Int32)) := V127
    show Go p e below _ (T127.setTop (mkF m 145 #[.val (.long aa), .second, .val (.int (8 : Int32)), .val (.ref o121)] []))
    refine P127.xs (fun hA hx hy t k => XS.aloadN hA hx rfl (hb hy d11_145) rfl rfl  k) ?_
    show Go p e below _ (T127.setTop (mkF m 146 #[.val (.long aa), .second, .val (.int (8 : Int32)), .val (.ref o121)] [(.ref o121)]))
    refine P127.alen Va127 d11_146 ?_
    show Go p e below _ (T127.setTop (mkF m 147 #[.val (.long aa), .second, .val (.int (8 : Int32)), .val (.ref o121)] [(.int (8 : Int32))]))
    refine P127.xs (fun hA hx hy t k => XS.iconst hA hx rfl (hb hy d11_147) k) ?_
    show Go p e below _ (T127.setTop (mkF m 148 #[.val (.long aa), .second, .val (.int (8 : Int32)), .val (.ref o121)] [(.int (3 : Int32)), (.int (8 : Int32))]))
    refine P127.xs (fun hA hx hy t k => XS.icmpNo hA hx rfl (hb hy d11_148) rfl (tlt (by decide)).2.2.2 k) ?_
    show Go p e below _ (T127.setTop (mkF m 151 #[.val (.long aa), .second, .val (.int (8 : Int32)), .val (.ref o121)] []))
    refine P127.xs (fun hA hx hy t k => XS.aloadN hA hx rfl (hb hy d11_151) rfl rfl  k) ?_
    show Go p e below _ (T127.setTop (mkF m 152 #[.val (.long aa), .second, .val (.int (8 : Int32)), .val (.ref o121)] [(.ref o121)]))
    refine P127.xs (fun hA hx hy t k => XS.iconst hA hx rfl (hb hy d11_152) k) ?_
    show Go p e below _ (T127.setTop (mkF m 153 #[.val (.long aa), .second, .val (.int (8 : Int32)), .val (.ref o121)] [(.int (3 : Int32)), (.ref o121)]))
    refine P127.xs (fun hA hx hy t k => XS.lloadN hA hx rfl (hb hy d11_153) rfl  k) ?_
    show Go p e below _ (T127.setTop (mkF m 154 #[.val (.long aa), .second, .val (.int (8 : Int32)), .val (.ref o121)] [(.long aa), (.int (3 : Int32)), (.ref o121)]))
    refine P127.xs (fun hA hx hy t k => XS.iconst hA hx rfl (hb hy d11_154) k) ?_
    show Go p e below _ (T127.setTop (mkF m 155 #[.val (.long aa), .second, .val (.int (8 : Int32)), .val (.ref o121)] [(.int (3 : Int32)), (.long aa), (.int (3 : Int32)), (.ref o121)]))
    refine P127.callS (hw _ (List.mem_of_getElem? (i := 74) rfl)) (hw _ (List.mem_of_getElem? (i := 75) rfl)) (hw _ (List.mem_of_getElem? (i := 72) rfl)) (hw _ (List.mem_of_getElem? (i := 76) rfl)) (by decide) (mAt l Z a0 hw hEL zc S0 Pz w_CLASS s_CLASS S_CLASS E_CLASS F_CLASS X_CLASS w_PROPERTY s_PROPERTY S_PROPERTY E_PROPERTY F_PROPERTY X_PROPERTY w_V k_V S_V E_V A_V aa (3 : Int32) h127 P127.old) (W := 2) (by decide) (by decide) (by decide) (by decide) all0 pd_2 (argsL := [(.long aa), (.int (3 : Int32))]) rfl rfl rfl (Nat.le_of_eq rfl) d11_155 fun v128 T128 h128 P128 K128 Q128 => ?_
    obtain ⟨ch128, rfl, lch128, nch128, hh128⟩ := Q128
    rw [hh128] at P128
    show Go p e below _ (T128.setTop (mkF m 158 #[.val (.long aa), .second, .val (.int (8 : Int32)), .val (.ref o121)] [(.int ch128), (.int (3 : Int32)), (.ref o121)]))
    refine P128.stC Va127 3 (by decide) (by decide) (by decide) (Nat.le_of_ble_eq_true rfl) (x' := ch128) nch128 d11_158 gz_o121 (Or.inr gw_o121) fun T129 h129 P129 W129 V129 => ?_
    have Va129 : Arv Z h129 o121 k121 .char (8 : Int32) [(.int ch122), (.int ch124), (.int ch126), (.int ch128), (.int (0 : Int32)), (.int (0 : Int32)), (.int (0 : Int32)), (.int (0 : Int32))] (.int (0 : Int32)) := V129
    show Go p e below _ (T129.setTop (mkF m 159 #[.val (.long aa), .second, .val (.int (8 : Int32)), .val (.ref o121)] []))
    refine P129.xs (fun hA hx hy t k => XS.aloadN hA hx rfl (hb hy d11_159) rfl rfl  k) ?_
    show Go p e below _ (T129.setTop (mkF m 160 #[.val (.long aa), .second, .val (.int (8 : Int32)), .val (.ref o121)] [(.ref o121)]))
    refine P129.alen Va129 d11_160 ?_
    show Go p e below _ (T129.setTop (mkF m 161 #[.val (.long aa), .second, .val (.int (8 : Int32)), .val (.ref o121)] [(.int (8 : Int32))]))
    refine P129.xs (fun hA hx hy t k => XS.iconst hA hx rfl (hb hy d11_161) k) ?_
    show Go p e below _ (T129.setTop (mkF m 162 #[.val (.long aa), .second, .val (.int (8 : Int32)), .val (.ref o121)] [(.int (4 : Int32)), (.int (8 : Int32))]))
    refine P129.xs (fun hA hx hy t k => XS.icmpNo hA hx rfl (hb hy d11_162) rfl (tlt (by decide)).2.2.2 k) ?_
    show Go p e below _ (T129.setTop (mkF m 165 #[.val (.long aa), .second, .val (.int (8 : Int32)), .val (.ref o121)] []))
    refine P129.xs (fun hA hx hy t k => XS.aloadN hA hx rfl (hb hy d11_165) rfl rfl  k) ?_
    show Go p e below _ (T129.setTop (mkF m 166 #[.val (.long aa), .second, .val (.int (8 : Int32)), .val (.ref o121)] [(.ref o121)]))
    refine P129.xs (fun hA hx hy t k => XS.iconst hA hx rfl (hb hy d11_166) k) ?_
    show Go p e below _ (T129.setTop (mkF m 167 #[.val (.long aa), .second, .val (.int (8 : Int32)), .val (.ref o121)] [(.int (4 : Int32)), (.ref o121)]))
    refine P129.xs (fun hA hx hy t k => XS.lloadN hA hx rfl (hb hy d11_167) rfl  k) ?_
    show Go p e below _ (T129.setTop (mkF m 168 #[.val (.long aa), .second, .val (.int (8 : Int32)), .val (.ref o121)] [(.long aa), (.int (4 : Int32)), (.ref o121)]))
    refine P129.xs (fun hA hx hy t k => XS.iconst hA hx rfl (hb hy d11_168) k) ?_
    show Go p e below _ (T129.setTop (mkF m 169 #[.val (.long aa), .second, .val (.int (8 : Int32)), .val (.ref o121)] [(.int (4 : Int32)), (.long aa), (.int (4 : Int32)), (.ref o121)]))
    refine P129.callS (hw _ (List.mem_of_getElem? (i := 74) rfl)) (hw _ (List.mem_of_getElem? (i := 75) rfl)) (hw _ (List.mem_of_getElem? (i := 72) rfl)) (hw _ (List.mem_of_getElem? (i := 76) rfl)) (by decide) (mAt l Z a0 hw hEL zc S0 Pz w_CLASS s_CLASS S_CLASS E_CLASS F_CLASS X_CLASS w_PROPERTY s_PROPERTY S_PROPERTY E_PROPERTY F_PROPERTY X_PROPERTY w_V k_V S_V E_V A_V aa (4 : Int32) h129 P129.old) (W := 2) (by decide) (by decide) (by decide) (by decide) all0 pd_2 (argsL := [(.long aa), (.int (4 : Int32))]) rfl rfl rfl (Nat.le_of_eq rfl) d11_169 fun v130 T130 h130 P130 K130 Q130 => ?_
    obtain ⟨ch130, rfl, lch130, nch130, hh130⟩ := Q130
    rw [hh130] at P130
    show Go p e below _ (T130.setTop (mkF m 172 #[.val (.long aa), .second, .val (.int (8 : Int32)), .val (.ref o121)] [(.int ch130), (.int (4 : Int32)), (.ref o121)]))
    refine P130.stC Va129 4 (by decide) (by decide) (by decide) (Nat.le_of_ble_eq_true rfl) (x' := ch130) nch130 d11_172 gz_o121 (Or.inr gw_o121) fun T131 h131 P131 W131 V131 => ?_
    have Va131 : Arv Z h131 o121 k121 .char (8 : Int32) [(.int ch122), (.int ch124), (.int ch126), (.int ch128), (.int ch130), (.int (0 : Int32)), (.int (0 : Int32)), (.int (0 : Int32))] (.int (0 : Int32)) := V131
    show Go p e below _ (T131.setTop (mkF m 173 #[.val (.long aa), .second, .val (.int (8 : Int32)), .val (.ref o121)] []))
    refine P131.xs (fun hA hx hy t k => XS.aloadN hA hx rfl (hb hy d11_173) rfl rfl  k) ?_
    show Go p e below _ (T131.setTop (mkF m 174 #[.val (.long aa), .second, .val (.int (8 : Int32)), .val (.ref o121)] [(.ref o121)]))
    refine P131.alen Va131 d11_174 ?_
    show Go p e below _ (T131.setTop (mkF m 175 #[.val (.long aa), .second, .val (.int (8 : Int32)), .val (.ref o121)] [(.int (8 : Int32))]))
    refine P131.xs (fun hA hx hy t k => XS.iconst hA hx rfl (hb hy d11_175) k) ?_
    show Go p e below _ (T131.setTop (mkF m 176 #[.val (.long aa), .second, .val (.int (8 : Int32)), .val (.ref o121)] [(.int (5 : Int32)), (.int (8 : Int32))]))
    refine P131.xs (fun hA hx hy t k => XS.icmpNo hA hx rfl (hb hy d11_176) rfl (tlt (by decide)).2.2.2 k) ?_
    show Go p e below _ (T131.setTop (mkF m 179 #[.val (.long aa), .second, .val (.int (8 : Int32)), .val (.ref o121)] []))
    refine P131.xs (fun hA hx hy t k => XS.aloadN hA hx rfl (hb hy d11_179) rfl rfl  k) ?_
    show Go p e below _ (T131.setTop (mkF m 180 #[.val (.long aa), .second, .val (.int (8 : Int32)), .val (.ref o121)] [(.ref o121)]))
    refine P131.xs (fun hA hx hy t k => XS.iconst hA hx rfl (hb hy d11_180) k) ?_
    show Go p e below _ (T131.setTop (mkF m 181 #[.val (.long aa), .second, .val (.int (8 : Int32)), .val (.ref o121)] [(.int (5 : Int32)), (.ref o121)]))
    refine P131.xs (fun hA hx hy t k => XS.lloadN hA hx rfl (hb hy d11_181) rfl  k) ?_
    show Go p e below _ (T131.setTop (mkF m 182 #[.val (.long aa), .second, .val (.int (8 : Int32)), .val (.ref o121)] [(.long aa), (.int (5 : Int32)), (.ref o121)]))
    refine P131.xs (fun hA hx hy t k => XS.iconst hA hx rfl (hb hy d11_182) k) ?_
    show Go p e below _ (T131.setTop (mkF m 183 #[.val (.long aa), .second, .val (.int (8 : Int32)), .val (.ref o121)] [(.int (5 : Int32)), (.long aa), (.int (5 : Int32)), (.ref o121)]))
    refine P131.callS (hw _ (List.mem_of_getElem? (i := 74) rfl)) (hw _ (List.mem_of_getElem? (i := 75) rfl)) (hw _ (List.mem_of_getElem? (i := 72) rfl)) (hw _ (List.mem_of_getElem? (i := 76) rfl)) (by decide) (mAt l Z a0 hw hEL zc S0 Pz w_CLASS s_CLASS S_CLASS E_CLASS F_CLASS X_CLASS w_PROPERTY s_PROPERTY S_PROPERTY E_PROPERTY F_PROPERTY X_PROPERTY w_V k_V S_V E_V A_V aa (5 : Int32) h131 P131.old) (W := 2) (by decide) (by decide) (by decide) (by decide) all0 pd_2 (argsL := [(.long aa), (.int (5 : Int32))]) rfl rfl rfl (Nat.le_of_eq rfl) d11_183 fun v132 T132 h132 P132 K132 Q132 => ?_
    obtain ⟨ch132, rfl, lch132, nch132, hh132⟩ := Q132
    rw [hh132] at P132
    show Go p e below _ (T132.setTop (mkF m 186 #[.val (.long aa), .second, .val (.int (8 : Int32)), .val (.ref o121)] [(.int ch132), (.int (5 : Int32)), (.ref o121)]))
    refine P132.stC Va131 5 (by decide) (by decide) (by decide) (Nat.le_of_ble_eq_true rfl) (x' := ch132) nch132 d11_186 gz_o121 (Or.inr gw_o121) fun T133 h133 P133 W133 V133 => ?_
    have Va133 : Arv Z h133 o121 k121 .char (8 : Int32) [(.int ch122), (.int ch124), (.int ch126), (.int ch128), (.int ch130), (.int ch132), (.int (0 : Int32)), (.int (0 : Int32))] (.int (0 : Int32)) := V133
    show Go p e below _ (T133.setTop (mkF m 187 #[.val (.long aa), .second, .val (.int (8 : Int32)), .val (.ref o121)] []))
    refine P133.xs (fun hA hx hy t k => XS.aloadN hA hx rfl (hb hy d11_187) rfl rfl  k) ?_
    show Go p e below _ (T133.setTop (mkF m 188 #[.val (.long aa), .second, .val (.int (8 : Int32)), .val (.ref o121)] [(.ref o121)]))
    refine P133.alen Va133 d11_188 ?_
    show Go p e below _ (T133.setTop (mkF m 189 #[.val (.long aa), .second, .val (.int (8 : Int32)), .val (.ref o121)] [(.int (8 : Int32))]))
    refine P133.xs (fun hA hx hy t k => XS.bipush hA hx rfl (hb hy d11_189) k) ?_
    show Go p e below _ (T133.setTop (mkF m 191 #[.val (.long aa), .second, .val (.int (8 : Int32)), .val (.ref o121)] [(.int (6 : Int32)), (.int (8 : Int32))]))
    refine P133.xs (fun hA hx hy t k => XS.icmpNo hA hx rfl (hb hy d11_191) rfl (tlt (by decide)).2.2.2 k) ?_
    show Go p e below _ (T133.setTop (mkF m 194 #[.val (.long aa), .second, .val (.int (8 : Int32)), .val (.ref o121)] []))
    refine P133.xs (fun hA hx hy t k => XS.aloadN hA hx rfl (hb hy d11_194) rfl rfl  k) ?_
    show Go p e below _ (T133.setTop (mkF m 195 #[.val (.long aa), .second, .val (.int (8 : Int32)), .val (.ref o121)] [(.ref o121)]))
    refine P133.xs (fun hA hx hy t k => XS.bipush hA hx rfl (hb hy d11_195) k) ?_
    show Go p e below _ (T133.setTop (mkF m 197 #[.val (.long aa), .second, .val (.int (8 : Int32)), .val (.ref o121)] [(.int (6 : Int32)), (.ref o121)]))
    refine P133.xs (fun hA hx hy t k => XS.lloadN hA hx rfl (hb hy d11_197) rfl  k) ?_
    show Go p e below _ (T133.setTop (mkF m 198 #[.val (.long aa), .second, .val (.int (8 : Int32)), .val (.ref o121)] [(.long aa), (.int (6 : Int32)), (.ref o121)]))
    refine P133.xs (fun hA hx hy t k => XS.bipush hA hx rfl (hb hy d11_198) k) ?_
    show Go p e below _ (T133.setTop (mkF m 200 #[.val (.long aa), .second, .val (.int (8 : Int32)), .val (.ref o121)] [(.int (6 : Int32)), (.long aa), (.int (6 : Int32)), (.ref o121)]))
    refine P133.callS (hw _ (List.mem_of_getElem? (i := 74) rfl)) (hw _ (List.mem_of_getElem? (i := 75) rfl)) (hw _ (List.mem_of_getElem? (i := 72) rfl)) (hw _ (List.mem_of_getElem? (i := 76) rfl)) (by decide) (mAt l Z a0 hw hEL zc S0 Pz w_CLASS s_CLASS S_CLASS E_CLASS F_CLASS X_CLASS w_PROPERTY s_PROPERTY S_PROPERTY E_PROPERTY F_PROPERTY X_PROPERTY w_V k_V S_V E_V A_V aa (6 : Int32) h133 P133.old) (W := 2) (by decide) (by decide) (by decide) (by decide) all0 pd_2 (argsL := [(.long aa), (.int (6 : Int32))]) rfl rfl rfl (Nat.le_of_eq rfl) d11_200 fun v134 T134 h134 P134 K134 Q134 => ?_
    obtain ⟨ch134, rfl, lch134, nch134, hh134⟩ := Q134
    rw [hh134] at P134
    show Go p e below _ (T134.setTop (mkF m 203 #[.val (.long aa), .second, .val (.int (8 : Int32)), .val (.ref o121)] [(.int ch134), (.int (6 : Int32)), (.ref o121)]))
    refine P134.stC Va133 6 (by decide) (by decide) (by decide) (Nat.le_of_ble_eq_true rfl) (x' := ch134) nch134 d11_203 gz_o121 (Or.inr gw_o121) fun T135 h135 P135 W135 V135 => ?_
    have Va135 : Arv Z h135 o121 k121 .char (8 : Int32) [(.int ch122), (.int ch124), (.int ch126), (.int ch128), (.int ch130), (.int ch132), (.int ch134), (.int (0 : Int32))] (.int (0 : Int32)) := V135
    show Go p e below _ (T135.setTop (mkF m 204 #[.val (.long aa), .second, .val (.int (8 : Int32)), .val (.ref o121)] []))
    refine P135.xs (fun hA hx hy t k => XS.aloadN hA hx rfl (hb hy d11_204) rfl rfl  k) ?_
    show Go p e below _ (T135.setTop (mkF m 205 #[.val (.long aa), .second, .val (.int (8 : Int32)), .val (.ref o121)] [(.ref o121)]))
    refine P135.alen Va135 d11_205 ?_
    show Go p e below _ (T135.setTop (mkF m 206 #[.val (.long aa), .second, .val (.int (8 : Int32)), .val (.ref o121)] [(.int (8 : Int32))]))
    refine P135.xs (fun hA hx hy t k => XS.bipush hA hx rfl (hb hy d11_206) k) ?_
    show Go p e below _ (T135.setTop (mkF m 208 #[.val (.long aa), .second, .val (.int (8 : Int32)), .val (.ref o121)] [(.int (7 : Int32)), (.int (8 : Int32))]))
    refine P135.xs (fun hA hx hy t k => XS.icmpNo hA hx rfl (hb hy d11_208) rfl (tlt (by decide)).2.2.2 k) ?_
    show Go p e below _ (T135.setTop (mkF m 211 #[.val (.long aa), .second, .val (.int (8 : Int32)), .val (.ref o121)] []))
    refine P135.xs (fun hA hx hy t k => XS.aloadN hA hx rfl (hb hy d11_211) rfl rfl  k) ?_
    show Go p e below _ (T135.setTop (mkF m 212 #[.val (.long aa), .second, .val (.int (8 : Int32)), .val (.ref o121)] [(.ref o121)]))
    refine P135.xs (fun hA hx hy t k => XS.bipush hA hx rfl (hb hy d11_212) k) ?_
    show Go p e below _ (T135.setTop (mkF m 214 #[.val (.long aa), .second, .val (.int (8 : Int32)), .val (.ref o121)] [(.int (7 : Int32)), (.ref o121)]))
    refine P135.xs (fun hA hx hy t k => XS.lloadN hA hx rfl (hb hy d11_214) rfl  k) ?_
    show Go p e below _ (T135.setTop (mkF m 215 #[.val (.long aa), .second, .val (.int (8 : Int32)), .val (.ref o121)] [(.long aa), (.int (7 : Int32)), (.ref o121)]))
    refine P135.xs (fun hA hx hy t k => XS.bipush hA hx rfl (hb hy d11_215) k) ?_
    show Go p e below _ (T135.setTop (mkF m 217 #[.val (.long aa), .second, .val (.int (8 : Int32)), .val (.ref o121)] [(.int (7 : Int32)), (.long aa), (.int (7 : Int32)), (.ref o121)]))
    refine P135.callS (hw _ (List.mem_of_getElem? (i := 74) rfl)) (hw _ (List.mem_of_getElem? (i := 75) rfl)) (hw _ (List.mem_of_getElem? (i := 72) rfl)) (hw _ (List.mem_of_getElem? (i := 76) rfl)) (by decide) (mAt l Z a0 hw hEL zc S0 Pz w_CLASS s_CLASS S_CLASS E_CLASS F_CLASS X_CLASS w_PROPERTY s_PROPERTY S_PROPERTY E_PROPERTY F_PROPERTY X_PROPERTY w_V k_V S_V E_V A_V aa (7 : Int32) h135 P135.old) (W := 2) (by decide) (by decide) (by decide) (by decide) all0 pd_2 (argsL := [(.long aa), (.int (7 : Int32))]) rfl rfl rfl (Nat.le_of_eq rfl) d11_217 fun v136 T136 h136 P136 K136 Q136 => ?_
    obtain ⟨ch136, rfl, lch136, nch136, hh136⟩ := Q136
    rw [hh136] at P136
    show Go p e below _ (T136.setTop (mkF m 220 #[.val (.long aa), .second, .val (.int (8 : Int32)), .val (.ref o121)] [(.int ch136), (.int (7 : Int32)), (.ref o121)]))
    refine P136.stC Va135 7 (by decide) (by decide) (by decide) (Nat.le_of_ble_eq_true rfl) (x' := ch136) nch136 d11_220 gz_o121 (Or.inr gw_o121) fun T137 h137 P137 W137 V137 => ?_
    have Va137 : Arv Z h137 o121 k121 .char (8 : Int32) [(.int ch122), (.int ch124), (.int ch126), (.int ch128), (.int ch130), (.int ch132), (.int ch134), (.int ch136)] (.int (0 : Int32)) := V137
    show Go p e below _ (T137.setTop (mkF m 221 #[.val (.long aa), .second, .val (.int (8 : Int32)), .val (.ref o121)] []))
    refine P137.newO (hw _ (List.mem_of_getElem? (i := 2) rfl)) (hw _ (List.mem_of_getElem? (i := 3) rfl)) (hw _ (List.mem_of_getElem? (i := 4) rfl)) d11_221 (by decide) (by decide) fun T138 h138 o138 g138 P138 E138 A138 D138 => ?_
    have ne_o121_o138 : o121 ≠ o138 := Nat.ne_of_lt (Nat.lt_of_lt_of_le Va137.lt (Nat.le_of_eq g138.symm))
    have gz_o138 : Z.heap.size ≤ o138 := Nat.le_trans P137.old.1 (Nat.le_of_eq g138.symm)
    have gw_o138 : h0.size ≤ o138 := Nat.le_trans P137.kept.1 (Nat.le_of_eq g138.symm)
    have F138_coder : Fld Z h138 o138 "java/lang/String" "coder" "B" (.int (0 : Int32)) := D138 (Or.inr (hw _ (List.mem_of_getElem? (i := 28) rfl))) (ty := .byte) (by decide)
    have F138_value : Fld Z h138 o138 "java/lang/String" "value" "[B" .null := D138 (Or.inr (hw _ (List.mem_of_getElem? (i := 30) rfl))) (ty := (.array .byte)) (by decide)
    show Go p e below _ (T138.setTop (mkF m 224 #[.val (.long aa), .second, .val (.int (8 : Int32)), .val (.ref o121)] [(.ref o138)]))
    refine P138.xs (fun hA hx hy t k => XS.dup hA hx rfl (hb hy d11_224) rfl rfl k) ?_
    show Go p e below _ (T138.setTop (mkF m 225 #[.val (.long aa), .second, .val (.int (8 : Int32)), .val (.ref o121)] [(.ref o138), (.ref o138)]))
    refine P138.xs (fun hA hx hy t k => XS.aloadN hA hx rfl (hb hy d11_225) rfl rfl  k) ?_
    show Go p e below _ (T138.setTop (mkF m 226 #[.val (.long aa), .second, .val (.int (8 : Int32)), .val (.ref o121)] [(.ref o121), (.ref o138), (.ref o138)]))
    have Ac139 : Arv Z h138 o121 k121 .char (8 : Int32) [(.int ch122), (.int ch124), (.int ch126), (.int ch128), (.int ch130), (.int ch132), (.int ch134), (.int ch136)] (.int (0 : Int32)) := (Va137.ext E138)
    refine P138.specB (W := 1) (ws' := [o138]) rfl (hw _ (List.mem_of_getElem? (i := 5) rfl)) (hw _ (List.mem_of_getElem? (i := 6) rfl)) (hw _ (List.mem_of_getElem? (i := 7) rfl)) (by decide) (fun vm0 hZ => StrChars.Road.backV (W := 1) hZ (wStr hw) (kI := 4) (hw _ (List.mem_of_getElem? (i := 3) rfl)) (cs := ([ch122, ch124, ch126, ch128, ch130, ch132, ch134, ch136] : List Int32)) (bs := ([ch122, ch124, ch126, ch128, ch130, ch132, ch134, ch136] : List Int32).map (fun c => c.toInt8.toInt32)) (n := 8) gz_o138 P138.old.1 A138 F138_value F138_coder Ac139 (S0.ext P138.old) Pz rfl rfl (by decide) (by decide) (latS lch122 (latS lch124 (latS lch126 (latS lch128 (latS lch130 (latS lch132 (latS lch134 (latS lch136 lat0)))))))) rfl (by decide) (by decide)) rfl (fun v h' L q => ⟨q.2.1, q.2.2.1⟩) (by decide) (by decide) (allS ⟨(Or.inr gw_o138), gz_o138⟩ all0) (fun vm hs hal hr => safe1 (safeNull hal A138 F138_value)) pd_1 (argsL := [(.ref o121)]) rfl rfl rfl (Nat.le_of_eq rfl) d11_226 fun v140 T140 h140 L140 P140 Q140 => ?_
    obtain ⟨rfl, N140, K140, E140, C140, b140, k140, gb140, gc140, gd140, V140, B140⟩ := Q140
    show Go p e below _ (T140.setTop (mkF m 229 #[.val (.long aa), .second, .val (.int (8 : Int32)), .val (.ref o121)] [(.ref o138)]))
    have Ac141 : Arv Z h140 o121 k121 .char (8 : Int32) [(.int ch122), (.int ch124), (.int ch126), (.int ch128), (.int ch130), (.int ch132), (.int ch134), (.int ch136)] (.int (0 : Int32)) := (Ac139.keep K140 (ninS ne_o121_o138 nin0))
    exact P140.retR rfl rfl rfl d11_229 (by decide) (by decide) ⟨o138, ([ch122, ch124, ch126, ch128, ch130, ch132, ch134, ch136] : List Int32), rfl, gw_o138, (strOf (n := 8) rfl (latS lch122 (latS lch124 (latS lch126 (latS lch128 (latS lch130 (latS lch132 (latS lch134 (latS lch136 lat0)))))))) (by decide) E140 C140 V140 B140)⟩

def R_mNamN : Room := { frames := 2, cells := 1, slots := 2, locals := 25 }
def Q_mNamN (Z : State)  (h0 : Heap) (v : Option Value) (h : Heap) : Prop := v = some .null
set_option maxRecDepth 65536 in
set_option maxHeartbeats 40000000 in
theorem mNamN (l : Launch) (Z : State) (a0 : Array Value) (hw : ∀ d ∈ tables_1, d.before a0 Z = true) (hEL : EW Z a0 EL0) (zc : Int32) (S0 : Sta Z Z.heap "java/lang/String" "COMPACT_STRINGS" "Z" (.int zc)) (Pz : ¬ zc = 0) (w_CLASS s_CLASS : Addr) (S_CLASS : Sta Z Z.heap "com/example/certain_answers/certainanswers/store/Kind" "CLASS" "Lcom/example/certain_answers/certainanswers/store/Kind;" (.ref w_CLASS)) (E_CLASS : Exa Z Z.heap w_CLASS "com/example/certain_answers/certainanswers/store/Kind") (F_CLASS : Fld Z Z.heap w_CLASS "com/example/certain_answers/certainanswers/store/Kind" "word" "Ljava/lang/String;" (.ref s_CLASS)) (X_CLASS : Str Z Z.heap s_CLASS ([(99 : Int32), (108 : Int32), (97 : Int32), (115 : Int32), (115 : Int32)] : List Int32)) (w_PROPERTY s_PROPERTY : Addr) (S_PROPERTY : Sta Z Z.heap "com/example/certain_answers/certainanswers/store/Kind" "PROPERTY" "Lcom/example/certain_answers/certainanswers/store/Kind;" (.ref w_PROPERTY)) (E_PROPERTY : Exa Z Z.heap w_PROPERTY "com/example/certain_answers/certainanswers/store/Kind") (F_PROPERTY : Fld Z Z.heap w_PROPERTY "com/example/certain_answers/certainanswers/store/Kind" "word" "Ljava/lang/String;" (.ref s_PROPERTY)) (X_PROPERTY : Str Z Z.heap s_PROPERTY ([(112 : Int32), (114 : Int32), (111 : Int32), (112 : Int32), (101 : Int32), (114 : Int32), (116 : Int32), (121 : Int32)] : List Int32)) (w_V : Addr) (k_V : ClassId) (S_V : Sta Z Z.heap "com/example/certain_answers/certainanswers/store/Kind" "$VALUES" "[Lcom/example/certain_answers/certainanswers/store/Kind;" (.ref w_V)) (E_V : Exa Z Z.heap w_V "[Lcom/example/certain_answers/certainanswers/store/Kind;") (A_V : Arv Z Z.heap w_V k_V (.object "com/example/certain_answers/certainanswers/store/Kind") (2 : Int32) [(.ref w_CLASS), (.ref w_PROPERTY)] .null)  (h0 : Heap) (hO : Ext Z.heap h0)  :
    Con l Z EL0 [] (⟨"com/example/certain_answers/certainanswers/store/Kind", "named", "(Ljava/lang/String;)Lcom/example/certain_answers/certainanswers/store/Kind;"⟩ : MethodName) prog_11_method_4_code 6 (some (.object "com/example/certain_answers/certainanswers/store/Kind")) R_mNamN #[.null] h0 [] (Q_mNamN Z  h0) := by
  refine Con.of (y := (⟨"com/example/certain_answers/certainanswers/store/Kind", "named", "(Ljava/lang/String;)Lcom/example/certain_answers/certainanswers/store/Kind;"⟩ : MethodName)) (f0 := fun m => mkF m 0 #[.val .null, .unset, .unset, .unset, .unset, .unset] []) (plainFor_of_name pn_1) hEL hO (fun m => by skip <;> first | (simp [entryFrame, mkF, argsToLocals, Value.category, maxLocals]; done) | rfl) ?_
  intro p e s m below meth c s₁ P0
  show Go p e below _ (s₁.setTop (mkF m 0 #[.val .null, .unset, .unset, .unset, .unset, .unset] []))
  refine P0.xs (fun hA hx hy t k => XS.aconstNull hA hx rfl (hb hy d9_0) k) ?_
  show Go p e below _ (s₁.setTop (mkF m 1 #[.val .null, .unset, .unset, .unset, .unset, .unset] [.null]))
  refine P0.xs (fun hA hx hy t k => XS.astoreN hA hx rfl (hb hy d9_1) rfl rfl (l' := #[.val .null, .val .null, .unset, .unset, .unset, .unset]) rfl k) ?_
  show Go p e below _ (s₁.setTop (mkF m 2 #[.val .null, .val .null, .unset, .unset, .unset, .unset] []))
  refine P0.callS (hw _ (List.mem_of_getElem? (i := 50) rfl)) (hw _ (List.mem_of_getElem? (i := 51) rfl)) (hw _ (List.mem_of_getElem? (i := 45) rfl)) (hw _ (List.mem_of_getElem? (i := 52) rfl)) (by decide) (mVals l Z a0 hw hEL zc S0 Pz w_CLASS s_CLASS S_CLASS E_CLASS F_CLASS X_CLASS w_PROPERTY s_PROPERTY S_PROPERTY E_PROPERTY F_PROPERTY X_PROPERTY w_V k_V S_V E_V A_V  h0 P0.old) (W := 0) (by decide) (by decide) (by decide) (by decide) all0 pd_3 (argsL := []) rfl rfl rfl (Nat.le_of_eq rfl) d9_2 fun v142 T142 h142 P142 K142 Q142 => ?_
  obtain ⟨o142, rfl, g142, A142⟩ := Q142
  have gz_o142 : Z.heap.size ≤ o142 := Nat.le_trans P0.old.1 g142
  have gw_o142 : h0.size ≤ o142 := Nat.le_trans P0.kept.1 g142
  show Go p e below _ (T142.setTop (mkF m 5 #[.val .null, .val .null, .unset, .unset, .unset, .unset] [(.ref o142)]))
  refine P142.xs (fun hA hx hy t k => XS.astoreN hA hx rfl (hb hy d9_5) rfl rfl (l' := #[.val .null, .val .null, .val (.ref o142), .unset, .unset, .unset]) rfl k) ?_
  show Go p e below _ (T142.setTop (mkF m 6 #[.val .null, .val .null, .val (.ref o142), .unset, .unset, .unset] []))
  refine P142.xs (fun hA hx hy t k => XS.aloadN hA hx rfl (hb hy d9_6) rfl rfl  k) ?_
  show Go p e below _ (T142.setTop (mkF m 7 #[.val .null, .val .null, .val (.ref o142), .unset, .unset, .unset] [(.ref o142)]))
  refine P142.alen A142 d9_7 ?_
  show Go p e below _ (T142.setTop (mkF m 8 #[.val .null, .val .null, .val (.ref o142), .unset, .unset, .unset] [(.int (2 : Int32))]))
  refine P142.xs (fun hA hx hy t k => XS.istoreN hA hx rfl (hb hy d9_8) rfl (l' := #[.val .null, .val .null, .val (.ref o142), .val (.int (2 : Int32)), .unset, .unset]) rfl k) ?_
  show Go p e below _ (T142.setTop (mkF m 9 #[.val .null, .val .null, .val (.ref o142), .val (.int (2 : Int32)), .unset, .unset] []))
  refine P142.xs (fun hA hx hy t k => XS.iconst hA hx rfl (hb hy d9_9) k) ?_
  show Go p e below _ (T142.setTop (mkF m 10 #[.val .null, .val .null, .val (.ref o142), .val (.int (2 : Int32)), .unset, .unset] [(.int (0 : Int32))]))
  refine P142.xs (fun hA hx hy t k => XS.istore hA hx rfl (hb hy d9_10) rfl (l' := #[.val .null, .val .null, .val (.ref o142), .val (.int (2 : Int32)), .val (.int (0 : Int32)), .unset]) rfl k) ?_
  show Go p e below _ (T142.setTop (mkF m 12 #[.val .null, .val .null, .val (.ref o142), .val (.int (2 : Int32)), .val (.int (0 : Int32)), .unset] []))
  refine P142.xs (fun hA hx hy t k => XS.iload hA hx rfl (hb hy d9_12) rfl  k) ?_
  show Go p e below _ (T142.setTop (mkF m 14 #[.val .null, .val .null, .val (.ref o142), .val (.int (2 : Int32)), .val (.int (0 : Int32)), .unset] [(.int (0 : Int32))]))
  refine P142.xs (fun hA hx hy t k => XS.iloadN hA hx rfl (hb hy d9_14) rfl  k) ?_
  show Go p e below _ (T142.setTop (mkF m 15 #[.val .null, .val .null, .val (.ref o142), .val (.int (2 : Int32)), .val (.int (0 : Int32)), .unset] [(.int (2 : Int32)), (.int (0 : Int32))]))
  refine P142.xs (fun hA hx hy t k => XS.icmpNo hA hx rfl (hb hy d9_15) rfl (tlt (by decide)).2.1 k) ?_
  show Go p e below _ (T142.setTop (mkF m 18 #[.val .null, .val .null, .val (.ref o142), .val (.int (2 : Int32)), .val (.int (0 : Int32)), .unset] []))
  refine P142.xs (fun hA hx hy t k => XS.aloadN hA hx rfl (hb hy d9_18) rfl rfl  k) ?_
  show Go p e below _ (T142.setTop (mkF m 19 #[.val .null, .val .null, .val (.ref o142), .val (.int (2 : Int32)), .val (.int (0 : Int32)), .unset] [(.ref o142)]))
  refine P142.xs (fun hA hx hy t k => XS.iload hA hx rfl (hb hy d9_19) rfl  k) ?_
  show Go p e below _ (T142.setTop (mkF m 21 #[.val .null, .val .null, .val (.ref o142), .val (.int (2 : Int32)), .val (.int (0 : Int32)), .unset] [(.int (0 : Int32)), (.ref o142)]))
  refine P142.aald A142 rfl (by decide) (by decide) (v := (.ref w_CLASS)) rfl d9_21 ?_
  show Go p e below _ (T142.setTop (mkF m 22 #[.val .null, .val .null, .val (.ref o142), .val (.int (2 : Int32)), .val (.int (0 : Int32)), .unset] [(.ref w_CLASS)]))
  refine P142.xs (fun hA hx hy t k => XS.astore hA hx rfl (hb hy d9_22) rfl rfl (l' := #[.val .null, .val .null, .val (.ref o142), .val (.int (2 : Int32)), .val (.int (0 : Int32)), .val (.ref w_CLASS)]) rfl k) ?_
  show Go p e below _ (T142.setTop (mkF m 24 #[.val .null, .val .null, .val (.ref o142), .val (.int (2 : Int32)), .val (.int (0 : Int32)), .val (.ref w_CLASS)] []))
  refine P142.xs (fun hA hx hy t k => XS.aload hA hx rfl (hb hy d9_24) rfl rfl  k) ?_
  show Go p e below _ (T142.setTop (mkF m 26 #[.val .null, .val .null, .val (.ref o142), .val (.int (2 : Int32)), .val (.int (0 : Int32)), .val (.ref w_CLASS)] [(.ref w_CLASS)]))
  refine P142.getF (host := "") (Or.inl (hw _ (List.mem_of_getElem? (i := 66) rfl))) Via.refl (F_CLASS.ext P142.old) d9_26 fun T143 P143 => ?_
  show Go p e below _ (T143.setTop (mkF m 29 #[.val .null, .val .null, .val (.ref o142), .val (.int (2 : Int32)), .val (.int (0 : Int32)), .val (.ref w_CLASS)] [(.ref s_CLASS)]))
  refine P143.xs (fun hA hx hy t k => XS.aloadN hA hx rfl (hb hy d9_29) rfl rfl  k) ?_
  show Go p e below _ (T143.setTop (mkF m 30 #[.val .null, .val .null, .val (.ref o142), .val (.int (2 : Int32)), .val (.int (0 : Int32)), .val (.ref w_CLASS)] [.null, (.ref s_CLASS)]))
  have Ec145 : Exa Z h142 s_CLASS "java/lang/String" := (X_CLASS.1.ext P143.old)
  refine P143.callV (hw _ (List.mem_of_getElem? (i := 68) rfl)) (hw _ (List.mem_of_getElem? (i := 35) rfl)) (hw _ (List.mem_of_getElem? (i := 37) rfl)) (nfOf (hw _ (List.mem_of_getElem? (i := 37) rfl))) (hw _ (List.mem_of_getElem? (i := 36) rfl)) (hw _ (List.mem_of_getElem? (i := 4) rfl)) (hw _ (List.mem_of_getElem? (i := 38) rfl)) (by decide) Ec145 (eqNul l Z a0 hw hEL zc S0 Pz w_CLASS s_CLASS S_CLASS E_CLASS F_CLASS X_CLASS w_PROPERTY s_PROPERTY S_PROPERTY E_PROPERTY F_PROPERTY X_PROPERTY w_V k_V S_V E_V A_V s_CLASS h142 P143.old) (W := 0) (by decide) (by decide) (by decide) (by decide) all0 pd_4 (argsL := [.null]) rfl rfl rfl (Nat.le_of_eq rfl) d9_30 fun v144 T144 h144 P144 K144 Q144 => ?_
  obtain ⟨hv144, hh144⟩ := Q144
  subst hv144
  rw [hh144] at P144
  show Go p e below _ (T144.setTop (mkF m 33 #[.val .null, .val .null, .val (.ref o142), .val (.int (2 : Int32)), .val (.int (0 : Int32)), .val (.ref w_CLASS)] [(.int (0 : Int32))]))
  refine P144.xs (fun hA hx hy t k => XS.ifYes hA hx rfl (pc0 := 33) (pc' := 39) rfl (hb hy d9_33) rfl ((if0 _ _).trans (teq rfl).1) (by decide) (by decide) k) ?_
  show Go p e below _ (T144.setTop (mkF m 39 #[.val .null, .val .null, .val (.ref o142), .val (.int (2 : Int32)), .val (.int (0 : Int32)), .val (.ref w_CLASS)] []))
  refine P144.xs (fun hA hx hy t k => XS.iinc hA hx rfl (hb hy d9_39) rfl (l' := #[.val .null, .val .null, .val (.ref o142), .val (.int (2 : Int32)), .val (.int (1 : Int32)), .val (.ref w_CLASS)]) rfl k) ?_
  show Go p e below _ (T144.setTop (mkF m 42 #[.val .null, .val .null, .val (.ref o142), .val (.int (2 : Int32)), .val (.int (1 : Int32)), .val (.ref w_CLASS)] []))
  refine P144.xs (fun hA hx hy t k => XS.goto hA hx rfl (pc0 := 42) (pc' := 12) rfl (hb hy d9_42) (by decide) (by decide) k) ?_
  show Go p e below _ (T144.setTop (mkF m 12 #[.val .null, .val .null, .val (.ref o142), .val (.int (2 : Int32)), .val (.int (1 : Int32)), .val (.ref w_CLASS)] []))
  refine P144.xs (fun hA hx hy t k => XS.iload hA hx rfl (hb hy d9_12) rfl  k) ?_
  show Go p e below _ (T144.setTop (mkF m 14 #[.val .null, .val .null, .val (.ref o142), .val (.int (2 : Int32)), .val (.int (1 : Int32)), .val (.ref w_CLASS)] [(.int (1 : Int32))]))
  refine P144.xs (fun hA hx hy t k => XS.iloadN hA hx rfl (hb hy d9_14) rfl  k) ?_
  show Go p e below _ (T144.setTop (mkF m 15 #[.val .null, .val .null, .val (.ref o142), .val (.int (2 : Int32)), .val (.int (1 : Int32)), .val (.ref w_CLASS)] [(.int (2 : Int32)), (.int (1 : Int32))]))
  refine P144.xs (fun hA hx hy t k => XS.icmpNo hA hx rfl (hb hy d9_15) rfl (tlt (by decide)).2.1 k) ?_
  show Go p e below _ (T144.setTop (mkF m 18 #[.val .null, .val .null, .val (.ref o142), .val (.int (2 : Int32)), .val (.int (1 : Int32)), .val (.ref w_CLASS)] []))
  refine P144.xs (fun hA hx hy t k => XS.aloadN hA hx rfl (hb hy d9_18) rfl rfl  k) ?_
  show Go p e below _ (T144.setTop (mkF m 19 #[.val .null, .val .null, .val (.ref o142), .val (.int (2 : Int32)), .val (.int (1 : Int32)), .val (.ref w_CLASS)] [(.ref o142)]))
  refine P144.xs (fun hA hx hy t k => XS.iload hA hx rfl (hb hy d9_19) rfl  k) ?_
  show Go p e below _ (T144.setTop (mkF m 21 #[.val .null, .val .null, .val (.ref o142), .val (.int (2 : Int32)), .val (.int (1 : Int32)), .val (.ref w_CLASS)] [(.int (1 : Int32)), (.ref o142)]))
  refine P144.aald A142 rfl (by decide) (by decide) (v := (.ref w_PROPERTY)) rfl d9_21 ?_
  show Go p e below _ (T144.setTop (mkF m 22 #[.val .null, .val .null, .val (.ref o142), .val (.int (2 : Int32)), .val (.int (1 : Int32)), .val (.ref w_CLASS)] [(.ref w_PROPERTY)]))
  refine P144.xs (fun hA hx hy t k => XS.astore hA hx rfl (hb hy d9_22) rfl rfl (l' := #[.val .null, .val .null, .val (.ref o142), .val (.int (2 : Int32)), .val (.int (1 : Int32)), .val (.ref w_PROPERTY)]) rfl k) ?_
  show Go p e below _ (T144.setTop (mkF m 24 #[.val .null, .val .null, .val (.ref o142), .val (.int (2 : Int32)), .val (.int (1 : Int32)), .val (.ref w_PROPERTY)] []))
  refine P144.xs (fun hA hx hy t k => XS.aload hA hx rfl (hb hy d9_24) rfl rfl  k) ?_
  show Go p e below _ (T144.setTop (mkF m 26 #[.val .null, .val .null, .val (.ref o142), .val (.int (2 : Int32)), .val (.int (1 : Int32)), .val (.ref w_PROPERTY)] [(.ref w_PROPERTY)]))
  refine P144.getF (host := "") (Or.inl (hw _ (List.mem_of_getElem? (i := 66) rfl))) Via.refl (F_PROPERTY.ext P144.old) d9_26 fun T146 P146 => ?_
  show Go p e below _ (T146.setTop (mkF m 29 #[.val .null, .val .null, .val (.ref o142), .val (.int (2 : Int32)), .val (.int (1 : Int32)), .val (.ref w_PROPERTY)] [(.ref s_PROPERTY)]))
  refine P146.xs (fun hA hx hy t k => XS.aloadN hA hx rfl (hb hy d9_29) rfl rfl  k) ?_
  show Go p e below _ (T146.setTop (mkF m 30 #[.val .null, .val .null, .val (.ref o142), .val (.int (2 : Int32)), .val (.int (1 : Int32)), .val (.ref w_PROPERTY)] [.null, (.ref s_PROPERTY)]))
  have Ec148 : Exa Z h142 s_PROPERTY "java/lang/String" := (X_PROPERTY.1.ext P146.old)
  refine P146.callV (hw _ (List.mem_of_getElem? (i := 68) rfl)) (hw _ (List.mem_of_getElem? (i := 35) rfl)) (hw _ (List.mem_of_getElem? (i := 37) rfl)) (nfOf (hw _ (List.mem_of_getElem? (i := 37) rfl))) (hw _ (List.mem_of_getElem? (i := 36) rfl)) (hw _ (List.mem_of_getElem? (i := 4) rfl)) (hw _ (List.mem_of_getElem? (i := 38) rfl)) (by decide) Ec148 (eqNul l Z a0 hw hEL zc S0 Pz w_CLASS s_CLASS S_CLASS E_CLASS F_CLASS X_CLASS w_PROPERTY s_PROPERTY S_PROPERTY E_PROPERTY F_PROPERTY X_PROPERTY w_V k_V S_V E_V A_V s_PROPERTY h142 P146.old) (W := 0) (by decide) (by decide) (by decide) (by decide) all0 pd_4 (argsL := [.null]) rfl rfl rfl (Nat.le_of_eq rfl) d9_30 fun v147 T147 h147 P147 K147 Q147 => ?_
  obtain ⟨hv147, hh147⟩ := Q147
  subst hv147
  rw [hh147] at P147
  show Go p e below _ (T147.setTop (mkF m 33 #[.val .null, .val .null, .val (.ref o142), .val (.int (2 : Int32)), .val (.int (1 : Int32)), .val (.ref w_PROPERTY)] [(.int (0 : Int32))]))
  refine P147.xs (fun hA hx hy t k => XS.ifYes hA hx rfl (pc0 := 33) (pc' := 39) rfl (hb hy d9_33) rfl ((if0 _ _).trans (teq rfl).1) (by decide) (by decide) k) ?_
  show Go p e below _ (T147.setTop (mkF m 39 #[.val .null, .val .null, .val (.ref o142), .val (.int (2 : Int32)), .val (.int (1 : Int32)), .val (.ref w_PROPERTY)] []))
  refine P147.xs (fun hA hx hy t k => XS.iinc hA hx rfl (hb hy d9_39) rfl (l' := #[.val .null, .val .null, .val (.ref o142), .val (.int (2 : Int32)), .val (.int (2 : Int32)), .val (.ref w_PROPERTY)]) rfl k) ?_
  show Go p e below _ (T147.setTop (mkF m 42 #[.val .null, .val .null, .val (.ref o142), .val (.int (2 : Int32)), .val (.int (2 : Int32)), .val (.ref w_PROPERTY)] []))
  refine P147.xs (fun hA hx hy t k => XS.goto hA hx rfl (pc0 := 42) (pc' := 12) rfl (hb hy d9_42) (by decide) (by decide) k) ?_
  show Go p e below _ (T147.setTop (mkF m 12 #[.val .null, .val .null, .val (.ref o142), .val (.int (2 : Int32)), .val (.int (2 : Int32)), .val (.ref w_PROPERTY)] []))
  refine P147.xs (fun hA hx hy t k => XS.iload hA hx rfl (hb hy d9_12) rfl  k) ?_
  show Go p e below _ (T147.setTop (mkF m 14 #[.val .null, .val .null, .val (.ref o142), .val (.int (2 : Int32)), .val (.int (2 : Int32)), .val (.ref w_PROPERTY)] [(.int (2 : Int32))]))
  refine P147.xs (fun hA hx hy t k => XS.iloadN hA hx rfl (hb hy d9_14) rfl  k) ?_
  show Go p e below _ (T147.setTop (mkF m 15 #[.val .null, .val .null, .val (.ref o142), .val (.int (2 : Int32)), .val (.int (2 : Int32)), .val (.ref w_PROPERTY)] [(.int (2 : Int32)), (.int (2 : Int32))]))
  refine P147.xs (fun hA hx hy t k => XS.icmpYes hA hx rfl (pc0 := 15) (pc' := 45) rfl (hb hy d9_15) rfl (flt (by decide)).2.1 (by decide) (by decide) k) ?_
  show Go p e below _ (T147.setTop (mkF m 45 #[.val .null, .val .null, .val (.ref o142), .val (.int (2 : Int32)), .val (.int (2 : Int32)), .val (.ref w_PROPERTY)] []))
  refine P147.xs (fun hA hx hy t k => XS.aloadN hA hx rfl (hb hy d9_45) rfl rfl  k) ?_
  show Go p e below _ (T147.setTop (mkF m 46 #[.val .null, .val .null, .val (.ref o142), .val (.int (2 : Int32)), .val (.int (2 : Int32)), .val (.ref w_PROPERTY)] [.null]))
  exact P147.retR rfl rfl rfl d9_46 (by decide) (by decide) rfl

def R_mNamS : Room := { frames := 2, cells := 1, slots := 2, locals := 28 }
def Q_mNamS (Z : State) (w_CLASS w_PROPERTY : Addr) (cs : List Int32) (h0 : Heap) (v : Option Value) (h : Heap) : Prop := (v = some (.ref w_PROPERTY) ∧ cs = ([(112 : Int32), (114 : Int32), (111 : Int32), (112 : Int32), (101 : Int32), (114 : Int32), (116 : Int32), (121 : Int32)] : List Int32)) ∨ (v = some (.ref w_CLASS) ∧ cs = ([(99 : Int32), (108 : Int32), (97 : Int32), (115 : Int32), (115 : Int32)] : List Int32)) ∨ (v = some .null ∧ ¬ cs = ([(99 : Int32), (108 : Int32), (97 : Int32), (115 : Int32), (115 : Int32)] : List Int32) ∧ ¬ cs = ([(112 : Int32), (114 : Int32), (111 : Int32), (112 : Int32), (101 : Int32), (114 : Int32), (116 : Int32), (121 : Int32)] : List Int32))
set_option maxRecDepth 65536 in
set_option maxHeartbeats 40000000 in
theorem mNamS (l : Launch) (Z : State) (a0 : Array Value) (hw : ∀ d ∈ tables_1, d.before a0 Z = true) (hEL : EW Z a0 EL0) (zc : Int32) (S0 : Sta Z Z.heap "java/lang/String" "COMPACT_STRINGS" "Z" (.int zc)) (Pz : ¬ zc = 0) (w_CLASS s_CLASS : Addr) (S_CLASS : Sta Z Z.heap "com/example/certain_answers/certainanswers/store/Kind" "CLASS" "Lcom/example/certain_answers/certainanswers/store/Kind;" (.ref w_CLASS)) (E_CLASS : Exa Z Z.heap w_CLASS "com/example/certain_answers/certainanswers/store/Kind") (F_CLASS : Fld Z Z.heap w_CLASS "com/example/certain_answers/certainanswers/store/Kind" "word" "Ljava/lang/String;" (.ref s_CLASS)) (X_CLASS : Str Z Z.heap s_CLASS ([(99 : Int32), (108 : Int32), (97 : Int32), (115 : Int32), (115 : Int32)] : List Int32)) (w_PROPERTY s_PROPERTY : Addr) (S_PROPERTY : Sta Z Z.heap "com/example/certain_answers/certainanswers/store/Kind" "PROPERTY" "Lcom/example/certain_answers/certainanswers/store/Kind;" (.ref w_PROPERTY)) (E_PROPERTY : Exa Z Z.heap w_PROPERTY "com/example/certain_answers/certainanswers/store/Kind") (F_PROPERTY : Fld Z Z.heap w_PROPERTY "com/example/certain_answers/certainanswers/store/Kind" "word" "Ljava/lang/String;" (.ref s_PROPERTY)) (X_PROPERTY : Str Z Z.heap s_PROPERTY ([(112 : Int32), (114 : Int32), (111 : Int32), (112 : Int32), (101 : Int32), (114 : Int32), (116 : Int32), (121 : Int32)] : List Int32)) (w_V : Addr) (k_V : ClassId) (S_V : Sta Z Z.heap "com/example/certain_answers/certainanswers/store/Kind" "$VALUES" "[Lcom/example/certain_answers/certainanswers/store/Kind;" (.ref w_V)) (E_V : Exa Z Z.heap w_V "[Lcom/example/certain_answers/certainanswers/store/Kind;") (A_V : Arv Z Z.heap w_V k_V (.object "com/example/certain_answers/certainanswers/store/Kind") (2 : Int32) [(.ref w_CLASS), (.ref w_PROPERTY)] .null) (sx : Addr) (cs : List Int32) (h0 : Heap) (hO : Ext Z.heap h0) (Ss : Str Z h0 sx cs) :
    Con l Z EL0 [] (⟨"com/example/certain_answers/certainanswers/store/Kind", "named", "(Ljava/lang/String;)Lcom/example/certain_answers/certainanswers/store/Kind;"⟩ : MethodName) prog_11_method_4_code 6 (some (.object "com/example/certain_answers/certainanswers/store/Kind")) R_mNamS #[(.ref sx)] h0 [] (Q_mNamS Z w_CLASS w_PROPERTY cs h0) := by
  refine Con.of (y := (⟨"com/example/certain_answers/certainanswers/store/Kind", "named", "(Ljava/lang/String;)Lcom/example/certain_answers/certainanswers/store/Kind;"⟩ : MethodName)) (f0 := fun m => mkF m 0 #[.val (.ref sx), .unset, .unset, .unset, .unset, .unset] []) (plainFor_of_name pn_1) hEL hO (fun m => by skip <;> first | (simp [entryFrame, mkF, argsToLocals, Value.category, maxLocals]; done) | rfl) ?_
  intro p e s m below meth c s₁ P0
  show Go p e below _ (s₁.setTop (mkF m 0 #[.val (.ref sx), .unset, .unset, .unset, .unset, .unset] []))
  refine P0.xs (fun hA hx hy t k => XS.aconstNull hA hx rfl (hb hy d9_0) k) ?_
  show Go p e below _ (s₁.setTop (mkF m 1 #[.val (.ref sx), .unset, .unset, .unset, .unset, .unset] [.null]))
  refine P0.xs (fun hA hx hy t k => XS.astoreN hA hx rfl (hb hy d9_1) rfl rfl (l' := #[.val (.ref sx), .val .null, .unset, .unset, .unset, .unset]) rfl k) ?_
  show Go p e below _ (s₁.setTop (mkF m 2 #[.val (.ref sx), .val .null, .unset, .unset, .unset, .unset] []))
  have Ec150 : Exa Z h0 sx "java/lang/String" := Ss.1
  refine P0.callS (hw _ (List.mem_of_getElem? (i := 50) rfl)) (hw _ (List.mem_of_getElem? (i := 51) rfl)) (hw _ (List.mem_of_getElem? (i := 45) rfl)) (hw _ (List.mem_of_getElem? (i := 52) rfl)) (by decide) (mVals l Z a0 hw hEL zc S0 Pz w_CLASS s_CLASS S_CLASS E_CLASS F_CLASS X_CLASS w_PROPERTY s_PROPERTY S_PROPERTY E_PROPERTY F_PROPERTY X_PROPERTY w_V k_V S_V E_V A_V  h0 P0.old) (W := 0) (by decide) (by decide) (by decide) (by decide) all0 pd_3 (argsL := []) rfl rfl rfl (Nat.le_of_eq rfl) d9_2 fun v149 T149 h149 P149 K149 Q149 => ?_
  obtain ⟨o149, rfl, g149, A149⟩ := Q149
  have ne_sx_o149 : sx ≠ o149 := Nat.ne_of_lt (Nat.lt_of_lt_of_le Ec150.lt g149)
  have gz_o149 : Z.heap.size ≤ o149 := Nat.le_trans P0.old.1 g149
  have gw_o149 : h0.size ≤ o149 := Nat.le_trans P0.kept.1 g149
  show Go p e below _ (T149.setTop (mkF m 5 #[.val (.ref sx), .val .null, .unset, .unset, .unset, .unset] [(.ref o149)]))
  refine P149.xs (fun hA hx hy t k => XS.astoreN hA hx rfl (hb hy d9_5) rfl rfl (l' := #[.val (.ref sx), .val .null, .val (.ref o149), .unset, .unset, .unset]) rfl k) ?_
  show Go p e below _ (T149.setTop (mkF m 6 #[.val (.ref sx), .val .null, .val (.ref o149), .unset, .unset, .unset] []))
  refine P149.xs (fun hA hx hy t k => XS.aloadN hA hx rfl (hb hy d9_6) rfl rfl  k) ?_
  show Go p e below _ (T149.setTop (mkF m 7 #[.val (.ref sx), .val .null, .val (.ref o149), .unset, .unset, .unset] [(.ref o149)]))
  refine P149.alen A149 d9_7 ?_
  show Go p e below _ (T149.setTop (mkF m 8 #[.val (.ref sx), .val .null, .val (.ref o149), .unset, .unset, .unset] [(.int (2 : Int32))]))
  refine P149.xs (fun hA hx hy t k => XS.istoreN hA hx rfl (hb hy d9_8) rfl (l' := #[.val (.ref sx), .val .null, .val (.ref o149), .val (.int (2 : Int32)), .unset, .unset]) rfl k) ?_
  show Go p e below _ (T149.setTop (mkF m 9 #[.val (.ref sx), .val .null, .val (.ref o149), .val (.int (2 : Int32)), .unset, .unset] []))
  refine P149.xs (fun hA hx hy t k => XS.iconst hA hx rfl (hb hy d9_9) k) ?_
  show Go p e below _ (T149.setTop (mkF m 10 #[.val (.ref sx), .val .null, .val (.ref o149), .val (.int (2 : Int32)), .unset, .unset] [(.int (0 : Int32))]))
  refine P149.xs (fun hA hx hy t k => XS.istore hA hx rfl (hb hy d9_10) rfl (l' := #[.val (.ref sx), .val .null, .val (.ref o149), .val (.int (2 : Int32)), .val (.int (0 : Int32)), .unset]) rfl k) ?_
  show Go p e below _ (T149.setTop (mkF m 12 #[.val (.ref sx), .val .null, .val (.ref o149), .val (.int (2 : Int32)), .val (.int (0 : Int32)), .unset] []))
  refine P149.xs (fun hA hx hy t k => XS.iload hA hx rfl (hb hy d9_12) rfl  k) ?_
  show Go p e below _ (T149.setTop (mkF m 14 #[.val (.ref sx), .val .null, .val (.ref o149), .val (.int (2 : Int32)), .val (.int (0 : Int32)), .unset] [(.int (0 : Int32))]))
  refine P149.xs (fun hA hx hy t k => XS.iloadN hA hx rfl (hb hy d9_14) rfl  k) ?_
  show Go p e below _ (T149.setTop (mkF m 15 #[.val (.ref sx), .val .null, .val (.ref o149), .val (.int (2 : Int32)), .val (.int (0 : Int32)), .unset] [(.int (2 : Int32)), (.int (0 : Int32))]))
  refine P149.xs (fun hA hx hy t k => XS.icmpNo hA hx rfl (hb hy d9_15) rfl (tlt (by decide)).2.1 k) ?_
  show Go p e below _ (T149.setTop (mkF m 18 #[.val (.ref sx), .val .null, .val (.ref o149), .val (.int (2 : Int32)), .val (.int (0 : Int32)), .unset] []))
  refine P149.xs (fun hA hx hy t k => XS.aloadN hA hx rfl (hb hy d9_18) rfl rfl  k) ?_
  show Go p e below _ (T149.setTop (mkF m 19 #[.val (.ref sx), .val .null, .val (.ref o149), .val (.int (2 : Int32)), .val (.int (0 : Int32)), .unset] [(.ref o149)]))
  refine P149.xs (fun hA hx hy t k => XS.iload hA hx rfl (hb hy d9_19) rfl  k) ?_
  show Go p e below _ (T149.setTop (mkF m 21 #[.val (.ref sx), .val .null, .val (.ref o149), .val (.int (2 : Int32)), .val (.int (0 : Int32)), .unset] [(.int (0 : Int32)), (.ref o149)]))
  have Ec151 : Exa Z h149 sx "java/lang/String" := (Ec150.keep K149)
  have Sc152 : Str Z h149 sx cs := (Ss.keep K149 all0)
  refine P149.aald A149 rfl (by decide) (by decide) (v := (.ref w_CLASS)) rfl d9_21 ?_
  show Go p e below _ (T149.setTop (mkF m 22 #[.val (.ref sx), .val .null, .val (.ref o149), .val (.int (2 : Int32)), .val (.int (0 : Int32)), .unset] [(.ref w_CLASS)]))
  refine P149.xs (fun hA hx hy t k => XS.astore hA hx rfl (hb hy d9_22) rfl rfl (l' := #[.val (.ref sx), .val .null, .val (.ref o149), .val (.int (2 : Int32)), .val (.int (0 : Int32)), .val (.ref w_CLASS)]) rfl k) ?_
  show Go p e below _ (T149.setTop (mkF m 24 #[.val (.ref sx), .val .null, .val (.ref o149), .val (.int (2 : Int32)), .val (.int (0 : Int32)), .val (.ref w_CLASS)] []))
  refine P149.xs (fun hA hx hy t k => XS.aload hA hx rfl (hb hy d9_24) rfl rfl  k) ?_
  show Go p e below _ (T149.setTop (mkF m 26 #[.val (.ref sx), .val .null, .val (.ref o149), .val (.int (2 : Int32)), .val (.int (0 : Int32)), .val (.ref w_CLASS)] [(.ref w_CLASS)]))
  refine P149.getF (host := "") (Or.inl (hw _ (List.mem_of_getElem? (i := 66) rfl))) Via.refl (F_CLASS.ext P149.old) d9_26 fun T153 P153 => ?_
  show Go p e below _ (T153.setTop (mkF m 29 #[.val (.ref sx), .val .null, .val (.ref o149), .val (.int (2 : Int32)), .val (.int (0 : Int32)), .val (.ref w_CLASS)] [(.ref s_CLASS)]))
  refine P153.xs (fun hA hx hy t k => XS.aloadN hA hx rfl (hb hy d9_29) rfl rfl  k) ?_
  show Go p e below _ (T153.setTop (mkF m 30 #[.val (.ref sx), .val .null, .val (.ref o149), .val (.int (2 : Int32)), .val (.int (0 : Int32)), .val (.ref w_CLASS)] [(.ref sx), (.ref s_CLASS)]))
  have Ec154 : Exa Z h149 s_CLASS "java/lang/String" := (X_CLASS.1.ext P153.old)
  have Sc155 : Str Z h149 s_CLASS ([(99 : Int32), (108 : Int32), (97 : Int32), (115 : Int32), (115 : Int32)] : List Int32) := (X_CLASS.ext P153.old)
  refine P153.strEq (W := 0) (hw _ (List.mem_of_getElem? (i := 68) rfl)) (hw _ (List.mem_of_getElem? (i := 35) rfl)) (hw _ (List.mem_of_getElem? (i := 37) rfl)) (nfOf (hw _ (List.mem_of_getElem? (i := 37) rfl))) (hw _ (List.mem_of_getElem? (i := 36) rfl)) (by decide) (wEq hw) (hw _ (List.mem_of_getElem? (i := 3) rfl)) S0 Pz Sc155 Sc152 (by decide) (by decide) (by decide) (by decide) pd_4 rfl rfl (Nat.le_of_eq rfl) d9_30 (fun T156 P156 hq1 => ?_) (fun T157 P157 hq1 => ?_)
  · show Go p e below _ (T156.setTop (mkF m 33 #[.val (.ref sx), .val .null, .val (.ref o149), .val (.int (2 : Int32)), .val (.int (0 : Int32)), .val (.ref w_CLASS)] [(.int (1 : Int32))]))
    refine P156.xs (fun hA hx hy t k => XS.ifNo hA hx rfl (hb hy d9_33) rfl ((if0 _ _).trans (feq (by decide)).1) k) ?_
    show Go p e below _ (T156.setTop (mkF m 36 #[.val (.ref sx), .val .null, .val (.ref o149), .val (.int (2 : Int32)), .val (.int (0 : Int32)), .val (.ref w_CLASS)] []))
    refine P156.xs (fun hA hx hy t k => XS.aload hA hx rfl (hb hy d9_36) rfl rfl  k) ?_
    show Go p e below _ (T156.setTop (mkF m 38 #[.val (.ref sx), .val .null, .val (.ref o149), .val (.int (2 : Int32)), .val (.int (0 : Int32)), .val (.ref w_CLASS)] [(.ref w_CLASS)]))
    refine P156.xs (fun hA hx hy t k => XS.astoreN hA hx rfl (hb hy d9_38) rfl rfl (l' := #[.val (.ref sx), .val (.ref w_CLASS), .val (.ref o149), .val (.int (2 : Int32)), .val (.int (0 : Int32)), .val (.ref w_CLASS)]) rfl k) ?_
    show Go p e below _ (T156.setTop (mkF m 39 #[.val (.ref sx), .val (.ref w_CLASS), .val (.ref o149), .val (.int (2 : Int32)), .val (.int (0 : Int32)), .val (.ref w_CLASS)] []))
    refine P156.xs (fun hA hx hy t k => XS.iinc hA hx rfl (hb hy d9_39) rfl (l' := #[.val (.ref sx), .val (.ref w_CLASS), .val (.ref o149), .val (.int (2 : Int32)), .val (.int (1 : Int32)), .val (.ref w_CLASS)]) rfl k) ?_
    show Go p e below _ (T156.setTop (mkF m 42 #[.val (.ref sx), .val (.ref w_CLASS), .val (.ref o149), .val (.int (2 : Int32)), .val (.int (1 : Int32)), .val (.ref w_CLASS)] []))
    refine P156.xs (fun hA hx hy t k => XS.goto hA hx rfl (pc0 := 42) (pc' := 12) rfl (hb hy d9_42) (by decide) (by decide) k) ?_
    show Go p e below _ (T156.setTop (mkF m 12 #[.val (.ref sx), .val (.ref w_CLASS), .val (.ref o149), .val (.int (2 : Int32)), .val (.int (1 : Int32)), .val (.ref w_CLASS)] []))
    refine P156.xs (fun hA hx hy t k => XS.iload hA hx rfl (hb hy d9_12) rfl  k) ?_
    show Go p e below _ (T156.setTop (mkF m 14 #[.val (.ref sx), .val (.ref w_CLASS), .val (.ref o149), .val (.int (2 : Int32)), .val (.int (1 : Int32)), .val (.ref w_CLASS)] [(.int (1 : Int32))]))
    refine P156.xs (fun hA hx hy t k => XS.iloadN hA hx rfl (hb hy d9_14) rfl  k) ?_
    show Go p e below _ (T156.setTop (mkF m 15 #[.val (.ref sx), .val (.ref w_CLASS), .val (.ref o149), .val (.int (2 : Int32)), .val (.int (1 : Int32)), .val (.ref w_CLASS)] [(.int (2 : Int32)), (.int (1 : Int32))]))
    refine P156.xs (fun hA hx hy t k => XS.icmpNo hA hx rfl (hb hy d9_15) rfl (tlt (by decide)).2.1 k) ?_
    show Go p e below _ (T156.setTop (mkF m 18 #[.val (.ref sx), .val (.ref w_CLASS), .val (.ref o149), .val (.int (2 : Int32)), .val (.int (1 : Int32)), .val (.ref w_CLASS)] []))
    refine P156.xs (fun hA hx hy t k => XS.aloadN hA hx rfl (hb hy d9_18) rfl rfl  k) ?_
    show Go p e below _ (T156.setTop (mkF m 19 #[.val (.ref sx), .val (.ref w_CLASS), .val (.ref o149), .val (.int (2 : Int32)), .val (.int (1 : Int32)), .val (.ref w_CLASS)] [(.ref o149)]))
    refine P156.xs (fun hA hx hy t k => XS.iload hA hx rfl (hb hy d9_19) rfl  k) ?_
    show Go p e below _ (T156.setTop (mkF m 21 #[.val (.ref sx), .val (.ref w_CLASS), .val (.ref o149), .val (.int (2 : Int32)), .val (.int (1 : Int32)), .val (.ref w_CLASS)] [(.int (1 : Int32)), (.ref o149)]))
    refine P156.aald A149 rfl (by decide) (by decide) (v := (.ref w_PROPERTY)) rfl d9_21 ?_
    show Go p e below _ (T156.setTop (mkF m 22 #[.val (.ref sx), .val (.ref w_CLASS), .val (.ref o149), .val (.int (2 : Int32)), .val (.int (1 : Int32)), .val (.ref w_CLASS)] [(.ref w_PROPERTY)]))
    refine P156.xs (fun hA hx hy t k => XS.astore hA hx rfl (hb hy d9_22) rfl rfl (l' := #[.val (.ref sx), .val (.ref w_CLASS), .val (.ref o149), .val (.int (2 : Int32)), .val (.int (1 : Int32)), .val (.ref w_PROPERTY)]) rfl k) ?_
    show Go p e below _ (T156.setTop (mkF m 24 #[.val (.ref sx), .val (.ref w_CLASS), .val (.ref o149), .val (.int (2 : Int32)), .val (.int (1 : Int32)), .val (.ref w_PROPERTY)] []))
    refine P156.xs (fun hA hx hy t k => XS.aload hA hx rfl (hb hy d9_24) rfl rfl  k) ?_
    show Go p e below _ (T156.setTop (mkF m 26 #[.val (.ref sx), .val (.ref w_CLASS), .val (.ref o149), .val (.int (2 : Int32)), .val (.int (1 : Int32)), .val (.ref w_PROPERTY)] [(.ref w_PROPERTY)]))
    refine P156.getF (host := "") (Or.inl (hw _ (List.mem_of_getElem? (i := 66) rfl))) Via.refl (F_PROPERTY.ext P156.old) d9_26 fun T158 P158 => ?_
    show Go p e below _ (T158.setTop (mkF m 29 #[.val (.ref sx), .val (.ref w_CLASS), .val (.ref o149), .val (.int (2 : Int32)), .val (.int (1 : Int32)), .val (.ref w_PROPERTY)] [(.ref s_PROPERTY)]))
    refine P158.xs (fun hA hx hy t k => XS.aloadN hA hx rfl (hb hy d9_29) rfl rfl  k) ?_
    show Go p e below _ (T158.setTop (mkF m 30 #[.val (.ref sx), .val (.ref w_CLASS), .val (.ref o149), .val (.int (2 : Int32)), .val (.int (1 : Int32)), .val (.ref w_PROPERTY)] [(.ref sx), (.ref s_PROPERTY)]))
    have Ec159 : Exa Z h149 s_PROPERTY "java/lang/String" := (X_PROPERTY.1.ext P158.old)
    have Sc160 : Str Z h149 s_PROPERTY ([(112 : Int32), (114 : Int32), (111 : Int32), (112 : Int32), (101 : Int32), (114 : Int32), (116 : Int32), (121 : Int32)] : List Int32) := (X_PROPERTY.ext P158.old)
    refine P158.strEq (W := 0) (hw _ (List.mem_of_getElem? (i := 68) rfl)) (hw _ (List.mem_of_getElem? (i := 35) rfl)) (hw _ (List.mem_of_getElem? (i := 37) rfl)) (nfOf (hw _ (List.mem_of_getElem? (i := 37) rfl))) (hw _ (List.mem_of_getElem? (i := 36) rfl)) (by decide) (wEq hw) (hw _ (List.mem_of_getElem? (i := 3) rfl)) S0 Pz Sc160 Sc152 (by decide) (by decide) (by decide) (by decide) pd_4 rfl rfl (Nat.le_of_eq rfl) d9_30 (fun T161 P161 hq2 => ?_) (fun T162 P162 hq2 => ?_)
    · show Go p e below _ (T161.setTop (mkF m 33 #[.val (.ref sx), .val (.ref w_CLASS), .val (.ref o149), .val (.int (2 : Int32)), .val (.int (1 : Int32)), .val (.ref w_PROPERTY)] [(.int (1 : Int32))]))
      refine P161.xs (fun hA hx hy t k => XS.ifNo hA hx rfl (hb hy d9_33) rfl ((if0 _ _).trans (feq (by decide)).1) k) ?_
      show Go p e below _ (T161.setTop (mkF m 36 #[.val (.ref sx), .val (.ref w_CLASS), .val (.ref o149), .val (.int (2 : Int32)), .val (.int (1 : Int32)), .val (.ref w_PROPERTY)] []))
      refine P161.xs (fun hA hx hy t k => XS.aload hA hx rfl (hb hy d9_36) rfl rfl  k) ?_
      show Go p e below _ (T161.setTop (mkF m 38 #[.val (.ref sx), .val (.ref w_CLASS), .val (.ref o149), .val (.int (2 : Int32)), .val (.int (1 : Int32)), .val (.ref w_PROPERTY)] [(.ref w_PROPERTY)]))
      refine P161.xs (fun hA hx hy t k => XS.astoreN hA hx rfl (hb hy d9_38) rfl rfl (l' := #[.val (.ref sx), .val (.ref w_PROPERTY), .val (.ref o149), .val (.int (2 : Int32)), .val (.int (1 : Int32)), .val (.ref w_PROPERTY)]) rfl k) ?_
      show Go p e below _ (T161.setTop (mkF m 39 #[.val (.ref sx), .val (.ref w_PROPERTY), .val (.ref o149), .val (.int (2 : Int32)), .val (.int (1 : Int32)), .val (.ref w_PROPERTY)] []))
      refine P161.xs (fun hA hx hy t k => XS.iinc hA hx rfl (hb hy d9_39) rfl (l' := #[.val (.ref sx), .val (.ref w_PROPERTY), .val (.ref o149), .val (.int (2 : Int32)), .val (.int (2 : Int32)), .val (.ref w_PROPERTY)]) rfl k) ?_
      show Go p e below _ (T161.setTop (mkF m 42 #[.val (.ref sx), .val (.ref w_PROPERTY), .val (.ref o149), .val (.int (2 : Int32)), .val (.int (2 : Int32)), .val (.ref w_PROPERTY)] []))
      refine P161.xs (fun hA hx hy t k => XS.goto hA hx rfl (pc0 := 42) (pc' := 12) rfl (hb hy d9_42) (by decide) (by decide) k) ?_
      show Go p e below _ (T161.setTop (mkF m 12 #[.val (.ref sx), .val (.ref w_PROPERTY), .val (.ref o149), .val (.int (2 : Int32)), .val (.int (2 : Int32)), .val (.ref w_PROPERTY)] []))
      refine P161.xs (fun hA hx hy t k => XS.iload hA hx rfl (hb hy d9_12) rfl  k) ?_
      show Go p e below _ (T161.setTop (mkF m 14 #[.val (.ref sx), .val (.ref w_PROPERTY), .val (.ref o149), .val (.int (2 : Int32)), .val (.int (2 : Int32)), .val (.ref w_PROPERTY)] [(.int (2 : Int32))]))
      refine P161.xs (fun hA hx hy t k => XS.iloadN hA hx rfl (hb hy d9_14) rfl  k) ?_
      show Go p e below _ (T161.setTop (mkF m 15 #[.val (.ref sx), .val (.ref w_PROPERTY), .val (.ref o149), .val (.int (2 : Int32)), .val (.int (2 : Int32)), .val (.ref w_PROPERTY)] [(.int (2 : Int32)), (.int (2 : Int32))]))
      refine P161.xs (fun hA hx hy t k => XS.icmpYes hA hx rfl (pc0 := 15) (pc' := 45) rfl (hb hy d9_15) rfl (flt (by decide)).2.1 (by decide) (by decide) k) ?_
      show Go p e below _ (T161.setTop (mkF m 45 #[.val (.ref sx), .val (.ref w_PROPERTY), .val (.ref o149), .val (.int (2 : Int32)), .val (.int (2 : Int32)), .val (.ref w_PROPERTY)] []))
      refine P161.xs (fun hA hx hy t k => XS.aloadN hA hx rfl (hb hy d9_45) rfl rfl  k) ?_
      show Go p e below _ (T161.setTop (mkF m 46 #[.val (.ref sx), .val (.ref w_PROPERTY), .val (.ref o149), .val (.int (2 : Int32)), .val (.int (2 : Int32)), .val (.ref w_PROPERTY)] [(.ref w_PROPERTY)]))
      exact P161.retR rfl rfl rfl d9_46 (by decide) (by decide) (Or.inl ⟨rfl, hq2.symm⟩)
    · show Go p e below _ (T162.setTop (mkF m 33 #[.val (.ref sx), .val (.ref w_CLASS), .val (.ref o149), .val (.int (2 : Int32)), .val (.int (1 : Int32)), .val (.ref w_PROPERTY)] [(.int (0 : Int32))]))
      refine P162.xs (fun hA hx hy t k => XS.ifYes hA hx rfl (pc0 := 33) (pc' := 39) rfl (hb hy d9_33) rfl ((if0 _ _).trans (teq rfl).1) (by decide) (by decide) k) ?_
      show Go p e below _ (T162.setTop (mkF m 39 #[.val (.ref sx), .val (.ref w_CLASS), .val (.ref o149), .val (.int (2 : Int32)), .val (.int (1 : Int32)), .val (.ref w_PROPERTY)] []))
      refine P162.xs (fun hA hx hy t k => XS.iinc hA hx rfl (hb hy d9_39) rfl (l' := #[.val (.ref sx), .val (.ref w_CLASS), .val (.ref o149), .val (.int (2 : Int32)), .val (.int (2 : Int32)), .val (.ref w_PROPERTY)]) rfl k) ?_
      show Go p e below _ (T162.setTop (mkF m 42 #[.val (.ref sx), .val (.ref w_CLASS), .val (.ref o149), .val (.int (2 : Int32)), .val (.int (2 : Int32)), .val (.ref w_PROPERTY)] []))
      refine P162.xs (fun hA hx hy t k => XS.goto hA hx rfl (pc0 := 42) (pc' := 12) rfl (hb hy d9_42) (by decide) (by decide) k) ?_
      show Go p e below _ (T162.setTop (mkF m 12 #[.val (.ref sx), .val (.ref w_CLASS), .val (.ref o149), .val (.int (2 : Int32)), .val (.int (2 : Int32)), .val (.ref w_PROPERTY)] []))
      refine P162.xs (fun hA hx hy t k => XS.iload hA hx rfl (hb hy d9_12) rfl  k) ?_
      show Go p e below _ (T162.setTop (mkF m 14 #[.val (.ref sx), .val (.ref w_CLASS), .val (.ref o149), .val (.int (2 : Int32)), .val (.int (2 : Int32)), .val (.ref w_PROPERTY)] [(.int (2 : Int32))]))
      refine P162.xs (fun hA hx hy t k => XS.iloadN hA hx rfl (hb hy d9_14) rfl  k) ?_
      show Go p e below _ (T162.setTop (mkF m 15 #[.val (.ref sx), .val (.ref w_CLASS), .val (.ref o149), .val (.int (2 : Int32)), .val (.int (2 : Int32)), .val (.ref w_PROPERTY)] [(.int (2 : Int32)), (.int (2 : Int32))]))
      refine P162.xs (fun hA hx hy t k => XS.icmpYes hA hx rfl (pc0 := 15) (pc' := 45) rfl (hb hy d9_15) rfl (flt (by decide)).2.1 (by decide) (by decide) k) ?_
      show Go p e below _ (T162.setTop (mkF m 45 #[.val (.ref sx), .val (.ref w_CLASS), .val (.ref o149), .val (.int (2 : Int32)), .val (.int (2 : Int32)), .val (.ref w_PROPERTY)] []))
      refine P162.xs (fun hA hx hy t k => XS.aloadN hA hx rfl (hb hy d9_45) rfl rfl  k) ?_
      show Go p e below _ (T162.setTop (mkF m 46 #[.val (.ref sx), .val (.ref w_CLASS), .val (.ref o149), .val (.int (2 : Int32)), .val (.int (2 : Int32)), .val (.ref w_PROPERTY)] [(.ref w_CLASS)]))
      exact P162.retR rfl rfl rfl d9_46 (by decide) (by decide) (Or.inr (Or.inl ⟨rfl, hq1.symm⟩))
  · show Go p e below _ (T157.setTop (mkF m 33 #[.val (.ref sx), .val .null, .val (.ref o149), .val (.int (2 : Int32)), .val (.int (0 : Int32)), .val (.ref w_CLASS)] [(.int (0 : Int32))]))
    refine P157.xs (fun hA hx hy t k => XS.ifYes hA hx rfl (pc0 := 33) (pc' := 39) rfl (hb hy d9_33) rfl ((if0 _ _).trans (teq (by decide)).1) (by decide) (by decide) k) ?_
    show Go p e below _ (T157.setTop (mkF m 39 #[.val (.ref sx), .val .null, .val (.ref o149), .val (.int (2 : Int32)), .val (.int (0 : Int32)), .val (.ref w_CLASS)] []))
    refine P157.xs (fun hA hx hy t k => XS.iinc hA hx rfl (hb hy d9_39) rfl (l' := #[.val (.ref sx), .val .null, .val (.ref o149), .val (.int (2 : Int32)), .val (.int (1 : Int32)), .val (.ref w_CLASS)]) rfl k) ?_
    show Go p e below _ (T157.setTop (mkF m 42 #[.val (.ref sx), .val .null, .val (.ref o149), .val (.int (2 : Int32)), .val (.int (1 : Int32)), .val (.ref w_CLASS)] []))
    refine P157.xs (fun hA hx hy t k => XS.goto hA hx rfl (pc0 := 42) (pc' := 12) rfl (hb hy d9_42) (by decide) (by decide) k) ?_
    show Go p e below _ (T157.setTop (mkF m 12 #[.val (.ref sx), .val .null, .val (.ref o149), .val (.int (2 : Int32)), .val (.int (1 : Int32)), .val (.ref w_CLASS)] []))
    refine P157.xs (fun hA hx hy t k => XS.iload hA hx rfl (hb hy d9_12) rfl  k) ?_
    show Go p e below _ (T157.setTop (mkF m 14 #[.val (.ref sx), .val .null, .val (.ref o149), .val (.int (2 : Int32)), .val (.int (1 : Int32)), .val (.ref w_CLASS)] [(.int (1 : Int32))]))
    refine P157.xs (fun hA hx hy t k => XS.iloadN hA hx rfl (hb hy d9_14) rfl  k) ?_
    show Go p e below _ (T157.setTop (mkF m 15 #[.val (.ref sx), .val .null, .val (.ref o149), .val (.int (2 : Int32)), .val (.int (1 : Int32)), .val (.ref w_CLASS)] [(.int (2 : Int32)), (.int (1 : Int32))]))
    refine P157.xs (fun hA hx hy t k => XS.icmpNo hA hx rfl (hb hy d9_15) rfl (tlt (by decide)).2.1 k) ?_
    show Go p e below _ (T157.setTop (mkF m 18 #[.val (.ref sx), .val .null, .val (.ref o149), .val (.int (2 : Int32)), .val (.int (1 : Int32)), .val (.ref w_CLASS)] []))
    refine P157.xs (fun hA hx hy t k => XS.aloadN hA hx rfl (hb hy d9_18) rfl rfl  k) ?_
    show Go p e below _ (T157.setTop (mkF m 19 #[.val (.ref sx), .val .null, .val (.ref o149), .val (.int (2 : Int32)), .val (.int (1 : Int32)), .val (.ref w_CLASS)] [(.ref o149)]))
    refine P157.xs (fun hA hx hy t k => XS.iload hA hx rfl (hb hy d9_19) rfl  k) ?_
    show Go p e below _ (T157.setTop (mkF m 21 #[.val (.ref sx), .val .null, .val (.ref o149), .val (.int (2 : Int32)), .val (.int (1 : Int32)), .val (.ref w_CLASS)] [(.int (1 : Int32)), (.ref o149)]))
    refine P157.aald A149 rfl (by decide) (by decide) (v := (.ref w_PROPERTY)) rfl d9_21 ?_
    show Go p e below _ (T157.setTop (mkF m 22 #[.val (.ref sx), .val .null, .val (.ref o149), .val (.int (2 : Int32)), .val (.int (1 : Int32)), .val (.ref w_CLASS)] [(.ref w_PROPERTY)]))
    refine P157.xs (fun hA hx hy t k => XS.astore hA hx rfl (hb hy d9_22) rfl rfl (l' := #[.val (.ref sx), .val .null, .val (.ref o149), .val (.int (2 : Int32)), .val (.int (1 : Int32)), .val (.ref w_PROPERTY)]) rfl k) ?_
    show Go p e below _ (T157.setTop (mkF m 24 #[.val (.ref sx), .val .null, .val (.ref o149), .val (.int (2 : Int32)), .val (.int (1 : Int32)), .val (.ref w_PROPERTY)] []))
    refine P157.xs (fun hA hx hy t k => XS.aload hA hx rfl (hb hy d9_24) rfl rfl  k) ?_
    show Go p e below _ (T157.setTop (mkF m 26 #[.val (.ref sx), .val .null, .val (.ref o149), .val (.int (2 : Int32)), .val (.int (1 : Int32)), .val (.ref w_PROPERTY)] [(.ref w_PROPERTY)]))
    refine P157.getF (host := "") (Or.inl (hw _ (List.mem_of_getElem? (i := 66) rfl))) Via.refl (F_PROPERTY.ext P157.old) d9_26 fun T163 P163 => ?_
    show Go p e below _ (T163.setTop (mkF m 29 #[.val (.ref sx), .val .null, .val (.ref o149), .val (.int (2 : Int32)), .val (.int (1 : Int32)), .val (.ref w_PROPERTY)] [(.ref s_PROPERTY)]))
    refine P163.xs (fun hA hx hy t k => XS.aloadN hA hx rfl (hb hy d9_29) rfl rfl  k) ?_
    show Go p e below _ (T163.setTop (mkF m 30 #[.val (.ref sx), .val .null, .val (.ref o149), .val (.int (2 : Int32)), .val (.int (1 : Int32)), .val (.ref w_PROPERTY)] [(.ref sx), (.ref s_PROPERTY)]))
    have Ec164 : Exa Z h149 s_PROPERTY "java/lang/String" := (X_PROPERTY.1.ext P163.old)
    have Sc165 : Str Z h149 s_PROPERTY ([(112 : Int32), (114 : Int32), (111 : Int32), (112 : Int32), (101 : Int32), (114 : Int32), (116 : Int32), (121 : Int32)] : List Int32) := (X_PROPERTY.ext P163.old)
    refine P163.strEq (W := 0) (hw _ (List.mem_of_getElem? (i := 68) rfl)) (hw _ (List.mem_of_getElem? (i := 35) rfl)) (hw _ (List.mem_of_getElem? (i := 37) rfl)) (nfOf (hw _ (List.mem_of_getElem? (i := 37) rfl))) (hw _ (List.mem_of_getElem? (i := 36) rfl)) (by decide) (wEq hw) (hw _ (List.mem_of_getElem? (i := 3) rfl)) S0 Pz Sc165 Sc152 (by decide) (by decide) (by decide) (by decide) pd_4 rfl rfl (Nat.le_of_eq rfl) d9_30 (fun T166 P166 hq2 => ?_) (fun T167 P167 hq2 => ?_)
    · show Go p e below _ (T166.setTop (mkF m 33 #[.val (.ref sx), .val .null, .val (.ref o149), .val (.int (2 : Int32)), .val (.int (1 : Int32)), .val (.ref w_PROPERTY)] [(.int (1 : Int32))]))
      refine P166.xs (fun hA hx hy t k => XS.ifNo hA hx rfl (hb hy d9_33) rfl ((if0 _ _).trans (feq (by decide)).1) k) ?_
      show Go p e below _ (T166.setTop (mkF m 36 #[.val (.ref sx), .val .null, .val (.ref o149), .val (.int (2 : Int32)), .val (.int (1 : Int32)), .val (.ref w_PROPERTY)] []))
      refine P166.xs (fun hA hx hy t k => XS.aload hA hx rfl (hb hy d9_36) rfl rfl  k) ?_
      show Go p e below _ (T166.setTop (mkF m 38 #[.val (.ref sx), .val .null, .val (.ref o149), .val (.int (2 : Int32)), .val (.int (1 : Int32)), .val (.ref w_PROPERTY)] [(.ref w_PROPERTY)]))
      refine P166.xs (fun hA hx hy t k => XS.astoreN hA hx rfl (hb hy d9_38) rfl rfl (l' := #[.val (.ref sx), .val (.ref w_PROPERTY), .val (.ref o149), .val (.int (2 : Int32)), .val (.int (1 : Int32)), .val (.ref w_PROPERTY)]) rfl k) ?_
      show Go p e below _ (T166.setTop (mkF m 39 #[.val (.ref sx), .val (.ref w_PROPERTY), .val (.ref o149), .val (.int (2 : Int32)), .val (.int (1 : Int32)), .val (.ref w_PROPERTY)] []))
      refine P166.xs (fun hA hx hy t k => XS.iinc hA hx rfl (hb hy d9_39) rfl (l' := #[.val (.ref sx), .val (.ref w_PROPERTY), .val (.ref o149), .val (.int (2 : Int32)), .val (.int (2 : Int32)), .val (.ref w_PROPERTY)]) rfl k) ?_
      show Go p e below _ (T166.setTop (mkF m 42 #[.val (.ref sx), .val (.ref w_PROPERTY), .val (.ref o149), .val (.int (2 : Int32)), .val (.int (2 : Int32)), .val (.ref w_PROPERTY)] []))
      refine P166.xs (fun hA hx hy t k => XS.goto hA hx rfl (pc0 := 42) (pc' := 12) rfl (hb hy d9_42) (by decide) (by decide) k) ?_
      show Go p e below _ (T166.setTop (mkF m 12 #[.val (.ref sx), .val (.ref w_PROPERTY), .val (.ref o149), .val (.int (2 : Int32)), .val (.int (2 : Int32)), .val (.ref w_PROPERTY)] []))
      refine P166.xs (fun hA hx hy t k => XS.iload hA hx rfl (hb hy d9_12) rfl  k) ?_
      show Go p e below _ (T166.setTop (mkF m 14 #[.val (.ref sx), .val (.ref w_PROPERTY), .val (.ref o149), .val (.int (2 : Int32)), .val (.int (2 : Int32)), .val (.ref w_PROPERTY)] [(.int (2 : Int32))]))
      refine P166.xs (fun hA hx hy t k => XS.iloadN hA hx rfl (hb hy d9_14) rfl  k) ?_
      show Go p e below _ (T166.setTop (mkF m 15 #[.val (.ref sx), .val (.ref w_PROPERTY), .val (.ref o149), .val (.int (2 : Int32)), .val (.int (2 : Int32)), .val (.ref w_PROPERTY)] [(.int (2 : Int32)), (.int (2 : Int32))]))
      refine P166.xs (fun hA hx hy t k => XS.icmpYes hA hx rfl (pc0 := 15) (pc' := 45) rfl (hb hy d9_15) rfl (flt (by decide)).2.1 (by decide) (by decide) k) ?_
      show Go p e below _ (T166.setTop (mkF m 45 #[.val (.ref sx), .val (.ref w_PROPERTY), .val (.ref o149), .val (.int (2 : Int32)), .val (.int (2 : Int32)), .val (.ref w_PROPERTY)] []))
      refine P166.xs (fun hA hx hy t k => XS.aloadN hA hx rfl (hb hy d9_45) rfl rfl  k) ?_
      show Go p e below _ (T166.setTop (mkF m 46 #[.val (.ref sx), .val (.ref w_PROPERTY), .val (.ref o149), .val (.int (2 : Int32)), .val (.int (2 : Int32)), .val (.ref w_PROPERTY)] [(.ref w_PROPERTY)]))
      exact P166.retR rfl rfl rfl d9_46 (by decide) (by decide) (Or.inl ⟨rfl, hq2.symm⟩)
    · show Go p e below _ (T167.setTop (mkF m 33 #[.val (.ref sx), .val .null, .val (.ref o149), .val (.int (2 : Int32)), .val (.int (1 : Int32)), .val (.ref w_PROPERTY)] [(.int (0 : Int32))]))
      refine P167.xs (fun hA hx hy t k => XS.ifYes hA hx rfl (pc0 := 33) (pc' := 39) rfl (hb hy d9_33) rfl ((if0 _ _).trans (teq rfl).1) (by decide) (by decide) k) ?_
      show Go p e below _ (T167.setTop (mkF m 39 #[.val (.ref sx), .val .null, .val (.ref o149), .val (.int (2 : Int32)), .val (.int (1 : Int32)), .val (.ref w_PROPERTY)] []))
      refine P167.xs (fun hA hx hy t k => XS.iinc hA hx rfl (hb hy d9_39) rfl (l' := #[.val (.ref sx), .val .null, .val (.ref o149), .val (.int (2 : Int32)), .val (.int (2 : Int32)), .val (.ref w_PROPERTY)]) rfl k) ?_
      show Go p e below _ (T167.setTop (mkF m 42 #[.val (.ref sx), .val .null, .val (.ref o149), .val (.int (2 : Int32)), .val (.int (2 : Int32)), .val (.ref w_PROPERTY)] []))
      refine P167.xs (fun hA hx hy t k => XS.goto hA hx rfl (pc0 := 42) (pc' := 12) rfl (hb hy d9_42) (by decide) (by decide) k) ?_
      show Go p e below _ (T167.setTop (mkF m 12 #[.val (.ref sx), .val .null, .val (.ref o149), .val (.int (2 : Int32)), .val (.int (2 : Int32)), .val (.ref w_PROPERTY)] []))
      refine P167.xs (fun hA hx hy t k => XS.iload hA hx rfl (hb hy d9_12) rfl  k) ?_
      show Go p e below _ (T167.setTop (mkF m 14 #[.val (.ref sx), .val .null, .val (.ref o149), .val (.int (2 : Int32)), .val (.int (2 : Int32)), .val (.ref w_PROPERTY)] [(.int (2 : Int32))]))
      refine P167.xs (fun hA hx hy t k => XS.iloadN hA hx rfl (hb hy d9_14) rfl  k) ?_
      show Go p e below _ (T167.setTop (mkF m 15 #[.val (.ref sx), .val .null, .val (.ref o149), .val (.int (2 : Int32)), .val (.int (2 : Int32)), .val (.ref w_PROPERTY)] [(.int (2 : Int32)), (.int (2 : Int32))]))
      refine P167.xs (fun hA hx hy t k => XS.icmpYes hA hx rfl (pc0 := 15) (pc' := 45) rfl (hb hy d9_15) rfl (flt (by decide)).2.1 (by decide) (by decide) k) ?_
      show Go p e below _ (T167.setTop (mkF m 45 #[.val (.ref sx), .val .null, .val (.ref o149), .val (.int (2 : Int32)), .val (.int (2 : Int32)), .val (.ref w_PROPERTY)] []))
      refine P167.xs (fun hA hx hy t k => XS.aloadN hA hx rfl (hb hy d9_45) rfl rfl  k) ?_
      show Go p e below _ (T167.setTop (mkF m 46 #[.val (.ref sx), .val .null, .val (.ref o149), .val (.int (2 : Int32)), .val (.int (2 : Int32)), .val (.ref w_PROPERTY)] [.null]))
      exact P167.retR rfl rfl rfl d9_46 (by decide) (by decide) (Or.inr (Or.inr ⟨rfl, fun g => hq1 g.symm, fun g => hq2 g.symm⟩))

def Q_mLaw (Z : State)  (h0 : Heap) (v : Option Value) (h : Heap) : Prop := v = some (.int 1)
set_option maxRecDepth 65536 in
set_option maxHeartbeats 40000000 in
theorem mLaw (l : Launch) (Z : State) (a0 : Array Value) (hw : ∀ d ∈ tables_1, d.before a0 Z = true) (hEL : EW Z a0 EL0) (zc : Int32) (S0 : Sta Z Z.heap "java/lang/String" "COMPACT_STRINGS" "Z" (.int zc)) (Pz : ¬ zc = 0) (w_CLASS s_CLASS : Addr) (S_CLASS : Sta Z Z.heap "com/example/certain_answers/certainanswers/store/Kind" "CLASS" "Lcom/example/certain_answers/certainanswers/store/Kind;" (.ref w_CLASS)) (E_CLASS : Exa Z Z.heap w_CLASS "com/example/certain_answers/certainanswers/store/Kind") (F_CLASS : Fld Z Z.heap w_CLASS "com/example/certain_answers/certainanswers/store/Kind" "word" "Ljava/lang/String;" (.ref s_CLASS)) (X_CLASS : Str Z Z.heap s_CLASS ([(99 : Int32), (108 : Int32), (97 : Int32), (115 : Int32), (115 : Int32)] : List Int32)) (w_PROPERTY s_PROPERTY : Addr) (S_PROPERTY : Sta Z Z.heap "com/example/certain_answers/certainanswers/store/Kind" "PROPERTY" "Lcom/example/certain_answers/certainanswers/store/Kind;" (.ref w_PROPERTY)) (E_PROPERTY : Exa Z Z.heap w_PROPERTY "com/example/certain_answers/certainanswers/store/Kind") (F_PROPERTY : Fld Z Z.heap w_PROPERTY "com/example/certain_answers/certainanswers/store/Kind" "word" "Ljava/lang/String;" (.ref s_PROPERTY)) (X_PROPERTY : Str Z Z.heap s_PROPERTY ([(112 : Int32), (114 : Int32), (111 : Int32), (112 : Int32), (101 : Int32), (114 : Int32), (116 : Int32), (121 : Int32)] : List Int32)) (w_V : Addr) (k_V : ClassId) (S_V : Sta Z Z.heap "com/example/certain_answers/certainanswers/store/Kind" "$VALUES" "[Lcom/example/certain_answers/certainanswers/store/Kind;" (.ref w_V)) (E_V : Exa Z Z.heap w_V "[Lcom/example/certain_answers/certainanswers/store/Kind;") (A_V : Arv Z Z.heap w_V k_V (.object "com/example/certain_answers/certainanswers/store/Kind") (2 : Int32) [(.ref w_CLASS), (.ref w_PROPERTY)] .null) (p0 p1 p2 : Int32) (q3 : Int64) (h0 : Heap) (hO : Ext Z.heap h0)  :
    Con l Z EL0 tables_1 x code maxLocals ret room_1 #[(.int p0), (.int p1), (.int p2), (.long q3)] h0 [] (Q_mLaw Z  h0) := by
  refine Con.of (y := (⟨"com/example/certain_answers/certainanswers/store/KindNamedPinLaw", "law", "(IIIJ)Z"⟩ : MethodName)) (f0 := fun m => mkF m 0 #[.val (.int p0), .val (.int p1), .val (.int p2), .val (.long q3), .second, .unset, .unset, .unset, .unset, .unset, .unset] []) (plainFor_of_name pn_2) hEL hO (fun m => by skip <;> first | (simp [entryFrame, mkF, argsToLocals, Value.category, maxLocals]; done) | rfl) ?_
  intro p e s m below meth c s₁ P0
  show Go p e below _ (s₁.setTop (mkF m 0 #[.val (.int p0), .val (.int p1), .val (.int p2), .val (.long q3), .second, .unset, .unset, .unset, .unset, .unset, .unset] []))
  refine P0.xs (fun hA hx hy t k => XS.iloadN hA hx rfl (hb hy at_0) rfl  k) ?_
  show Go p e below _ (s₁.setTop (mkF m 1 #[.val (.int p0), .val (.int p1), .val (.int p2), .val (.long q3), .second, .unset, .unset, .unset, .unset, .unset, .unset] [(.int p0)]))
  refine P0.xs (fun hA hx hy t k => XS.iconst hA hx rfl (hb hy at_1) k) ?_
  show Go p e below _ (s₁.setTop (mkF m 2 #[.val (.int p0), .val (.int p1), .val (.int p2), .val (.long q3), .second, .unset, .unset, .unset, .unset, .unset, .unset] [(.int (3 : Int32)), (.int p0)]))
  refine P0.xs (fun hA hx hy t k => XS.iand hA hx rfl (hb hy at_2) rfl k) ?_
  show Go p e below _ (s₁.setTop (mkF m 3 #[.val (.int p0), .val (.int p1), .val (.int p2), .val (.long q3), .second, .unset, .unset, .unset, .unset, .unset, .unset] [(.int (p0 &&& (3 : Int32)))]))
  generalize hkk : (p0 &&& (3 : Int32)) = kk
  refine P0.xs (fun hA hx hy t k => XS.istore hA hx rfl (hb hy at_3) rfl (l' := #[.val (.int p0), .val (.int p1), .val (.int p2), .val (.long q3), .second, .val (.int kk), .unset, .unset, .unset, .unset, .unset]) rfl k) ?_
  show Go p e below _ (s₁.setTop (mkF m 5 #[.val (.int p0), .val (.int p1), .val (.int p2), .val (.long q3), .second, .val (.int kk), .unset, .unset, .unset, .unset, .unset] []))
  refine P0.xs (fun hA hx hy t k => XS.iloadN hA hx rfl (hb hy at_5) rfl  k) ?_
  show Go p e below _ (s₁.setTop (mkF m 6 #[.val (.int p0), .val (.int p1), .val (.int p2), .val (.long q3), .second, .val (.int kk), .unset, .unset, .unset, .unset, .unset] [(.int p0)]))
  refine P0.xs (fun hA hx hy t k => XS.iconst hA hx rfl (hb hy at_6) k) ?_
  show Go p e below _ (s₁.setTop (mkF m 7 #[.val (.int p0), .val (.int p1), .val (.int p2), .val (.long q3), .second, .val (.int kk), .unset, .unset, .unset, .unset, .unset] [(.int (4 : Int32)), (.int p0)]))
  refine P0.xs (fun hA hx hy t k => XS.iand hA hx rfl (hb hy at_7) rfl k) ?_
  show Go p e below _ (s₁.setTop (mkF m 8 #[.val (.int p0), .val (.int p1), .val (.int p2), .val (.long q3), .second, .val (.int kk), .unset, .unset, .unset, .unset, .unset] [(.int (p0 &&& (4 : Int32)))]))
  suffices j0 : ∀ (T168 : State) (h168 : Heap) (pt : Int32), Pos p l e room_1 s m #[(.int p0), (.int p1), (.int p2), (.long q3)] below meth c "com/example/certain_answers/certainanswers/store/KindNamedPinLaw" "law" code maxLocals ret Z a0 EL0 h0 [] T168 h168 0 0 → Go p e below (Fini Z EL0 h0 [] room_1 (Q_mLaw Z  h0) s) (T168.setTop (mkF m 16 #[.val (.int p0), .val (.int p1), .val (.int p2), .val (.long q3), .second, .val (.int kk), .unset, .unset, .unset, .unset, .unset] [(.int pt)])) by
    by_cases hk : (p0 &&& (4 : Int32)) = 0
    · refine P0.xs (fun hA hx hy t k => XS.ifYes hA hx rfl (pc0 := 8) (pc' := 15) rfl (hb hy at_8) rfl ((if0 _ _).trans (teq hk).1) (by decide) (by decide) k) ?_
      show Go p e below _ (s₁.setTop (mkF m 15 #[.val (.int p0), .val (.int p1), .val (.int p2), .val (.long q3), .second, .val (.int kk), .unset, .unset, .unset, .unset, .unset] []))
      refine P0.xs (fun hA hx hy t k => XS.iconst hA hx rfl (hb hy at_15) k) ?_
      show Go p e below _ (s₁.setTop (mkF m 16 #[.val (.int p0), .val (.int p1), .val (.int p2), .val (.long q3), .second, .val (.int kk), .unset, .unset, .unset, .unset, .unset] [(.int (0 : Int32))]))
      exact j0 _ _ _  (P0.wider (by decide) (by decide)) 
    · refine P0.xs (fun hA hx hy t k => XS.ifNo hA hx rfl (hb hy at_8) rfl ((if0 _ _).trans (feq hk).1) k) ?_
      show Go p e below _ (s₁.setTop (mkF m 11 #[.val (.int p0), .val (.int p1), .val (.int p2), .val (.long q3), .second, .val (.int kk), .unset, .unset, .unset, .unset, .unset] []))
      refine P0.xs (fun hA hx hy t k => XS.iconst hA hx rfl (hb hy at_11) k) ?_
      show Go p e below _ (s₁.setTop (mkF m 12 #[.val (.int p0), .val (.int p1), .val (.int p2), .val (.long q3), .second, .val (.int kk), .unset, .unset, .unset, .unset, .unset] [(.int (1 : Int32))]))
      refine P0.xs (fun hA hx hy t k => XS.goto hA hx rfl (pc0 := 12) (pc' := 16) rfl (hb hy at_12) (by decide) (by decide) k) ?_
      show Go p e below _ (s₁.setTop (mkF m 16 #[.val (.int p0), .val (.int p1), .val (.int p2), .val (.long q3), .second, .val (.int kk), .unset, .unset, .unset, .unset, .unset] [(.int (1 : Int32))]))
      exact j0 _ _ _  (P0.wider (by decide) (by decide)) 
  intro T168 h168 pt  P168 
  show Go p e below _ (T168.setTop (mkF m 16 #[.val (.int p0), .val (.int p1), .val (.int p2), .val (.long q3), .second, .val (.int kk), .unset, .unset, .unset, .unset, .unset] [(.int pt)]))
  refine P168.xs (fun hA hx hy t k => XS.istore hA hx rfl (hb hy at_16) rfl (l' := #[.val (.int p0), .val (.int p1), .val (.int p2), .val (.long q3), .second, .val (.int kk), .val (.int pt), .unset, .unset, .unset, .unset]) rfl k) ?_
  show Go p e below _ (T168.setTop (mkF m 18 #[.val (.int p0), .val (.int p1), .val (.int p2), .val (.long q3), .second, .val (.int kk), .val (.int pt), .unset, .unset, .unset, .unset] []))
  refine P168.xs (fun hA hx hy t k => XS.iloadN hA hx rfl (hb hy at_18) rfl  k) ?_
  show Go p e below _ (T168.setTop (mkF m 19 #[.val (.int p0), .val (.int p1), .val (.int p2), .val (.long q3), .second, .val (.int kk), .val (.int pt), .unset, .unset, .unset, .unset] [(.int p2)]))
  refine P168.xs (fun hA hx hy t k => XS.sipush hA hx rfl (hb hy at_19) k) ?_
  show Go p e below _ (T168.setTop (mkF m 22 #[.val (.int p0), .val (.int p1), .val (.int p2), .val (.long q3), .second, .val (.int kk), .val (.int pt), .unset, .unset, .unset, .unset] [(.int (255 : Int32)), (.int p2)]))
  refine P168.xs (fun hA hx hy t k => XS.iand hA hx rfl (hb hy at_22) rfl k) ?_
  show Go p e below _ (T168.setTop (mkF m 23 #[.val (.int p0), .val (.int p1), .val (.int p2), .val (.long q3), .second, .val (.int kk), .val (.int pt), .unset, .unset, .unset, .unset] [(.int (p2 &&& (255 : Int32)))]))
  refine P168.xs (fun hA hx hy t k => XS.i2c hA hx rfl (hb hy at_23) rfl k) ?_
  show Go p e below _ (T168.setTop (mkF m 24 #[.val (.int p0), .val (.int p1), .val (.int p2), .val (.long q3), .second, .val (.int kk), .val (.int pt), .unset, .unset, .unset, .unset] [(.int ((p2 &&& (255 : Int32)).toUInt32.toUInt16.toUInt32.toInt32))]))
  generalize hch169 : ((p2 &&& (255 : Int32)).toUInt32.toUInt16.toUInt32.toInt32) = ch169
  obtain ⟨lch169, nch169⟩ := chr255 hch169
  show Go p e below _ (T168.setTop (mkF m 24 #[.val (.int p0), .val (.int p1), .val (.int p2), .val (.long q3), .second, .val (.int kk), .val (.int pt), .unset, .unset, .unset, .unset] [(.int ch169)]))
  refine P168.xs (fun hA hx hy t k => XS.istore hA hx rfl (hb hy at_24) rfl (l' := #[.val (.int p0), .val (.int p1), .val (.int p2), .val (.long q3), .second, .val (.int kk), .val (.int pt), .val (.int ch169), .unset, .unset, .unset]) rfl k) ?_
  show Go p e below _ (T168.setTop (mkF m 26 #[.val (.int p0), .val (.int p1), .val (.int p2), .val (.long q3), .second, .val (.int kk), .val (.int pt), .val (.int ch169), .unset, .unset, .unset] []))
  refine P168.xs (fun hA hx hy t k => XS.iloadN hA hx rfl (hb hy at_26) rfl  k) ?_
  show Go p e below _ (T168.setTop (mkF m 27 #[.val (.int p0), .val (.int p1), .val (.int p2), .val (.long q3), .second, .val (.int kk), .val (.int pt), .val (.int ch169), .unset, .unset, .unset] [(.int p1)]))
  refine P168.ldcI (hw _ (List.mem_of_getElem? (i := 0) rfl)) at_27 ?_
  show Go p e below _ (T168.setTop (mkF m 29 #[.val (.int p0), .val (.int p1), .val (.int p2), .val (.long q3), .second, .val (.int kk), .val (.int pt), .val (.int ch169), .unset, .unset, .unset] [(.int (2147483647 : Int32)), (.int p1)]))
  refine P168.xs (fun hA hx hy t k => XS.iand hA hx rfl (hb hy at_29) rfl k) ?_
  show Go p e below _ (T168.setTop (mkF m 30 #[.val (.int p0), .val (.int p1), .val (.int p2), .val (.long q3), .second, .val (.int kk), .val (.int pt), .val (.int ch169), .unset, .unset, .unset] [(.int (p1 &&& (2147483647 : Int32)))]))
  have hpx := mask31 p1
  generalize hgpx : (p1 &&& (2147483647 : Int32)) = px at hpx ⊢
  show Go p e below _ (T168.setTop (mkF m 30 #[.val (.int p0), .val (.int p1), .val (.int p2), .val (.long q3), .second, .val (.int kk), .val (.int pt), .val (.int ch169), .unset, .unset, .unset] [(.int px)]))
  refine P168.xs (fun hA hx hy t k => XS.istore hA hx rfl (hb hy at_30) rfl (l' := #[.val (.int p0), .val (.int p1), .val (.int p2), .val (.long q3), .second, .val (.int kk), .val (.int pt), .val (.int ch169), .val (.int px), .unset, .unset]) rfl k) ?_
  show Go p e below _ (T168.setTop (mkF m 32 #[.val (.int p0), .val (.int p1), .val (.int p2), .val (.long q3), .second, .val (.int kk), .val (.int pt), .val (.int ch169), .val (.int px), .unset, .unset] []))
  refine P168.xs (fun hA hx hy t k => XS.iload hA hx rfl (hb hy at_32) rfl  k) ?_
  show Go p e below _ (T168.setTop (mkF m 34 #[.val (.int p0), .val (.int p1), .val (.int p2), .val (.long q3), .second, .val (.int kk), .val (.int pt), .val (.int ch169), .val (.int px), .unset, .unset] [(.int kk)]))
  suffices tN : ∀ (T170 : State) (h170 : Heap), Pos p l e room_1 s m #[(.int p0), (.int p1), (.int p2), (.long q3)] below meth c "com/example/certain_answers/certainanswers/store/KindNamedPinLaw" "law" code maxLocals ret Z a0 EL0 h0 [] T170 h170 6 60 → Go p e below (Fini Z EL0 h0 [] room_1 (Q_mLaw Z  h0) s) (T170.setTop (mkF m 205 #[.val (.int p0), .val (.int p1), .val (.int p2), .val (.long q3), .second, .val (.int kk), .val (.int pt), .val (.int ch169), .val (.int px), .val .null, .val .null] [])) by
    suffices tS : ∀ (T171 : State) (h171 : Heap) (sx : Addr) (cs : List Int32), Pos p l e room_1 s m #[(.int p0), (.int p1), (.int p2), (.long q3)] below meth c "com/example/certain_answers/certainanswers/store/KindNamedPinLaw" "law" code maxLocals ret Z a0 EL0 h0 [] T171 h171 6 60 → Str Z h171 sx cs → Go p e below (Fini Z EL0 h0 [] room_1 (Q_mLaw Z  h0) s) (T171.setTop (mkF m 205 #[.val (.int p0), .val (.int p1), .val (.int p2), .val (.long q3), .second, .val (.int kk), .val (.int pt), .val (.int ch169), .val (.int px), .val (.ref sx), .val .null] [])) by
      by_cases hk0 : kk = 0
      · refine P168.xs (fun hA hx hy t k => XS.ifNo hA hx rfl (hb hy at_34) rfl ((if0 _ _).trans (teq hk0).2) k) ?_
        show Go p e below _ (T168.setTop (mkF m 37 #[.val (.int p0), .val (.int p1), .val (.int p2), .val (.long q3), .second, .val (.int kk), .val (.int pt), .val (.int ch169), .val (.int px), .unset, .unset] []))
        refine P168.xs (fun hA hx hy t k => XS.iconst hA hx rfl (hb hy at_37) k) ?_
        show Go p e below _ (T168.setTop (mkF m 38 #[.val (.int p0), .val (.int p1), .val (.int p2), .val (.long q3), .second, .val (.int kk), .val (.int pt), .val (.int ch169), .val (.int px), .unset, .unset] [(.int (5 : Int32))]))
        refine P168.newP (aty := .char) (hw _ (List.mem_of_getElem? (i := 1) rfl)) at_38 (by decide) (cap := 5) (by decide) (by decide) (by decide) (by decide) fun T172 h172 o172 k172 g172 P172 E172 A172 => ?_
        have gz_o172 : Z.heap.size ≤ o172 := Nat.le_trans P168.old.1 (Nat.le_of_eq g172.symm)
        have gw_o172 : h0.size ≤ o172 := Nat.le_trans P168.kept.1 (Nat.le_of_eq g172.symm)
        have V172 : Arv Z h172 o172 k172 .char (5 : Int32) [(.int (0 : Int32)), (.int (0 : Int32)), (.int (0 : Int32)), (.int (0 : Int32)), (.int (0 : Int32))] (.int (0 : Int32)) := Arv.pad A172 (pad_rep [] (.int (0 : Int32)) 5)
        show Go p e below _ (T172.setTop (mkF m 40 #[.val (.int p0), .val (.int p1), .val (.int p2), .val (.long q3), .second, .val (.int kk), .val (.int pt), .val (.int ch169), .val (.int px), .unset, .unset] [(.ref o172)]))
        refine P172.xs (fun hA hx hy t k => XS.dup hA hx rfl (hb hy at_40) rfl rfl k) ?_
        show Go p e below _ (T172.setTop (mkF m 41 #[.val (.int p0), .val (.int p1), .val (.int p2), .val (.long q3), .second, .val (.int kk), .val (.int pt), .val (.int ch169), .val (.int px), .unset, .unset] [(.ref o172), (.ref o172)]))
        refine P172.xs (fun hA hx hy t k => XS.iconst hA hx rfl (hb hy at_41) k) ?_
        show Go p e below _ (T172.setTop (mkF m 42 #[.val (.int p0), .val (.int p1), .val (.int p2), .val (.long q3), .second, .val (.int kk), .val (.int pt), .val (.int ch169), .val (.int px), .unset, .unset] [(.int (0 : Int32)), (.ref o172), (.ref o172)]))
        refine P172.xs (fun hA hx hy t k => XS.bipush hA hx rfl (hb hy at_42) k) ?_
        show Go p e below _ (T172.setTop (mkF m 44 #[.val (.int p0), .val (.int p1), .val (.int p2), .val (.long q3), .second, .val (.int kk), .val (.int pt), .val (.int ch169), .val (.int px), .unset, .unset] [(.int (99 : Int32)), (.int (0 : Int32)), (.ref o172), (.ref o172)]))
        refine P172.stC V172 0 (by decide) (by decide) (by decide) (Nat.le_of_ble_eq_true rfl) (x' := (99 : Int32)) (by decide) at_44 gz_o172 (Or.inr gw_o172) fun T173 h173 P173 W173 V173 => ?_
        have Va173 : Arv Z h173 o172 k172 .char (5 : Int32) [(.int (99 : Int32)), (.int (0 : Int32)), (.int (0 : Int32)), (.int (0 : Int32)), (.int (0 : Int32))] (.int (0 : Int32)) := V173
        show Go p e below _ (T173.setTop (mkF m 45 #[.val (.int p0), .val (.int p1), .val (.int p2), .val (.long q3), .second, .val (.int kk), .val (.int pt), .val (.int ch169), .val (.int px), .unset, .unset] [(.ref o172)]))
        refine P173.xs (fun hA hx hy t k => XS.dup hA hx rfl (hb hy at_45) rfl rfl k) ?_
        show Go p e below _ (T173.setTop (mkF m 46 #[.val (.int p0), .val (.int p1), .val (.int p2), .val (.long q3), .second, .val (.int kk), .val (.int pt), .val (.int ch169), .val (.int px), .unset, .unset] [(.ref o172), (.ref o172)]))
        refine P173.xs (fun hA hx hy t k => XS.iconst hA hx rfl (hb hy at_46) k) ?_
        show Go p e below _ (T173.setTop (mkF m 47 #[.val (.int p0), .val (.int p1), .val (.int p2), .val (.long q3), .second, .val (.int kk), .val (.int pt), .val (.int ch169), .val (.int px), .unset, .unset] [(.int (1 : Int32)), (.ref o172), (.ref o172)]))
        refine P173.xs (fun hA hx hy t k => XS.bipush hA hx rfl (hb hy at_47) k) ?_
        show Go p e below _ (T173.setTop (mkF m 49 #[.val (.int p0), .val (.int p1), .val (.int p2), .val (.long q3), .second, .val (.int kk), .val (.int pt), .val (.int ch169), .val (.int px), .unset, .unset] [(.int (108 : Int32)), (.int (1 : Int32)), (.ref o172), (.ref o172)]))
        refine P173.stC Va173 1 (by decide) (by decide) (by decide) (Nat.le_of_ble_eq_true rfl) (x' := (108 : Int32)) (by decide) at_49 gz_o172 (Or.inr gw_o172) fun T174 h174 P174 W174 V174 => ?_
        have Va174 : Arv Z h174 o172 k172 .char (5 : Int32) [(.int (99 : Int32)), (.int (108 : Int32)), (.int (0 : Int32)), (.int (0 : Int32)), (.int (0 : Int32))] (.int (0 : Int32)) := V174
        show Go p e below _ (T174.setTop (mkF m 50 #[.val (.int p0), .val (.int p1), .val (.int p2), .val (.long q3), .second, .val (.int kk), .val (.int pt), .val (.int ch169), .val (.int px), .unset, .unset] [(.ref o172)]))
        refine P174.xs (fun hA hx hy t k => XS.dup hA hx rfl (hb hy at_50) rfl rfl k) ?_
        show Go p e below _ (T174.setTop (mkF m 51 #[.val (.int p0), .val (.int p1), .val (.int p2), .val (.long q3), .second, .val (.int kk), .val (.int pt), .val (.int ch169), .val (.int px), .unset, .unset] [(.ref o172), (.ref o172)]))
        refine P174.xs (fun hA hx hy t k => XS.iconst hA hx rfl (hb hy at_51) k) ?_
        show Go p e below _ (T174.setTop (mkF m 52 #[.val (.int p0), .val (.int p1), .val (.int p2), .val (.long q3), .second, .val (.int kk), .val (.int pt), .val (.int ch169), .val (.int px), .unset, .unset] [(.int (2 : Int32)), (.ref o172), (.ref o172)]))
        refine P174.xs (fun hA hx hy t k => XS.bipush hA hx rfl (hb hy at_52) k) ?_
        show Go p e below _ (T174.setTop (mkF m 54 #[.val (.int p0), .val (.int p1), .val (.int p2), .val (.long q3), .second, .val (.int kk), .val (.int pt), .val (.int ch169), .val (.int px), .unset, .unset] [(.int (97 : Int32)), (.int (2 : Int32)), (.ref o172), (.ref o172)]))
        refine P174.stC Va174 2 (by decide) (by decide) (by decide) (Nat.le_of_ble_eq_true rfl) (x' := (97 : Int32)) (by decide) at_54 gz_o172 (Or.inr gw_o172) fun T175 h175 P175 W175 V175 => ?_
        have Va175 : Arv Z h175 o172 k172 .char (5 : Int32) [(.int (99 : Int32)), (.int (108 : Int32)), (.int (97 : Int32)), (.int (0 : Int32)), (.int (0 : Int32))] (.int (0 : Int32)) := V175
        show Go p e below _ (T175.setTop (mkF m 55 #[.val (.int p0), .val (.int p1), .val (.int p2), .val (.long q3), .second, .val (.int kk), .val (.int pt), .val (.int ch169), .val (.int px), .unset, .unset] [(.ref o172)]))
        refine P175.xs (fun hA hx hy t k => XS.dup hA hx rfl (hb hy at_55) rfl rfl k) ?_
        show Go p e below _ (T175.setTop (mkF m 56 #[.val (.int p0), .val (.int p1), .val (.int p2), .val (.long q3), .second, .val (.int kk), .val (.int pt), .val (.int ch169), .val (.int px), .unset, .unset] [(.ref o172), (.ref o172)]))
        refine P175.xs (fun hA hx hy t k => XS.iconst hA hx rfl (hb hy at_56) k) ?_
        show Go p e below _ (T175.setTop (mkF m 57 #[.val (.int p0), .val (.int p1), .val (.int p2), .val (.long q3), .second, .val (.int kk), .val (.int pt), .val (.int ch169), .val (.int px), .unset, .unset] [(.int (3 : Int32)), (.ref o172), (.ref o172)]))
        refine P175.xs (fun hA hx hy t k => XS.bipush hA hx rfl (hb hy at_57) k) ?_
        show Go p e below _ (T175.setTop (mkF m 59 #[.val (.int p0), .val (.int p1), .val (.int p2), .val (.long q3), .second, .val (.int kk), .val (.int pt), .val (.int ch169), .val (.int px), .unset, .unset] [(.int (115 : Int32)), (.int (3 : Int32)), (.ref o172), (.ref o172)]))
        refine P175.stC Va175 3 (by decide) (by decide) (by decide) (Nat.le_of_ble_eq_true rfl) (x' := (115 : Int32)) (by decide) at_59 gz_o172 (Or.inr gw_o172) fun T176 h176 P176 W176 V176 => ?_
        have Va176 : Arv Z h176 o172 k172 .char (5 : Int32) [(.int (99 : Int32)), (.int (108 : Int32)), (.int (97 : Int32)), (.int (115 : Int32)), (.int (0 : Int32))] (.int (0 : Int32)) := V176
        show Go p e below _ (T176.setTop (mkF m 60 #[.val (.int p0), .val (.int p1), .val (.int p2), .val (.long q3), .second, .val (.int kk), .val (.int pt), .val (.int ch169), .val (.int px), .unset, .unset] [(.ref o172)]))
        refine P176.xs (fun hA hx hy t k => XS.dup hA hx rfl (hb hy at_60) rfl rfl k) ?_
        show Go p e below _ (T176.setTop (mkF m 61 #[.val (.int p0), .val (.int p1), .val (.int p2), .val (.long q3), .second, .val (.int kk), .val (.int pt), .val (.int ch169), .val (.int px), .unset, .unset] [(.ref o172), (.ref o172)]))
        refine P176.xs (fun hA hx hy t k => XS.iconst hA hx rfl (hb hy at_61) k) ?_
        show Go p e below _ (T176.setTop (mkF m 62 #[.val (.int p0), .val (.int p1), .val (.int p2), .val (.long q3), .second, .val (.int kk), .val (.int pt), .val (.int ch169), .val (.int px), .unset, .unset] [(.int (4 : Int32)), (.ref o172), (.ref o172)]))
        refine P176.xs (fun hA hx hy t k => XS.bipush hA hx rfl (hb hy at_62) k) ?_
        show Go p e below _ (T176.setTop (mkF m 64 #[.val (.int p0), .val (.int p1), .val (.int p2), .val (.long q3), .second, .val (.int kk), .val (.int pt), .val (.int ch169), .val (.int px), .unset, .unset] [(.int (115 : Int32)), (.int (4 : Int32)), (.ref o172), (.ref o172)]))
        refine P176.stC Va176 4 (by decide) (by decide) (by decide) (Nat.le_of_ble_eq_true rfl) (x' := (115 : Int32)) (by decide) at_64 gz_o172 (Or.inr gw_o172) fun T177 h177 P177 W177 V177 => ?_
        have Va177 : Arv Z h177 o172 k172 .char (5 : Int32) [(.int (99 : Int32)), (.int (108 : Int32)), (.int (97 : Int32)), (.int (115 : Int32)), (.int (115 : Int32))] (.int (0 : Int32)) := V177
        show Go p e below _ (T177.setTop (mkF m 65 #[.val (.int p0), .val (.int p1), .val (.int p2), .val (.long q3), .second, .val (.int kk), .val (.int pt), .val (.int ch169), .val (.int px), .unset, .unset] [(.ref o172)]))
        refine P177.xs (fun hA hx hy t k => XS.astore hA hx rfl (hb hy at_65) rfl rfl (l' := #[.val (.int p0), .val (.int p1), .val (.int p2), .val (.long q3), .second, .val (.int kk), .val (.int pt), .val (.int ch169), .val (.int px), .unset, .val (.ref o172)]) rfl k) ?_
        show Go p e below _ (T177.setTop (mkF m 67 #[.val (.int p0), .val (.int p1), .val (.int p2), .val (.long q3), .second, .val (.int kk), .val (.int pt), .val (.int ch169), .val (.int px), .unset, .val (.ref o172)] []))
        refine P177.xs (fun hA hx hy t k => XS.iload hA hx rfl (hb hy at_67) rfl  k) ?_
        show Go p e below _ (T177.setTop (mkF m 69 #[.val (.int p0), .val (.int p1), .val (.int p2), .val (.long q3), .second, .val (.int kk), .val (.int pt), .val (.int ch169), .val (.int px), .unset, .val (.ref o172)] [(.int pt)]))
        by_cases hpt : pt = 0
        · refine P177.xs (fun hA hx hy t k => XS.ifYes hA hx rfl (pc0 := 69) (pc' := 81) rfl (hb hy at_69) rfl ((if0 _ _).trans (teq hpt).1) (by decide) (by decide) k) ?_
          show Go p e below _ (T177.setTop (mkF m 81 #[.val (.int p0), .val (.int p1), .val (.int p2), .val (.long q3), .second, .val (.int kk), .val (.int pt), .val (.int ch169), .val (.int px), .unset, .val (.ref o172)] []))
          refine P177.newO (hw _ (List.mem_of_getElem? (i := 2) rfl)) (hw _ (List.mem_of_getElem? (i := 3) rfl)) (hw _ (List.mem_of_getElem? (i := 4) rfl)) at_81 (by decide) (by decide) fun T178 h178 o178 g178 P178 E178 A178 D178 => ?_
          have ne_o172_o178 : o172 ≠ o178 := Nat.ne_of_lt (Nat.lt_of_lt_of_le Va177.lt (Nat.le_of_eq g178.symm))
          have gz_o178 : Z.heap.size ≤ o178 := Nat.le_trans P177.old.1 (Nat.le_of_eq g178.symm)
          have gw_o178 : h0.size ≤ o178 := Nat.le_trans P177.kept.1 (Nat.le_of_eq g178.symm)
          have F178_coder : Fld Z h178 o178 "java/lang/String" "coder" "B" (.int (0 : Int32)) := D178 (Or.inr (hw _ (List.mem_of_getElem? (i := 28) rfl))) (ty := .byte) (by decide)
          have F178_value : Fld Z h178 o178 "java/lang/String" "value" "[B" .null := D178 (Or.inr (hw _ (List.mem_of_getElem? (i := 30) rfl))) (ty := (.array .byte)) (by decide)
          show Go p e below _ (T178.setTop (mkF m 84 #[.val (.int p0), .val (.int p1), .val (.int p2), .val (.long q3), .second, .val (.int kk), .val (.int pt), .val (.int ch169), .val (.int px), .unset, .val (.ref o172)] [(.ref o178)]))
          refine P178.xs (fun hA hx hy t k => XS.dup hA hx rfl (hb hy at_84) rfl rfl k) ?_
          show Go p e below _ (T178.setTop (mkF m 85 #[.val (.int p0), .val (.int p1), .val (.int p2), .val (.long q3), .second, .val (.int kk), .val (.int pt), .val (.int ch169), .val (.int px), .unset, .val (.ref o172)] [(.ref o178), (.ref o178)]))
          refine P178.xs (fun hA hx hy t k => XS.aload hA hx rfl (hb hy at_85) rfl rfl  k) ?_
          show Go p e below _ (T178.setTop (mkF m 87 #[.val (.int p0), .val (.int p1), .val (.int p2), .val (.long q3), .second, .val (.int kk), .val (.int pt), .val (.int ch169), .val (.int px), .unset, .val (.ref o172)] [(.ref o172), (.ref o178), (.ref o178)]))
          have Ac179 : Arv Z h178 o172 k172 .char (5 : Int32) [(.int (99 : Int32)), (.int (108 : Int32)), (.int (97 : Int32)), (.int (115 : Int32)), (.int (115 : Int32))] (.int (0 : Int32)) := (Va177.ext E178)
          refine P178.specB (W := 1) (ws' := [o178]) rfl (hw _ (List.mem_of_getElem? (i := 5) rfl)) (hw _ (List.mem_of_getElem? (i := 6) rfl)) (hw _ (List.mem_of_getElem? (i := 7) rfl)) (by decide) (fun vm0 hZ => StrChars.Road.backV (W := 1) hZ (wStr hw) (kI := 4) (hw _ (List.mem_of_getElem? (i := 3) rfl)) (cs := ([(99 : Int32), (108 : Int32), (97 : Int32), (115 : Int32), (115 : Int32)] : List Int32)) (bs := ([(99 : Int32), (108 : Int32), (97 : Int32), (115 : Int32), (115 : Int32)] : List Int32).map (fun c => c.toInt8.toInt32)) (n := 5) gz_o178 P178.old.1 A178 F178_value F178_coder Ac179 (S0.ext P178.old) Pz rfl rfl (by decide) (by decide) (latS (by decide) (latS (by decide) (latS (by decide) (latS (by decide) (latS (by decide) lat0))))) rfl (by decide) (by decide)) rfl (fun v h' L q => ⟨q.2.1, q.2.2.1⟩) (by decide) (by decide) (allS ⟨(Or.inr gw_o178), gz_o178⟩ all0) (fun vm hs hal hr => safe1 (safeNull hal A178 F178_value)) pd_1 (argsL := [(.ref o172)]) rfl rfl rfl (Nat.le_of_eq rfl) at_87 fun v180 T180 h180 L180 P180 Q180 => ?_
          obtain ⟨rfl, N180, K180, E180, C180, b180, k180, gb180, gc180, gd180, V180, B180⟩ := Q180
          show Go p e below _ (T180.setTop (mkF m 90 #[.val (.int p0), .val (.int p1), .val (.int p2), .val (.long q3), .second, .val (.int kk), .val (.int pt), .val (.int ch169), .val (.int px), .unset, .val (.ref o172)] [(.ref o178)]))
          refine P180.xs (fun hA hx hy t k => XS.astore hA hx rfl (hb hy at_90) rfl rfl (l' := #[.val (.int p0), .val (.int p1), .val (.int p2), .val (.long q3), .second, .val (.int kk), .val (.int pt), .val (.int ch169), .val (.int px), .val (.ref o178), .val (.ref o172)]) rfl k) ?_
          show Go p e below _ (T180.setTop (mkF m 92 #[.val (.int p0), .val (.int p1), .val (.int p2), .val (.long q3), .second, .val (.int kk), .val (.int pt), .val (.int ch169), .val (.int px), .val (.ref o178), .val (.ref o172)] []))
          refine P180.xs (fun hA hx hy t k => XS.goto hA hx rfl (pc0 := 92) (pc' := 202) rfl (hb hy at_92) (by decide) (by decide) k) ?_
          show Go p e below _ (T180.setTop (mkF m 202 #[.val (.int p0), .val (.int p1), .val (.int p2), .val (.long q3), .second, .val (.int kk), .val (.int pt), .val (.int ch169), .val (.int px), .val (.ref o178), .val (.ref o172)] []))
          have Ac181 : Arv Z h180 o172 k172 .char (5 : Int32) [(.int (99 : Int32)), (.int (108 : Int32)), (.int (97 : Int32)), (.int (115 : Int32)), (.int (115 : Int32))] (.int (0 : Int32)) := (Ac179.keep K180 (ninS ne_o172_o178 nin0))
          refine P180.xs (fun hA hx hy t k => XS.aconstNull hA hx rfl (hb hy at_202) k) ?_
          show Go p e below _ (T180.setTop (mkF m 203 #[.val (.int p0), .val (.int p1), .val (.int p2), .val (.long q3), .second, .val (.int kk), .val (.int pt), .val (.int ch169), .val (.int px), .val (.ref o178), .val (.ref o172)] [.null]))
          refine P180.xs (fun hA hx hy t k => XS.astore hA hx rfl (hb hy at_203) rfl rfl (l' := #[.val (.int p0), .val (.int p1), .val (.int p2), .val (.long q3), .second, .val (.int kk), .val (.int pt), .val (.int ch169), .val (.int px), .val (.ref o178), .val .null]) rfl k) ?_
          show Go p e below _ (T180.setTop (mkF m 205 #[.val (.int p0), .val (.int p1), .val (.int p2), .val (.long q3), .second, .val (.int kk), .val (.int pt), .val (.int ch169), .val (.int px), .val (.ref o178), .val .null] []))
          exact tS _ _ _ _  (P180.wider (by decide) (by decide)) (strOf (n := 5) rfl (latS (by decide) (latS (by decide) (latS (by decide) (latS (by decide) (latS (by decide) lat0))))) (by decide) E180 C180 V180 B180)
        · refine P177.xs (fun hA hx hy t k => XS.ifNo hA hx rfl (hb hy at_69) rfl ((if0 _ _).trans (feq hpt).1) k) ?_
          show Go p e below _ (T177.setTop (mkF m 72 #[.val (.int p0), .val (.int p1), .val (.int p2), .val (.long q3), .second, .val (.int kk), .val (.int pt), .val (.int ch169), .val (.int px), .unset, .val (.ref o172)] []))
          refine P177.xs (fun hA hx hy t k => XS.aload hA hx rfl (hb hy at_72) rfl rfl  k) ?_
          show Go p e below _ (T177.setTop (mkF m 74 #[.val (.int p0), .val (.int p1), .val (.int p2), .val (.long q3), .second, .val (.int kk), .val (.int pt), .val (.int ch169), .val (.int px), .unset, .val (.ref o172)] [(.ref o172)]))
          refine P177.xs (fun hA hx hy t k => XS.iload hA hx rfl (hb hy at_74) rfl  k) ?_
          show Go p e below _ (T177.setTop (mkF m 76 #[.val (.int p0), .val (.int p1), .val (.int p2), .val (.long q3), .second, .val (.int kk), .val (.int pt), .val (.int ch169), .val (.int px), .unset, .val (.ref o172)] [(.int px), (.ref o172)]))
          refine P177.xs (fun hA hx hy t k => XS.iconst hA hx rfl (hb hy at_76) k) ?_
          show Go p e below _ (T177.setTop (mkF m 77 #[.val (.int p0), .val (.int p1), .val (.int p2), .val (.long q3), .second, .val (.int kk), .val (.int pt), .val (.int ch169), .val (.int px), .unset, .val (.ref o172)] [(.int (5 : Int32)), (.int px), (.ref o172)]))
          refine P177.st (fun vm0 locs X hx hy t k => Jvm.RoadKit.iremM X hx rfl (hb hy at_77) rfl (by decide) k) ?_
          show Go p e below _ (T177.setTop (mkF m 78 #[.val (.int p0), .val (.int p1), .val (.int p2), .val (.long q3), .second, .val (.int kk), .val (.int pt), .val (.int ch169), .val (.int px), .unset, .val (.ref o172)] [(.int (px % (5 : Int32))), (.ref o172)]))
          refine P177.xs (fun hA hx hy t k => XS.iload hA hx rfl (hb hy at_78) rfl  k) ?_
          show Go p e below _ (T177.setTop (mkF m 80 #[.val (.int p0), .val (.int p1), .val (.int p2), .val (.long q3), .second, .val (.int kk), .val (.int pt), .val (.int ch169), .val (.int px), .unset, .val (.ref o172)] [(.int ch169), (.int (px % (5 : Int32))), (.ref o172)]))
          have hix := rem5 hpx
          generalize hgix : (px % (5 : Int32)) = ix at hix ⊢
          rcases hix with rfl | rfl | rfl | rfl | rfl
          · show Go p e below _ (T177.setTop (mkF m 80 #[.val (.int p0), .val (.int p1), .val (.int p2), .val (.long q3), .second, .val (.int kk), .val (.int pt), .val (.int ch169), .val (.int px), .unset, .val (.ref o172)] [(.int ch169), (.int (0 : Int32)), (.ref o172)]))
            refine P177.stC Va177 0 (by decide) (by decide) (by decide) (Nat.le_of_ble_eq_true rfl) (x' := ch169) nch169 at_80 gz_o172 (Or.inr gw_o172) fun T182 h182 P182 W182 V182 => ?_
            have Va182 : Arv Z h182 o172 k172 .char (5 : Int32) [(.int ch169), (.int (108 : Int32)), (.int (97 : Int32)), (.int (115 : Int32)), (.int (115 : Int32))] (.int (0 : Int32)) := V182
            show Go p e below _ (T182.setTop (mkF m 81 #[.val (.int p0), .val (.int p1), .val (.int p2), .val (.long q3), .second, .val (.int kk), .val (.int pt), .val (.int ch169), .val (.int px), .unset, .val (.ref o172)] []))
            refine P182.newO (hw _ (List.mem_of_getElem? (i := 2) rfl)) (hw _ (List.mem_of_getElem? (i := 3) rfl)) (hw _ (List.mem_of_getElem? (i := 4) rfl)) at_81 (by decide) (by decide) fun T183 h183 o183 g183 P183 E183 A183 D183 => ?_
            have ne_o172_o183 : o172 ≠ o183 := Nat.ne_of_lt (Nat.lt_of_lt_of_le Va182.lt (Nat.le_of_eq g183.symm))
            have gz_o183 : Z.heap.size ≤ o183 := Nat.le_trans P182.old.1 (Nat.le_of_eq g183.symm)
            have gw_o183 : h0.size ≤ o183 := Nat.le_trans P182.kept.1 (Nat.le_of_eq g183.symm)
            have F183_coder : Fld Z h183 o183 "java/lang/String" "coder" "B" (.int (0 : Int32)) := D183 (Or.inr (hw _ (List.mem_of_getElem? (i := 28) rfl))) (ty := .byte) (by decide)
            have F183_value : Fld Z h183 o183 "java/lang/String" "value" "[B" .null := D183 (Or.inr (hw _ (List.mem_of_getElem? (i := 30) rfl))) (ty := (.array .byte)) (by decide)
            show Go p e below _ (T183.setTop (mkF m 84 #[.val (.int p0), .val (.int p1), .val (.int p2), .val (.long q3), .second, .val (.int kk), .val (.int pt), .val (.int ch169), .val (.int px), .unset, .val (.ref o172)] [(.ref o183)]))
            refine P183.xs (fun hA hx hy t k => XS.dup hA hx rfl (hb hy at_84) rfl rfl k) ?_
            show Go p e below _ (T183.setTop (mkF m 85 #[.val (.int p0), .val (.int p1), .val (.int p2), .val (.long q3), .second, .val (.int kk), .val (.int pt), .val (.int ch169), .val (.int px), .unset, .val (.ref o172)] [(.ref o183), (.ref o183)]))
            refine P183.xs (fun hA hx hy t k => XS.aload hA hx rfl (hb hy at_85) rfl rfl  k) ?_
            show Go p e below _ (T183.setTop (mkF m 87 #[.val (.int p0), .val (.int p1), .val (.int p2), .val (.long q3), .second, .val (.int kk), .val (.int pt), .val (.int ch169), .val (.int px), .unset, .val (.ref o172)] [(.ref o172), (.ref o183), (.ref o183)]))
            have Ac184 : Arv Z h183 o172 k172 .char (5 : Int32) [(.int ch169), (.int (108 : Int32)), (.int (97 : Int32)), (.int (115 : Int32)), (.int (115 : Int32))] (.int (0 : Int32)) := (Va182.ext E183)
            refine P183.specB (W := 1) (ws' := [o183]) rfl (hw _ (List.mem_of_getElem? (i := 5) rfl)) (hw _ (List.mem_of_getElem? (i := 6) rfl)) (hw _ (List.mem_of_getElem? (i := 7) rfl)) (by decide) (fun vm0 hZ => StrChars.Road.backV (W := 1) hZ (wStr hw) (kI := 4) (hw _ (List.mem_of_getElem? (i := 3) rfl)) (cs := ([ch169, (108 : Int32), (97 : Int32), (115 : Int32), (115 : Int32)] : List Int32)) (bs := ([ch169, (108 : Int32), (97 : Int32), (115 : Int32), (115 : Int32)] : List Int32).map (fun c => c.toInt8.toInt32)) (n := 5) gz_o183 P183.old.1 A183 F183_value F183_coder Ac184 (S0.ext P183.old) Pz rfl rfl (by decide) (by decide) (latS lch169 (latS (by decide) (latS (by decide) (latS (by decide) (latS (by decide) lat0))))) rfl (by decide) (by decide)) rfl (fun v h' L q => ⟨q.2.1, q.2.2.1⟩) (by decide) (by decide) (allS ⟨(Or.inr gw_o183), gz_o183⟩ all0) (fun vm hs hal hr => safe1 (safeNull hal A183 F183_value)) pd_1 (argsL := [(.ref o172)]) rfl rfl rfl (Nat.le_of_eq rfl) at_87 fun v185 T185 h185 L185 P185 Q185 => ?_
            obtain ⟨rfl, N185, K185, E185, C185, b185, k185, gb185, gc185, gd185, V185, B185⟩ := Q185
            show Go p e below _ (T185.setTop (mkF m 90 #[.val (.int p0), .val (.int p1), .val (.int p2), .val (.long q3), .second, .val (.int kk), .val (.int pt), .val (.int ch169), .val (.int px), .unset, .val (.ref o172)] [(.ref o183)]))
            refine P185.xs (fun hA hx hy t k => XS.astore hA hx rfl (hb hy at_90) rfl rfl (l' := #[.val (.int p0), .val (.int p1), .val (.int p2), .val (.long q3), .second, .val (.int kk), .val (.int pt), .val (.int ch169), .val (.int px), .val (.ref o183), .val (.ref o172)]) rfl k) ?_
            show Go p e below _ (T185.setTop (mkF m 92 #[.val (.int p0), .val (.int p1), .val (.int p2), .val (.long q3), .second, .val (.int kk), .val (.int pt), .val (.int ch169), .val (.int px), .val (.ref o183), .val (.ref o172)] []))
            refine P185.xs (fun hA hx hy t k => XS.goto hA hx rfl (pc0 := 92) (pc' := 202) rfl (hb hy at_92) (by decide) (by decide) k) ?_
            show Go p e below _ (T185.setTop (mkF m 202 #[.val (.int p0), .val (.int p1), .val (.int p2), .val (.long q3), .second, .val (.int kk), .val (.int pt), .val (.int ch169), .val (.int px), .val (.ref o183), .val (.ref o172)] []))
            have Ac186 : Arv Z h185 o172 k172 .char (5 : Int32) [(.int ch169), (.int (108 : Int32)), (.int (97 : Int32)), (.int (115 : Int32)), (.int (115 : Int32))] (.int (0 : Int32)) := (Ac184.keep K185 (ninS ne_o172_o183 nin0))
            refine P185.xs (fun hA hx hy t k => XS.aconstNull hA hx rfl (hb hy at_202) k) ?_
            show Go p e below _ (T185.setTop (mkF m 203 #[.val (.int p0), .val (.int p1), .val (.int p2), .val (.long q3), .second, .val (.int kk), .val (.int pt), .val (.int ch169), .val (.int px), .val (.ref o183), .val (.ref o172)] [.null]))
            refine P185.xs (fun hA hx hy t k => XS.astore hA hx rfl (hb hy at_203) rfl rfl (l' := #[.val (.int p0), .val (.int p1), .val (.int p2), .val (.long q3), .second, .val (.int kk), .val (.int pt), .val (.int ch169), .val (.int px), .val (.ref o183), .val .null]) rfl k) ?_
            show Go p e below _ (T185.setTop (mkF m 205 #[.val (.int p0), .val (.int p1), .val (.int p2), .val (.long q3), .second, .val (.int kk), .val (.int pt), .val (.int ch169), .val (.int px), .val (.ref o183), .val .null] []))
            exact tS _ _ _ _  (P185.wider (by decide) (by decide)) (strOf (n := 5) rfl (latS lch169 (latS (by decide) (latS (by decide) (latS (by decide) (latS (by decide) lat0))))) (by decide) E185 C185 V185 B185)
          · show Go p e below _ (T177.setTop (mkF m 80 #[.val (.int p0), .val (.int p1), .val (.int p2), .val (.long q3), .second, .val (.int kk), .val (.int pt), .val (.int ch169), .val (.int px), .unset, .val (.ref o172)] [(.int ch169), (.int (1 : Int32)), (.ref o172)]))
            refine P177.stC Va177 1 (by decide) (by decide) (by decide) (Nat.le_of_ble_eq_true rfl) (x' := ch169) nch169 at_80 gz_o172 (Or.inr gw_o172) fun T187 h187 P187 W187 V187 => ?_
            have Va187 : Arv Z h187 o172 k172 .char (5 : Int32) [(.int (99 : Int32)), (.int ch169), (.int (97 : Int32)), (.int (115 : Int32)), (.int (115 : Int32))] (.int (0 : Int32)) := V187
            show Go p e below _ (T187.setTop (mkF m 81 #[.val (.int p0), .val (.int p1), .val (.int p2), .val (.long q3), .second, .val (.int kk), .val (.int pt), .val (.int ch169), .val (.int px), .unset, .val (.ref o172)] []))
            refine P187.newO (hw _ (List.mem_of_getElem? (i := 2) rfl)) (hw _ (List.mem_of_getElem? (i := 3) rfl)) (hw _ (List.mem_of_getElem? (i := 4) rfl)) at_81 (by decide) (by decide) fun T188 h188 o188 g188 P188 E188 A188 D188 => ?_
            have ne_o172_o188 : o172 ≠ o188 := Nat.ne_of_lt (Nat.lt_of_lt_of_le Va187.lt (Nat.le_of_eq g188.symm))
            have gz_o188 : Z.heap.size ≤ o188 := Nat.le_trans P187.old.1 (Nat.le_of_eq g188.symm)
            have gw_o188 : h0.size ≤ o188 := Nat.le_trans P187.kept.1 (Nat.le_of_eq g188.symm)
            have F188_coder : Fld Z h188 o188 "java/lang/String" "coder" "B" (.int (0 : Int32)) := D188 (Or.inr (hw _ (List.mem_of_getElem? (i := 28) rfl))) (ty := .byte) (by decide)
            have F188_value : Fld Z h188 o188 "java/lang/String" "value" "[B" .null := D188 (Or.inr (hw _ (List.mem_of_getElem? (i := 30) rfl))) (ty := (.array .byte)) (by decide)
            show Go p e below _ (T188.setTop (mkF m 84 #[.val (.int p0), .val (.int p1), .val (.int p2), .val (.long q3), .second, .val (.int kk), .val (.int pt), .val (.int ch169), .val (.int px), .unset, .val (.ref o172)] [(.ref o188)]))
            refine P188.xs (fun hA hx hy t k => XS.dup hA hx rfl (hb hy at_84) rfl rfl k) ?_
            show Go p e below _ (T188.setTop (mkF m 85 #[.val (.int p0), .val (.int p1), .val (.int p2), .val (.long q3), .second, .val (.int kk), .val (.int pt), .val (.int ch169), .val (.int px), .unset, .val (.ref o172)] [(.ref o188), (.ref o188)]))
            refine P188.xs (fun hA hx hy t k => XS.aload hA hx rfl (hb hy at_85) rfl rfl  k) ?_
            show Go p e below _ (T188.setTop (mkF m 87 #[.val (.int p0), .val (.int p1), .val (.int p2), .val (.long q3), .second, .val (.int kk), .val (.int pt), .val (.int ch169), .val (.int px), .unset, .val (.ref o172)] [(.ref o172), (.ref o188), (.ref o188)]))
            have Ac189 : Arv Z h188 o172 k172 .char (5 : Int32) [(.int (99 : Int32)), (.int ch169), (.int (97 : Int32)), (.int (115 : Int32)), (.int (115 : Int32))] (.int (0 : Int32)) := (Va187.ext E188)
            refine P188.specB (W := 1) (ws' := [o188]) rfl (hw _ (List.mem_of_getElem? (i := 5) rfl)) (hw _ (List.mem_of_getElem? (i := 6) rfl)) (hw _ (List.mem_of_getElem? (i := 7) rfl)) (by decide) (fun vm0 hZ => StrChars.Road.backV (W := 1) hZ (wStr hw) (kI := 4) (hw _ (List.mem_of_getElem? (i := 3) rfl)) (cs := ([(99 : Int32), ch169, (97 : Int32), (115 : Int32), (115 : Int32)] : List Int32)) (bs := ([(99 : Int32), ch169, (97 : Int32), (115 : Int32), (115 : Int32)] : List Int32).map (fun c => c.toInt8.toInt32)) (n := 5) gz_o188 P188.old.1 A188 F188_value F188_coder Ac189 (S0.ext P188.old) Pz rfl rfl (by decide) (by decide) (latS (by decide) (latS lch169 (latS (by decide) (latS (by decide) (latS (by decide) lat0))))) rfl (by decide) (by decide)) rfl (fun v h' L q => ⟨q.2.1, q.2.2.1⟩) (by decide) (by decide) (allS ⟨(Or.inr gw_o188), gz_o188⟩ all0) (fun vm hs hal hr => safe1 (safeNull hal A188 F188_value)) pd_1 (argsL := [(.ref o172)]) rfl rfl rfl (Nat.le_of_eq rfl) at_87 fun v190 T190 h190 L190 P190 Q190 => ?_
            obtain ⟨rfl, N190, K190, E190, C190, b190, k190, gb190, gc190, gd190, V190, B190⟩ := Q190
            show Go p e below _ (T190.setTop (mkF m 90 #[.val (.int p0), .val (.int p1), .val (.int p2), .val (.long q3), .second, .val (.int kk), .val (.int pt), .val (.int ch169), .val (.int px), .unset, .val (.ref o172)] [(.ref o188)]))
            refine P190.xs (fun hA hx hy t k => XS.astore hA hx rfl (hb hy at_90) rfl rfl (l' := #[.val (.int p0), .val (.int p1), .val (.int p2), .val (.long q3), .second, .val (.int kk), .val (.int pt), .val (.int ch169), .val (.int px), .val (.ref o188), .val (.ref o172)]) rfl k) ?_
            show Go p e below _ (T190.setTop (mkF m 92 #[.val (.int p0), .val (.int p1), .val (.int p2), .val (.long q3), .second, .val (.int kk), .val (.int pt), .val (.int ch169), .val (.int px), .val (.ref o188), .val (.ref o172)] []))
            refine P190.xs (fun hA hx hy t k => XS.goto hA hx rfl (pc0 := 92) (pc' := 202) rfl (hb hy at_92) (by decide) (by decide) k) ?_
            show Go p e below _ (T190.setTop (mkF m 202 #[.val (.int p0), .val (.int p1), .val (.int p2), .val (.long q3), .second, .val (.int kk), .val (.int pt), .val (.int ch169), .val (.int px), .val (.ref o188), .val (.ref o172)] []))
            have Ac191 : Arv Z h190 o172 k172 .char (5 : Int32) [(.int (99 : Int32)), (.int ch169), (.int (97 : Int32)), (.int (115 : Int32)), (.int (115 : Int32))] (.int (0 : Int32)) := (Ac189.keep K190 (ninS ne_o172_o188 nin0))
            refine P190.xs (fun hA hx hy t k => XS.aconstNull hA hx rfl (hb hy at_202) k) ?_
            show Go p e below _ (T190.setTop (mkF m 203 #[.val (.int p0), .val (.int p1), .val (.int p2), .val (.long q3), .second, .val (.int kk), .val (.int pt), .val (.int ch169), .val (.int px), .val (.ref o188), .val (.ref o172)] [.null]))
            refine P190.xs (fun hA hx hy t k => XS.astore hA hx rfl (hb hy at_203) rfl rfl (l' := #[.val (.int p0), .val (.int p1), .val (.int p2), .val (.long q3), .second, .val (.int kk), .val (.int pt), .val (.int ch169), .val (.int px), .val (.ref o188), .val .null]) rfl k) ?_
            show Go p e below _ (T190.setTop (mkF m 205 #[.val (.int p0), .val (.int p1), .val (.int p2), .val (.long q3), .second, .val (.int kk), .val (.int pt), .val (.int ch169), .val (.int px), .val (.ref o188), .val .null] []))
            exact tS _ _ _ _  (P190.wider (by decide) (by decide)) (strOf (n := 5) rfl (latS (by decide) (latS lch169 (latS (by decide) (latS (by decide) (latS (by decide) lat0))))) (by decide) E190 C190 V190 B190)
          · show Go p e below _ (T177.setTop (mkF m 80 #[.val (.int p0), .val (.int p1), .val (.int p2), .val (.long q3), .second, .val (.int kk), .val (.int pt), .val (.int ch169), .val (.int px), .unset, .val (.ref o172)] [(.int ch169), (.int (2 : Int32)), (.ref o172)]))
            refine P177.stC Va177 2 (by decide) (by decide) (by decide) (Nat.le_of_ble_eq_true rfl) (x' := ch169) nch169 at_80 gz_o172 (Or.inr gw_o172) fun T192 h192 P192 W192 V192 => ?_
            have Va192 : Arv Z h192 o172 k172 .char (5 : Int32) [(.int (99 : Int32)), (.int (108 : Int32)), (.int ch169), (.int (115 : Int32)), (.int (115 : Int32))] (.int (0 : Int32)) := V192
            show Go p e below _ (T192.setTop (mkF m 81 #[.val (.int p0), .val (.int p1), .val (.int p2), .val (.long q3), .second, .val (.int kk), .val (.int pt), .val (.int ch169), .val (.int px), .unset, .val (.ref o172)] []))
            refine P192.newO (hw _ (List.mem_of_getElem? (i := 2) rfl)) (hw _ (List.mem_of_getElem? (i := 3) rfl)) (hw _ (List.mem_of_getElem? (i := 4) rfl)) at_81 (by decide) (by decide) fun T193 h193 o193 g193 P193 E193 A193 D193 => ?_
            have ne_o172_o193 : o172 ≠ o193 := Nat.ne_of_lt (Nat.lt_of_lt_of_le Va192.lt (Nat.le_of_eq g193.symm))
            have gz_o193 : Z.heap.size ≤ o193 := Nat.le_trans P192.old.1 (Nat.le_of_eq g193.symm)
            have gw_o193 : h0.size ≤ o193 := Nat.le_trans P192.kept.1 (Nat.le_of_eq g193.symm)
            have F193_coder : Fld Z h193 o193 "java/lang/String" "coder" "B" (.int (0 : Int32)) := D193 (Or.inr (hw _ (List.mem_of_getElem? (i := 28) rfl))) (ty := .byte) (by decide)
            have F193_value : Fld Z h193 o193 "java/lang/String" "value" "[B" .null := D193 (Or.inr (hw _ (List.mem_of_getElem? (i := 30) rfl))) (ty := (.array .byte)) (by decide)
            show Go p e below _ (T193.setTop (mkF m 84 #[.val (.int p0), .val (.int p1), .val (.int p2), .val (.long q3), .second, .val (.int kk), .val (.int pt), .val (.int ch169), .val (.int px), .unset, .val (.ref o172)] [(.ref o193)]))
            refine P193.xs (fun hA hx hy t k => XS.dup hA hx rfl (hb hy at_84) rfl rfl k) ?_
            show Go p e below _ (T193.setTop (mkF m 85 #[.val (.int p0), .val (.int p1), .val (.int p2), .val (.long q3), .second, .val (.int kk), .val (.int pt), .val (.int ch169), .val (.int px), .unset, .val (.ref o172)] [(.ref o193), (.ref o193)]))
            refine P193.xs (fun hA hx hy t k => XS.aload hA hx rfl (hb hy at_85) rfl rfl  k) ?_
            show Go p e below _ (T193.setTop (mkF m 87 #[.val (.int p0), .val (.int p1), .val (.int p2), .val (.long q3), .second, .val (.int kk), .val (.int pt), .val (.int ch169), .val (.int px), .unset, .val (.ref o172)] [(.ref o172), (.ref o193), (.ref o193)]))
            have Ac194 : Arv Z h193 o172 k172 .char (5 : Int32) [(.int (99 : Int32)), (.int (108 : Int32)), (.int ch169), (.int (115 : Int32)), (.int (115 : Int32))] (.int (0 : Int32)) := (Va192.ext E193)
            refine P193.specB (W := 1) (ws' := [o193]) rfl (hw _ (List.mem_of_getElem? (i := 5) rfl)) (hw _ (List.mem_of_getElem? (i := 6) rfl)) (hw _ (List.mem_of_getElem? (i := 7) rfl)) (by decide) (fun vm0 hZ => StrChars.Road.backV (W := 1) hZ (wStr hw) (kI := 4) (hw _ (List.mem_of_getElem? (i := 3) rfl)) (cs := ([(99 : Int32), (108 : Int32), ch169, (115 : Int32), (115 : Int32)] : List Int32)) (bs := ([(99 : Int32), (108 : Int32), ch169, (115 : Int32), (115 : Int32)] : List Int32).map (fun c => c.toInt8.toInt32)) (n := 5) gz_o193 P193.old.1 A193 F193_value F193_coder Ac194 (S0.ext P193.old) Pz rfl rfl (by decide) (by decide) (latS (by decide) (latS (by decide) (latS lch169 (latS (by decide) (latS (by decide) lat0))))) rfl (by decide) (by decide)) rfl (fun v h' L q => ⟨q.2.1, q.2.2.1⟩) (by decide) (by decide) (allS ⟨(Or.inr gw_o193), gz_o193⟩ all0) (fun vm hs hal hr => safe1 (safeNull hal A193 F193_value)) pd_1 (argsL := [(.ref o172)]) rfl rfl rfl (Nat.le_of_eq rfl) at_87 fun v195 T195 h195 L195 P195 Q195 => ?_
            obtain ⟨rfl, N195, K195, E195, C195, b195, k195, gb195, gc195, gd195, V195, B195⟩ := Q195
            show Go p e below _ (T195.setTop (mkF m 90 #[.val (.int p0), .val (.int p1), .val (.int p2), .val (.long q3), .second, .val (.int kk), .val (.int pt), .val (.int ch169), .val (.int px), .unset, .val (.ref o172)] [(.ref o193)]))
            refine P195.xs (fun hA hx hy t k => XS.astore hA hx rfl (hb hy at_90) rfl rfl (l' := #[.val (.int p0), .val (.int p1), .val (.int p2), .val (.long q3), .second, .val (.int kk), .val (.int pt), .val (.int ch169), .val (.int px), .val (.ref o193), .val (.ref o172)]) rfl k) ?_
            show Go p e below _ (T195.setTop (mkF m 92 #[.val (.int p0), .val (.int p1), .val (.int p2), .val (.long q3), .second, .val (.int kk), .val (.int pt), .val (.int ch169), .val (.int px), .val (.ref o193), .val (.ref o172)] []))
            refine P195.xs (fun hA hx hy t k => XS.goto hA hx rfl (pc0 := 92) (pc' := 202) rfl (hb hy at_92) (by decide) (by decide) k) ?_
            show Go p e below _ (T195.setTop (mkF m 202 #[.val (.int p0), .val (.int p1), .val (.int p2), .val (.long q3), .second, .val (.int kk), .val (.int pt), .val (.int ch169), .val (.int px), .val (.ref o193), .val (.ref o172)] []))
            have Ac196 : Arv Z h195 o172 k172 .char (5 : Int32) [(.int (99 : Int32)), (.int (108 : Int32)), (.int ch169), (.int (115 : Int32)), (.int (115 : Int32))] (.int (0 : Int32)) := (Ac194.keep K195 (ninS ne_o172_o193 nin0))
            refine P195.xs (fun hA hx hy t k => XS.aconstNull hA hx rfl (hb hy at_202) k) ?_
            show Go p e below _ (T195.setTop (mkF m 203 #[.val (.int p0), .val (.int p1), .val (.int p2), .val (.long q3), .second, .val (.int kk), .val (.int pt), .val (.int ch169), .val (.int px), .val (.ref o193), .val (.ref o172)] [.null]))
            refine P195.xs (fun hA hx hy t k => XS.astore hA hx rfl (hb hy at_203) rfl rfl (l' := #[.val (.int p0), .val (.int p1), .val (.int p2), .val (.long q3), .second, .val (.int kk), .val (.int pt), .val (.int ch169), .val (.int px), .val (.ref o193), .val .null]) rfl k) ?_
            show Go p e below _ (T195.setTop (mkF m 205 #[.val (.int p0), .val (.int p1), .val (.int p2), .val (.long q3), .second, .val (.int kk), .val (.int pt), .val (.int ch169), .val (.int px), .val (.ref o193), .val .null] []))
            exact tS _ _ _ _  (P195.wider (by decide) (by decide)) (strOf (n := 5) rfl (latS (by decide) (latS (by decide) (latS lch169 (latS (by decide) (latS (by decide) lat0))))) (by decide) E195 C195 V195 B195)
          · show Go p e below _ (T177.setTop (mkF m 80 #[.val (.int p0), .val (.int p1), .val (.int p2), .val (.long q3), .second, .val (.int kk), .val (.int pt), .val (.int ch169), .val (.int px), .unset, .val (.ref o172)] [(.int ch169), (.int (3 : Int32)), (.ref o172)]))
            refine P177.stC Va177 3 (by decide) (by decide) (by decide) (Nat.le_of_ble_eq_true rfl) (x' := ch169) nch169 at_80 gz_o172 (Or.inr gw_o172) fun T197 h197 P197 W197 V197 => ?_
            have Va197 : Arv Z h197 o172 k172 .char (5 : Int32) [(.int (99 : Int32)), (.int (108 : Int32)), (.int (97 : Int32)), (.int ch169), (.int (115 : Int32))] (.int (0 : Int32)) := V197
            show Go p e below _ (T197.setTop (mkF m 81 #[.val (.int p0), .val (.int p1), .val (.int p2), .val (.long q3), .second, .val (.int kk), .val (.int pt), .val (.int ch169), .val (.int px), .unset, .val (.ref o172)] []))
            refine P197.newO (hw _ (List.mem_of_getElem? (i := 2) rfl)) (hw _ (List.mem_of_getElem? (i := 3) rfl)) (hw _ (List.mem_of_getElem? (i := 4) rfl)) at_81 (by decide) (by decide) fun T198 h198 o198 g198 P198 E198 A198 D198 => ?_
            have ne_o172_o198 : o172 ≠ o198 := Nat.ne_of_lt (Nat.lt_of_lt_of_le Va197.lt (Nat.le_of_eq g198.symm))
            have gz_o198 : Z.heap.size ≤ o198 := Nat.le_trans P197.old.1 (Nat.le_of_eq g198.symm)
            have gw_o198 : h0.size ≤ o198 := Nat.le_trans P197.kept.1 (Nat.le_of_eq g198.symm)
            have F198_coder : Fld Z h198 o198 "java/lang/String" "coder" "B" (.int (0 : Int32)) := D198 (Or.inr (hw _ (List.mem_of_getElem? (i := 28) rfl))) (ty := .byte) (by decide)
            have F198_value : Fld Z h198 o198 "java/lang/String" "value" "[B" .null := D198 (Or.inr (hw _ (List.mem_of_getElem? (i := 30) rfl))) (ty := (.array .byte)) (by decide)
            show Go p e below _ (T198.setTop (mkF m 84 #[.val (.int p0), .val (.int p1), .val (.int p2), .val (.long q3), .second, .val (.int kk), .val (.int pt), .val (.int ch169), .val (.int px), .unset, .val (.ref o172)] [(.ref o198)]))
            refine P198.xs (fun hA hx hy t k => XS.dup hA hx rfl (hb hy at_84) rfl rfl k) ?_
            show Go p e below _ (T198.setTop (mkF m 85 #[.val (.int p0), .val (.int p1), .val (.int p2), .val (.long q3), .second, .val (.int kk), .val (.int pt), .val (.int ch169), .val (.int px), .unset, .val (.ref o172)] [(.ref o198), (.ref o198)]))
            refine P198.xs (fun hA hx hy t k => XS.aload hA hx rfl (hb hy at_85) rfl rfl  k) ?_
            show Go p e below _ (T198.setTop (mkF m 87 #[.val (.int p0), .val (.int p1), .val (.int p2), .val (.long q3), .second, .val (.int kk), .val (.int pt), .val (.int ch169), .val (.int px), .unset, .val (.ref o172)] [(.ref o172), (.ref o198), (.ref o198)]))
            have Ac199 : Arv Z h198 o172 k172 .char (5 : Int32) [(.int (99 : Int32)), (.int (108 : Int32)), (.int (97 : Int32)), (.int ch169), (.int (115 : Int32))] (.int (0 : Int32)) := (Va197.ext E198)
            refine P198.specB (W := 1) (ws' := [o198]) rfl (hw _ (List.mem_of_getElem? (i := 5) rfl)) (hw _ (List.mem_of_getElem? (i := 6) rfl)) (hw _ (List.mem_of_getElem? (i := 7) rfl)) (by decide) (fun vm0 hZ => StrChars.Road.backV (W := 1) hZ (wStr hw) (kI := 4) (hw _ (List.mem_of_getElem? (i := 3) rfl)) (cs := ([(99 : Int32), (108 : Int32), (97 : Int32), ch169, (115 : Int32)] : List Int32)) (bs := ([(99 : Int32), (108 : Int32), (97 : Int32), ch169, (115 : Int32)] : List Int32).map (fun c => c.toInt8.toInt32)) (n := 5) gz_o198 P198.old.1 A198 F198_value F198_coder Ac199 (S0.ext P198.old) Pz rfl rfl (by decide) (by decide) (latS (by decide) (latS (by decide) (latS (by decide) (latS lch169 (latS (by decide) lat0))))) rfl (by decide) (by decide)) rfl (fun v h' L q => ⟨q.2.1, q.2.2.1⟩) (by decide) (by decide) (allS ⟨(Or.inr gw_o198), gz_o198⟩ all0) (fun vm hs hal hr => safe1 (safeNull hal A198 F198_value)) pd_1 (argsL := [(.ref o172)]) rfl rfl rfl (Nat.le_of_eq rfl) at_87 fun v200 T200 h200 L200 P200 Q200 => ?_
            obtain ⟨rfl, N200, K200, E200, C200, b200, k200, gb200, gc200, gd200, V200, B200⟩ := Q200
            show Go p e below _ (T200.setTop (mkF m 90 #[.val (.int p0), .val (.int p1), .val (.int p2), .val (.long q3), .second, .val (.int kk), .val (.int pt), .val (.int ch169), .val (.int px), .unset, .val (.ref o172)] [(.ref o198)]))
            refine P200.xs (fun hA hx hy t k => XS.astore hA hx rfl (hb hy at_90) rfl rfl (l' := #[.val (.int p0), .val (.int p1), .val (.int p2), .val (.long q3), .second, .val (.int kk), .val (.int pt), .val (.int ch169), .val (.int px), .val (.ref o198), .val (.ref o172)]) rfl k) ?_
            show Go p e below _ (T200.setTop (mkF m 92 #[.val (.int p0), .val (.int p1), .val (.int p2), .val (.long q3), .second, .val (.int kk), .val (.int pt), .val (.int ch169), .val (.int px), .val (.ref o198), .val (.ref o172)] []))
            refine P200.xs (fun hA hx hy t k => XS.goto hA hx rfl (pc0 := 92) (pc' := 202) rfl (hb hy at_92) (by decide) (by decide) k) ?_
            show Go p e below _ (T200.setTop (mkF m 202 #[.val (.int p0), .val (.int p1), .val (.int p2), .val (.long q3), .second, .val (.int kk), .val (.int pt), .val (.int ch169), .val (.int px), .val (.ref o198), .val (.ref o172)] []))
            have Ac201 : Arv Z h200 o172 k172 .char (5 : Int32) [(.int (99 : Int32)), (.int (108 : Int32)), (.int (97 : Int32)), (.int ch169), (.int (115 : Int32))] (.int (0 : Int32)) := (Ac199.keep K200 (ninS ne_o172_o198 nin0))
            refine P200.xs (fun hA hx hy t k => XS.aconstNull hA hx rfl (hb hy at_202) k) ?_
            show Go p e below _ (T200.setTop (mkF m 203 #[.val (.int p0), .val (.int p1), .val (.int p2), .val (.long q3), .second, .val (.int kk), .val (.int pt), .val (.int ch169), .val (.int px), .val (.ref o198), .val (.ref o172)] [.null]))
            refine P200.xs (fun hA hx hy t k => XS.astore hA hx rfl (hb hy at_203) rfl rfl (l' := #[.val (.int p0), .val (.int p1), .val (.int p2), .val (.long q3), .second, .val (.int kk), .val (.int pt), .val (.int ch169), .val (.int px), .val (.ref o198), .val .null]) rfl k) ?_
            show Go p e below _ (T200.setTop (mkF m 205 #[.val (.int p0), .val (.int p1), .val (.int p2), .val (.long q3), .second, .val (.int kk), .val (.int pt), .val (.int ch169), .val (.int px), .val (.ref o198), .val .null] []))
            exact tS _ _ _ _  (P200.wider (by decide) (by decide)) (strOf (n := 5) rfl (latS (by decide) (latS (by decide) (latS (by decide) (latS lch169 (latS (by decide) lat0))))) (by decide) E200 C200 V200 B200)
          · show Go p e below _ (T177.setTop (mkF m 80 #[.val (.int p0), .val (.int p1), .val (.int p2), .val (.long q3), .second, .val (.int kk), .val (.int pt), .val (.int ch169), .val (.int px), .unset, .val (.ref o172)] [(.int ch169), (.int (4 : Int32)), (.ref o172)]))
            refine P177.stC Va177 4 (by decide) (by decide) (by decide) (Nat.le_of_ble_eq_true rfl) (x' := ch169) nch169 at_80 gz_o172 (Or.inr gw_o172) fun T202 h202 P202 W202 V202 => ?_
            have Va202 : Arv Z h202 o172 k172 .char (5 : Int32) [(.int (99 : Int32)), (.int (108 : Int32)), (.int (97 : Int32)), (.int (115 : Int32)), (.int ch169)] (.int (0 : Int32)) := V202
            show Go p e below _ (T202.setTop (mkF m 81 #[.val (.int p0), .val (.int p1), .val (.int p2), .val (.long q3), .second, .val (.int kk), .val (.int pt), .val (.int ch169), .val (.int px), .unset, .val (.ref o172)] []))
            refine P202.newO (hw _ (List.mem_of_getElem? (i := 2) rfl)) (hw _ (List.mem_of_getElem? (i := 3) rfl)) (hw _ (List.mem_of_getElem? (i := 4) rfl)) at_81 (by decide) (by decide) fun T203 h203 o203 g203 P203 E203 A203 D203 => ?_
            have ne_o172_o203 : o172 ≠ o203 := Nat.ne_of_lt (Nat.lt_of_lt_of_le Va202.lt (Nat.le_of_eq g203.symm))
            have gz_o203 : Z.heap.size ≤ o203 := Nat.le_trans P202.old.1 (Nat.le_of_eq g203.symm)
            have gw_o203 : h0.size ≤ o203 := Nat.le_trans P202.kept.1 (Nat.le_of_eq g203.symm)
            have F203_coder : Fld Z h203 o203 "java/lang/String" "coder" "B" (.int (0 : Int32)) := D203 (Or.inr (hw _ (List.mem_of_getElem? (i := 28) rfl))) (ty := .byte) (by decide)
            have F203_value : Fld Z h203 o203 "java/lang/String" "value" "[B" .null := D203 (Or.inr (hw _ (List.mem_of_getElem? (i := 30) rfl))) (ty := (.array .byte)) (by decide)
            show Go p e below _ (T203.setTop (mkF m 84 #[.val (.int p0), .val (.int p1), .val (.int p2), .val (.long q3), .second, .val (.int kk), .val (.int pt), .val (.int ch169), .val (.int px), .unset, .val (.ref o172)] [(.ref o203)]))
            refine P203.xs (fun hA hx hy t k => XS.dup hA hx rfl (hb hy at_84) rfl rfl k) ?_
            show Go p e below _ (T203.setTop (mkF m 85 #[.val (.int p0), .val (.int p1), .val (.int p2), .val (.long q3), .second, .val (.int kk), .val (.int pt), .val (.int ch169), .val (.int px), .unset, .val (.ref o172)] [(.ref o203), (.ref o203)]))
            refine P203.xs (fun hA hx hy t k => XS.aload hA hx rfl (hb hy at_85) rfl rfl  k) ?_
            show Go p e below _ (T203.setTop (mkF m 87 #[.val (.int p0), .val (.int p1), .val (.int p2), .val (.long q3), .second, .val (.int kk), .val (.int pt), .val (.int ch169), .val (.int px), .unset, .val (.ref o172)] [(.ref o172), (.ref o203), (.ref o203)]))
            have Ac204 : Arv Z h203 o172 k172 .char (5 : Int32) [(.int (99 : Int32)), (.int (108 : Int32)), (.int (97 : Int32)), (.int (115 : Int32)), (.int ch169)] (.int (0 : Int32)) := (Va202.ext E203)
            refine P203.specB (W := 1) (ws' := [o203]) rfl (hw _ (List.mem_of_getElem? (i := 5) rfl)) (hw _ (List.mem_of_getElem? (i := 6) rfl)) (hw _ (List.mem_of_getElem? (i := 7) rfl)) (by decide) (fun vm0 hZ => StrChars.Road.backV (W := 1) hZ (wStr hw) (kI := 4) (hw _ (List.mem_of_getElem? (i := 3) rfl)) (cs := ([(99 : Int32), (108 : Int32), (97 : Int32), (115 : Int32), ch169] : List Int32)) (bs := ([(99 : Int32), (108 : Int32), (97 : Int32), (115 : Int32), ch169] : List Int32).map (fun c => c.toInt8.toInt32)) (n := 5) gz_o203 P203.old.1 A203 F203_value F203_coder Ac204 (S0.ext P203.old) Pz rfl rfl (by decide) (by decide) (latS (by decide) (latS (by decide) (latS (by decide) (latS (by decide) (latS lch169 lat0))))) rfl (by decide) (by decide)) rfl (fun v h' L q => ⟨q.2.1, q.2.2.1⟩) (by decide) (by decide) (allS ⟨(Or.inr gw_o203), gz_o203⟩ all0) (fun vm hs hal hr => safe1 (safeNull hal A203 F203_value)) pd_1 (argsL := [(.ref o172)]) rfl rfl rfl (Nat.le_of_eq rfl) at_87 fun v205 T205 h205 L205 P205 Q205 => ?_
            obtain ⟨rfl, N205, K205, E205, C205, b205, k205, gb205, gc205, gd205, V205, B205⟩ := Q205
            show Go p e below _ (T205.setTop (mkF m 90 #[.val (.int p0), .val (.int p1), .val (.int p2), .val (.long q3), .second, .val (.int kk), .val (.int pt), .val (.int ch169), .val (.int px), .unset, .val (.ref o172)] [(.ref o203)]))
            refine P205.xs (fun hA hx hy t k => XS.astore hA hx rfl (hb hy at_90) rfl rfl (l' := #[.val (.int p0), .val (.int p1), .val (.int p2), .val (.long q3), .second, .val (.int kk), .val (.int pt), .val (.int ch169), .val (.int px), .val (.ref o203), .val (.ref o172)]) rfl k) ?_
            show Go p e below _ (T205.setTop (mkF m 92 #[.val (.int p0), .val (.int p1), .val (.int p2), .val (.long q3), .second, .val (.int kk), .val (.int pt), .val (.int ch169), .val (.int px), .val (.ref o203), .val (.ref o172)] []))
            refine P205.xs (fun hA hx hy t k => XS.goto hA hx rfl (pc0 := 92) (pc' := 202) rfl (hb hy at_92) (by decide) (by decide) k) ?_
            show Go p e below _ (T205.setTop (mkF m 202 #[.val (.int p0), .val (.int p1), .val (.int p2), .val (.long q3), .second, .val (.int kk), .val (.int pt), .val (.int ch169), .val (.int px), .val (.ref o203), .val (.ref o172)] []))
            have Ac206 : Arv Z h205 o172 k172 .char (5 : Int32) [(.int (99 : Int32)), (.int (108 : Int32)), (.int (97 : Int32)), (.int (115 : Int32)), (.int ch169)] (.int (0 : Int32)) := (Ac204.keep K205 (ninS ne_o172_o203 nin0))
            refine P205.xs (fun hA hx hy t k => XS.aconstNull hA hx rfl (hb hy at_202) k) ?_
            show Go p e below _ (T205.setTop (mkF m 203 #[.val (.int p0), .val (.int p1), .val (.int p2), .val (.long q3), .second, .val (.int kk), .val (.int pt), .val (.int ch169), .val (.int px), .val (.ref o203), .val (.ref o172)] [.null]))
            refine P205.xs (fun hA hx hy t k => XS.astore hA hx rfl (hb hy at_203) rfl rfl (l' := #[.val (.int p0), .val (.int p1), .val (.int p2), .val (.long q3), .second, .val (.int kk), .val (.int pt), .val (.int ch169), .val (.int px), .val (.ref o203), .val .null]) rfl k) ?_
            show Go p e below _ (T205.setTop (mkF m 205 #[.val (.int p0), .val (.int p1), .val (.int p2), .val (.long q3), .second, .val (.int kk), .val (.int pt), .val (.int ch169), .val (.int px), .val (.ref o203), .val .null] []))
            exact tS _ _ _ _  (P205.wider (by decide) (by decide)) (strOf (n := 5) rfl (latS (by decide) (latS (by decide) (latS (by decide) (latS (by decide) (latS lch169 lat0))))) (by decide) E205 C205 V205 B205)
      · refine P168.xs (fun hA hx hy t k => XS.ifYes hA hx rfl (pc0 := 34) (pc' := 95) rfl (hb hy at_34) rfl ((if0 _ _).trans (feq hk0).2) (by decide) (by decide) k) ?_
        show Go p e below _ (T168.setTop (mkF m 95 #[.val (.int p0), .val (.int p1), .val (.int p2), .val (.long q3), .second, .val (.int kk), .val (.int pt), .val (.int ch169), .val (.int px), .unset, .unset] []))
        refine P168.xs (fun hA hx hy t k => XS.iload hA hx rfl (hb hy at_95) rfl  k) ?_
        show Go p e below _ (T168.setTop (mkF m 97 #[.val (.int p0), .val (.int p1), .val (.int p2), .val (.long q3), .second, .val (.int kk), .val (.int pt), .val (.int ch169), .val (.int px), .unset, .unset] [(.int kk)]))
        refine P168.xs (fun hA hx hy t k => XS.iconst hA hx rfl (hb hy at_97) k) ?_
        show Go p e below _ (T168.setTop (mkF m 98 #[.val (.int p0), .val (.int p1), .val (.int p2), .val (.long q3), .second, .val (.int kk), .val (.int pt), .val (.int ch169), .val (.int px), .unset, .unset] [(.int (1 : Int32)), (.int kk)]))
        by_cases hk1 : kk = 1
        · refine P168.xs (fun hA hx hy t k => XS.icmpNo hA hx rfl (hb hy at_98) rfl (teq hk1).2 k) ?_
          show Go p e below _ (T168.setTop (mkF m 101 #[.val (.int p0), .val (.int p1), .val (.int p2), .val (.long q3), .second, .val (.int kk), .val (.int pt), .val (.int ch169), .val (.int px), .unset, .unset] []))
          refine P168.xs (fun hA hx hy t k => XS.bipush hA hx rfl (hb hy at_101) k) ?_
          show Go p e below _ (T168.setTop (mkF m 103 #[.val (.int p0), .val (.int p1), .val (.int p2), .val (.long q3), .second, .val (.int kk), .val (.int pt), .val (.int ch169), .val (.int px), .unset, .unset] [(.int (8 : Int32))]))
          refine P168.newP (aty := .char) (hw _ (List.mem_of_getElem? (i := 1) rfl)) at_103 (by decide) (cap := 8) (by decide) (by decide) (by decide) (by decide) fun T207 h207 o207 k207 g207 P207 E207 A207 => ?_
          have gz_o207 : Z.heap.size ≤ o207 := Nat.le_trans P168.old.1 (Nat.le_of_eq g207.symm)
          have gw_o207 : h0.size ≤ o207 := Nat.le_trans P168.kept.1 (Nat.le_of_eq g207.symm)
          have V207 : Arv Z h207 o207 k207 .char (8 : Int32) [(.int (0 : Int32)), (.int (0 : Int32)), (.int (0 : Int32)), (.int (0 : Int32)), (.int (0 : Int32)), (.int (0 : Int32)), (.int (0 : Int32)), (.int (0 : Int32))] (.int (0 : Int32)) := Arv.pad A207 (pad_rep [] (.int (0 : Int32)) 8)
          show Go p e below _ (T207.setTop (mkF m 105 #[.val (.int p0), .val (.int p1), .val (.int p2), .val (.long q3), .second, .val (.int kk), .val (.int pt), .val (.int ch169), .val (.int px), .unset, .unset] [(.ref o207)]))
          refine P207.xs (fun hA hx hy t k => XS.dup hA hx rfl (hb hy at_105) rfl rfl k) ?_
          show Go p e below _ (T207.setTop (mkF m 106 #[.val (.int p0), .val (.int p1), .val (.int p2), .val (.long q3), .second, .val (.int kk), .val (.int pt), .val (.int ch169), .val (.int px), .unset, .unset] [(.ref o207), (.ref o207)]))
          refine P207.xs (fun hA hx hy t k => XS.iconst hA hx rfl (hb hy at_106) k) ?_
          show Go p e below _ (T207.setTop (mkF m 107 #[.val (.int p0), .val (.int p1), .val (.int p2), .val (.long q3), .second, .val (.int kk), .val (.int pt), .val (.int ch169), .val (.int px), .unset, .unset] [(.int (0 : Int32)), (.ref o207), (.ref o207)]))
          refine P207.xs (fun hA hx hy t k => XS.bipush hA hx rfl (hb hy at_107) k) ?_
          show Go p e below _ (T207.setTop (mkF m 109 #[.val (.int p0), .val (.int p1), .val (.int p2), .val (.long q3), .second, .val (.int kk), .val (.int pt), .val (.int ch169), .val (.int px), .unset, .unset] [(.int (112 : Int32)), (.int (0 : Int32)), (.ref o207), (.ref o207)]))
          refine P207.stC V207 0 (by decide) (by decide) (by decide) (Nat.le_of_ble_eq_true rfl) (x' := (112 : Int32)) (by decide) at_109 gz_o207 (Or.inr gw_o207) fun T208 h208 P208 W208 V208 => ?_
          have Va208 : Arv Z h208 o207 k207 .char (8 : Int32) [(.int (112 : Int32)), (.int (0 : Int32)), (.int (0 : Int32)), (.int (0 : Int32)), (.int (0 : Int32)), (.int (0 : Int32)), (.int (0 : Int32)), (.int (0 : Int32))] (.int (0 : Int32)) := V208
          show Go p e below _ (T208.setTop (mkF m 110 #[.val (.int p0), .val (.int p1), .val (.int p2), .val (.long q3), .second, .val (.int kk), .val (.int pt), .val (.int ch169), .val (.int px), .unset, .unset] [(.ref o207)]))
          refine P208.xs (fun hA hx hy t k => XS.dup hA hx rfl (hb hy at_110) rfl rfl k) ?_
          show Go p e below _ (T208.setTop (mkF m 111 #[.val (.int p0), .val (.int p1), .val (.int p2), .val (.long q3), .second, .val (.int kk), .val (.int pt), .val (.int ch169), .val (.int px), .unset, .unset] [(.ref o207), (.ref o207)]))
          refine P208.xs (fun hA hx hy t k => XS.iconst hA hx rfl (hb hy at_111) k) ?_
          show Go p e below _ (T208.setTop (mkF m 112 #[.val (.int p0), .val (.int p1), .val (.int p2), .val (.long q3), .second, .val (.int kk), .val (.int pt), .val (.int ch169), .val (.int px), .unset, .unset] [(.int (1 : Int32)), (.ref o207), (.ref o207)]))
          refine P208.xs (fun hA hx hy t k => XS.bipush hA hx rfl (hb hy at_112) k) ?_
          show Go p e below _ (T208.setTop (mkF m 114 #[.val (.int p0), .val (.int p1), .val (.int p2), .val (.long q3), .second, .val (.int kk), .val (.int pt), .val (.int ch169), .val (.int px), .unset, .unset] [(.int (114 : Int32)), (.int (1 : Int32)), (.ref o207), (.ref o207)]))
          refine P208.stC Va208 1 (by decide) (by decide) (by decide) (Nat.le_of_ble_eq_true rfl) (x' := (114 : Int32)) (by decide) at_114 gz_o207 (Or.inr gw_o207) fun T209 h209 P209 W209 V209 => ?_
          have Va209 : Arv Z h209 o207 k207 .char (8 : Int32) [(.int (112 : Int32)), (.int (114 : Int32)), (.int (0 : Int32)), (.int (0 : Int32)), (.int (0 : Int32)), (.int (0 : Int32)), (.int (0 : Int32)), (.int (0 : Int32))] (.int (0 : Int32)) := V209
          show Go p e below _ (T209.setTop (mkF m 115 #[.val (.int p0), .val (.int p1), .val (.int p2), .val (.long q3), .second, .val (.int kk), .val (.int pt), .val (.int ch169), .val (.int px), .unset, .unset] [(.ref o207)]))
          refine P209.xs (fun hA hx hy t k => XS.dup hA hx rfl (hb hy at_115) rfl rfl k) ?_
          show Go p e below _ (T209.setTop (mkF m 116 #[.val (.int p0), .val (.int p1), .val (.int p2), .val (.long q3), .second, .val (.int kk), .val (.int pt), .val (.int ch169), .val (.int px), .unset, .unset] [(.ref o207), (.ref o207)]))
          refine P209.xs (fun hA hx hy t k => XS.iconst hA hx rfl (hb hy at_116) k) ?_
          show Go p e below _ (T209.setTop (mkF m 117 #[.val (.int p0), .val (.int p1), .val (.int p2), .val (.long q3), .second, .val (.int kk), .val (.int pt), .val (.int ch169), .val (.int px), .unset, .unset] [(.int (2 : Int32)), (.ref o207), (.ref o207)]))
          refine P209.xs (fun hA hx hy t k => XS.bipush hA hx rfl (hb hy at_117) k) ?_
          show Go p e below _ (T209.setTop (mkF m 119 #[.val (.int p0), .val (.int p1), .val (.int p2), .val (.long q3), .second, .val (.int kk), .val (.int pt), .val (.int ch169), .val (.int px), .unset, .unset] [(.int (111 : Int32)), (.int (2 : Int32)), (.ref o207), (.ref o207)]))
          refine P209.stC Va209 2 (by decide) (by decide) (by decide) (Nat.le_of_ble_eq_true rfl) (x' := (111 : Int32)) (by decide) at_119 gz_o207 (Or.inr gw_o207) fun T210 h210 P210 W210 V210 => ?_
          have Va210 : Arv Z h210 o207 k207 .char (8 : Int32) [(.int (112 : Int32)), (.int (114 : Int32)), (.int (111 : Int32)), (.int (0 : Int32)), (.int (0 : Int32)), (.int (0 : Int32)), (.int (0 : Int32)), (.int (0 : Int32))] (.int (0 : Int32)) := V210
          show Go p e below _ (T210.setTop (mkF m 120 #[.val (.int p0), .val (.int p1), .val (.int p2), .val (.long q3), .second, .val (.int kk), .val (.int pt), .val (.int ch169), .val (.int px), .unset, .unset] [(.ref o207)]))
          refine P210.xs (fun hA hx hy t k => XS.dup hA hx rfl (hb hy at_120) rfl rfl k) ?_
          show Go p e below _ (T210.setTop (mkF m 121 #[.val (.int p0), .val (.int p1), .val (.int p2), .val (.long q3), .second, .val (.int kk), .val (.int pt), .val (.int ch169), .val (.int px), .unset, .unset] [(.ref o207), (.ref o207)]))
          refine P210.xs (fun hA hx hy t k => XS.iconst hA hx rfl (hb hy at_121) k) ?_
          show Go p e below _ (T210.setTop (mkF m 122 #[.val (.int p0), .val (.int p1), .val (.int p2), .val (.long q3), .second, .val (.int kk), .val (.int pt), .val (.int ch169), .val (.int px), .unset, .unset] [(.int (3 : Int32)), (.ref o207), (.ref o207)]))
          refine P210.xs (fun hA hx hy t k => XS.bipush hA hx rfl (hb hy at_122) k) ?_
          show Go p e below _ (T210.setTop (mkF m 124 #[.val (.int p0), .val (.int p1), .val (.int p2), .val (.long q3), .second, .val (.int kk), .val (.int pt), .val (.int ch169), .val (.int px), .unset, .unset] [(.int (112 : Int32)), (.int (3 : Int32)), (.ref o207), (.ref o207)]))
          refine P210.stC Va210 3 (by decide) (by decide) (by decide) (Nat.le_of_ble_eq_true rfl) (x' := (112 : Int32)) (by decide) at_124 gz_o207 (Or.inr gw_o207) fun T211 h211 P211 W211 V211 => ?_
          have Va211 : Arv Z h211 o207 k207 .char (8 : Int32) [(.int (112 : Int32)), (.int (114 : Int32)), (.int (111 : Int32)), (.int (112 : Int32)), (.int (0 : Int32)), (.int (0 : Int32)), (.int (0 : Int32)), (.int (0 : Int32))] (.int (0 : Int32)) := V211
          show Go p e below _ (T211.setTop (mkF m 125 #[.val (.int p0), .val (.int p1), .val (.int p2), .val (.long q3), .second, .val (.int kk), .val (.int pt), .val (.int ch169), .val (.int px), .unset, .unset] [(.ref o207)]))
          refine P211.xs (fun hA hx hy t k => XS.dup hA hx rfl (hb hy at_125) rfl rfl k) ?_
          show Go p e below _ (T211.setTop (mkF m 126 #[.val (.int p0), .val (.int p1), .val (.int p2), .val (.long q3), .second, .val (.int kk), .val (.int pt), .val (.int ch169), .val (.int px), .unset, .unset] [(.ref o207), (.ref o207)]))
          refine P211.xs (fun hA hx hy t k => XS.iconst hA hx rfl (hb hy at_126) k) ?_
          show Go p e below _ (T211.setTop (mkF m 127 #[.val (.int p0), .val (.int p1), .val (.int p2), .val (.long q3), .second, .val (.int kk), .val (.int pt), .val (.int ch169), .val (.int px), .unset, .unset] [(.int (4 : Int32)), (.ref o207), (.ref o207)]))
          refine P211.xs (fun hA hx hy t k => XS.bipush hA hx rfl (hb hy at_127) k) ?_
          show Go p e below _ (T211.setTop (mkF m 129 #[.val (.int p0), .val (.int p1), .val (.int p2), .val (.long q3), .second, .val (.int kk), .val (.int pt), .val (.int ch169), .val (.int px), .unset, .unset] [(.int (101 : Int32)), (.int (4 : Int32)), (.ref o207), (.ref o207)]))
          refine P211.stC Va211 4 (by decide) (by decide) (by decide) (Nat.le_of_ble_eq_true rfl) (x' := (101 : Int32)) (by decide) at_129 gz_o207 (Or.inr gw_o207) fun T212 h212 P212 W212 V212 => ?_
          have Va212 : Arv Z h212 o207 k207 .char (8 : Int32) [(.int (112 : Int32)), (.int (114 : Int32)), (.int (111 : Int32)), (.int (112 : Int32)), (.int (101 : Int32)), (.int (0 : Int32)), (.int (0 : Int32)), (.int (0 : Int32))] (.int (0 : Int32)) := V212
          show Go p e below _ (T212.setTop (mkF m 130 #[.val (.int p0), .val (.int p1), .val (.int p2), .val (.long q3), .second, .val (.int kk), .val (.int pt), .val (.int ch169), .val (.int px), .unset, .unset] [(.ref o207)]))
          refine P212.xs (fun hA hx hy t k => XS.dup hA hx rfl (hb hy at_130) rfl rfl k) ?_
          show Go p e below _ (T212.setTop (mkF m 131 #[.val (.int p0), .val (.int p1), .val (.int p2), .val (.long q3), .second, .val (.int kk), .val (.int pt), .val (.int ch169), .val (.int px), .unset, .unset] [(.ref o207), (.ref o207)]))
          refine P212.xs (fun hA hx hy t k => XS.iconst hA hx rfl (hb hy at_131) k) ?_
          show Go p e below _ (T212.setTop (mkF m 132 #[.val (.int p0), .val (.int p1), .val (.int p2), .val (.long q3), .second, .val (.int kk), .val (.int pt), .val (.int ch169), .val (.int px), .unset, .unset] [(.int (5 : Int32)), (.ref o207), (.ref o207)]))
          refine P212.xs (fun hA hx hy t k => XS.bipush hA hx rfl (hb hy at_132) k) ?_
          show Go p e below _ (T212.setTop (mkF m 134 #[.val (.int p0), .val (.int p1), .val (.int p2), .val (.long q3), .second, .val (.int kk), .val (.int pt), .val (.int ch169), .val (.int px), .unset, .unset] [(.int (114 : Int32)), (.int (5 : Int32)), (.ref o207), (.ref o207)]))
          refine P212.stC Va212 5 (by decide) (by decide) (by decide) (Nat.le_of_ble_eq_true rfl) (x' := (114 : Int32)) (by decide) at_134 gz_o207 (Or.inr gw_o207) fun T213 h213 P213 W213 V213 => ?_
          have Va213 : Arv Z h213 o207 k207 .char (8 : Int32) [(.int (112 : Int32)), (.int (114 : Int32)), (.int (111 : Int32)), (.int (112 : Int32)), (.int (101 : Int32)), (.int (114 : Int32)), (.int (0 : Int32)), (.int (0 : Int32))] (.int (0 : Int32)) := V213
          show Go p e below _ (T213.setTop (mkF m 135 #[.val (.int p0), .val (.int p1), .val (.int p2), .val (.long q3), .second, .val (.int kk), .val (.int pt), .val (.int ch169), .val (.int px), .unset, .unset] [(.ref o207)]))
          refine P213.xs (fun hA hx hy t k => XS.dup hA hx rfl (hb hy at_135) rfl rfl k) ?_
          show Go p e below _ (T213.setTop (mkF m 136 #[.val (.int p0), .val (.int p1), .val (.int p2), .val (.long q3), .second, .val (.int kk), .val (.int pt), .val (.int ch169), .val (.int px), .unset, .unset] [(.ref o207), (.ref o207)]))
          refine P213.xs (fun hA hx hy t k => XS.bipush hA hx rfl (hb hy at_136) k) ?_
          show Go p e below _ (T213.setTop (mkF m 138 #[.val (.int p0), .val (.int p1), .val (.int p2), .val (.long q3), .second, .val (.int kk), .val (.int pt), .val (.int ch169), .val (.int px), .unset, .unset] [(.int (6 : Int32)), (.ref o207), (.ref o207)]))
          refine P213.xs (fun hA hx hy t k => XS.bipush hA hx rfl (hb hy at_138) k) ?_
          show Go p e below _ (T213.setTop (mkF m 140 #[.val (.int p0), .val (.int p1), .val (.int p2), .val (.long q3), .second, .val (.int kk), .val (.int pt), .val (.int ch169), .val (.int px), .unset, .unset] [(.int (116 : Int32)), (.int (6 : Int32)), (.ref o207), (.ref o207)]))
          refine P213.stC Va213 6 (by decide) (by decide) (by decide) (Nat.le_of_ble_eq_true rfl) (x' := (116 : Int32)) (by decide) at_140 gz_o207 (Or.inr gw_o207) fun T214 h214 P214 W214 V214 => ?_
          have Va214 : Arv Z h214 o207 k207 .char (8 : Int32) [(.int (112 : Int32)), (.int (114 : Int32)), (.int (111 : Int32)), (.int (112 : Int32)), (.int (101 : Int32)), (.int (114 : Int32)), (.int (116 : Int32)), (.int (0 : Int32))] (.int (0 : Int32)) := V214
          show Go p e below _ (T214.setTop (mkF m 141 #[.val (.int p0), .val (.int p1), .val (.int p2), .val (.long q3), .second, .val (.int kk), .val (.int pt), .val (.int ch169), .val (.int px), .unset, .unset] [(.ref o207)]))
          refine P214.xs (fun hA hx hy t k => XS.dup hA hx rfl (hb hy at_141) rfl rfl k) ?_
          show Go p e below _ (T214.setTop (mkF m 142 #[.val (.int p0), .val (.int p1), .val (.int p2), .val (.long q3), .second, .val (.int kk), .val (.int pt), .val (.int ch169), .val (.int px), .unset, .unset] [(.ref o207), (.ref o207)]))
          refine P214.xs (fun hA hx hy t k => XS.bipush hA hx rfl (hb hy at_142) k) ?_
          show Go p e below _ (T214.setTop (mkF m 144 #[.val (.int p0), .val (.int p1), .val (.int p2), .val (.long q3), .second, .val (.int kk), .val (.int pt), .val (.int ch169), .val (.int px), .unset, .unset] [(.int (7 : Int32)), (.ref o207), (.ref o207)]))
          refine P214.xs (fun hA hx hy t k => XS.bipush hA hx rfl (hb hy at_144) k) ?_
          show Go p e below _ (T214.setTop (mkF m 146 #[.val (.int p0), .val (.int p1), .val (.int p2), .val (.long q3), .second, .val (.int kk), .val (.int pt), .val (.int ch169), .val (.int px), .unset, .unset] [(.int (121 : Int32)), (.int (7 : Int32)), (.ref o207), (.ref o207)]))
          refine P214.stC Va214 7 (by decide) (by decide) (by decide) (Nat.le_of_ble_eq_true rfl) (x' := (121 : Int32)) (by decide) at_146 gz_o207 (Or.inr gw_o207) fun T215 h215 P215 W215 V215 => ?_
          have Va215 : Arv Z h215 o207 k207 .char (8 : Int32) [(.int (112 : Int32)), (.int (114 : Int32)), (.int (111 : Int32)), (.int (112 : Int32)), (.int (101 : Int32)), (.int (114 : Int32)), (.int (116 : Int32)), (.int (121 : Int32))] (.int (0 : Int32)) := V215
          show Go p e below _ (T215.setTop (mkF m 147 #[.val (.int p0), .val (.int p1), .val (.int p2), .val (.long q3), .second, .val (.int kk), .val (.int pt), .val (.int ch169), .val (.int px), .unset, .unset] [(.ref o207)]))
          refine P215.xs (fun hA hx hy t k => XS.astore hA hx rfl (hb hy at_147) rfl rfl (l' := #[.val (.int p0), .val (.int p1), .val (.int p2), .val (.long q3), .second, .val (.int kk), .val (.int pt), .val (.int ch169), .val (.int px), .unset, .val (.ref o207)]) rfl k) ?_
          show Go p e below _ (T215.setTop (mkF m 149 #[.val (.int p0), .val (.int p1), .val (.int p2), .val (.long q3), .second, .val (.int kk), .val (.int pt), .val (.int ch169), .val (.int px), .unset, .val (.ref o207)] []))
          refine P215.xs (fun hA hx hy t k => XS.iload hA hx rfl (hb hy at_149) rfl  k) ?_
          show Go p e below _ (T215.setTop (mkF m 151 #[.val (.int p0), .val (.int p1), .val (.int p2), .val (.long q3), .second, .val (.int kk), .val (.int pt), .val (.int ch169), .val (.int px), .unset, .val (.ref o207)] [(.int pt)]))
          by_cases hpt : pt = 0
          · refine P215.xs (fun hA hx hy t k => XS.ifYes hA hx rfl (pc0 := 151) (pc' := 164) rfl (hb hy at_151) rfl ((if0 _ _).trans (teq hpt).1) (by decide) (by decide) k) ?_
            show Go p e below _ (T215.setTop (mkF m 164 #[.val (.int p0), .val (.int p1), .val (.int p2), .val (.long q3), .second, .val (.int kk), .val (.int pt), .val (.int ch169), .val (.int px), .unset, .val (.ref o207)] []))
            refine P215.newO (hw _ (List.mem_of_getElem? (i := 2) rfl)) (hw _ (List.mem_of_getElem? (i := 3) rfl)) (hw _ (List.mem_of_getElem? (i := 4) rfl)) at_164 (by decide) (by decide) fun T216 h216 o216 g216 P216 E216 A216 D216 => ?_
            have ne_o207_o216 : o207 ≠ o216 := Nat.ne_of_lt (Nat.lt_of_lt_of_le Va215.lt (Nat.le_of_eq g216.symm))
            have gz_o216 : Z.heap.size ≤ o216 := Nat.le_trans P215.old.1 (Nat.le_of_eq g216.symm)
            have gw_o216 : h0.size ≤ o216 := Nat.le_trans P215.kept.1 (Nat.le_of_eq g216.symm)
            have F216_coder : Fld Z h216 o216 "java/lang/String" "coder" "B" (.int (0 : Int32)) := D216 (Or.inr (hw _ (List.mem_of_getElem? (i := 28) rfl))) (ty := .byte) (by decide)
            have F216_value : Fld Z h216 o216 "java/lang/String" "value" "[B" .null := D216 (Or.inr (hw _ (List.mem_of_getElem? (i := 30) rfl))) (ty := (.array .byte)) (by decide)
            show Go p e below _ (T216.setTop (mkF m 167 #[.val (.int p0), .val (.int p1), .val (.int p2), .val (.long q3), .second, .val (.int kk), .val (.int pt), .val (.int ch169), .val (.int px), .unset, .val (.ref o207)] [(.ref o216)]))
            refine P216.xs (fun hA hx hy t k => XS.dup hA hx rfl (hb hy at_167) rfl rfl k) ?_
            show Go p e below _ (T216.setTop (mkF m 168 #[.val (.int p0), .val (.int p1), .val (.int p2), .val (.long q3), .second, .val (.int kk), .val (.int pt), .val (.int ch169), .val (.int px), .unset, .val (.ref o207)] [(.ref o216), (.ref o216)]))
            refine P216.xs (fun hA hx hy t k => XS.aload hA hx rfl (hb hy at_168) rfl rfl  k) ?_
            show Go p e below _ (T216.setTop (mkF m 170 #[.val (.int p0), .val (.int p1), .val (.int p2), .val (.long q3), .second, .val (.int kk), .val (.int pt), .val (.int ch169), .val (.int px), .unset, .val (.ref o207)] [(.ref o207), (.ref o216), (.ref o216)]))
            have Ac217 : Arv Z h216 o207 k207 .char (8 : Int32) [(.int (112 : Int32)), (.int (114 : Int32)), (.int (111 : Int32)), (.int (112 : Int32)), (.int (101 : Int32)), (.int (114 : Int32)), (.int (116 : Int32)), (.int (121 : Int32))] (.int (0 : Int32)) := (Va215.ext E216)
            refine P216.specB (W := 1) (ws' := [o216]) rfl (hw _ (List.mem_of_getElem? (i := 5) rfl)) (hw _ (List.mem_of_getElem? (i := 6) rfl)) (hw _ (List.mem_of_getElem? (i := 7) rfl)) (by decide) (fun vm0 hZ => StrChars.Road.backV (W := 1) hZ (wStr hw) (kI := 4) (hw _ (List.mem_of_getElem? (i := 3) rfl)) (cs := ([(112 : Int32), (114 : Int32), (111 : Int32), (112 : Int32), (101 : Int32), (114 : Int32), (116 : Int32), (121 : Int32)] : List Int32)) (bs := ([(112 : Int32), (114 : Int32), (111 : Int32), (112 : Int32), (101 : Int32), (114 : Int32), (116 : Int32), (121 : Int32)] : List Int32).map (fun c => c.toInt8.toInt32)) (n := 8) gz_o216 P216.old.1 A216 F216_value F216_coder Ac217 (S0.ext P216.old) Pz rfl rfl (by decide) (by decide) (latS (by decide) (latS (by decide) (latS (by decide) (latS (by decide) (latS (by decide) (latS (by decide) (latS (by decide) (latS (by decide) lat0)))))))) rfl (by decide) (by decide)) rfl (fun v h' L q => ⟨q.2.1, q.2.2.1⟩) (by decide) (by decide) (allS ⟨(Or.inr gw_o216), gz_o216⟩ all0) (fun vm hs hal hr => safe1 (safeNull hal A216 F216_value)) pd_1 (argsL := [(.ref o207)]) rfl rfl rfl (Nat.le_of_eq rfl) at_170 fun v218 T218 h218 L218 P218 Q218 => ?_
            obtain ⟨rfl, N218, K218, E218, C218, b218, k218, gb218, gc218, gd218, V218, B218⟩ := Q218
            show Go p e below _ (T218.setTop (mkF m 173 #[.val (.int p0), .val (.int p1), .val (.int p2), .val (.long q3), .second, .val (.int kk), .val (.int pt), .val (.int ch169), .val (.int px), .unset, .val (.ref o207)] [(.ref o216)]))
            refine P218.xs (fun hA hx hy t k => XS.astore hA hx rfl (hb hy at_173) rfl rfl (l' := #[.val (.int p0), .val (.int p1), .val (.int p2), .val (.long q3), .second, .val (.int kk), .val (.int pt), .val (.int ch169), .val (.int px), .val (.ref o216), .val (.ref o207)]) rfl k) ?_
            show Go p e below _ (T218.setTop (mkF m 175 #[.val (.int p0), .val (.int p1), .val (.int p2), .val (.long q3), .second, .val (.int kk), .val (.int pt), .val (.int ch169), .val (.int px), .val (.ref o216), .val (.ref o207)] []))
            refine P218.xs (fun hA hx hy t k => XS.goto hA hx rfl (pc0 := 175) (pc' := 202) rfl (hb hy at_175) (by decide) (by decide) k) ?_
            show Go p e below _ (T218.setTop (mkF m 202 #[.val (.int p0), .val (.int p1), .val (.int p2), .val (.long q3), .second, .val (.int kk), .val (.int pt), .val (.int ch169), .val (.int px), .val (.ref o216), .val (.ref o207)] []))
            have Ac219 : Arv Z h218 o207 k207 .char (8 : Int32) [(.int (112 : Int32)), (.int (114 : Int32)), (.int (111 : Int32)), (.int (112 : Int32)), (.int (101 : Int32)), (.int (114 : Int32)), (.int (116 : Int32)), (.int (121 : Int32))] (.int (0 : Int32)) := (Ac217.keep K218 (ninS ne_o207_o216 nin0))
            refine P218.xs (fun hA hx hy t k => XS.aconstNull hA hx rfl (hb hy at_202) k) ?_
            show Go p e below _ (T218.setTop (mkF m 203 #[.val (.int p0), .val (.int p1), .val (.int p2), .val (.long q3), .second, .val (.int kk), .val (.int pt), .val (.int ch169), .val (.int px), .val (.ref o216), .val (.ref o207)] [.null]))
            refine P218.xs (fun hA hx hy t k => XS.astore hA hx rfl (hb hy at_203) rfl rfl (l' := #[.val (.int p0), .val (.int p1), .val (.int p2), .val (.long q3), .second, .val (.int kk), .val (.int pt), .val (.int ch169), .val (.int px), .val (.ref o216), .val .null]) rfl k) ?_
            show Go p e below _ (T218.setTop (mkF m 205 #[.val (.int p0), .val (.int p1), .val (.int p2), .val (.long q3), .second, .val (.int kk), .val (.int pt), .val (.int ch169), .val (.int px), .val (.ref o216), .val .null] []))
            exact tS _ _ _ _  (P218.wider (by decide) (by decide)) (strOf (n := 8) rfl (latS (by decide) (latS (by decide) (latS (by decide) (latS (by decide) (latS (by decide) (latS (by decide) (latS (by decide) (latS (by decide) lat0)))))))) (by decide) E218 C218 V218 B218)
          · refine P215.xs (fun hA hx hy t k => XS.ifNo hA hx rfl (hb hy at_151) rfl ((if0 _ _).trans (feq hpt).1) k) ?_
            show Go p e below _ (T215.setTop (mkF m 154 #[.val (.int p0), .val (.int p1), .val (.int p2), .val (.long q3), .second, .val (.int kk), .val (.int pt), .val (.int ch169), .val (.int px), .unset, .val (.ref o207)] []))
            refine P215.xs (fun hA hx hy t k => XS.aload hA hx rfl (hb hy at_154) rfl rfl  k) ?_
            show Go p e below _ (T215.setTop (mkF m 156 #[.val (.int p0), .val (.int p1), .val (.int p2), .val (.long q3), .second, .val (.int kk), .val (.int pt), .val (.int ch169), .val (.int px), .unset, .val (.ref o207)] [(.ref o207)]))
            refine P215.xs (fun hA hx hy t k => XS.iload hA hx rfl (hb hy at_156) rfl  k) ?_
            show Go p e below _ (T215.setTop (mkF m 158 #[.val (.int p0), .val (.int p1), .val (.int p2), .val (.long q3), .second, .val (.int kk), .val (.int pt), .val (.int ch169), .val (.int px), .unset, .val (.ref o207)] [(.int px), (.ref o207)]))
            refine P215.xs (fun hA hx hy t k => XS.bipush hA hx rfl (hb hy at_158) k) ?_
            show Go p e below _ (T215.setTop (mkF m 160 #[.val (.int p0), .val (.int p1), .val (.int p2), .val (.long q3), .second, .val (.int kk), .val (.int pt), .val (.int ch169), .val (.int px), .unset, .val (.ref o207)] [(.int (8 : Int32)), (.int px), (.ref o207)]))
            refine P215.st (fun vm0 locs X hx hy t k => Jvm.RoadKit.iremM X hx rfl (hb hy at_160) rfl (by decide) k) ?_
            show Go p e below _ (T215.setTop (mkF m 161 #[.val (.int p0), .val (.int p1), .val (.int p2), .val (.long q3), .second, .val (.int kk), .val (.int pt), .val (.int ch169), .val (.int px), .unset, .val (.ref o207)] [(.int (px % (8 : Int32))), (.ref o207)]))
            refine P215.xs (fun hA hx hy t k => XS.iload hA hx rfl (hb hy at_161) rfl  k) ?_
            show Go p e below _ (T215.setTop (mkF m 163 #[.val (.int p0), .val (.int p1), .val (.int p2), .val (.long q3), .second, .val (.int kk), .val (.int pt), .val (.int ch169), .val (.int px), .unset, .val (.ref o207)] [(.int ch169), (.int (px % (8 : Int32))), (.ref o207)]))
            have hix := rem8 hpx
            generalize hgix : (px % (8 : Int32)) = ix at hix ⊢
            rcases hix with rfl | rfl | rfl | rfl | rfl | rfl | rfl | rfl
            · show Go p e below _ (T215.setTop (mkF m 163 #[.val (.int p0), .val (.int p1), .val (.int p2), .val (.long q3), .second, .val (.int kk), .val (.int pt), .val (.int ch169), .val (.int px), .unset, .val (.ref o207)] [(.int ch169), (.int (0 : Int32)), (.ref o207)]))
              refine P215.stC Va215 0 (by decide) (by decide) (by decide) (Nat.le_of_ble_eq_true rfl) (x' := ch169) nch169 at_163 gz_o207 (Or.inr gw_o207) fun T220 h220 P220 W220 V220 => ?_
              have Va220 : Arv Z h220 o207 k207 .char (8 : Int32) [(.int ch169), (.int (114 : Int32)), (.int (111 : Int32)), (.int (112 : Int32)), (.int (101 : Int32)), (.int (114 : Int32)), (.int (116 : Int32)), (.int (121 : Int32))] (.int (0 : Int32)) := V220
              show Go p e below _ (T220.setTop (mkF m 164 #[.val (.int p0), .val (.int p1), .val (.int p2), .val (.long q3), .second, .val (.int kk), .val (.int pt), .val (.int ch169), .val (.int px), .unset, .val (.ref o207)] []))
              refine P220.newO (hw _ (List.mem_of_getElem? (i := 2) rfl)) (hw _ (List.mem_of_getElem? (i := 3) rfl)) (hw _ (List.mem_of_getElem? (i := 4) rfl)) at_164 (by decide) (by decide) fun T221 h221 o221 g221 P221 E221 A221 D221 => ?_
              have ne_o207_o221 : o207 ≠ o221 := Nat.ne_of_lt (Nat.lt_of_lt_of_le Va220.lt (Nat.le_of_eq g221.symm))
              have gz_o221 : Z.heap.size ≤ o221 := Nat.le_trans P220.old.1 (Nat.le_of_eq g221.symm)
              have gw_o221 : h0.size ≤ o221 := Nat.le_trans P220.kept.1 (Nat.le_of_eq g221.symm)
              have F221_coder : Fld Z h221 o221 "java/lang/String" "coder" "B" (.int (0 : Int32)) := D221 (Or.inr (hw _ (List.mem_of_getElem? (i := 28) rfl))) (ty := .byte) (by decide)
              have F221_value : Fld Z h221 o221 "java/lang/String" "value" "[B" .null := D221 (Or.inr (hw _ (List.mem_of_getElem? (i := 30) rfl))) (ty := (.array .byte)) (by decide)
              show Go p e below _ (T221.setTop (mkF m 167 #[.val (.int p0), .val (.int p1), .val (.int p2), .val (.long q3), .second, .val (.int kk), .val (.int pt), .val (.int ch169), .val (.int px), .unset, .val (.ref o207)] [(.ref o221)]))
              refine P221.xs (fun hA hx hy t k => XS.dup hA hx rfl (hb hy at_167) rfl rfl k) ?_
              show Go p e below _ (T221.setTop (mkF m 168 #[.val (.int p0), .val (.int p1), .val (.int p2), .val (.long q3), .second, .val (.int kk), .val (.int pt), .val (.int ch169), .val (.int px), .unset, .val (.ref o207)] [(.ref o221), (.ref o221)]))
              refine P221.xs (fun hA hx hy t k => XS.aload hA hx rfl (hb hy at_168) rfl rfl  k) ?_
              show Go p e below _ (T221.setTop (mkF m 170 #[.val (.int p0), .val (.int p1), .val (.int p2), .val (.long q3), .second, .val (.int kk), .val (.int pt), .val (.int ch169), .val (.int px), .unset, .val (.ref o207)] [(.ref o207), (.ref o221), (.ref o221)]))
              have Ac222 : Arv Z h221 o207 k207 .char (8 : Int32) [(.int ch169), (.int (114 : Int32)), (.int (111 : Int32)), (.int (112 : Int32)), (.int (101 : Int32)), (.int (114 : Int32)), (.int (116 : Int32)), (.int (121 : Int32))] (.int (0 : Int32)) := (Va220.ext E221)
              refine P221.specB (W := 1) (ws' := [o221]) rfl (hw _ (List.mem_of_getElem? (i := 5) rfl)) (hw _ (List.mem_of_getElem? (i := 6) rfl)) (hw _ (List.mem_of_getElem? (i := 7) rfl)) (by decide) (fun vm0 hZ => StrChars.Road.backV (W := 1) hZ (wStr hw) (kI := 4) (hw _ (List.mem_of_getElem? (i := 3) rfl)) (cs := ([ch169, (114 : Int32), (111 : Int32), (112 : Int32), (101 : Int32), (114 : Int32), (116 : Int32), (121 : Int32)] : List Int32)) (bs := ([ch169, (114 : Int32), (111 : Int32), (112 : Int32), (101 : Int32), (114 : Int32), (116 : Int32), (121 : Int32)] : List Int32).map (fun c => c.toInt8.toInt32)) (n := 8) gz_o221 P221.old.1 A221 F221_value F221_coder Ac222 (S0.ext P221.old) Pz rfl rfl (by decide) (by decide) (latS lch169 (latS (by decide) (latS (by decide) (latS (by decide) (latS (by decide) (latS (by decide) (latS (by decide) (latS (by decide) lat0)))))))) rfl (by decide) (by decide)) rfl (fun v h' L q => ⟨q.2.1, q.2.2.1⟩) (by decide) (by decide) (allS ⟨(Or.inr gw_o221), gz_o221⟩ all0) (fun vm hs hal hr => safe1 (safeNull hal A221 F221_value)) pd_1 (argsL := [(.ref o207)]) rfl rfl rfl (Nat.le_of_eq rfl) at_170 fun v223 T223 h223 L223 P223 Q223 => ?_
              obtain ⟨rfl, N223, K223, E223, C223, b223, k223, gb223, gc223, gd223, V223, B223⟩ := Q223
              show Go p e below _ (T223.setTop (mkF m 173 #[.val (.int p0), .val (.int p1), .val (.int p2), .val (.long q3), .second, .val (.int kk), .val (.int pt), .val (.int ch169), .val (.int px), .unset, .val (.ref o207)] [(.ref o221)]))
              refine P223.xs (fun hA hx hy t k => XS.astore hA hx rfl (hb hy at_173) rfl rfl (l' := #[.val (.int p0), .val (.int p1), .val (.int p2), .val (.long q3), .second, .val (.int kk), .val (.int pt), .val (.int ch169), .val (.int px), .val (.ref o221), .val (.ref o207)]) rfl k) ?_
              show Go p e below _ (T223.setTop (mkF m 175 #[.val (.int p0), .val (.int p1), .val (.int p2), .val (.long q3), .second, .val (.int kk), .val (.int pt), .val (.int ch169), .val (.int px), .val (.ref o221), .val (.ref o207)] []))
              refine P223.xs (fun hA hx hy t k => XS.goto hA hx rfl (pc0 := 175) (pc' := 202) rfl (hb hy at_175) (by decide) (by decide) k) ?_
              show Go p e below _ (T223.setTop (mkF m 202 #[.val (.int p0), .val (.int p1), .val (.int p2), .val (.long q3), .second, .val (.int kk), .val (.int pt), .val (.int ch169), .val (.int px), .val (.ref o221), .val (.ref o207)] []))
              have Ac224 : Arv Z h223 o207 k207 .char (8 : Int32) [(.int ch169), (.int (114 : Int32)), (.int (111 : Int32)), (.int (112 : Int32)), (.int (101 : Int32)), (.int (114 : Int32)), (.int (116 : Int32)), (.int (121 : Int32))] (.int (0 : Int32)) := (Ac222.keep K223 (ninS ne_o207_o221 nin0))
              refine P223.xs (fun hA hx hy t k => XS.aconstNull hA hx rfl (hb hy at_202) k) ?_
              show Go p e below _ (T223.setTop (mkF m 203 #[.val (.int p0), .val (.int p1), .val (.int p2), .val (.long q3), .second, .val (.int kk), .val (.int pt), .val (.int ch169), .val (.int px), .val (.ref o221), .val (.ref o207)] [.null]))
              refine P223.xs (fun hA hx hy t k => XS.astore hA hx rfl (hb hy at_203) rfl rfl (l' := #[.val (.int p0), .val (.int p1), .val (.int p2), .val (.long q3), .second, .val (.int kk), .val (.int pt), .val (.int ch169), .val (.int px), .val (.ref o221), .val .null]) rfl k) ?_
              show Go p e below _ (T223.setTop (mkF m 205 #[.val (.int p0), .val (.int p1), .val (.int p2), .val (.long q3), .second, .val (.int kk), .val (.int pt), .val (.int ch169), .val (.int px), .val (.ref o221), .val .null] []))
              exact tS _ _ _ _  (P223.wider (by decide) (by decide)) (strOf (n := 8) rfl (latS lch169 (latS (by decide) (latS (by decide) (latS (by decide) (latS (by decide) (latS (by decide) (latS (by decide) (latS (by decide) lat0)))))))) (by decide) E223 C223 V223 B223)
            · show Go p e below _ (T215.setTop (mkF m 163 #[.val (.int p0), .val (.int p1), .val (.int p2), .val (.long q3), .second, .val (.int kk), .val (.int pt), .val (.int ch169), .val (.int px), .unset, .val (.ref o207)] [(.int ch169), (.int (1 : Int32)), (.ref o207)]))
              refine P215.stC Va215 1 (by decide) (by decide) (by decide) (Nat.le_of_ble_eq_true rfl) (x' := ch169) nch169 at_163 gz_o207 (Or.inr gw_o207) fun T225 h225 P225 W225 V225 => ?_
              have Va225 : Arv Z h225 o207 k207 .char (8 : Int32) [(.int (112 : Int32)), (.int ch169), (.int (111 : Int32)), (.int (112 : Int32)), (.int (101 : Int32)), (.int (114 : Int32)), (.int (116 : Int32)), (.int (121 : Int32))] (.int (0 : Int32)) := V225
              show Go p e below _ (T225.setTop (mkF m 164 #[.val (.int p0), .val (.int p1), .val (.int p2), .val (.long q3), .second, .val (.int kk), .val (.int pt), .val (.int ch169), .val (.int px), .unset, .val (.ref o207)] []))
              refine P225.newO (hw _ (List.mem_of_getElem? (i := 2) rfl)) (hw _ (List.mem_of_getElem? (i := 3) rfl)) (hw _ (List.mem_of_getElem? (i := 4) rfl)) at_164 (by decide) (by decide) fun T226 h226 o226 g226 P226 E226 A226 D226 => ?_
              have ne_o207_o226 : o207 ≠ o226 := Nat.ne_of_lt (Nat.lt_of_lt_of_le Va225.lt (Nat.le_of_eq g226.symm))
              have gz_o226 : Z.heap.size ≤ o226 := Nat.le_trans P225.old.1 (Nat.le_of_eq g226.symm)
              have gw_o226 : h0.size ≤ o226 := Nat.le_trans P225.kept.1 (Nat.le_of_eq g226.symm)
              have F226_coder : Fld Z h226 o226 "java/lang/String" "coder" "B" (.int (0 : Int32)) := D226 (Or.inr (hw _ (List.mem_of_getElem? (i := 28) rfl))) (ty := .byte) (by decide)
              have F226_value : Fld Z h226 o226 "java/lang/String" "value" "[B" .null := D226 (Or.inr (hw _ (List.mem_of_getElem? (i := 30) rfl))) (ty := (.array .byte)) (by decide)
              show Go p e below _ (T226.setTop (mkF m 167 #[.val (.int p0), .val (.int p1), .val (.int p2), .val (.long q3), .second, .val (.int kk), .val (.int pt), .val (.int ch169), .val (.int px), .unset, .val (.ref o207)] [(.ref o226)]))
              refine P226.xs (fun hA hx hy t k => XS.dup hA hx rfl (hb hy at_167) rfl rfl k) ?_
              show Go p e below _ (T226.setTop (mkF m 168 #[.val (.int p0), .val (.int p1), .val (.int p2), .val (.long q3), .second, .val (.int kk), .val (.int pt), .val (.int ch169), .val (.int px), .unset, .val (.ref o207)] [(.ref o226), (.ref o226)]))
              refine P226.xs (fun hA hx hy t k => XS.aload hA hx rfl (hb hy at_168) rfl rfl  k) ?_
              show Go p e below _ (T226.setTop (mkF m 170 #[.val (.int p0), .val (.int p1), .val (.int p2), .val (.long q3), .second, .val (.int kk), .val (.int pt), .val (.int ch169), .val (.int px), .unset, .val (.ref o207)] [(.ref o207), (.ref o226), (.ref o226)]))
              have Ac227 : Arv Z h226 o207 k207 .char (8 : Int32) [(.int (112 : Int32)), (.int ch169), (.int (111 : Int32)), (.int (112 : Int32)), (.int (101 : Int32)), (.int (114 : Int32)), (.int (116 : Int32)), (.int (121 : Int32))] (.int (0 : Int32)) := (Va225.ext E226)
              refine P226.specB (W := 1) (ws' := [o226]) rfl (hw _ (List.mem_of_getElem? (i := 5) rfl)) (hw _ (List.mem_of_getElem? (i := 6) rfl)) (hw _ (List.mem_of_getElem? (i := 7) rfl)) (by decide) (fun vm0 hZ => StrChars.Road.backV (W := 1) hZ (wStr hw) (kI := 4) (hw _ (List.mem_of_getElem? (i := 3) rfl)) (cs := ([(112 : Int32), ch169, (111 : Int32), (112 : Int32), (101 : Int32), (114 : Int32), (116 : Int32), (121 : Int32)] : List Int32)) (bs := ([(112 : Int32), ch169, (111 : Int32), (112 : Int32), (101 : Int32), (114 : Int32), (116 : Int32), (121 : Int32)] : List Int32).map (fun c => c.toInt8.toInt32)) (n := 8) gz_o226 P226.old.1 A226 F226_value F226_coder Ac227 (S0.ext P226.old) Pz rfl rfl (by decide) (by decide) (latS (by decide) (latS lch169 (latS (by decide) (latS (by decide) (latS (by decide) (latS (by decide) (latS (by decide) (latS (by decide) lat0)))))))) rfl (by decide) (by decide)) rfl (fun v h' L q => ⟨q.2.1, q.2.2.1⟩) (by decide) (by decide) (allS ⟨(Or.inr gw_o226), gz_o226⟩ all0) (fun vm hs hal hr => safe1 (safeNull hal A226 F226_value)) pd_1 (argsL := [(.ref o207)]) rfl rfl rfl (Nat.le_of_eq rfl) at_170 fun v228 T228 h228 L228 P228 Q228 => ?_
              obtain ⟨rfl, N228, K228, E228, C228, b228, k228, gb228, gc228, gd228, V228, B228⟩ := Q228
              show Go p e below _ (T228.setTop (mkF m 173 #[.val (.int p0), .val (.int p1), .val (.int p2), .val (.long q3), .second, .val (.int kk), .val (.int pt), .val (.int ch169), .val (.int px), .unset, .val (.ref o207)] [(.ref o226)]))
              refine P228.xs (fun hA hx hy t k => XS.astore hA hx rfl (hb hy at_173) rfl rfl (l' := #[.val (.int p0), .val (.int p1), .val (.int p2), .val (.long q3), .second, .val (.int kk), .val (.int pt), .val (.int ch169), .val (.int px), .val (.ref o226), .val (.ref o207)]) rfl k) ?_
              show Go p e below _ (T228.setTop (mkF m 175 #[.val (.int p0), .val (.int p1), .val (.int p2), .val (.long q3), .second, .val (.int kk), .val (.int pt), .val (.int ch169), .val (.int px), .val (.ref o226), .val (.ref o207)] []))
              refine P228.xs (fun hA hx hy t k => XS.goto hA hx rfl (pc0 := 175) (pc' := 202) rfl (hb hy at_175) (by decide) (by decide) k) ?_
              show Go p e below _ (T228.setTop (mkF m 202 #[.val (.int p0), .val (.int p1), .val (.int p2), .val (.long q3), .second, .val (.int kk), .val (.int pt), .val (.int ch169), .val (.int px), .val (.ref o226), .val (.ref o207)] []))
              have Ac229 : Arv Z h228 o207 k207 .char (8 : Int32) [(.int (112 : Int32)), (.int ch169), (.int (111 : Int32)), (.int (112 : Int32)), (.int (101 : Int32)), (.int (114 : Int32)), (.int (116 : Int32)), (.int (121 : Int32))] (.int (0 : Int32)) := (Ac227.keep K228 (ninS ne_o207_o226 nin0))
              refine P228.xs (fun hA hx hy t k => XS.aconstNull hA hx rfl (hb hy at_202) k) ?_
              show Go p e below _ (T228.setTop (mkF m 203 #[.val (.int p0), .val (.int p1), .val (.int p2), .val (.long q3), .second, .val (.int kk), .val (.int pt), .val (.int ch169), .val (.int px), .val (.ref o226), .val (.ref o207)] [.null]))
              refine P228.xs (fun hA hx hy t k => XS.astore hA hx rfl (hb hy at_203) rfl rfl (l' := #[.val (.int p0), .val (.int p1), .val (.int p2), .val (.long q3), .second, .val (.int kk), .val (.int pt), .val (.int ch169), .val (.int px), .val (.ref o226), .val .null]) rfl k) ?_
              show Go p e below _ (T228.setTop (mkF m 205 #[.val (.int p0), .val (.int p1), .val (.int p2), .val (.long q3), .second, .val (.int kk), .val (.int pt), .val (.int ch169), .val (.int px), .val (.ref o226), .val .null] []))
              exact tS _ _ _ _  (P228.wider (by decide) (by decide)) (strOf (n := 8) rfl (latS (by decide) (latS lch169 (latS (by decide) (latS (by decide) (latS (by decide) (latS (by decide) (latS (by decide) (latS (by decide) lat0)))))))) (by decide) E228 C228 V228 B228)
            · show Go p e below _ (T215.setTop (mkF m 163 #[.val (.int p0), .val (.int p1), .val (.int p2), .val (.long q3), .second, .val (.int kk), .val (.int pt), .val (.int ch169), .val (.int px), .unset, .val (.ref o207)] [(.int ch169), (.int (2 : Int32)), (.ref o207)]))
              refine P215.stC Va215 2 (by decide) (by decide) (by decide) (Nat.le_of_ble_eq_true rfl) (x' := ch169) nch169 at_163 gz_o207 (Or.inr gw_o207) fun T230 h230 P230 W230 V230 => ?_
              have Va230 : Arv Z h230 o207 k207 .char (8 : Int32) [(.int (112 : Int32)), (.int (114 : Int32)), (.int ch169), (.int (112 : Int32)), (.int (101 : Int32)), (.int (114 : Int32)), (.int (116 : Int32)), (.int (121 : Int32))] (.int (0 : Int32)) := V230
              show Go p e below _ (T230.setTop (mkF m 164 #[.val (.int p0), .val (.int p1), .val (.int p2), .val (.long q3), .second, .val (.int kk), .val (.int pt), .val (.int ch169), .val (.int px), .unset, .val (.ref o207)] []))
              refine P230.newO (hw _ (List.mem_of_getElem? (i := 2) rfl)) (hw _ (List.mem_of_getElem? (i := 3) rfl)) (hw _ (List.mem_of_getElem? (i := 4) rfl)) at_164 (by decide) (by decide) fun T231 h231 o231 g231 P231 E231 A231 D231 => ?_
              have ne_o207_o231 : o207 ≠ o231 := Nat.ne_of_lt (Nat.lt_of_lt_of_le Va230.lt (Nat.le_of_eq g231.symm))
              have gz_o231 : Z.heap.size ≤ o231 := Nat.le_trans P230.old.1 (Nat.le_of_eq g231.symm)
              have gw_o231 : h0.size ≤ o231 := Nat.le_trans P230.kept.1 (Nat.le_of_eq g231.symm)
              have F231_coder : Fld Z h231 o231 "java/lang/String" "coder" "B" (.int (0 : Int32)) := D231 (Or.inr (hw _ (List.mem_of_getElem? (i := 28) rfl))) (ty := .byte) (by decide)
              have F231_value : Fld Z h231 o231 "java/lang/String" "value" "[B" .null := D231 (Or.inr (hw _ (List.mem_of_getElem? (i := 30) rfl))) (ty := (.array .byte)) (by decide)
              show Go p e below _ (T231.setTop (mkF m 167 #[.val (.int p0), .val (.int p1), .val (.int p2), .val (.long q3), .second, .val (.int kk), .val (.int pt), .val (.int ch169), .val (.int px), .unset, .val (.ref o207)] [(.ref o231)]))
              refine P231.xs (fun hA hx hy t k => XS.dup hA hx rfl (hb hy at_167) rfl rfl k) ?_
              show Go p e below _ (T231.setTop (mkF m 168 #[.val (.int p0), .val (.int p1), .val (.int p2), .val (.long q3), .second, .val (.int kk), .val (.int pt), .val (.int ch169), .val (.int px), .unset, .val (.ref o207)] [(.ref o231), (.ref o231)]))
              refine P231.xs (fun hA hx hy t k => XS.aload hA hx rfl (hb hy at_168) rfl rfl  k) ?_
              show Go p e below _ (T231.setTop (mkF m 170 #[.val (.int p0), .val (.int p1), .val (.int p2), .val (.long q3), .second, .val (.int kk), .val (.int pt), .val (.int ch169), .val (.int px), .unset, .val (.ref o207)] [(.ref o207), (.ref o231), (.ref o231)]))
              have Ac232 : Arv Z h231 o207 k207 .char (8 : Int32) [(.int (112 : Int32)), (.int (114 : Int32)), (.int ch169), (.int (112 : Int32)), (.int (101 : Int32)), (.int (114 : Int32)), (.int (116 : Int32)), (.int (121 : Int32))] (.int (0 : Int32)) := (Va230.ext E231)
              refine P231.specB (W := 1) (ws' := [o231]) rfl (hw _ (List.mem_of_getElem? (i := 5) rfl)) (hw _ (List.mem_of_getElem? (i := 6) rfl)) (hw _ (List.mem_of_getElem? (i := 7) rfl)) (by decide) (fun vm0 hZ => StrChars.Road.backV (W := 1) hZ (wStr hw) (kI := 4) (hw _ (List.mem_of_getElem? (i := 3) rfl)) (cs := ([(112 : Int32), (114 : Int32), ch169, (112 : Int32), (101 : Int32), (114 : Int32), (116 : Int32), (121 : Int32)] : List Int32)) (bs := ([(112 : Int32), (114 : Int32), ch169, (112 : Int32), (101 : Int32), (114 : Int32), (116 : Int32), (121 : Int32)] : List Int32).map (fun c => c.toInt8.toInt32)) (n := 8) gz_o231 P231.old.1 A231 F231_value F231_coder Ac232 (S0.ext P231.old) Pz rfl rfl (by decide) (by decide) (latS (by decide) (latS (by decide) (latS lch169 (latS (by decide) (latS (by decide) (latS (by decide) (latS (by decide) (latS (by decide) lat0)))))))) rfl (by decide) (by decide)) rfl (fun v h' L q => ⟨q.2.1, q.2.2.1⟩) (by decide) (by decide) (allS ⟨(Or.inr gw_o231), gz_o231⟩ all0) (fun vm hs hal hr => safe1 (safeNull hal A231 F231_value)) pd_1 (argsL := [(.ref o207)]) rfl rfl rfl (Nat.le_of_eq rfl) at_170 fun v233 T233 h233 L233 P233 Q233 => ?_
              obtain ⟨rfl, N233, K233, E233, C233, b233, k233, gb233, gc233, gd233, V233, B233⟩ := Q233
              show Go p e below _ (T233.setTop (mkF m 173 #[.val (.int p0), .val (.int p1), .val (.int p2), .val (.long q3), .second, .val (.int kk), .val (.int pt), .val (.int ch169), .val (.int px), .unset, .val (.ref o207)] [(.ref o231)]))
              refine P233.xs (fun hA hx hy t k => XS.astore hA hx rfl (hb hy at_173) rfl rfl (l' := #[.val (.int p0), .val (.int p1), .val (.int p2), .val (.long q3), .second, .val (.int kk), .val (.int pt), .val (.int ch169), .val (.int px), .val (.ref o231), .val (.ref o207)]) rfl k) ?_
              show Go p e below _ (T233.setTop (mkF m 175 #[.val (.int p0), .val (.int p1), .val (.int p2), .val (.long q3), .second, .val (.int kk), .val (.int pt), .val (.int ch169), .val (.int px), .val (.ref o231), .val (.ref o207)] []))
              refine P233.xs (fun hA hx hy t k => XS.goto hA hx rfl (pc0 := 175) (pc' := 202) rfl (hb hy at_175) (by decide) (by decide) k) ?_
              show Go p e below _ (T233.setTop (mkF m 202 #[.val (.int p0), .val (.int p1), .val (.int p2), .val (.long q3), .second, .val (.int kk), .val (.int pt), .val (.int ch169), .val (.int px), .val (.ref o231), .val (.ref o207)] []))
              have Ac234 : Arv Z h233 o207 k207 .char (8 : Int32) [(.int (112 : Int32)), (.int (114 : Int32)), (.int ch169), (.int (112 : Int32)), (.int (101 : Int32)), (.int (114 : Int32)), (.int (116 : Int32)), (.int (121 : Int32))] (.int (0 : Int32)) := (Ac232.keep K233 (ninS ne_o207_o231 nin0))
              refine P233.xs (fun hA hx hy t k => XS.aconstNull hA hx rfl (hb hy at_202) k) ?_
              show Go p e below _ (T233.setTop (mkF m 203 #[.val (.int p0), .val (.int p1), .val (.int p2), .val (.long q3), .second, .val (.int kk), .val (.int pt), .val (.int ch169), .val (.int px), .val (.ref o231), .val (.ref o207)] [.null]))
              refine P233.xs (fun hA hx hy t k => XS.astore hA hx rfl (hb hy at_203) rfl rfl (l' := #[.val (.int p0), .val (.int p1), .val (.int p2), .val (.long q3), .second, .val (.int kk), .val (.int pt), .val (.int ch169), .val (.int px), .val (.ref o231), .val .null]) rfl k) ?_
              show Go p e below _ (T233.setTop (mkF m 205 #[.val (.int p0), .val (.int p1), .val (.int p2), .val (.long q3), .second, .val (.int kk), .val (.int pt), .val (.int ch169), .val (.int px), .val (.ref o231), .val .null] []))
              exact tS _ _ _ _  (P233.wider (by decide) (by decide)) (strOf (n := 8) rfl (latS (by decide) (latS (by decide) (latS lch169 (latS (by decide) (latS (by decide) (latS (by decide) (latS (by decide) (latS (by decide) lat0)))))))) (by decide) E233 C233 V233 B233)
            · show Go p e below _ (T215.setTop (mkF m 163 #[.val (.int p0), .val (.int p1), .val (.int p2), .val (.long q3), .second, .val (.int kk), .val (.int pt), .val (.int ch169), .val (.int px), .unset, .val (.ref o207)] [(.int ch169), (.int (3 : Int32)), (.ref o207)]))
              refine P215.stC Va215 3 (by decide) (by decide) (by decide) (Nat.le_of_ble_eq_true rfl) (x' := ch169) nch169 at_163 gz_o207 (Or.inr gw_o207) fun T235 h235 P235 W235 V235 => ?_
              have Va235 : Arv Z h235 o207 k207 .char (8 : Int32) [(.int (112 : Int32)), (.int (114 : Int32)), (.int (111 : Int32)), (.int ch169), (.int (101 : Int32)), (.int (114 : Int32)), (.int (116 : Int32)), (.int (121 : Int32))] (.int (0 : Int32)) := V235
              show Go p e below _ (T235.setTop (mkF m 164 #[.val (.int p0), .val (.int p1), .val (.int p2), .val (.long q3), .second, .val (.int kk), .val (.int pt), .val (.int ch169), .val (.int px), .unset, .val (.ref o207)] []))
              refine P235.newO (hw _ (List.mem_of_getElem? (i := 2) rfl)) (hw _ (List.mem_of_getElem? (i := 3) rfl)) (hw _ (List.mem_of_getElem? (i := 4) rfl)) at_164 (by decide) (by decide) fun T236 h236 o236 g236 P236 E236 A236 D236 => ?_
              have ne_o207_o236 : o207 ≠ o236 := Nat.ne_of_lt (Nat.lt_of_lt_of_le Va235.lt (Nat.le_of_eq g236.symm))
              have gz_o236 : Z.heap.size ≤ o236 := Nat.le_trans P235.old.1 (Nat.le_of_eq g236.symm)
              have gw_o236 : h0.size ≤ o236 := Nat.le_trans P235.kept.1 (Nat.le_of_eq g236.symm)
              have F236_coder : Fld Z h236 o236 "java/lang/String" "coder" "B" (.int (0 : Int32)) := D236 (Or.inr (hw _ (List.mem_of_getElem? (i := 28) rfl))) (ty := .byte) (by decide)
              have F236_value : Fld Z h236 o236 "java/lang/String" "value" "[B" .null := D236 (Or.inr (hw _ (List.mem_of_getElem? (i := 30) rfl))) (ty := (.array .byte)) (by decide)
              show Go p e below _ (T236.setTop (mkF m 167 #[.val (.int p0), .val (.int p1), .val (.int p2), .val (.long q3), .second, .val (.int kk), .val (.int pt), .val (.int ch169), .val (.int px), .unset, .val (.ref o207)] [(.ref o236)]))
              refine P236.xs (fun hA hx hy t k => XS.dup hA hx rfl (hb hy at_167) rfl rfl k) ?_
              show Go p e below _ (T236.setTop (mkF m 168 #[.val (.int p0), .val (.int p1), .val (.int p2), .val (.long q3), .second, .val (.int kk), .val (.int pt), .val (.int ch169), .val (.int px), .unset, .val (.ref o207)] [(.ref o236), (.ref o236)]))
              refine P236.xs (fun hA hx hy t k => XS.aload hA hx rfl (hb hy at_168) rfl rfl  k) ?_
              show Go p e below _ (T236.setTop (mkF m 170 #[.val (.int p0), .val (.int p1), .val (.int p2), .val (.long q3), .second, .val (.int kk), .val (.int pt), .val (.int ch169), .val (.int px), .unset, .val (.ref o207)] [(.ref o207), (.ref o236), (.ref o236)]))
              have Ac237 : Arv Z h236 o207 k207 .char (8 : Int32) [(.int (112 : Int32)), (.int (114 : Int32)), (.int (111 : Int32)), (.int ch169), (.int (101 : Int32)), (.int (114 : Int32)), (.int (116 : Int32)), (.int (121 : Int32))] (.int (0 : Int32)) := (Va235.ext E236)
              refine P236.specB (W := 1) (ws' := [o236]) rfl (hw _ (List.mem_of_getElem? (i := 5) rfl)) (hw _ (List.mem_of_getElem? (i := 6) rfl)) (hw _ (List.mem_of_getElem? (i := 7) rfl)) (by decide) (fun vm0 hZ => StrChars.Road.backV (W := 1) hZ (wStr hw) (kI := 4) (hw _ (List.mem_of_getElem? (i := 3) rfl)) (cs := ([(112 : Int32), (114 : Int32), (111 : Int32), ch169, (101 : Int32), (114 : Int32), (116 : Int32), (121 : Int32)] : List Int32)) (bs := ([(112 : Int32), (114 : Int32), (111 : Int32), ch169, (101 : Int32), (114 : Int32), (116 : Int32), (121 : Int32)] : List Int32).map (fun c => c.toInt8.toInt32)) (n := 8) gz_o236 P236.old.1 A236 F236_value F236_coder Ac237 (S0.ext P236.old) Pz rfl rfl (by decide) (by decide) (latS (by decide) (latS (by decide) (latS (by decide) (latS lch169 (latS (by decide) (latS (by decide) (latS (by decide) (latS (by decide) lat0)))))))) rfl (by decide) (by decide)) rfl (fun v h' L q => ⟨q.2.1, q.2.2.1⟩) (by decide) (by decide) (allS ⟨(Or.inr gw_o236), gz_o236⟩ all0) (fun vm hs hal hr => safe1 (safeNull hal A236 F236_value)) pd_1 (argsL := [(.ref o207)]) rfl rfl rfl (Nat.le_of_eq rfl) at_170 fun v238 T238 h238 L238 P238 Q238 => ?_
              obtain ⟨rfl, N238, K238, E238, C238, b238, k238, gb238, gc238, gd238, V238, B238⟩ := Q238
              show Go p e below _ (T238.setTop (mkF m 173 #[.val (.int p0), .val (.int p1), .val (.int p2), .val (.long q3), .second, .val (.int kk), .val (.int pt), .val (.int ch169), .val (.int px), .unset, .val (.ref o207)] [(.ref o236)]))
              refine P238.xs (fun hA hx hy t k => XS.astore hA hx rfl (hb hy at_173) rfl rfl (l' := #[.val (.int p0), .val (.int p1), .val (.int p2), .val (.long q3), .second, .val (.int kk), .val (.int pt), .val (.int ch169), .val (.int px), .val (.ref o236), .val (.ref o207)]) rfl k) ?_
              show Go p e below _ (T238.setTop (mkF m 175 #[.val (.int p0), .val (.int p1), .val (.int p2), .val (.long q3), .second, .val (.int kk), .val (.int pt), .val (.int ch169), .val (.int px), .val (.ref o236), .val (.ref o207)] []))
              refine P238.xs (fun hA hx hy t k => XS.goto hA hx rfl (pc0 := 175) (pc' := 202) rfl (hb hy at_175) (by decide) (by decide) k) ?_
              show Go p e below _ (T238.setTop (mkF m 202 #[.val (.int p0), .val (.int p1), .val (.int p2), .val (.long q3), .second, .val (.int kk), .val (.int pt), .val (.int ch169), .val (.int px), .val (.ref o236), .val (.ref o207)] []))
              have Ac239 : Arv Z h238 o207 k207 .char (8 : Int32) [(.int (112 : Int32)), (.int (114 : Int32)), (.int (111 : Int32)), (.int ch169), (.int (101 : Int32)), (.int (114 : Int32)), (.int (116 : Int32)), (.int (121 : Int32))] (.int (0 : Int32)) := (Ac237.keep K238 (ninS ne_o207_o236 nin0))
              refine P238.xs (fun hA hx hy t k => XS.aconstNull hA hx rfl (hb hy at_202) k) ?_
              show Go p e below _ (T238.setTop (mkF m 203 #[.val (.int p0), .val (.int p1), .val (.int p2), .val (.long q3), .second, .val (.int kk), .val (.int pt), .val (.int ch169), .val (.int px), .val (.ref o236), .val (.ref o207)] [.null]))
              refine P238.xs (fun hA hx hy t k => XS.astore hA hx rfl (hb hy at_203) rfl rfl (l' := #[.val (.int p0), .val (.int p1), .val (.int p2), .val (.long q3), .second, .val (.int kk), .val (.int pt), .val (.int ch169), .val (.int px), .val (.ref o236), .val .null]) rfl k) ?_
              show Go p e below _ (T238.setTop (mkF m 205 #[.val (.int p0), .val (.int p1), .val (.int p2), .val (.long q3), .second, .val (.int kk), .val (.int pt), .val (.int ch169), .val (.int px), .val (.ref o236), .val .null] []))
              exact tS _ _ _ _  (P238.wider (by decide) (by decide)) (strOf (n := 8) rfl (latS (by decide) (latS (by decide) (latS (by decide) (latS lch169 (latS (by decide) (latS (by decide) (latS (by decide) (latS (by decide) lat0)))))))) (by decide) E238 C238 V238 B238)
            · show Go p e below _ (T215.setTop (mkF m 163 #[.val (.int p0), .val (.int p1), .val (.int p2), .val (.long q3), .second, .val (.int kk), .val (.int pt), .val (.int ch169), .val (.int px), .unset, .val (.ref o207)] [(.int ch169), (.int (4 : Int32)), (.ref o207)]))
              refine P215.stC Va215 4 (by decide) (by decide) (by decide) (Nat.le_of_ble_eq_true rfl) (x' := ch169) nch169 at_163 gz_o207 (Or.inr gw_o207) fun T240 h240 P240 W240 V240 => ?_
              have Va240 : Arv Z h240 o207 k207 .char (8 : Int32) [(.int (112 : Int32)), (.int (114 : Int32)), (.int (111 : Int32)), (.int (112 : Int32)), (.int ch169), (.int (114 : Int32)), (.int (116 : Int32)), (.int (121 : Int32))] (.int (0 : Int32)) := V240
              show Go p e below _ (T240.setTop (mkF m 164 #[.val (.int p0), .val (.int p1), .val (.int p2), .val (.long q3), .second, .val (.int kk), .val (.int pt), .val (.int ch169), .val (.int px), .unset, .val (.ref o207)] []))
              refine P240.newO (hw _ (List.mem_of_getElem? (i := 2) rfl)) (hw _ (List.mem_of_getElem? (i := 3) rfl)) (hw _ (List.mem_of_getElem? (i := 4) rfl)) at_164 (by decide) (by decide) fun T241 h241 o241 g241 P241 E241 A241 D241 => ?_
              have ne_o207_o241 : o207 ≠ o241 := Nat.ne_of_lt (Nat.lt_of_lt_of_le Va240.lt (Nat.le_of_eq g241.symm))
              have gz_o241 : Z.heap.size ≤ o241 := Nat.le_trans P240.old.1 (Nat.le_of_eq g241.symm)
              have gw_o241 : h0.size ≤ o241 := Nat.le_trans P240.kept.1 (Nat.le_of_eq g241.symm)
              have F241_coder : Fld Z h241 o241 "java/lang/String" "coder" "B" (.int (0 : Int32)) := D241 (Or.inr (hw _ (List.mem_of_getElem? (i := 28) rfl))) (ty := .byte) (by decide)
              have F241_value : Fld Z h241 o241 "java/lang/String" "value" "[B" .null := D241 (Or.inr (hw _ (List.mem_of_getElem? (i := 30) rfl))) (ty := (.array .byte)) (by decide)
              show Go p e below _ (T241.setTop (mkF m 167 #[.val (.int p0), .val (.int p1), .val (.int p2), .val (.long q3), .second, .val (.int kk), .val (.int pt), .val (.int ch169), .val (.int px), .unset, .val (.ref o207)] [(.ref o241)]))
              refine P241.xs (fun hA hx hy t k => XS.dup hA hx rfl (hb hy at_167) rfl rfl k) ?_
              show Go p e below _ (T241.setTop (mkF m 168 #[.val (.int p0), .val (.int p1), .val (.int p2), .val (.long q3), .second, .val (.int kk), .val (.int pt), .val (.int ch169), .val (.int px), .unset, .val (.ref o207)] [(.ref o241), (.ref o241)]))
              refine P241.xs (fun hA hx hy t k => XS.aload hA hx rfl (hb hy at_168) rfl rfl  k) ?_
              show Go p e below _ (T241.setTop (mkF m 170 #[.val (.int p0), .val (.int p1), .val (.int p2), .val (.long q3), .second, .val (.int kk), .val (.int pt), .val (.int ch169), .val (.int px), .unset, .val (.ref o207)] [(.ref o207), (.ref o241), (.ref o241)]))
              have Ac242 : Arv Z h241 o207 k207 .char (8 : Int32) [(.int (112 : Int32)), (.int (114 : Int32)), (.int (111 : Int32)), (.int (112 : Int32)), (.int ch169), (.int (114 : Int32)), (.int (116 : Int32)), (.int (121 : Int32))] (.int (0 : Int32)) := (Va240.ext E241)
              refine P241.specB (W := 1) (ws' := [o241]) rfl (hw _ (List.mem_of_getElem? (i := 5) rfl)) (hw _ (List.mem_of_getElem? (i := 6) rfl)) (hw _ (List.mem_of_getElem? (i := 7) rfl)) (by decide) (fun vm0 hZ => StrChars.Road.backV (W := 1) hZ (wStr hw) (kI := 4) (hw _ (List.mem_of_getElem? (i := 3) rfl)) (cs := ([(112 : Int32), (114 : Int32), (111 : Int32), (112 : Int32), ch169, (114 : Int32), (116 : Int32), (121 : Int32)] : List Int32)) (bs := ([(112 : Int32), (114 : Int32), (111 : Int32), (112 : Int32), ch169, (114 : Int32), (116 : Int32), (121 : Int32)] : List Int32).map (fun c => c.toInt8.toInt32)) (n := 8) gz_o241 P241.old.1 A241 F241_value F241_coder Ac242 (S0.ext P241.old) Pz rfl rfl (by decide) (by decide) (latS (by decide) (latS (by decide) (latS (by decide) (latS (by decide) (latS lch169 (latS (by decide) (latS (by decide) (latS (by decide) lat0)))))))) rfl (by decide) (by decide)) rfl (fun v h' L q => ⟨q.2.1, q.2.2.1⟩) (by decide) (by decide) (allS ⟨(Or.inr gw_o241), gz_o241⟩ all0) (fun vm hs hal hr => safe1 (safeNull hal A241 F241_value)) pd_1 (argsL := [(.ref o207)]) rfl rfl rfl (Nat.le_of_eq rfl) at_170 fun v243 T243 h243 L243 P243 Q243 => ?_
              obtain ⟨rfl, N243, K243, E243, C243, b243, k243, gb243, gc243, gd243, V243, B243⟩ := Q243
              show Go p e below _ (T243.setTop (mkF m 173 #[.val (.int p0), .val (.int p1), .val (.int p2), .val (.long q3), .second, .val (.int kk), .val (.int pt), .val (.int ch169), .val (.int px), .unset, .val (.ref o207)] [(.ref o241)]))
              refine P243.xs (fun hA hx hy t k => XS.astore hA hx rfl (hb hy at_173) rfl rfl (l' := #[.val (.int p0), .val (.int p1), .val (.int p2), .val (.long q3), .second, .val (.int kk), .val (.int pt), .val (.int ch169), .val (.int px), .val (.ref o241), .val (.ref o207)]) rfl k) ?_
              show Go p e below _ (T243.setTop (mkF m 175 #[.val (.int p0), .val (.int p1), .val (.int p2), .val (.long q3), .second, .val (.int kk), .val (.int pt), .val (.int ch169), .val (.int px), .val (.ref o241), .val (.ref o207)] []))
              refine P243.xs (fun hA hx hy t k => XS.goto hA hx rfl (pc0 := 175) (pc' := 202) rfl (hb hy at_175) (by decide) (by decide) k) ?_
              show Go p e below _ (T243.setTop (mkF m 202 #[.val (.int p0), .val (.int p1), .val (.int p2), .val (.long q3), .second, .val (.int kk), .val (.int pt), .val (.int ch169), .val (.int px), .val (.ref o241), .val (.ref o207)] []))
              have Ac244 : Arv Z h243 o207 k207 .char (8 : Int32) [(.int (112 : Int32)), (.int (114 : Int32)), (.int (111 : Int32)), (.int (112 : Int32)), (.int ch169), (.int (114 : Int32)), (.int (116 : Int32)), (.int (121 : Int32))] (.int (0 : Int32)) := (Ac242.keep K243 (ninS ne_o207_o241 nin0))
              refine P243.xs (fun hA hx hy t k => XS.aconstNull hA hx rfl (hb hy at_202) k) ?_
              show Go p e below _ (T243.setTop (mkF m 203 #[.val (.int p0), .val (.int p1), .val (.int p2), .val (.long q3), .second, .val (.int kk), .val (.int pt), .val (.int ch169), .val (.int px), .val (.ref o241), .val (.ref o207)] [.null]))
              refine P243.xs (fun hA hx hy t k => XS.astore hA hx rfl (hb hy at_203) rfl rfl (l' := #[.val (.int p0), .val (.int p1), .val (.int p2), .val (.long q3), .second, .val (.int kk), .val (.int pt), .val (.int ch169), .val (.int px), .val (.ref o241), .val .null]) rfl k) ?_
              show Go p e below _ (T243.setTop (mkF m 205 #[.val (.int p0), .val (.int p1), .val (.int p2), .val (.long q3), .second, .val (.int kk), .val (.int pt), .val (.int ch169), .val (.int px), .val (.ref o241), .val .null] []))
              exact tS _ _ _ _  (P243.wider (by decide) (by decide)) (strOf (n := 8) rfl (latS (by decide) (latS (by decide) (latS (by decide) (latS (by decide) (latS lch169 (latS (by decide) (latS (by decide) (latS (by decide) lat0)))))))) (by decide) E243 C243 V243 B243)
            · show Go p e below _ (T215.setTop (mkF m 163 #[.val (.int p0), .val (.int p1), .val (.int p2), .val (.long q3), .second, .val (.int kk), .val (.int pt), .val (.int ch169), .val (.int px), .unset, .val (.ref o207)] [(.int ch169), (.int (5 : Int32)), (.ref o207)]))
              refine P215.stC Va215 5 (by decide) (by decide) (by decide) (Nat.le_of_ble_eq_true rfl) (x' := ch169) nch169 at_163 gz_o207 (Or.inr gw_o207) fun T245 h245 P245 W245 V245 => ?_
              have Va245 : Arv Z h245 o207 k207 .char (8 : Int32) [(.int (112 : Int32)), (.int (114 : Int32)), (.int (111 : Int32)), (.int (112 : Int32)), (.int (101 : Int32)), (.int ch169), (.int (116 : Int32)), (.int (121 : Int32))] (.int (0 : Int32)) := V245
              show Go p e below _ (T245.setTop (mkF m 164 #[.val (.int p0), .val (.int p1), .val (.int p2), .val (.long q3), .second, .val (.int kk), .val (.int pt), .val (.int ch169), .val (.int px), .unset, .val (.ref o207)] []))
              refine P245.newO (hw _ (List.mem_of_getElem? (i := 2) rfl)) (hw _ (List.mem_of_getElem? (i := 3) rfl)) (hw _ (List.mem_of_getElem? (i := 4) rfl)) at_164 (by decide) (by decide) fun T246 h246 o246 g246 P246 E246 A246 D246 => ?_
              have ne_o207_o246 : o207 ≠ o246 := Nat.ne_of_lt (Nat.lt_of_lt_of_le Va245.lt (Nat.le_of_eq g246.symm))
              have gz_o246 : Z.heap.size ≤ o246 := Nat.le_trans P245.old.1 (Nat.le_of_eq g246.symm)
              have gw_o246 : h0.size ≤ o246 := Nat.le_trans P245.kept.1 (Nat.le_of_eq g246.symm)
              have F246_coder : Fld Z h246 o246 "java/lang/String" "coder" "B" (.int (0 : Int32)) := D246 (Or.inr (hw _ (List.mem_of_getElem? (i := 28) rfl))) (ty := .byte) (by decide)
              have F246_value : Fld Z h246 o246 "java/lang/String" "value" "[B" .null := D246 (Or.inr (hw _ (List.mem_of_getElem? (i := 30) rfl))) (ty := (.array .byte)) (by decide)
              show Go p e below _ (T246.setTop (mkF m 167 #[.val (.int p0), .val (.int p1), .val (.int p2), .val (.long q3), .second, .val (.int kk), .val (.int pt), .val (.int ch169), .val (.int px), .unset, .val (.ref o207)] [(.ref o246)]))
              refine P246.xs (fun hA hx hy t k => XS.dup hA hx rfl (hb hy at_167) rfl rfl k) ?_
              show Go p e below _ (T246.setTop (mkF m 168 #[.val (.int p0), .val (.int p1), .val (.int p2), .val (.long q3), .second, .val (.int kk), .val (.int pt), .val (.int ch169), .val (.int px), .unset, .val (.ref o207)] [(.ref o246), (.ref o246)]))
              refine P246.xs (fun hA hx hy t k => XS.aload hA hx rfl (hb hy at_168) rfl rfl  k) ?_
              show Go p e below _ (T246.setTop (mkF m 170 #[.val (.int p0), .val (.int p1), .val (.int p2), .val (.long q3), .second, .val (.int kk), .val (.int pt), .val (.int ch169), .val (.int px), .unset, .val (.ref o207)] [(.ref o207), (.ref o246), (.ref o246)]))
              have Ac247 : Arv Z h246 o207 k207 .char (8 : Int32) [(.int (112 : Int32)), (.int (114 : Int32)), (.int (111 : Int32)), (.int (112 : Int32)), (.int (101 : Int32)), (.int ch169), (.int (116 : Int32)), (.int (121 : Int32))] (.int (0 : Int32)) := (Va245.ext E246)
              refine P246.specB (W := 1) (ws' := [o246]) rfl (hw _ (List.mem_of_getElem? (i := 5) rfl)) (hw _ (List.mem_of_getElem? (i := 6) rfl)) (hw _ (List.mem_of_getElem? (i := 7) rfl)) (by decide) (fun vm0 hZ => StrChars.Road.backV (W := 1) hZ (wStr hw) (kI := 4) (hw _ (List.mem_of_getElem? (i := 3) rfl)) (cs := ([(112 : Int32), (114 : Int32), (111 : Int32), (112 : Int32), (101 : Int32), ch169, (116 : Int32), (121 : Int32)] : List Int32)) (bs := ([(112 : Int32), (114 : Int32), (111 : Int32), (112 : Int32), (101 : Int32), ch169, (116 : Int32), (121 : Int32)] : List Int32).map (fun c => c.toInt8.toInt32)) (n := 8) gz_o246 P246.old.1 A246 F246_value F246_coder Ac247 (S0.ext P246.old) Pz rfl rfl (by decide) (by decide) (latS (by decide) (latS (by decide) (latS (by decide) (latS (by decide) (latS (by decide) (latS lch169 (latS (by decide) (latS (by decide) lat0)))))))) rfl (by decide) (by decide)) rfl (fun v h' L q => ⟨q.2.1, q.2.2.1⟩) (by decide) (by decide) (allS ⟨(Or.inr gw_o246), gz_o246⟩ all0) (fun vm hs hal hr => safe1 (safeNull hal A246 F246_value)) pd_1 (argsL := [(.ref o207)]) rfl rfl rfl (Nat.le_of_eq rfl) at_170 fun v248 T248 h248 L248 P248 Q248 => ?_
              obtain ⟨rfl, N248, K248, E248, C248, b248, k248, gb248, gc248, gd248, V248, B248⟩ := Q248
              show Go p e below _ (T248.setTop (mkF m 173 #[.val (.int p0), .val (.int p1), .val (.int p2), .val (.long q3), .second, .val (.int kk), .val (.int pt), .val (.int ch169), .val (.int px), .unset, .val (.ref o207)] [(.ref o246)]))
              refine P248.xs (fun hA hx hy t k => XS.astore hA hx rfl (hb hy at_173) rfl rfl (l' := #[.val (.int p0), .val (.int p1), .val (.int p2), .val (.long q3), .second, .val (.int kk), .val (.int pt), .val (.int ch169), .val (.int px), .val (.ref o246), .val (.ref o207)]) rfl k) ?_
              show Go p e below _ (T248.setTop (mkF m 175 #[.val (.int p0), .val (.int p1), .val (.int p2), .val (.long q3), .second, .val (.int kk), .val (.int pt), .val (.int ch169), .val (.int px), .val (.ref o246), .val (.ref o207)] []))
              refine P248.xs (fun hA hx hy t k => XS.goto hA hx rfl (pc0 := 175) (pc' := 202) rfl (hb hy at_175) (by decide) (by decide) k) ?_
              show Go p e below _ (T248.setTop (mkF m 202 #[.val (.int p0), .val (.int p1), .val (.int p2), .val (.long q3), .second, .val (.int kk), .val (.int pt), .val (.int ch169), .val (.int px), .val (.ref o246), .val (.ref o207)] []))
              have Ac249 : Arv Z h248 o207 k207 .char (8 : Int32) [(.int (112 : Int32)), (.int (114 : Int32)), (.int (111 : Int32)), (.int (112 : Int32)), (.int (101 : Int32)), (.int ch169), (.int (116 : Int32)), (.int (121 : Int32))] (.int (0 : Int32)) := (Ac247.keep K248 (ninS ne_o207_o246 nin0))
              refine P248.xs (fun hA hx hy t k => XS.aconstNull hA hx rfl (hb hy at_202) k) ?_
              show Go p e below _ (T248.setTop (mkF m 203 #[.val (.int p0), .val (.int p1), .val (.int p2), .val (.long q3), .second, .val (.int kk), .val (.int pt), .val (.int ch169), .val (.int px), .val (.ref o246), .val (.ref o207)] [.null]))
              refine P248.xs (fun hA hx hy t k => XS.astore hA hx rfl (hb hy at_203) rfl rfl (l' := #[.val (.int p0), .val (.int p1), .val (.int p2), .val (.long q3), .second, .val (.int kk), .val (.int pt), .val (.int ch169), .val (.int px), .val (.ref o246), .val .null]) rfl k) ?_
              show Go p e below _ (T248.setTop (mkF m 205 #[.val (.int p0), .val (.int p1), .val (.int p2), .val (.long q3), .second, .val (.int kk), .val (.int pt), .val (.int ch169), .val (.int px), .val (.ref o246), .val .null] []))
              exact tS _ _ _ _  (P248.wider (by decide) (by decide)) (strOf (n := 8) rfl (latS (by decide) (latS (by decide) (latS (by decide) (latS (by decide) (latS (by decide) (latS lch169 (latS (by decide) (latS (by decide) lat0)))))))) (by decide) E248 C248 V248 B248)
            · show Go p e below _ (T215.setTop (mkF m 163 #[.val (.int p0), .val (.int p1), .val (.int p2), .val (.long q3), .second, .val (.int kk), .val (.int pt), .val (.int ch169), .val (.int px), .unset, .val (.ref o207)] [(.int ch169), (.int (6 : Int32)), (.ref o207)]))
              refine P215.stC Va215 6 (by decide) (by decide) (by decide) (Nat.le_of_ble_eq_true rfl) (x' := ch169) nch169 at_163 gz_o207 (Or.inr gw_o207) fun T250 h250 P250 W250 V250 => ?_
              have Va250 : Arv Z h250 o207 k207 .char (8 : Int32) [(.int (112 : Int32)), (.int (114 : Int32)), (.int (111 : Int32)), (.int (112 : Int32)), (.int (101 : Int32)), (.int (114 : Int32)), (.int ch169), (.int (121 : Int32))] (.int (0 : Int32)) := V250
              show Go p e below _ (T250.setTop (mkF m 164 #[.val (.int p0), .val (.int p1), .val (.int p2), .val (.long q3), .second, .val (.int kk), .val (.int pt), .val (.int ch169), .val (.int px), .unset, .val (.ref o207)] []))
              refine P250.newO (hw _ (List.mem_of_getElem? (i := 2) rfl)) (hw _ (List.mem_of_getElem? (i := 3) rfl)) (hw _ (List.mem_of_getElem? (i := 4) rfl)) at_164 (by decide) (by decide) fun T251 h251 o251 g251 P251 E251 A251 D251 => ?_
              have ne_o207_o251 : o207 ≠ o251 := Nat.ne_of_lt (Nat.lt_of_lt_of_le Va250.lt (Nat.le_of_eq g251.symm))
              have gz_o251 : Z.heap.size ≤ o251 := Nat.le_trans P250.old.1 (Nat.le_of_eq g251.symm)
              have gw_o251 : h0.size ≤ o251 := Nat.le_trans P250.kept.1 (Nat.le_of_eq g251.symm)
              have F251_coder : Fld Z h251 o251 "java/lang/String" "coder" "B" (.int (0 : Int32)) := D251 (Or.inr (hw _ (List.mem_of_getElem? (i := 28) rfl))) (ty := .byte) (by decide)
              have F251_value : Fld Z h251 o251 "java/lang/String" "value" "[B" .null := D251 (Or.inr (hw _ (List.mem_of_getElem? (i := 30) rfl))) (ty := (.array .byte)) (by decide)
              show Go p e below _ (T251.setTop (mkF m 167 #[.val (.int p0), .val (.int p1), .val (.int p2), .val (.long q3), .second, .val (.int kk), .val (.int pt), .val (.int ch169), .val (.int px), .unset, .val (.ref o207)] [(.ref o251)]))
              refine P251.xs (fun hA hx hy t k => XS.dup hA hx rfl (hb hy at_167) rfl rfl k) ?_
              show Go p e below _ (T251.setTop (mkF m 168 #[.val (.int p0), .val (.int p1), .val (.int p2), .val (.long q3), .second, .val (.int kk), .val (.int pt), .val (.int ch169), .val (.int px), .unset, .val (.ref o207)] [(.ref o251), (.ref o251)]))
              refine P251.xs (fun hA hx hy t k => XS.aload hA hx rfl (hb hy at_168) rfl rfl  k) ?_
              show Go p e below _ (T251.setTop (mkF m 170 #[.val (.int p0), .val (.int p1), .val (.int p2), .val (.long q3), .second, .val (.int kk), .val (.int pt), .val (.int ch169), .val (.int px), .unset, .val (.ref o207)] [(.ref o207), (.ref o251), (.ref o251)]))
              have Ac252 : Arv Z h251 o207 k207 .char (8 : Int32) [(.int (112 : Int32)), (.int (114 : Int32)), (.int (111 : Int32)), (.int (112 : Int32)), (.int (101 : Int32)), (.int (114 : Int32)), (.int ch169), (.int (121 : Int32))] (.int (0 : Int32)) := (Va250.ext E251)
              refine P251.specB (W := 1) (ws' := [o251]) rfl (hw _ (List.mem_of_getElem? (i := 5) rfl)) (hw _ (List.mem_of_getElem? (i := 6) rfl)) (hw _ (List.mem_of_getElem? (i := 7) rfl)) (by decide) (fun vm0 hZ => StrChars.Road.backV (W := 1) hZ (wStr hw) (kI := 4) (hw _ (List.mem_of_getElem? (i := 3) rfl)) (cs := ([(112 : Int32), (114 : Int32), (111 : Int32), (112 : Int32), (101 : Int32), (114 : Int32), ch169, (121 : Int32)] : List Int32)) (bs := ([(112 : Int32), (114 : Int32), (111 : Int32), (112 : Int32), (101 : Int32), (114 : Int32), ch169, (121 : Int32)] : List Int32).map (fun c => c.toInt8.toInt32)) (n := 8) gz_o251 P251.old.1 A251 F251_value F251_coder Ac252 (S0.ext P251.old) Pz rfl rfl (by decide) (by decide) (latS (by decide) (latS (by decide) (latS (by decide) (latS (by decide) (latS (by decide) (latS (by decide) (latS lch169 (latS (by decide) lat0)))))))) rfl (by decide) (by decide)) rfl (fun v h' L q => ⟨q.2.1, q.2.2.1⟩) (by decide) (by decide) (allS ⟨(Or.inr gw_o251), gz_o251⟩ all0) (fun vm hs hal hr => safe1 (safeNull hal A251 F251_value)) pd_1 (argsL := [(.ref o207)]) rfl rfl rfl (Nat.le_of_eq rfl) at_170 fun v253 T253 h253 L253 P253 Q253 => ?_
              obtain ⟨rfl, N253, K253, E253, C253, b253, k253, gb253, gc253, gd253, V253, B253⟩ := Q253
              show Go p e below _ (T253.setTop (mkF m 173 #[.val (.int p0), .val (.int p1), .val (.int p2), .val (.long q3), .second, .val (.int kk), .val (.int pt), .val (.int ch169), .val (.int px), .unset, .val (.ref o207)] [(.ref o251)]))
              refine P253.xs (fun hA hx hy t k => XS.astore hA hx rfl (hb hy at_173) rfl rfl (l' := #[.val (.int p0), .val (.int p1), .val (.int p2), .val (.long q3), .second, .val (.int kk), .val (.int pt), .val (.int ch169), .val (.int px), .val (.ref o251), .val (.ref o207)]) rfl k) ?_
              show Go p e below _ (T253.setTop (mkF m 175 #[.val (.int p0), .val (.int p1), .val (.int p2), .val (.long q3), .second, .val (.int kk), .val (.int pt), .val (.int ch169), .val (.int px), .val (.ref o251), .val (.ref o207)] []))
              refine P253.xs (fun hA hx hy t k => XS.goto hA hx rfl (pc0 := 175) (pc' := 202) rfl (hb hy at_175) (by decide) (by decide) k) ?_
              show Go p e below _ (T253.setTop (mkF m 202 #[.val (.int p0), .val (.int p1), .val (.int p2), .val (.long q3), .second, .val (.int kk), .val (.int pt), .val (.int ch169), .val (.int px), .val (.ref o251), .val (.ref o207)] []))
              have Ac254 : Arv Z h253 o207 k207 .char (8 : Int32) [(.int (112 : Int32)), (.int (114 : Int32)), (.int (111 : Int32)), (.int (112 : Int32)), (.int (101 : Int32)), (.int (114 : Int32)), (.int ch169), (.int (121 : Int32))] (.int (0 : Int32)) := (Ac252.keep K253 (ninS ne_o207_o251 nin0))
              refine P253.xs (fun hA hx hy t k => XS.aconstNull hA hx rfl (hb hy at_202) k) ?_
              show Go p e below _ (T253.setTop (mkF m 203 #[.val (.int p0), .val (.int p1), .val (.int p2), .val (.long q3), .second, .val (.int kk), .val (.int pt), .val (.int ch169), .val (.int px), .val (.ref o251), .val (.ref o207)] [.null]))
              refine P253.xs (fun hA hx hy t k => XS.astore hA hx rfl (hb hy at_203) rfl rfl (l' := #[.val (.int p0), .val (.int p1), .val (.int p2), .val (.long q3), .second, .val (.int kk), .val (.int pt), .val (.int ch169), .val (.int px), .val (.ref o251), .val .null]) rfl k) ?_
              show Go p e below _ (T253.setTop (mkF m 205 #[.val (.int p0), .val (.int p1), .val (.int p2), .val (.long q3), .second, .val (.int kk), .val (.int pt), .val (.int ch169), .val (.int px), .val (.ref o251), .val .null] []))
              exact tS _ _ _ _  (P253.wider (by decide) (by decide)) (strOf (n := 8) rfl (latS (by decide) (latS (by decide) (latS (by decide) (latS (by decide) (latS (by decide) (latS (by decide) (latS lch169 (latS (by decide) lat0)))))))) (by decide) E253 C253 V253 B253)
            · show Go p e below _ (T215.setTop (mkF m 163 #[.val (.int p0), .val (.int p1), .val (.int p2), .val (.long q3), .second, .val (.int kk), .val (.int pt), .val (.int ch169), .val (.int px), .unset, .val (.ref o207)] [(.int ch169), (.int (7 : Int32)), (.ref o207)]))
              refine P215.stC Va215 7 (by decide) (by decide) (by decide) (Nat.le_of_ble_eq_true rfl) (x' := ch169) nch169 at_163 gz_o207 (Or.inr gw_o207) fun T255 h255 P255 W255 V255 => ?_
              have Va255 : Arv Z h255 o207 k207 .char (8 : Int32) [(.int (112 : Int32)), (.int (114 : Int32)), (.int (111 : Int32)), (.int (112 : Int32)), (.int (101 : Int32)), (.int (114 : Int32)), (.int (116 : Int32)), (.int ch169)] (.int (0 : Int32)) := V255
              show Go p e below _ (T255.setTop (mkF m 164 #[.val (.int p0), .val (.int p1), .val (.int p2), .val (.long q3), .second, .val (.int kk), .val (.int pt), .val (.int ch169), .val (.int px), .unset, .val (.ref o207)] []))
              refine P255.newO (hw _ (List.mem_of_getElem? (i := 2) rfl)) (hw _ (List.mem_of_getElem? (i := 3) rfl)) (hw _ (List.mem_of_getElem? (i := 4) rfl)) at_164 (by decide) (by decide) fun T256 h256 o256 g256 P256 E256 A256 D256 => ?_
              have ne_o207_o256 : o207 ≠ o256 := Nat.ne_of_lt (Nat.lt_of_lt_of_le Va255.lt (Nat.le_of_eq g256.symm))
              have gz_o256 : Z.heap.size ≤ o256 := Nat.le_trans P255.old.1 (Nat.le_of_eq g256.symm)
              have gw_o256 : h0.size ≤ o256 := Nat.le_trans P255.kept.1 (Nat.le_of_eq g256.symm)
              have F256_coder : Fld Z h256 o256 "java/lang/String" "coder" "B" (.int (0 : Int32)) := D256 (Or.inr (hw _ (List.mem_of_getElem? (i := 28) rfl))) (ty := .byte) (by decide)
              have F256_value : Fld Z h256 o256 "java/lang/String" "value" "[B" .null := D256 (Or.inr (hw _ (List.mem_of_getElem? (i := 30) rfl))) (ty := (.array .byte)) (by decide)
              show Go p e below _ (T256.setTop (mkF m 167 #[.val (.int p0), .val (.int p1), .val (.int p2), .val (.long q3), .second, .val (.int kk), .val (.int pt), .val (.int ch169), .val (.int px), .unset, .val (.ref o207)] [(.ref o256)]))
              refine P256.xs (fun hA hx hy t k => XS.dup hA hx rfl (hb hy at_167) rfl rfl k) ?_
              show Go p e below _ (T256.setTop (mkF m 168 #[.val (.int p0), .val (.int p1), .val (.int p2), .val (.long q3), .second, .val (.int kk), .val (.int pt), .val (.int ch169), .val (.int px), .unset, .val (.ref o207)] [(.ref o256), (.ref o256)]))
              refine P256.xs (fun hA hx hy t k => XS.aload hA hx rfl (hb hy at_168) rfl rfl  k) ?_
              show Go p e below _ (T256.setTop (mkF m 170 #[.val (.int p0), .val (.int p1), .val (.int p2), .val (.long q3), .second, .val (.int kk), .val (.int pt), .val (.int ch169), .val (.int px), .unset, .val (.ref o207)] [(.ref o207), (.ref o256), (.ref o256)]))
              have Ac257 : Arv Z h256 o207 k207 .char (8 : Int32) [(.int (112 : Int32)), (.int (114 : Int32)), (.int (111 : Int32)), (.int (112 : Int32)), (.int (101 : Int32)), (.int (114 : Int32)), (.int (116 : Int32)), (.int ch169)] (.int (0 : Int32)) := (Va255.ext E256)
              refine P256.specB (W := 1) (ws' := [o256]) rfl (hw _ (List.mem_of_getElem? (i := 5) rfl)) (hw _ (List.mem_of_getElem? (i := 6) rfl)) (hw _ (List.mem_of_getElem? (i := 7) rfl)) (by decide) (fun vm0 hZ => StrChars.Road.backV (W := 1) hZ (wStr hw) (kI := 4) (hw _ (List.mem_of_getElem? (i := 3) rfl)) (cs := ([(112 : Int32), (114 : Int32), (111 : Int32), (112 : Int32), (101 : Int32), (114 : Int32), (116 : Int32), ch169] : List Int32)) (bs := ([(112 : Int32), (114 : Int32), (111 : Int32), (112 : Int32), (101 : Int32), (114 : Int32), (116 : Int32), ch169] : List Int32).map (fun c => c.toInt8.toInt32)) (n := 8) gz_o256 P256.old.1 A256 F256_value F256_coder Ac257 (S0.ext P256.old) Pz rfl rfl (by decide) (by decide) (latS (by decide) (latS (by decide) (latS (by decide) (latS (by decide) (latS (by decide) (latS (by decide) (latS (by decide) (latS lch169 lat0)))))))) rfl (by decide) (by decide)) rfl (fun v h' L q => ⟨q.2.1, q.2.2.1⟩) (by decide) (by decide) (allS ⟨(Or.inr gw_o256), gz_o256⟩ all0) (fun vm hs hal hr => safe1 (safeNull hal A256 F256_value)) pd_1 (argsL := [(.ref o207)]) rfl rfl rfl (Nat.le_of_eq rfl) at_170 fun v258 T258 h258 L258 P258 Q258 => ?_
              obtain ⟨rfl, N258, K258, E258, C258, b258, k258, gb258, gc258, gd258, V258, B258⟩ := Q258
              show Go p e below _ (T258.setTop (mkF m 173 #[.val (.int p0), .val (.int p1), .val (.int p2), .val (.long q3), .second, .val (.int kk), .val (.int pt), .val (.int ch169), .val (.int px), .unset, .val (.ref o207)] [(.ref o256)]))
              refine P258.xs (fun hA hx hy t k => XS.astore hA hx rfl (hb hy at_173) rfl rfl (l' := #[.val (.int p0), .val (.int p1), .val (.int p2), .val (.long q3), .second, .val (.int kk), .val (.int pt), .val (.int ch169), .val (.int px), .val (.ref o256), .val (.ref o207)]) rfl k) ?_
              show Go p e below _ (T258.setTop (mkF m 175 #[.val (.int p0), .val (.int p1), .val (.int p2), .val (.long q3), .second, .val (.int kk), .val (.int pt), .val (.int ch169), .val (.int px), .val (.ref o256), .val (.ref o207)] []))
              refine P258.xs (fun hA hx hy t k => XS.goto hA hx rfl (pc0 := 175) (pc' := 202) rfl (hb hy at_175) (by decide) (by decide) k) ?_
              show Go p e below _ (T258.setTop (mkF m 202 #[.val (.int p0), .val (.int p1), .val (.int p2), .val (.long q3), .second, .val (.int kk), .val (.int pt), .val (.int ch169), .val (.int px), .val (.ref o256), .val (.ref o207)] []))
              have Ac259 : Arv Z h258 o207 k207 .char (8 : Int32) [(.int (112 : Int32)), (.int (114 : Int32)), (.int (111 : Int32)), (.int (112 : Int32)), (.int (101 : Int32)), (.int (114 : Int32)), (.int (116 : Int32)), (.int ch169)] (.int (0 : Int32)) := (Ac257.keep K258 (ninS ne_o207_o256 nin0))
              refine P258.xs (fun hA hx hy t k => XS.aconstNull hA hx rfl (hb hy at_202) k) ?_
              show Go p e below _ (T258.setTop (mkF m 203 #[.val (.int p0), .val (.int p1), .val (.int p2), .val (.long q3), .second, .val (.int kk), .val (.int pt), .val (.int ch169), .val (.int px), .val (.ref o256), .val (.ref o207)] [.null]))
              refine P258.xs (fun hA hx hy t k => XS.astore hA hx rfl (hb hy at_203) rfl rfl (l' := #[.val (.int p0), .val (.int p1), .val (.int p2), .val (.long q3), .second, .val (.int kk), .val (.int pt), .val (.int ch169), .val (.int px), .val (.ref o256), .val .null]) rfl k) ?_
              show Go p e below _ (T258.setTop (mkF m 205 #[.val (.int p0), .val (.int p1), .val (.int p2), .val (.long q3), .second, .val (.int kk), .val (.int pt), .val (.int ch169), .val (.int px), .val (.ref o256), .val .null] []))
              exact tS _ _ _ _  (P258.wider (by decide) (by decide)) (strOf (n := 8) rfl (latS (by decide) (latS (by decide) (latS (by decide) (latS (by decide) (latS (by decide) (latS (by decide) (latS (by decide) (latS lch169 lat0)))))))) (by decide) E258 C258 V258 B258)
        · refine P168.xs (fun hA hx hy t k => XS.icmpYes hA hx rfl (pc0 := 98) (pc' := 178) rfl (hb hy at_98) rfl (feq hk1).2 (by decide) (by decide) k) ?_
          show Go p e below _ (T168.setTop (mkF m 178 #[.val (.int p0), .val (.int p1), .val (.int p2), .val (.long q3), .second, .val (.int kk), .val (.int pt), .val (.int ch169), .val (.int px), .unset, .unset] []))
          refine P168.xs (fun hA hx hy t k => XS.iload hA hx rfl (hb hy at_178) rfl  k) ?_
          show Go p e below _ (T168.setTop (mkF m 180 #[.val (.int p0), .val (.int p1), .val (.int p2), .val (.long q3), .second, .val (.int kk), .val (.int pt), .val (.int ch169), .val (.int px), .unset, .unset] [(.int kk)]))
          refine P168.xs (fun hA hx hy t k => XS.iconst hA hx rfl (hb hy at_180) k) ?_
          show Go p e below _ (T168.setTop (mkF m 181 #[.val (.int p0), .val (.int p1), .val (.int p2), .val (.long q3), .second, .val (.int kk), .val (.int pt), .val (.int ch169), .val (.int px), .unset, .unset] [(.int (2 : Int32)), (.int kk)]))
          by_cases hk2 : kk = 2
          · refine P168.xs (fun hA hx hy t k => XS.icmpNo hA hx rfl (hb hy at_181) rfl (teq hk2).2 k) ?_
            show Go p e below _ (T168.setTop (mkF m 184 #[.val (.int p0), .val (.int p1), .val (.int p2), .val (.long q3), .second, .val (.int kk), .val (.int pt), .val (.int ch169), .val (.int px), .unset, .unset] []))
            refine P168.xs (fun hA hx hy t k => XS.lloadN hA hx rfl (hb hy at_184) rfl  k) ?_
            show Go p e below _ (T168.setTop (mkF m 185 #[.val (.int p0), .val (.int p1), .val (.int p2), .val (.long q3), .second, .val (.int kk), .val (.int pt), .val (.int ch169), .val (.int px), .unset, .unset] [(.long q3)]))
            refine P168.xs (fun hA hx hy t k => XS.iloadN hA hx rfl (hb hy at_185) rfl  k) ?_
            show Go p e below _ (T168.setTop (mkF m 186 #[.val (.int p0), .val (.int p1), .val (.int p2), .val (.long q3), .second, .val (.int kk), .val (.int pt), .val (.int ch169), .val (.int px), .unset, .unset] [(.int p0), (.long q3)]))
            refine P168.xs (fun hA hx hy t k => XS.iconst hA hx rfl (hb hy at_186) k) ?_
            show Go p e below _ (T168.setTop (mkF m 187 #[.val (.int p0), .val (.int p1), .val (.int p2), .val (.long q3), .second, .val (.int kk), .val (.int pt), .val (.int ch169), .val (.int px), .unset, .unset] [(.int (2 : Int32)), (.int p0), (.long q3)]))
            refine P168.xs (fun hA hx hy t k => XS.iushr hA hx rfl (hb hy at_187) rfl k) ?_
            show Go p e below _ (T168.setTop (mkF m 188 #[.val (.int p0), .val (.int p1), .val (.int p2), .val (.long q3), .second, .val (.int kk), .val (.int pt), .val (.int ch169), .val (.int px), .unset, .unset] [(.int ((p0.toUInt32 >>> ((2 : Int32) &&& 31).toUInt32).toInt32)), (.long q3)]))
            refine P168.xs (fun hA hx hy t k => XS.bipush hA hx rfl (hb hy at_188) k) ?_
            show Go p e below _ (T168.setTop (mkF m 190 #[.val (.int p0), .val (.int p1), .val (.int p2), .val (.long q3), .second, .val (.int kk), .val (.int pt), .val (.int ch169), .val (.int px), .unset, .unset] [(.int (9 : Int32)), (.int ((p0.toUInt32 >>> ((2 : Int32) &&& 31).toUInt32).toInt32)), (.long q3)]))
            refine P168.st (fun vm0 locs X hx hy t k => Jvm.RoadKit.iremM X hx rfl (hb hy at_190) rfl (by decide) k) ?_
            show Go p e below _ (T168.setTop (mkF m 191 #[.val (.int p0), .val (.int p1), .val (.int p2), .val (.long q3), .second, .val (.int kk), .val (.int pt), .val (.int ch169), .val (.int px), .unset, .unset] [(.int (((p0.toUInt32 >>> ((2 : Int32) &&& 31).toUInt32).toInt32) % (9 : Int32))), (.long q3)]))
            have hn9 := rem9 (ushr_nn p0 2 (by decide) (by decide) (y := 2) rfl)
            refine P168.callS (hw _ (List.mem_of_getElem? (i := 70) rfl)) (hw _ (List.mem_of_getElem? (i := 71) rfl)) (hw _ (List.mem_of_getElem? (i := 72) rfl)) (hw _ (List.mem_of_getElem? (i := 73) rfl)) (by decide) (mDrawn l Z a0 hw hEL zc S0 Pz w_CLASS s_CLASS S_CLASS E_CLASS F_CLASS X_CLASS w_PROPERTY s_PROPERTY S_PROPERTY E_PROPERTY F_PROPERTY X_PROPERTY w_V k_V S_V E_V A_V q3 (((p0.toUInt32 >>> ((2 : Int32) &&& 31).toUInt32).toInt32) % (9 : Int32)) h168 P168.old hn9) (W := 0) (by decide) (by decide) (by decide) (by decide) all0 pd_5 (argsL := [(.long q3), (.int (((p0.toUInt32 >>> ((2 : Int32) &&& 31).toUInt32).toInt32) % (9 : Int32)))]) rfl rfl rfl (Nat.le_of_eq rfl) at_191 fun v260 T260 h260 P260 K260 Q260 => ?_
            obtain ⟨o260, cs260, rfl, g260, E260⟩ := Q260
            have gz_o260 : Z.heap.size ≤ o260 := Nat.le_trans P168.old.1 g260
            have gw_o260 : h0.size ≤ o260 := Nat.le_trans P168.kept.1 g260
            show Go p e below _ (T260.setTop (mkF m 194 #[.val (.int p0), .val (.int p1), .val (.int p2), .val (.long q3), .second, .val (.int kk), .val (.int pt), .val (.int ch169), .val (.int px), .unset, .unset] [(.ref o260)]))
            refine P260.xs (fun hA hx hy t k => XS.astore hA hx rfl (hb hy at_194) rfl rfl (l' := #[.val (.int p0), .val (.int p1), .val (.int p2), .val (.long q3), .second, .val (.int kk), .val (.int pt), .val (.int ch169), .val (.int px), .val (.ref o260), .unset]) rfl k) ?_
            show Go p e below _ (T260.setTop (mkF m 196 #[.val (.int p0), .val (.int p1), .val (.int p2), .val (.long q3), .second, .val (.int kk), .val (.int pt), .val (.int ch169), .val (.int px), .val (.ref o260), .unset] []))
            refine P260.xs (fun hA hx hy t k => XS.goto hA hx rfl (pc0 := 196) (pc' := 202) rfl (hb hy at_196) (by decide) (by decide) k) ?_
            show Go p e below _ (T260.setTop (mkF m 202 #[.val (.int p0), .val (.int p1), .val (.int p2), .val (.long q3), .second, .val (.int kk), .val (.int pt), .val (.int ch169), .val (.int px), .val (.ref o260), .unset] []))
            refine P260.xs (fun hA hx hy t k => XS.aconstNull hA hx rfl (hb hy at_202) k) ?_
            show Go p e below _ (T260.setTop (mkF m 203 #[.val (.int p0), .val (.int p1), .val (.int p2), .val (.long q3), .second, .val (.int kk), .val (.int pt), .val (.int ch169), .val (.int px), .val (.ref o260), .unset] [.null]))
            refine P260.xs (fun hA hx hy t k => XS.astore hA hx rfl (hb hy at_203) rfl rfl (l' := #[.val (.int p0), .val (.int p1), .val (.int p2), .val (.long q3), .second, .val (.int kk), .val (.int pt), .val (.int ch169), .val (.int px), .val (.ref o260), .val .null]) rfl k) ?_
            show Go p e below _ (T260.setTop (mkF m 205 #[.val (.int p0), .val (.int p1), .val (.int p2), .val (.long q3), .second, .val (.int kk), .val (.int pt), .val (.int ch169), .val (.int px), .val (.ref o260), .val .null] []))
            exact tS _ _ _ _  (P260.wider (by decide) (by decide)) E260
          · refine P168.xs (fun hA hx hy t k => XS.icmpYes hA hx rfl (pc0 := 181) (pc' := 199) rfl (hb hy at_181) rfl (feq hk2).2 (by decide) (by decide) k) ?_
            show Go p e below _ (T168.setTop (mkF m 199 #[.val (.int p0), .val (.int p1), .val (.int p2), .val (.long q3), .second, .val (.int kk), .val (.int pt), .val (.int ch169), .val (.int px), .unset, .unset] []))
            refine P168.xs (fun hA hx hy t k => XS.aconstNull hA hx rfl (hb hy at_199) k) ?_
            show Go p e below _ (T168.setTop (mkF m 200 #[.val (.int p0), .val (.int p1), .val (.int p2), .val (.long q3), .second, .val (.int kk), .val (.int pt), .val (.int ch169), .val (.int px), .unset, .unset] [.null]))
            refine P168.xs (fun hA hx hy t k => XS.astore hA hx rfl (hb hy at_200) rfl rfl (l' := #[.val (.int p0), .val (.int p1), .val (.int p2), .val (.long q3), .second, .val (.int kk), .val (.int pt), .val (.int ch169), .val (.int px), .val .null, .unset]) rfl k) ?_
            show Go p e below _ (T168.setTop (mkF m 202 #[.val (.int p0), .val (.int p1), .val (.int p2), .val (.long q3), .second, .val (.int kk), .val (.int pt), .val (.int ch169), .val (.int px), .val .null, .unset] []))
            refine P168.xs (fun hA hx hy t k => XS.aconstNull hA hx rfl (hb hy at_202) k) ?_
            show Go p e below _ (T168.setTop (mkF m 203 #[.val (.int p0), .val (.int p1), .val (.int p2), .val (.long q3), .second, .val (.int kk), .val (.int pt), .val (.int ch169), .val (.int px), .val .null, .unset] [.null]))
            refine P168.xs (fun hA hx hy t k => XS.astore hA hx rfl (hb hy at_203) rfl rfl (l' := #[.val (.int p0), .val (.int p1), .val (.int p2), .val (.long q3), .second, .val (.int kk), .val (.int pt), .val (.int ch169), .val (.int px), .val .null, .val .null]) rfl k) ?_
            show Go p e below _ (T168.setTop (mkF m 205 #[.val (.int p0), .val (.int p1), .val (.int p2), .val (.long q3), .second, .val (.int kk), .val (.int pt), .val (.int ch169), .val (.int px), .val .null, .val .null] []))
            exact tN _ _   (P168.wider (by decide) (by decide)) 
    intro T171 h171 sx cs  P171 f171_0
    show Go p e below _ (T171.setTop (mkF m 205 #[.val (.int p0), .val (.int p1), .val (.int p2), .val (.long q3), .second, .val (.int kk), .val (.int pt), .val (.int ch169), .val (.int px), .val (.ref sx), .val .null] []))
    refine P171.ldcR (hw _ (List.mem_of_getElem? (i := 31) rfl)) (wSt hw) (by decide) (vs := [(.int (99 : Int32)), (.int (108 : Int32)), (.int (97 : Int32)), (.int (115 : Int32)), (.int (115 : Int32))]) (z := (5 : Int32)) ⟨by decide, by decide⟩ (by decide) (by decide) at_205 (n := 20) (by decide) (by decide) (by decide) (by decide) fun T261 h261 o261 b261 k261 P261 E261 A261 C261 V261 B261 => ?_
    show Go p e below _ (T261.setTop (mkF m 207 #[.val (.int p0), .val (.int p1), .val (.int p2), .val (.long q3), .second, .val (.int kk), .val (.int pt), .val (.int ch169), .val (.int px), .val (.ref sx), .val .null] [(.ref o261)]))
    have el262 : (([(99 : Int32), (108 : Int32), (97 : Int32), (115 : Int32), (115 : Int32)] : List Int32).map (fun c => c.toInt8.toInt32)).map Value.int = [(.int (99 : Int32)), (.int (108 : Int32)), (.int (97 : Int32)), (.int (115 : Int32)), (.int (115 : Int32))] := by decide
    have Sl262 : Str Z h261 o261 ([(99 : Int32), (108 : Int32), (97 : Int32), (115 : Int32), (115 : Int32)] : List Int32) := strOf (n := 5) rfl (latS (by decide) (latS (by decide) (latS (by decide) (latS (by decide) (latS (by decide) lat0))))) (by decide) A261 C261 V261 (by rw [el262]; exact B261)
    refine P261.xs (fun hA hx hy t k => XS.aload hA hx rfl (hb hy at_207) rfl rfl  k) ?_
    show Go p e below _ (T261.setTop (mkF m 209 #[.val (.int p0), .val (.int p1), .val (.int p2), .val (.long q3), .second, .val (.int kk), .val (.int pt), .val (.int ch169), .val (.int px), .val (.ref sx), .val .null] [(.ref sx), (.ref o261)]))
    have Ec263 : Exa Z h261 sx "java/lang/String" := (f171_0.1.ext E261)
    have Sc264 : Str Z h261 sx cs := (f171_0.ext E261)
    refine P261.strEq (W := 0) (hw _ (List.mem_of_getElem? (i := 34) rfl)) (hw _ (List.mem_of_getElem? (i := 35) rfl)) (hw _ (List.mem_of_getElem? (i := 37) rfl)) (nfOf (hw _ (List.mem_of_getElem? (i := 37) rfl))) (hw _ (List.mem_of_getElem? (i := 36) rfl)) (by decide) (wEq hw) (hw _ (List.mem_of_getElem? (i := 3) rfl)) S0 Pz Sl262 Sc264 (by decide) (by decide) (by decide) (by decide) pd_4 rfl rfl (Nat.le_of_eq rfl) at_209 (fun T265 P265 hq1 => ?_) (fun T266 P266 hq1 => ?_)
    · show Go p e below _ (T265.setTop (mkF m 212 #[.val (.int p0), .val (.int p1), .val (.int p2), .val (.long q3), .second, .val (.int kk), .val (.int pt), .val (.int ch169), .val (.int px), .val (.ref sx), .val .null] [(.int (1 : Int32))]))
      refine P265.xs (fun hA hx hy t k => XS.ifNo hA hx rfl (hb hy at_212) rfl ((if0 _ _).trans (feq (by decide)).1) k) ?_
      show Go p e below _ (T265.setTop (mkF m 215 #[.val (.int p0), .val (.int p1), .val (.int p2), .val (.long q3), .second, .val (.int kk), .val (.int pt), .val (.int ch169), .val (.int px), .val (.ref sx), .val .null] []))
      refine P265.getS (host := "") (Or.inl (hw _ (List.mem_of_getElem? (i := 44) rfl))) Via.refl S_CLASS at_215 fun T267 P267 => ?_
      show Go p e below _ (T267.setTop (mkF m 218 #[.val (.int p0), .val (.int p1), .val (.int p2), .val (.long q3), .second, .val (.int kk), .val (.int pt), .val (.int ch169), .val (.int px), .val (.ref sx), .val .null] [(.ref w_CLASS)]))
      refine P267.xs (fun hA hx hy t k => XS.astore hA hx rfl (hb hy at_218) rfl rfl (l' := #[.val (.int p0), .val (.int p1), .val (.int p2), .val (.long q3), .second, .val (.int kk), .val (.int pt), .val (.int ch169), .val (.int px), .val (.ref sx), .val (.ref w_CLASS)]) rfl k) ?_
      show Go p e below _ (T267.setTop (mkF m 220 #[.val (.int p0), .val (.int p1), .val (.int p2), .val (.long q3), .second, .val (.int kk), .val (.int pt), .val (.int ch169), .val (.int px), .val (.ref sx), .val (.ref w_CLASS)] []))
      refine P267.xs (fun hA hx hy t k => XS.goto hA hx rfl (pc0 := 220) (pc' := 238) rfl (hb hy at_220) (by decide) (by decide) k) ?_
      show Go p e below _ (T267.setTop (mkF m 238 #[.val (.int p0), .val (.int p1), .val (.int p2), .val (.long q3), .second, .val (.int kk), .val (.int pt), .val (.int ch169), .val (.int px), .val (.ref sx), .val (.ref w_CLASS)] []))
      refine P267.xs (fun hA hx hy t k => XS.aload hA hx rfl (hb hy at_238) rfl rfl  k) ?_
      show Go p e below _ (T267.setTop (mkF m 240 #[.val (.int p0), .val (.int p1), .val (.int p2), .val (.long q3), .second, .val (.int kk), .val (.int pt), .val (.int ch169), .val (.int px), .val (.ref sx), .val (.ref w_CLASS)] [(.ref sx)]))
      refine P267.callS (hw _ (List.mem_of_getElem? (i := 47) rfl)) (hw _ (List.mem_of_getElem? (i := 48) rfl)) (hw _ (List.mem_of_getElem? (i := 45) rfl)) (hw _ (List.mem_of_getElem? (i := 49) rfl)) (by decide) (mNamS l Z a0 hw hEL zc S0 Pz w_CLASS s_CLASS S_CLASS E_CLASS F_CLASS X_CLASS w_PROPERTY s_PROPERTY S_PROPERTY E_PROPERTY F_PROPERTY X_PROPERTY w_V k_V S_V E_V A_V sx cs h261 P267.old Sc264) (W := 0) (by decide) (by decide) (by decide) (by decide) all0 pd_6 (argsL := [(.ref sx)]) rfl rfl rfl (Nat.le_of_eq rfl) at_240 fun v268 T268 h268 P268 K268 Q268 => ?_
      rcases Q268 with ⟨rfl, g⟩ | ⟨rfl, g⟩ | ⟨rfl, g, g2⟩
      · exact absurd (hq1.trans g) (by decide)
      · show Go p e below _ (T268.setTop (mkF m 243 #[.val (.int p0), .val (.int p1), .val (.int p2), .val (.long q3), .second, .val (.int kk), .val (.int pt), .val (.int ch169), .val (.int px), .val (.ref sx), .val (.ref w_CLASS)] [(.ref w_CLASS)]))
        refine P268.xs (fun hA hx hy t k => XS.aload hA hx rfl (hb hy at_243) rfl rfl  k) ?_
        show Go p e below _ (T268.setTop (mkF m 245 #[.val (.int p0), .val (.int p1), .val (.int p2), .val (.long q3), .second, .val (.int kk), .val (.int pt), .val (.int ch169), .val (.int px), .val (.ref sx), .val (.ref w_CLASS)] [(.ref w_CLASS), (.ref w_CLASS)]))
        refine P268.st (fun vm0 locs X hx hy t k => Jvm.RoadKit.acmp (g := (mkF m 245 #[.val (.int p0), .val (.int p1), .val (.int p2), .val (.long q3), .second, .val (.int kk), .val (.int pt), .val (.int ch169), .val (.int px), .val (.ref sx), .val (.ref w_CLASS)] [(.ref w_CLASS), (.ref w_CLASS)])) X hx rfl rfl rfl (pc0 := 245) (pc' := 248) (same := true) rfl (hb hy at_245) rfl (decide_eq_true rfl) (by decide) (by decide) k) ?_
        show Go p e below _ (T268.setTop (mkF m 248 #[.val (.int p0), .val (.int p1), .val (.int p2), .val (.long q3), .second, .val (.int kk), .val (.int pt), .val (.int ch169), .val (.int px), .val (.ref sx), .val (.ref w_CLASS)] []))
        refine P268.xs (fun hA hx hy t k => XS.iconst hA hx rfl (hb hy at_248) k) ?_
        show Go p e below _ (T268.setTop (mkF m 249 #[.val (.int p0), .val (.int p1), .val (.int p2), .val (.long q3), .second, .val (.int kk), .val (.int pt), .val (.int ch169), .val (.int px), .val (.ref sx), .val (.ref w_CLASS)] [(.int (1 : Int32))]))
        refine P268.xs (fun hA hx hy t k => XS.goto hA hx rfl (pc0 := 249) (pc' := 253) rfl (hb hy at_249) (by decide) (by decide) k) ?_
        show Go p e below _ (T268.setTop (mkF m 253 #[.val (.int p0), .val (.int p1), .val (.int p2), .val (.long q3), .second, .val (.int kk), .val (.int pt), .val (.int ch169), .val (.int px), .val (.ref sx), .val (.ref w_CLASS)] [(.int (1 : Int32))]))
        exact P268.retN (t := .boolean) rfl (by simp) at_253 (by decide) (by decide) rfl
      · exact absurd hq1.symm g
    · show Go p e below _ (T266.setTop (mkF m 212 #[.val (.int p0), .val (.int p1), .val (.int p2), .val (.long q3), .second, .val (.int kk), .val (.int pt), .val (.int ch169), .val (.int px), .val (.ref sx), .val .null] [(.int (0 : Int32))]))
      refine P266.xs (fun hA hx hy t k => XS.ifYes hA hx rfl (pc0 := 212) (pc' := 223) rfl (hb hy at_212) rfl ((if0 _ _).trans (teq rfl).1) (by decide) (by decide) k) ?_
      show Go p e below _ (T266.setTop (mkF m 223 #[.val (.int p0), .val (.int p1), .val (.int p2), .val (.long q3), .second, .val (.int kk), .val (.int pt), .val (.int ch169), .val (.int px), .val (.ref sx), .val .null] []))
      refine P266.ldcR (hw _ (List.mem_of_getElem? (i := 69) rfl)) (wSt hw) (by decide) (vs := [(.int (112 : Int32)), (.int (114 : Int32)), (.int (111 : Int32)), (.int (112 : Int32)), (.int (101 : Int32)), (.int (114 : Int32)), (.int (116 : Int32)), (.int (121 : Int32))]) (z := (8 : Int32)) ⟨by decide, by decide⟩ (by decide) (by decide) at_223 (n := 32) (by decide) (by decide) (by decide) (by decide) fun T269 h269 o269 b269 k269 P269 E269 A269 C269 V269 B269 => ?_
      show Go p e below _ (T269.setTop (mkF m 225 #[.val (.int p0), .val (.int p1), .val (.int p2), .val (.long q3), .second, .val (.int kk), .val (.int pt), .val (.int ch169), .val (.int px), .val (.ref sx), .val .null] [(.ref o269)]))
      have el270 : (([(112 : Int32), (114 : Int32), (111 : Int32), (112 : Int32), (101 : Int32), (114 : Int32), (116 : Int32), (121 : Int32)] : List Int32).map (fun c => c.toInt8.toInt32)).map Value.int = [(.int (112 : Int32)), (.int (114 : Int32)), (.int (111 : Int32)), (.int (112 : Int32)), (.int (101 : Int32)), (.int (114 : Int32)), (.int (116 : Int32)), (.int (121 : Int32))] := by decide
      have Sl270 : Str Z h269 o269 ([(112 : Int32), (114 : Int32), (111 : Int32), (112 : Int32), (101 : Int32), (114 : Int32), (116 : Int32), (121 : Int32)] : List Int32) := strOf (n := 8) rfl (latS (by decide) (latS (by decide) (latS (by decide) (latS (by decide) (latS (by decide) (latS (by decide) (latS (by decide) (latS (by decide) lat0)))))))) (by decide) A269 C269 V269 (by rw [el270]; exact B269)
      refine P269.xs (fun hA hx hy t k => XS.aload hA hx rfl (hb hy at_225) rfl rfl  k) ?_
      show Go p e below _ (T269.setTop (mkF m 227 #[.val (.int p0), .val (.int p1), .val (.int p2), .val (.long q3), .second, .val (.int kk), .val (.int pt), .val (.int ch169), .val (.int px), .val (.ref sx), .val .null] [(.ref sx), (.ref o269)]))
      have Ec271 : Exa Z h269 sx "java/lang/String" := (Ec263.ext E269)
      have Ec272 : Exa Z h269 o261 "java/lang/String" := (A261.ext E269)
      have Sc273 : Str Z h269 sx cs := (Sc264.ext E269)
      have Sc274 : Str Z h269 o261 ([(99 : Int32), (108 : Int32), (97 : Int32), (115 : Int32), (115 : Int32)] : List Int32) := (Sl262.ext E269)
      refine P269.strEq (W := 0) (hw _ (List.mem_of_getElem? (i := 34) rfl)) (hw _ (List.mem_of_getElem? (i := 35) rfl)) (hw _ (List.mem_of_getElem? (i := 37) rfl)) (nfOf (hw _ (List.mem_of_getElem? (i := 37) rfl))) (hw _ (List.mem_of_getElem? (i := 36) rfl)) (by decide) (wEq hw) (hw _ (List.mem_of_getElem? (i := 3) rfl)) S0 Pz Sl270 Sc273 (by decide) (by decide) (by decide) (by decide) pd_4 rfl rfl (Nat.le_of_eq rfl) at_227 (fun T275 P275 hq2 => ?_) (fun T276 P276 hq2 => ?_)
      · show Go p e below _ (T275.setTop (mkF m 230 #[.val (.int p0), .val (.int p1), .val (.int p2), .val (.long q3), .second, .val (.int kk), .val (.int pt), .val (.int ch169), .val (.int px), .val (.ref sx), .val .null] [(.int (1 : Int32))]))
        refine P275.xs (fun hA hx hy t k => XS.ifNo hA hx rfl (hb hy at_230) rfl ((if0 _ _).trans (feq (by decide)).1) k) ?_
        show Go p e below _ (T275.setTop (mkF m 233 #[.val (.int p0), .val (.int p1), .val (.int p2), .val (.long q3), .second, .val (.int kk), .val (.int pt), .val (.int ch169), .val (.int px), .val (.ref sx), .val .null] []))
        refine P275.getS (host := "") (Or.inl (hw _ (List.mem_of_getElem? (i := 79) rfl))) Via.refl S_PROPERTY at_233 fun T277 P277 => ?_
        show Go p e below _ (T277.setTop (mkF m 236 #[.val (.int p0), .val (.int p1), .val (.int p2), .val (.long q3), .second, .val (.int kk), .val (.int pt), .val (.int ch169), .val (.int px), .val (.ref sx), .val .null] [(.ref w_PROPERTY)]))
        refine P277.xs (fun hA hx hy t k => XS.astore hA hx rfl (hb hy at_236) rfl rfl (l' := #[.val (.int p0), .val (.int p1), .val (.int p2), .val (.long q3), .second, .val (.int kk), .val (.int pt), .val (.int ch169), .val (.int px), .val (.ref sx), .val (.ref w_PROPERTY)]) rfl k) ?_
        show Go p e below _ (T277.setTop (mkF m 238 #[.val (.int p0), .val (.int p1), .val (.int p2), .val (.long q3), .second, .val (.int kk), .val (.int pt), .val (.int ch169), .val (.int px), .val (.ref sx), .val (.ref w_PROPERTY)] []))
        refine P277.xs (fun hA hx hy t k => XS.aload hA hx rfl (hb hy at_238) rfl rfl  k) ?_
        show Go p e below _ (T277.setTop (mkF m 240 #[.val (.int p0), .val (.int p1), .val (.int p2), .val (.long q3), .second, .val (.int kk), .val (.int pt), .val (.int ch169), .val (.int px), .val (.ref sx), .val (.ref w_PROPERTY)] [(.ref sx)]))
        refine P277.callS (hw _ (List.mem_of_getElem? (i := 47) rfl)) (hw _ (List.mem_of_getElem? (i := 48) rfl)) (hw _ (List.mem_of_getElem? (i := 45) rfl)) (hw _ (List.mem_of_getElem? (i := 49) rfl)) (by decide) (mNamS l Z a0 hw hEL zc S0 Pz w_CLASS s_CLASS S_CLASS E_CLASS F_CLASS X_CLASS w_PROPERTY s_PROPERTY S_PROPERTY E_PROPERTY F_PROPERTY X_PROPERTY w_V k_V S_V E_V A_V sx cs h269 P277.old Sc273) (W := 0) (by decide) (by decide) (by decide) (by decide) all0 pd_6 (argsL := [(.ref sx)]) rfl rfl rfl (Nat.le_of_eq rfl) at_240 fun v278 T278 h278 P278 K278 Q278 => ?_
        rcases Q278 with ⟨rfl, g⟩ | ⟨rfl, g⟩ | ⟨rfl, g, g2⟩
        · show Go p e below _ (T278.setTop (mkF m 243 #[.val (.int p0), .val (.int p1), .val (.int p2), .val (.long q3), .second, .val (.int kk), .val (.int pt), .val (.int ch169), .val (.int px), .val (.ref sx), .val (.ref w_PROPERTY)] [(.ref w_PROPERTY)]))
          refine P278.xs (fun hA hx hy t k => XS.aload hA hx rfl (hb hy at_243) rfl rfl  k) ?_
          show Go p e below _ (T278.setTop (mkF m 245 #[.val (.int p0), .val (.int p1), .val (.int p2), .val (.long q3), .second, .val (.int kk), .val (.int pt), .val (.int ch169), .val (.int px), .val (.ref sx), .val (.ref w_PROPERTY)] [(.ref w_PROPERTY), (.ref w_PROPERTY)]))
          refine P278.st (fun vm0 locs X hx hy t k => Jvm.RoadKit.acmp (g := (mkF m 245 #[.val (.int p0), .val (.int p1), .val (.int p2), .val (.long q3), .second, .val (.int kk), .val (.int pt), .val (.int ch169), .val (.int px), .val (.ref sx), .val (.ref w_PROPERTY)] [(.ref w_PROPERTY), (.ref w_PROPERTY)])) X hx rfl rfl rfl (pc0 := 245) (pc' := 248) (same := true) rfl (hb hy at_245) rfl (decide_eq_true rfl) (by decide) (by decide) k) ?_
          show Go p e below _ (T278.setTop (mkF m 248 #[.val (.int p0), .val (.int p1), .val (.int p2), .val (.long q3), .second, .val (.int kk), .val (.int pt), .val (.int ch169), .val (.int px), .val (.ref sx), .val (.ref w_PROPERTY)] []))
          refine P278.xs (fun hA hx hy t k => XS.iconst hA hx rfl (hb hy at_248) k) ?_
          show Go p e below _ (T278.setTop (mkF m 249 #[.val (.int p0), .val (.int p1), .val (.int p2), .val (.long q3), .second, .val (.int kk), .val (.int pt), .val (.int ch169), .val (.int px), .val (.ref sx), .val (.ref w_PROPERTY)] [(.int (1 : Int32))]))
          refine P278.xs (fun hA hx hy t k => XS.goto hA hx rfl (pc0 := 249) (pc' := 253) rfl (hb hy at_249) (by decide) (by decide) k) ?_
          show Go p e below _ (T278.setTop (mkF m 253 #[.val (.int p0), .val (.int p1), .val (.int p2), .val (.long q3), .second, .val (.int kk), .val (.int pt), .val (.int ch169), .val (.int px), .val (.ref sx), .val (.ref w_PROPERTY)] [(.int (1 : Int32))]))
          exact P278.retN (t := .boolean) rfl (by simp) at_253 (by decide) (by decide) rfl
        · exact absurd (hq2.trans g) (by decide)
        · exact absurd hq2.symm g2
      · show Go p e below _ (T276.setTop (mkF m 230 #[.val (.int p0), .val (.int p1), .val (.int p2), .val (.long q3), .second, .val (.int kk), .val (.int pt), .val (.int ch169), .val (.int px), .val (.ref sx), .val .null] [(.int (0 : Int32))]))
        refine P276.xs (fun hA hx hy t k => XS.ifYes hA hx rfl (pc0 := 230) (pc' := 238) rfl (hb hy at_230) rfl ((if0 _ _).trans (teq rfl).1) (by decide) (by decide) k) ?_
        show Go p e below _ (T276.setTop (mkF m 238 #[.val (.int p0), .val (.int p1), .val (.int p2), .val (.long q3), .second, .val (.int kk), .val (.int pt), .val (.int ch169), .val (.int px), .val (.ref sx), .val .null] []))
        refine P276.xs (fun hA hx hy t k => XS.aload hA hx rfl (hb hy at_238) rfl rfl  k) ?_
        show Go p e below _ (T276.setTop (mkF m 240 #[.val (.int p0), .val (.int p1), .val (.int p2), .val (.long q3), .second, .val (.int kk), .val (.int pt), .val (.int ch169), .val (.int px), .val (.ref sx), .val .null] [(.ref sx)]))
        refine P276.callS (hw _ (List.mem_of_getElem? (i := 47) rfl)) (hw _ (List.mem_of_getElem? (i := 48) rfl)) (hw _ (List.mem_of_getElem? (i := 45) rfl)) (hw _ (List.mem_of_getElem? (i := 49) rfl)) (by decide) (mNamS l Z a0 hw hEL zc S0 Pz w_CLASS s_CLASS S_CLASS E_CLASS F_CLASS X_CLASS w_PROPERTY s_PROPERTY S_PROPERTY E_PROPERTY F_PROPERTY X_PROPERTY w_V k_V S_V E_V A_V sx cs h269 P276.old Sc273) (W := 0) (by decide) (by decide) (by decide) (by decide) all0 pd_6 (argsL := [(.ref sx)]) rfl rfl rfl (Nat.le_of_eq rfl) at_240 fun v279 T279 h279 P279 K279 Q279 => ?_
        rcases Q279 with ⟨rfl, g⟩ | ⟨rfl, g⟩ | ⟨rfl, g, g2⟩
        · exact absurd g.symm hq2
        · exact absurd g.symm hq1
        · show Go p e below _ (T279.setTop (mkF m 243 #[.val (.int p0), .val (.int p1), .val (.int p2), .val (.long q3), .second, .val (.int kk), .val (.int pt), .val (.int ch169), .val (.int px), .val (.ref sx), .val .null] [.null]))
          refine P279.xs (fun hA hx hy t k => XS.aload hA hx rfl (hb hy at_243) rfl rfl  k) ?_
          show Go p e below _ (T279.setTop (mkF m 245 #[.val (.int p0), .val (.int p1), .val (.int p2), .val (.long q3), .second, .val (.int kk), .val (.int pt), .val (.int ch169), .val (.int px), .val (.ref sx), .val .null] [.null, .null]))
          refine P279.st (fun vm0 locs X hx hy t k => Jvm.RoadKit.acmp (g := (mkF m 245 #[.val (.int p0), .val (.int p1), .val (.int p2), .val (.long q3), .second, .val (.int kk), .val (.int pt), .val (.int ch169), .val (.int px), .val (.ref sx), .val .null] [.null, .null])) X hx rfl rfl rfl (pc0 := 245) (pc' := 248) (same := true) rfl (hb hy at_245) rfl (decide_eq_true rfl) (by decide) (by decide) k) ?_
          show Go p e below _ (T279.setTop (mkF m 248 #[.val (.int p0), .val (.int p1), .val (.int p2), .val (.long q3), .second, .val (.int kk), .val (.int pt), .val (.int ch169), .val (.int px), .val (.ref sx), .val .null] []))
          refine P279.xs (fun hA hx hy t k => XS.iconst hA hx rfl (hb hy at_248) k) ?_
          show Go p e below _ (T279.setTop (mkF m 249 #[.val (.int p0), .val (.int p1), .val (.int p2), .val (.long q3), .second, .val (.int kk), .val (.int pt), .val (.int ch169), .val (.int px), .val (.ref sx), .val .null] [(.int (1 : Int32))]))
          refine P279.xs (fun hA hx hy t k => XS.goto hA hx rfl (pc0 := 249) (pc' := 253) rfl (hb hy at_249) (by decide) (by decide) k) ?_
          show Go p e below _ (T279.setTop (mkF m 253 #[.val (.int p0), .val (.int p1), .val (.int p2), .val (.long q3), .second, .val (.int kk), .val (.int pt), .val (.int ch169), .val (.int px), .val (.ref sx), .val .null] [(.int (1 : Int32))]))
          exact P279.retN (t := .boolean) rfl (by simp) at_253 (by decide) (by decide) rfl
  intro T170 h170   P170 
  show Go p e below _ (T170.setTop (mkF m 205 #[.val (.int p0), .val (.int p1), .val (.int p2), .val (.long q3), .second, .val (.int kk), .val (.int pt), .val (.int ch169), .val (.int px), .val .null, .val .null] []))
  refine P170.ldcR (hw _ (List.mem_of_getElem? (i := 31) rfl)) (wSt hw) (by decide) (vs := [(.int (99 : Int32)), (.int (108 : Int32)), (.int (97 : Int32)), (.int (115 : Int32)), (.int (115 : Int32))]) (z := (5 : Int32)) ⟨by decide, by decide⟩ (by decide) (by decide) at_205 (n := 20) (by decide) (by decide) (by decide) (by decide) fun T280 h280 o280 b280 k280 P280 E280 A280 C280 V280 B280 => ?_
  show Go p e below _ (T280.setTop (mkF m 207 #[.val (.int p0), .val (.int p1), .val (.int p2), .val (.long q3), .second, .val (.int kk), .val (.int pt), .val (.int ch169), .val (.int px), .val .null, .val .null] [(.ref o280)]))
  refine P280.xs (fun hA hx hy t k => XS.aload hA hx rfl (hb hy at_207) rfl rfl  k) ?_
  show Go p e below _ (T280.setTop (mkF m 209 #[.val (.int p0), .val (.int p1), .val (.int p2), .val (.long q3), .second, .val (.int kk), .val (.int pt), .val (.int ch169), .val (.int px), .val .null, .val .null] [.null, (.ref o280)]))
  refine P280.callV (hw _ (List.mem_of_getElem? (i := 34) rfl)) (hw _ (List.mem_of_getElem? (i := 35) rfl)) (hw _ (List.mem_of_getElem? (i := 37) rfl)) (nfOf (hw _ (List.mem_of_getElem? (i := 37) rfl))) (hw _ (List.mem_of_getElem? (i := 36) rfl)) (hw _ (List.mem_of_getElem? (i := 4) rfl)) (hw _ (List.mem_of_getElem? (i := 38) rfl)) (by decide) A280 (eqNul l Z a0 hw hEL zc S0 Pz w_CLASS s_CLASS S_CLASS E_CLASS F_CLASS X_CLASS w_PROPERTY s_PROPERTY S_PROPERTY E_PROPERTY F_PROPERTY X_PROPERTY w_V k_V S_V E_V A_V o280 h280 P280.old) (W := 0) (by decide) (by decide) (by decide) (by decide) all0 pd_4 (argsL := [.null]) rfl rfl rfl (Nat.le_of_eq rfl) at_209 fun v281 T281 h281 P281 K281 Q281 => ?_
  obtain ⟨hv281, hh281⟩ := Q281
  subst hv281
  rw [hh281] at P281
  show Go p e below _ (T281.setTop (mkF m 212 #[.val (.int p0), .val (.int p1), .val (.int p2), .val (.long q3), .second, .val (.int kk), .val (.int pt), .val (.int ch169), .val (.int px), .val .null, .val .null] [(.int (0 : Int32))]))
  refine P281.xs (fun hA hx hy t k => XS.ifYes hA hx rfl (pc0 := 212) (pc' := 223) rfl (hb hy at_212) rfl ((if0 _ _).trans (teq (by decide)).1) (by decide) (by decide) k) ?_
  show Go p e below _ (T281.setTop (mkF m 223 #[.val (.int p0), .val (.int p1), .val (.int p2), .val (.long q3), .second, .val (.int kk), .val (.int pt), .val (.int ch169), .val (.int px), .val .null, .val .null] []))
  refine P281.ldcR (hw _ (List.mem_of_getElem? (i := 69) rfl)) (wSt hw) (by decide) (vs := [(.int (112 : Int32)), (.int (114 : Int32)), (.int (111 : Int32)), (.int (112 : Int32)), (.int (101 : Int32)), (.int (114 : Int32)), (.int (116 : Int32)), (.int (121 : Int32))]) (z := (8 : Int32)) ⟨by decide, by decide⟩ (by decide) (by decide) at_223 (n := 32) (by decide) (by decide) (by decide) (by decide) fun T282 h282 o282 b282 k282 P282 E282 A282 C282 V282 B282 => ?_
  show Go p e below _ (T282.setTop (mkF m 225 #[.val (.int p0), .val (.int p1), .val (.int p2), .val (.long q3), .second, .val (.int kk), .val (.int pt), .val (.int ch169), .val (.int px), .val .null, .val .null] [(.ref o282)]))
  refine P282.xs (fun hA hx hy t k => XS.aload hA hx rfl (hb hy at_225) rfl rfl  k) ?_
  show Go p e below _ (T282.setTop (mkF m 227 #[.val (.int p0), .val (.int p1), .val (.int p2), .val (.long q3), .second, .val (.int kk), .val (.int pt), .val (.int ch169), .val (.int px), .val .null, .val .null] [.null, (.ref o282)]))
  have Ec284 : Exa Z h282 o280 "java/lang/String" := (A280.ext E282)
  have Fc285 : Fld Z h282 o280 "java/lang/String" "coder" "B" (.int (0 : Int32)) := (C280.ext E282)
  have Fc286 : Fld Z h282 o280 "java/lang/String" "value" "[B" (.ref b280) := (V280.ext E282)
  have Ac287 : Arv Z h282 b280 k280 .byte (5 : Int32) [(.int (99 : Int32)), (.int (108 : Int32)), (.int (97 : Int32)), (.int (115 : Int32)), (.int (115 : Int32))] (.int 0) := (B280.ext E282)
  refine P282.callV (hw _ (List.mem_of_getElem? (i := 34) rfl)) (hw _ (List.mem_of_getElem? (i := 35) rfl)) (hw _ (List.mem_of_getElem? (i := 37) rfl)) (nfOf (hw _ (List.mem_of_getElem? (i := 37) rfl))) (hw _ (List.mem_of_getElem? (i := 36) rfl)) (hw _ (List.mem_of_getElem? (i := 4) rfl)) (hw _ (List.mem_of_getElem? (i := 38) rfl)) (by decide) A282 (eqNul l Z a0 hw hEL zc S0 Pz w_CLASS s_CLASS S_CLASS E_CLASS F_CLASS X_CLASS w_PROPERTY s_PROPERTY S_PROPERTY E_PROPERTY F_PROPERTY X_PROPERTY w_V k_V S_V E_V A_V o282 h282 P282.old) (W := 0) (by decide) (by decide) (by decide) (by decide) all0 pd_4 (argsL := [.null]) rfl rfl rfl (Nat.le_of_eq rfl) at_227 fun v283 T283 h283 P283 K283 Q283 => ?_
  obtain ⟨hv283, hh283⟩ := Q283
  subst hv283
  rw [hh283] at P283
  show Go p e below _ (T283.setTop (mkF m 230 #[.val (.int p0), .val (.int p1), .val (.int p2), .val (.long q3), .second, .val (.int kk), .val (.int pt), .val (.int ch169), .val (.int px), .val .null, .val .null] [(.int (0 : Int32))]))
  refine P283.xs (fun hA hx hy t k => XS.ifYes hA hx rfl (pc0 := 230) (pc' := 238) rfl (hb hy at_230) rfl ((if0 _ _).trans (teq (by decide)).1) (by decide) (by decide) k) ?_
  show Go p e below _ (T283.setTop (mkF m 238 #[.val (.int p0), .val (.int p1), .val (.int p2), .val (.long q3), .second, .val (.int kk), .val (.int pt), .val (.int ch169), .val (.int px), .val .null, .val .null] []))
  refine P283.xs (fun hA hx hy t k => XS.aload hA hx rfl (hb hy at_238) rfl rfl  k) ?_
  show Go p e below _ (T283.setTop (mkF m 240 #[.val (.int p0), .val (.int p1), .val (.int p2), .val (.long q3), .second, .val (.int kk), .val (.int pt), .val (.int ch169), .val (.int px), .val .null, .val .null] [.null]))
  refine P283.callS (hw _ (List.mem_of_getElem? (i := 47) rfl)) (hw _ (List.mem_of_getElem? (i := 48) rfl)) (hw _ (List.mem_of_getElem? (i := 45) rfl)) (hw _ (List.mem_of_getElem? (i := 49) rfl)) (by decide) (mNamN l Z a0 hw hEL zc S0 Pz w_CLASS s_CLASS S_CLASS E_CLASS F_CLASS X_CLASS w_PROPERTY s_PROPERTY S_PROPERTY E_PROPERTY F_PROPERTY X_PROPERTY w_V k_V S_V E_V A_V  h282 P283.old) (W := 0) (by decide) (by decide) (by decide) (by decide) all0 pd_6 (argsL := [.null]) rfl rfl rfl (Nat.le_of_eq rfl) at_240 fun v288 T288 h288 P288 K288 Q288 => ?_
  obtain rfl := Q288
  show Go p e below _ (T288.setTop (mkF m 243 #[.val (.int p0), .val (.int p1), .val (.int p2), .val (.long q3), .second, .val (.int kk), .val (.int pt), .val (.int ch169), .val (.int px), .val .null, .val .null] [.null]))
  refine P288.xs (fun hA hx hy t k => XS.aload hA hx rfl (hb hy at_243) rfl rfl  k) ?_
  show Go p e below _ (T288.setTop (mkF m 245 #[.val (.int p0), .val (.int p1), .val (.int p2), .val (.long q3), .second, .val (.int kk), .val (.int pt), .val (.int ch169), .val (.int px), .val .null, .val .null] [.null, .null]))
  refine P288.st (fun vm0 locs X hx hy t k => Jvm.RoadKit.acmp (g := (mkF m 245 #[.val (.int p0), .val (.int p1), .val (.int p2), .val (.long q3), .second, .val (.int kk), .val (.int pt), .val (.int ch169), .val (.int px), .val .null, .val .null] [.null, .null])) X hx rfl rfl rfl (pc0 := 245) (pc' := 248) (same := true) rfl (hb hy at_245) rfl (decide_eq_true rfl) (by decide) (by decide) k) ?_
  show Go p e below _ (T288.setTop (mkF m 248 #[.val (.int p0), .val (.int p1), .val (.int p2), .val (.long q3), .second, .val (.int kk), .val (.int pt), .val (.int ch169), .val (.int px), .val .null, .val .null] []))
  refine P288.xs (fun hA hx hy t k => XS.iconst hA hx rfl (hb hy at_248) k) ?_
  show Go p e below _ (T288.setTop (mkF m 249 #[.val (.int p0), .val (.int p1), .val (.int p2), .val (.long q3), .second, .val (.int kk), .val (.int pt), .val (.int ch169), .val (.int px), .val .null, .val .null] [(.int (1 : Int32))]))
  refine P288.xs (fun hA hx hy t k => XS.goto hA hx rfl (pc0 := 249) (pc' := 253) rfl (hb hy at_249) (by decide) (by decide) k) ?_
  show Go p e below _ (T288.setTop (mkF m 253 #[.val (.int p0), .val (.int p1), .val (.int p2), .val (.long q3), .second, .val (.int kk), .val (.int pt), .val (.int ch169), .val (.int px), .val .null, .val .null] [(.int (1 : Int32))]))
  exact P288.retN (t := .boolean) rfl (by simp) at_253 (by decide) (by decide) rfl

theorem hELof {Z : State} {a0 : Array Value} (hw : ∀ d ∈ tables_1, d.before a0 Z = true) : EW Z a0 EL0 := (EW.cons (hw _ (List.mem_of_getElem? (i := 31) rfl)) (by decide) (EW.cons (hw _ (List.mem_of_getElem? (i := 69) rfl)) (by decide) (EW.cons (hw _ (List.mem_of_getElem? (i := 78) rfl)) (by decide) EW.nil)))
set_option maxRecDepth 65536 in
set_option maxHeartbeats 40000000 in
theorem comes_1 {Post : Tables → Env → Array Value → State → Outcome → State → Prop} (hpost : ∀ tb e args s v u, (limb_1_1.after args s (.returned v) u = true ∧ limb_1_2.after args s (.returned v) u = true ∧ True) → ReturnedEndW s (.returned v) u (Jvm.fieldLocs frame_1_writes args s ++ Jvm.arrayLocs frame_1_arrays args s ++ Jvm.staticLocs frame_1_statics s) 24 3200 → Post tb e args s (.returned v) u) :
    ArmFor flags0 classFile x code maxLocals ret World_1 tables_1 room_1 Calls_1 rest_1 Pre_1 Post := by
  intro l hfl _ _ p e ha hc hk s m args below hf hA hF happ hP
  obtain ⟨hcalls, hrest, hpre⟩ := hP
  obtain ⟨-, -, -, hnamed, -, -, -, hat⟩ := (Spec.applies_iff hf).mp happ
  obtain ⟨hg, hn⟩ := and_e (Cond.before_iff.mp (show (Jvm.Cond.and given_1 narrow_1).before args s = true from hpre))
  obtain ⟨hcount, a0_⟩ := and_e hg
  obtain ⟨q0, a1_⟩ := and_e a0_
  obtain ⟨q1, a2_⟩ := and_e a1_
  obtain ⟨q2, a3_⟩ := and_e a2_
  have q3 := a3_
  obtain ⟨w0, w1, w2, w3, rfl⟩ : ∃ w0 w1 w2 w3 : Value, args = #[w0, w1, w2, w3] := by
    have hs : args.size = 4 := by simpa [Cond.value, given_1] using hcount
    obtain ⟨L⟩ := args
    match L, hs with
    | [w0, w1, w2, w3], _ => exact ⟨w0, w1, w2, w3, rfl⟩
  have hw := fun d (hd : d ∈ tables_1) => atoms_spec (ws := Jvm.Cond.code x code maxLocals ret :: tables_1) hat d (List.mem_cons_of_mem _ hd)
  obtain ⟨hsets, hown0⟩ := atoms_of _ (rest_1_c_eq ▸ (show rest_1_c.before _ s = true from hrest))
  have hfit : Fit s := fun {y c} hc i hi => by
    obtain ⟨ha, rfl⟩ := Array.getElem?_eq_some_iff.mp hc
    have q := List.all_eq_true.mp ((Array.all_eq_true_iff_forall_mem.mp hF) _ (Array.getElem_mem ha)) i (List.mem_range.mpr hi)
    simpa [Array.getElem?_eq_getElem hi] using q
  have n5 := not_v (Cond.before_iff.mp (hsets _ (List.mem_of_getElem? (i := 2) rfl)))
  obtain ⟨i0, e0⟩ := is_v q0
  obtain rfl : w0 = (.int i0) := Option.some.inj e0
  obtain ⟨i1, e1⟩ := is_v q1
  obtain rfl : w1 = (.int i1) := Option.some.inj e1
  obtain ⟨i2, e2⟩ := is_v q2
  obtain rfl : w2 = (.int i2) := Option.some.inj e2
  obtain ⟨i3, e3⟩ := isL_v q3
  obtain rfl : w3 = (.long i3) := Option.some.inj e3
  obtain ⟨zc, ez⟩ := is_v (Cond.before_iff.mp (hsets _ (List.mem_of_getElem? (i := 1) rfl)))
  have S0 : Sta s s.heap "java/lang/String" "COMPACT_STRINGS" "Z" (.int zc) := Sta.start ez (Or.inl (hsets _ (List.mem_of_getElem? (i := 0) rfl)))
  have Pz : ¬ (zc = (0 : Int32)) := gotF (Cond.eq_ints ez (Term.int_eval (0))) n5
  obtain ⟨m0, n0⟩ := and_e hn
  obtain ⟨m3, n3⟩ := and_e n0
  obtain ⟨m6, n6⟩ := and_e n3
  obtain ⟨m9, n9⟩ := and_e n6
  obtain ⟨m12, n12⟩ := and_e n9
  obtain ⟨m15, n15⟩ := and_e n12
  obtain ⟨m18, n18⟩ := and_e n15
  obtain ⟨m21, n21⟩ := and_e n18
  obtain ⟨m24, n24⟩ := and_e n21
  obtain ⟨m27, n27⟩ := and_e n24
  obtain ⟨m30, n30⟩ := and_e n27
  obtain ⟨m33, n33⟩ := and_e n30
  obtain ⟨m36, n36⟩ := and_e n33
  obtain ⟨m39, n39⟩ := and_e n36
  obtain ⟨m42, n42⟩ := and_e n39
  obtain ⟨m45, n45⟩ := and_e n42
  obtain ⟨m48, n48⟩ := and_e n45
  obtain ⟨m51, n51⟩ := and_e n48
  obtain ⟨m54, n54⟩ := and_e n51
  obtain ⟨m57, n57⟩ := and_e n54
  obtain ⟨m60, n60⟩ := and_e n57
  obtain ⟨m63, n63⟩ := and_e n60
  obtain ⟨m66, n66⟩ := and_e n63
  obtain ⟨m69, n69⟩ := and_e n66
  obtain ⟨m72, n72⟩ := and_e n69
  obtain ⟨m75, n75⟩ := and_e n72
  obtain ⟨m78, n78⟩ := and_e n75
  obtain ⟨w_CLASS, ev_CLASS⟩ := exa_v m0
  have E_CLASS : Exa s s.heap w_CLASS "com/example/certain_answers/certainanswers/store/Kind" := Exa.start ev_CLASS m0
  have S_CLASS : Sta s s.heap "com/example/certain_answers/certainanswers/store/Kind" "CLASS" "Lcom/example/certain_answers/certainanswers/store/Kind;" (.ref w_CLASS) := Sta.start ev_CLASS (Or.inr ⟨(hw _ (List.mem_of_getElem? (i := 45) rfl)), (hw _ (List.mem_of_getElem? (i := 46) rfl))⟩)
  obtain ⟨s_CLASS, es_CLASS⟩ := exa_v m21
  have F_CLASS : Fld s s.heap w_CLASS "com/example/certain_answers/certainanswers/store/Kind" "word" "Ljava/lang/String;" (.ref s_CLASS) := Fld.start ((fld_at ev_CLASS).symm.trans es_CLASS)
  have X_CLASS : Str s s.heap s_CLASS ([(99 : Int32), (108 : Int32), (97 : Int32), (115 : Int32), (115 : Int32)] : List Int32) := strAt hfit es_CLASS m21 m24 m27 m30 rfl (by decide) (by decide) (by decide) (latS (by decide) (latS (by decide) (latS (by decide) (latS (by decide) (latS (by decide) lat0))))) (fun a cl ea hc => ⟨slotAt (j := 0) ea hc (eqv_i (Term.int_eval _) m45), slotAt (j := 1) ea hc (eqv_i (Term.int_eval _) m48), slotAt (j := 2) ea hc (eqv_i (Term.int_eval _) m51), slotAt (j := 3) ea hc (eqv_i (Term.int_eval _) m54), slotAt (j := 4) ea hc (eqv_i (Term.int_eval _) m57), trivial⟩)
  obtain ⟨w_PROPERTY, ev_PROPERTY⟩ := exa_v m15
  have E_PROPERTY : Exa s s.heap w_PROPERTY "com/example/certain_answers/certainanswers/store/Kind" := Exa.start ev_PROPERTY m15
  have S_PROPERTY : Sta s s.heap "com/example/certain_answers/certainanswers/store/Kind" "PROPERTY" "Lcom/example/certain_answers/certainanswers/store/Kind;" (.ref w_PROPERTY) := Sta.start ev_PROPERTY (Or.inr ⟨(hw _ (List.mem_of_getElem? (i := 45) rfl)), (hw _ (List.mem_of_getElem? (i := 62) rfl))⟩)
  obtain ⟨s_PROPERTY, es_PROPERTY⟩ := exa_v m33
  have F_PROPERTY : Fld s s.heap w_PROPERTY "com/example/certain_answers/certainanswers/store/Kind" "word" "Ljava/lang/String;" (.ref s_PROPERTY) := Fld.start ((fld_at ev_PROPERTY).symm.trans es_PROPERTY)
  have X_PROPERTY : Str s s.heap s_PROPERTY ([(112 : Int32), (114 : Int32), (111 : Int32), (112 : Int32), (101 : Int32), (114 : Int32), (116 : Int32), (121 : Int32)] : List Int32) := strAt hfit es_PROPERTY m33 m36 m39 m42 rfl (by decide) (by decide) (by decide) (latS (by decide) (latS (by decide) (latS (by decide) (latS (by decide) (latS (by decide) (latS (by decide) (latS (by decide) (latS (by decide) lat0)))))))) (fun a cl ea hc => ⟨slotAt (j := 0) ea hc (eqv_i (Term.int_eval _) m60), slotAt (j := 1) ea hc (eqv_i (Term.int_eval _) m63), slotAt (j := 2) ea hc (eqv_i (Term.int_eval _) m66), slotAt (j := 3) ea hc (eqv_i (Term.int_eval _) m69), slotAt (j := 4) ea hc (eqv_i (Term.int_eval _) m72), slotAt (j := 5) ea hc (eqv_i (Term.int_eval _) m75), slotAt (j := 6) ea hc (eqv_i (Term.int_eval _) m78), slotAt (j := 7) ea hc (eqv_i (Term.int_eval _) n78), trivial⟩)
  obtain ⟨w_V, ev_V⟩ := exa_v m6
  have E_V : Exa s s.heap w_V "[Lcom/example/certain_answers/certainanswers/store/Kind;" := Exa.start ev_V m6
  have S_V : Sta s s.heap "com/example/certain_answers/certainanswers/store/Kind" "$VALUES" "[Lcom/example/certain_answers/certainanswers/store/Kind;" (.ref w_V) := Sta.start ev_V (Or.inl (hw _ (List.mem_of_getElem? (i := 63) rfl)))
  obtain ⟨cl_V, Ar_V, q1_V, q2_V⟩ := arrAt ev_V m3 m9
  obtain ⟨k_V, A_V⟩ : ∃ k, Arv s s.heap w_V k (.object "com/example/certain_answers/certainanswers/store/Kind") (2 : Int32) [(.ref w_CLASS), (.ref w_PROPERTY)] .null := ⟨_, Arv.start hfit Ar_V q1_V q2_V (by decide) rfl ⟨slotAt (j := 0) ev_V Ar_V.1 (eqv_r ev_CLASS m12), slotAt (j := 1) ev_V Ar_V.1 (eqv_r ev_PROPERTY m18), trivial⟩⟩
  obtain ⟨n, o, h1, h2, h3, _, L, rfl, ⟨N, K, O, hv⟩, -, hq⟩ := mLaw l s _ hw (hELof hw) zc S0 Pz w_CLASS s_CLASS S_CLASS E_CLASS F_CLASS X_CLASS w_PROPERTY s_PROPERTY S_PROPERTY E_PROPERTY F_PROPERTY X_PROPERTY w_V k_V S_V E_V A_V i0 i1 i2 i3 s.heap ⟨Nat.le_refl _, fun _ _ q => q⟩  p e ha hc hk s m _ below hf ((Spec.applies_iff_loose hf).mp happ).1 ⟨rfl, State.Warmed39.refl s, rfl, (CHv.start (hELof hw) (fun p hp => hcalls.1 p hp) (hsets _ (List.mem_of_getElem? (i := 2) rfl)) (hw _ (List.mem_of_getElem? (i := 20) rfl)) (hw _ (List.mem_of_getElem? (i := 3) rfl)))⟩ trivial
  cases hv
  refine ⟨n, _, h1, h2, h3, hpost _ _ _ _ _ _ ⟨Cond.after_iff.mpr rfl, Cond.after_iff.mpr (eq_i res_at (Term.int_eval (1)) rfl), trivial⟩ ⟨hq.1, hq.2.1, hq.2.2.1, (hq.2.2.2.sift fun y hy => Or.inr (N y hy)).mono (by decide) (by decide)⟩⟩
theorem main_1_1 : Claimed_1_1 := comes_1 fun _ _ _ _ _ _ h hF => ⟨h.1, hF⟩
theorem main_1_2 : Claimed_1_2 := comes_1 fun _ _ _ _ _ _ h hF => ⟨h.2.1, hF⟩
end Jvm.Pilot.@@N@@
namespace Jvm.Pilot.@@N@@
open Jvm Jvm.ClassFile Sem Op Lib Jvm.Free Jvm.Stand Jvm.Pilot.@@N@@.Jvm.D
/-! MADE BY PROGRAM (witnessworld.py) out of the Statement's table words and the real class files: 22 classes; the members and pool entries that the words name. The judged class is class 1, her method 3. -/
namespace start1
open Jvm.ClassFile
def u (s : String) : CpInfo := .utf8 (stringToUtf16 s)
/-- a pool by its gaps: so many unusable entries, then the entry; so many at the end -/
def gap : Nat → List CpInfo → List CpInfo
  | 0, r => r
  | n + 1, r => .unusable :: gap n r
def poolList (es : List (Nat × CpInfo)) (last : Nat) : List CpInfo := es.foldr (fun e r => gap e.1 (e.2 :: r)) (gap last [])
def pool (es : List (Nat × CpInfo)) (last : Nat) : Array CpInfo := ⟨poolList es last⟩
def fileOf (pool : Array CpInfo) (this : Nat) (attrs : Array Attribute := #[]) (ms : Array MethodInfo := #[]) (fl : Nat := 33) (sup : Nat := 0) (ifs : Array Nat := #[]) (fds : Array FieldInfo := #[]) : ClassFile where
  minorVersion := 0
  majorVersion := 65
  constantPool := pool
  accessFlags := fl
  thisClass := this
  superClass := sup
  interfaces := ifs
  fields := fds
  methods := ms
  attributes := attrs
def plain (name : String) (sup : Option ClassId) : Class where
  name := name
  kind := .ordinary
  loader := none
  accessFlags := 33
  super := sup
  interfaces := #[]
  cf := none
  fields := #[]
  methods := #[]
  instanceTypes := #[]
  staticTypes := #[]
  resolved := #[]
  callSites := []
  init := .initialized
  statics := none
  mirror := none

def pool0 : Array CpInfo := pool [(5, u "<init>"), (0, u "()V"), (1, .class_ 10), (1, u "java/lang/Object"), (85, u "clone"), (0, u "()Ljava/lang/Object;")] 26

def k0c0 : Code := { maxStack := 0, maxLocals := 1, code := object_method_1_code, exceptionTable := #[], attributes := #[] }
def k0m0 : Method := { name := "<init>", desc := "()V", sig := { parameters := [], returnType := none }, accessFlags := 1, code := some k0c0 }
def k0m1 : Method := { name := "clone", desc := "()Ljava/lang/Object;", sig := { parameters := [], returnType := some (.object "java/lang/Object") }, accessFlags := 260, code := none }
/-- java/lang/Object -/
def k0 : Class := { plain "java/lang/Object" none with
  accessFlags := 33
  interfaces := #[]
  cf := some (fileOf pool0 8 #[] #[{ accessFlags := 1, nameIndex := 5, descriptorIndex := 6, attributes := #[] }, { accessFlags := 260, nameIndex := 96, descriptorIndex := 97, attributes := #[] }] 33 0 #[] #[])
  fields := #[]
  methods := #[k0m0, k0m1]
  instanceTypes := #[]
  staticTypes := #[]
  resolved := Array.replicate 124 none
  statics := none }

def pool1 : Array CpInfo := pool [(2, .class_ 4), (1, u "java/lang/Object"), (0, u "<init>"), (0, u "()V"), (0, .long 255), (1, .methodref 10 11), (0, .class_ 12), (0, .nameAndType 13 14), (0, u "com/example/certain_answers/certainanswers/store/KindNamedPinLaw"), (0, u "at"), (0, u "(JI)C"), (0, .class_ 16), (0, u "java/lang/String"), (0, .methodref 15 18), (0, .nameAndType 5 19), (0, u "([C)V"), (0, .integer 2147483647), (0, .methodref 10 22), (0, .nameAndType 23 24), (0, u "drawn"), (0, u "(JI)Ljava/lang/String;"), (0, .string 26), (0, u "class"), (0, .methodref 15 28), (0, .nameAndType 29 30), (0, u "equals"), (0, u "(Ljava/lang/Object;)Z"), (0, .fieldref 32 33), (0, .class_ 34), (0, .nameAndType 35 36), (0, u "com/example/certain_answers/certainanswers/store/Kind"), (0, u "CLASS"), (0, u "Lcom/example/certain_answers/certainanswers/store/Kind;"), (0, .string 38), (0, u "property"), (0, .fieldref 32 40), (0, .nameAndType 41 36), (0, u "PROPERTY"), (0, .methodref 32 43), (0, .nameAndType 44 45), (0, u "named"), (0, u "(Ljava/lang/String;)Lcom/example/certain_answers/certainanswers/store/Kind;"), (5, u "law"), (0, u "(IIIJ)Z")] 2

def k1m0 : Method := { name := "<init>", desc := "()V", sig := { parameters := [], returnType := none }, accessFlags := 1, code := none }
def k1c1 : Code := { maxStack := 4, maxLocals := 3, code := method_2_code, exceptionTable := #[], attributes := #[] }
def k1m1 : Method := { name := "at", desc := "(JI)C", sig := { parameters := [.long, .int], returnType := some .char }, accessFlags := 10, code := some k1c1 }
def k1c2 : Code := { maxStack := 5, maxLocals := 4, code := method_3_code, exceptionTable := #[], attributes := #[] }
def k1m2 : Method := { name := "drawn", desc := "(JI)Ljava/lang/String;", sig := { parameters := [.long, .int], returnType := some (.object "java/lang/String") }, accessFlags := 10, code := some k1c2 }
def k1c3 : Code := { maxStack := 4, maxLocals := 11, code := code, exceptionTable := #[], attributes := #[] }
def k1m3 : Method := { name := "law", desc := "(IIIJ)Z", sig := { parameters := [.int, .int, .int, .long], returnType := some .boolean }, accessFlags := 9, code := some k1c3 }
/-- com/example/certain_answers/certainanswers/store/KindNamedPinLaw -/
def k1 : Class := { plain "com/example/certain_answers/certainanswers/store/KindNamedPinLaw" (some 0) with
  accessFlags := 49
  interfaces := #[]
  cf := some (fileOf pool1 10 #[] #[{ accessFlags := 1, nameIndex := 5, descriptorIndex := 6, attributes := #[] }, { accessFlags := 10, nameIndex := 13, descriptorIndex := 14, attributes := #[] }, { accessFlags := 10, nameIndex := 23, descriptorIndex := 24, attributes := #[] }, { accessFlags := 9, nameIndex := 51, descriptorIndex := 52, attributes := #[] }] 49 2 #[] #[])
  fields := #[]
  methods := #[k1m0, k1m1, k1m2, k1m3]
  instanceTypes := #[]
  staticTypes := #[]
  resolved := Array.replicate 55 none
  statics := none }

def pool2 : Array CpInfo := pool [(1, .class_ 2), (0, u "java/io/Serializable"), (0, .class_ 4), (0, u "java/lang/Object")] 2

/-- java/io/Serializable -/
def k2 : Class := { plain "java/io/Serializable" (some 0) with
  accessFlags := 1537
  interfaces := #[]
  cf := some (fileOf pool2 1 #[] #[] 1537 3 #[] #[])
  fields := #[]
  methods := #[]
  instanceTypes := #[]
  staticTypes := #[]
  resolved := Array.replicate 7 none
  statics := none }

def pool3 : Array CpInfo := pool [(1, .class_ 2), (0, u "java/lang/Comparable"), (0, .class_ 4), (0, u "java/lang/Object")] 7

/-- java/lang/Comparable -/
def k3 : Class := { plain "java/lang/Comparable" (some 0) with
  accessFlags := 1537
  interfaces := #[]
  cf := some (fileOf pool3 1 #[] #[] 1537 3 #[] #[])
  fields := #[]
  methods := #[]
  instanceTypes := #[]
  staticTypes := #[]
  resolved := Array.replicate 12 none
  statics := none }

def pool4 : Array CpInfo := pool [(2, .class_ 4), (1, u "java/lang/CharSequence"), (42, .class_ 48), (0, u "java/lang/CharSequence$1CodePointIterator"), (10, .class_ 60), (0, u "java/lang/CharSequence$1CharIterator"), (5, .class_ 67), (0, u "java/lang/Object")] 63

/-- java/lang/CharSequence -/
def k4 : Class := { plain "java/lang/CharSequence" (some 0) with
  accessFlags := 1537
  interfaces := #[]
  cf := some (fileOf pool4 2 #[.nestMembers #[47, 59]] #[] 1537 66 #[] #[])
  fields := #[]
  methods := #[]
  instanceTypes := #[]
  staticTypes := #[]
  resolved := Array.replicate 131 none
  statics := none }

def pool5 : Array CpInfo := pool [(1, .class_ 2), (0, u "java/lang/constant/Constable"), (0, .class_ 4), (0, u "java/lang/Object")] 6

/-- java/lang/constant/Constable -/
def k5 : Class := { plain "java/lang/constant/Constable" (some 0) with
  accessFlags := 1537
  interfaces := #[]
  cf := some (fileOf pool5 1 #[] #[] 1537 3 #[] #[])
  fields := #[]
  methods := #[]
  instanceTypes := #[]
  staticTypes := #[]
  resolved := Array.replicate 11 none
  statics := none }

def pool6 : Array CpInfo := pool [(1, .class_ 2), (0, u "java/lang/constant/ConstantDesc"), (0, .class_ 4), (0, u "java/lang/Object")] 32

/-- java/lang/constant/ConstantDesc -/
def k6 : Class := { plain "java/lang/constant/ConstantDesc" (some 0) with
  accessFlags := 1537
  interfaces := #[]
  cf := some (fileOf pool6 1 #[] #[] 1537 3 #[] #[])
  fields := #[]
  methods := #[]
  instanceTypes := #[]
  staticTypes := #[]
  resolved := Array.replicate 37 none
  statics := none }

def pool7 : Array CpInfo := pool [(1, .methodref 2 3), (0, .class_ 4), (0, .nameAndType 5 6), (0, u "java/lang/Object"), (0, u "<init>"), (0, u "()V"), (0, .string 8), (0, u ""), (0, .fieldref 10 11), (0, .class_ 12), (0, .nameAndType 13 14), (0, u "java/lang/String"), (0, u "value"), (0, u "[B"), (0, .fieldref 10 16), (0, .nameAndType 17 18), (0, u "coder"), (0, u "B"), (2, u "hash"), (0, u "I"), (2, u "hashIsZero"), (0, u "Z"), (0, .methodref 10 28), (0, .nameAndType 5 29), (0, u "([CIILjava/lang/Void;)V"), (8, .fieldref 10 39), (0, .nameAndType 40 26), (0, u "COMPACT_STRINGS"), (1, .class_ 44), (1, u "java/lang/StringUTF16"), (0, u "compress"), (1, .methodref 42 48), (0, .nameAndType 49 50), (0, u "coderFromArrayLen"), (0, u "([BI)B"), (56, .class_ 109), (1, u "java/lang/StringLatin1"), (67, .methodref 42 178), (0, .nameAndType 45 179), (0, u "([CII)[B"), (361, .methodref 107 542), (0, .nameAndType 543 544), (0, u "equals"), (0, u "([B[B)Z"), (28, u "(Ljava/lang/Object;)Z"), (1, .class_ 576), (0, u "java/lang/CharSequence"), (22, u "CASE_INSENSITIVE_ORDER"), (0, u "Ljava/util/Comparator;"), (409, u "([C)V"), (90, u "serialPersistentFields"), (0, u "[Ljava/io/ObjectStreamField;"), (0, .class_ 1104), (0, u "java/lang/String$CaseInsensitiveComparator"), (1, .class_ 1107), (0, u "java/io/Serializable"), (0, .class_ 1109), (0, u "java/lang/Comparable"), (0, .class_ 1111), (0, u "java/lang/constant/Constable"), (0, .class_ 1113), (0, u "java/lang/constant/ConstantDesc"), (2, u "serialVersionUID"), (0, u "J"), (3, u "REPL"), (0, u "C"), (2, u "LATIN1"), (1, u "UTF16")] 323

def k7m0 : Method := { name := "<init>", desc := "()V", sig := { parameters := [], returnType := none }, accessFlags := 1, code := none }
def k7c1 : Code := { maxStack := 5, maxLocals := 2, code := jdk_42_method_3_code, exceptionTable := #[], attributes := #[] }
def k7m1 : Method := { name := "<init>", desc := "([C)V", sig := { parameters := [(.array .char)], returnType := none }, accessFlags := 1, code := some k7c1 }
def k7c2 : Code := { maxStack := 2, maxLocals := 3, code := jdk_42_method_66_code, exceptionTable := #[], attributes := #[] }
def k7m2 : Method := { name := "equals", desc := "(Ljava/lang/Object;)Z", sig := { parameters := [(.object "java/lang/Object")], returnType := some .boolean }, accessFlags := 1, code := some k7c2 }
def k7c3 : Code := { maxStack := 4, maxLocals := 6, code := jdk_42_method_149_code, exceptionTable := #[], attributes := #[] }
def k7m3 : Method := { name := "<init>", desc := "([CIILjava/lang/Void;)V", sig := { parameters := [(.array .char), .int, .int, (.object "java/lang/Void")], returnType := none }, accessFlags := 2, code := some k7c3 }
/-- java/lang/String -/
def k7 : Class := { plain "java/lang/String" (some 0) with
  accessFlags := 49
  interfaces := #[2, 3, 4, 5, 6]
  cf := some (fileOf pool7 10 #[.nestMembers #[1103]] #[{ accessFlags := 1, nameIndex := 5, descriptorIndex := 6, attributes := #[] }, { accessFlags := 1, nameIndex := 5, descriptorIndex := 1010, attributes := #[] }, { accessFlags := 1, nameIndex := 543, descriptorIndex := 573, attributes := #[] }, { accessFlags := 2, nameIndex := 5, descriptorIndex := 29, attributes := #[] }] 49 2 #[1106, 1108, 575, 1110, 1112] #[{ accessFlags := 18, nameIndex := 13, descriptorIndex := 14, attributes := #[] }, { accessFlags := 18, nameIndex := 17, descriptorIndex := 18, attributes := #[] }, { accessFlags := 2, nameIndex := 21, descriptorIndex := 22, attributes := #[] }, { accessFlags := 2, nameIndex := 25, descriptorIndex := 26, attributes := #[] }, { accessFlags := 26, nameIndex := 1116, descriptorIndex := 1117, attributes := #[] }, { accessFlags := 24, nameIndex := 40, descriptorIndex := 26, attributes := #[] }, { accessFlags := 26, nameIndex := 1101, descriptorIndex := 1102, attributes := #[] }, { accessFlags := 26, nameIndex := 1121, descriptorIndex := 1122, attributes := #[] }, { accessFlags := 25, nameIndex := 599, descriptorIndex := 600, attributes := #[] }, { accessFlags := 24, nameIndex := 1125, descriptorIndex := 18, attributes := #[] }, { accessFlags := 24, nameIndex := 1127, descriptorIndex := 18, attributes := #[] }])
  fields := #[{ name := "value", type := (.array .byte), accessFlags := 18, slot := 0, constantValue := 0 }, { name := "coder", type := .byte, accessFlags := 18, slot := 1, constantValue := 0 }, { name := "hash", type := .int, accessFlags := 2, slot := 2, constantValue := 0 }, { name := "hashIsZero", type := .boolean, accessFlags := 2, slot := 3, constantValue := 0 }, { name := "serialVersionUID", type := .long, accessFlags := 26, slot := 0, constantValue := 0 }, { name := "COMPACT_STRINGS", type := .boolean, accessFlags := 24, slot := 1, constantValue := 0 }, { name := "serialPersistentFields", type := (.array (.object "java/io/ObjectStreamField")), accessFlags := 26, slot := 2, constantValue := 0 }, { name := "REPL", type := .char, accessFlags := 26, slot := 3, constantValue := 0 }, { name := "CASE_INSENSITIVE_ORDER", type := (.object "java/util/Comparator"), accessFlags := 25, slot := 4, constantValue := 0 }, { name := "LATIN1", type := .byte, accessFlags := 24, slot := 5, constantValue := 0 }, { name := "UTF16", type := .byte, accessFlags := 24, slot := 6, constantValue := 0 }]
  methods := #[k7m0, k7m1, k7m2, k7m3]
  instanceTypes := #[(.array .byte), .byte, .int, .boolean]
  staticTypes := #[.long, .boolean, (.array (.object "java/io/ObjectStreamField")), .char, (.object "java/util/Comparator"), .byte, .byte]
  resolved := Array.replicate 1451 none
  statics := some 0 }

def pool8 : Array CpInfo := pool [(6, .class_ 8), (1, u "java/lang/Object"), (0, u "<init>"), (0, u "()V"), (1, .class_ 14), (1, u "java/lang/StringUTF16"), (31, u "$assertionsDisabled"), (0, u "Z"), (13, u "HI_BYTE_SHIFT"), (0, u "I"), (2, u "LO_BYTE_SHIFT"), (49, .methodref 12 116), (0, .nameAndType 117 118), (0, u "compress"), (0, u "([CI[BII)I"), (3, u "([CII)[B"), (138, u "coderFromArrayLen"), (0, u "([BI)B"), (106, .class_ 371), (1, u "java/lang/StringUTF16$LinesSpliterator"), (58, u "MAX_LENGTH"), (196, .class_ 628), (0, u "java/lang/StringUTF16$CodePointsSpliterator"), (0, .class_ 630), (0, u "java/lang/StringUTF16$CharsSpliterator")] 4

def k8m0 : Method := { name := "<init>", desc := "()V", sig := { parameters := [], returnType := none }, accessFlags := 0, code := none }
def k8c1 : Code := { maxStack := 2, maxLocals := 2, code := jdk_52_method_15_code, exceptionTable := #[], attributes := #[] }
def k8m1 : Method := { name := "coderFromArrayLen", desc := "([BI)B", sig := { parameters := [(.array .byte), .int], returnType := some .byte }, accessFlags := 8, code := some k8c1 }
def k8c2 : Code := { maxStack := 5, maxLocals := 6, code := jdk_52_method_16_code, exceptionTable := #[], attributes := #[] }
def k8m2 : Method := { name := "compress", desc := "([CII)[B", sig := { parameters := [(.array .char), .int, .int], returnType := some (.array .byte) }, accessFlags := 9, code := some k8c2 }
def k8c3 : Code := { maxStack := 3, maxLocals := 7, code := jdk_52_method_21_code, exceptionTable := #[], attributes := #[] }
def k8m3 : Method := { name := "compress", desc := "([CI[BII)I", sig := { parameters := [(.array .char), .int, (.array .byte), .int, .int], returnType := some .int }, accessFlags := 9, code := some k8c3 }
/-- java/lang/StringUTF16 -/
def k8 : Class := { plain "java/lang/StringUTF16" (some 0) with
  accessFlags := 48
  interfaces := #[]
  cf := some (fileOf pool8 12 #[.nestMembers #[627, 629, 369]] #[{ accessFlags := 0, nameIndex := 9, descriptorIndex := 10, attributes := #[] }, { accessFlags := 8, nameIndex := 261, descriptorIndex := 262, attributes := #[] }, { accessFlags := 9, nameIndex := 117, descriptorIndex := 122, attributes := #[] }, { accessFlags := 9, nameIndex := 117, descriptorIndex := 118, attributes := #[] }] 48 6 #[] #[{ accessFlags := 26, nameIndex := 61, descriptorIndex := 62, attributes := #[] }, { accessFlags := 26, nameIndex := 65, descriptorIndex := 62, attributes := #[] }, { accessFlags := 24, nameIndex := 430, descriptorIndex := 62, attributes := #[] }, { accessFlags := 4120, nameIndex := 46, descriptorIndex := 47, attributes := #[] }])
  fields := #[{ name := "HI_BYTE_SHIFT", type := .int, accessFlags := 26, slot := 0, constantValue := 0 }, { name := "LO_BYTE_SHIFT", type := .int, accessFlags := 26, slot := 1, constantValue := 0 }, { name := "MAX_LENGTH", type := .int, accessFlags := 24, slot := 2, constantValue := 0 }, { name := "$assertionsDisabled", type := .boolean, accessFlags := 4120, slot := 3, constantValue := 0 }]
  methods := #[k8m0, k8m1, k8m2, k8m3]
  instanceTypes := #[]
  staticTypes := #[.int, .int, .int, .boolean]
  resolved := Array.replicate 635 none
  statics := none }

def pool9 : Array CpInfo := pool [(4, .class_ 6), (1, u "java/lang/Object"), (0, u "<init>"), (0, u "()V"), (5, .class_ 16), (1, u "java/lang/StringLatin1"), (104, u "$assertionsDisabled"), (0, u "Z"), (98, .class_ 223), (1, u "java/lang/StringLatin1$LinesSpliterator"), (57, u "equals"), (0, u "([B[B)Z"), (107, .class_ 391), (0, u "java/lang/StringLatin1$CharsSpliterator")] 3

def k9m0 : Method := { name := "<init>", desc := "()V", sig := { parameters := [], returnType := none }, accessFlags := 0, code := none }
def k9c1 : Code := { maxStack := 3, maxLocals := 3, code := jdk_43_method_13_code, exceptionTable := #[], attributes := #[] }
def k9m1 : Method := { name := "equals", desc := "([B[B)Z", sig := { parameters := [(.array .byte), (.array .byte)], returnType := some .boolean }, accessFlags := 9, code := some k9c1 }
/-- java/lang/StringLatin1 -/
def k9 : Class := { plain "java/lang/StringLatin1" (some 0) with
  accessFlags := 48
  interfaces := #[]
  cf := some (fileOf pool9 14 #[.nestMembers #[390, 221]] #[{ accessFlags := 0, nameIndex := 7, descriptorIndex := 8, attributes := #[] }, { accessFlags := 9, nameIndex := 281, descriptorIndex := 282, attributes := #[] }] 48 4 #[] #[{ accessFlags := 4120, nameIndex := 121, descriptorIndex := 122, attributes := #[] }])
  fields := #[{ name := "$assertionsDisabled", type := .boolean, accessFlags := 4120, slot := 0, constantValue := 0 }]
  methods := #[k9m0, k9m1]
  instanceTypes := #[]
  staticTypes := #[.boolean]
  resolved := Array.replicate 395 none
  statics := none }

def pool10 : Array CpInfo := pool [(2, .class_ 4), (1, u "java/lang/Enum"), (0, u "name"), (0, u "Ljava/lang/String;"), (2, u "ordinal"), (0, u "I"), (1, .class_ 14), (1, u "java/lang/Object"), (4, u "hash"), (86, .class_ 108), (1, u "java/lang/Enum$EnumDesc"), (2, .class_ 112), (0, u "java/lang/constant/Constable"), (0, .class_ 114), (0, u "java/lang/Comparable"), (0, .class_ 116), (0, u "java/io/Serializable")] 87

/-- java/lang/Enum -/
def k10 : Class := { plain "java/lang/Enum" (some 0) with
  accessFlags := 1057
  interfaces := #[5, 3, 2]
  cf := some (fileOf pool10 2 #[.nestMembers #[106]] #[] 1057 12 #[111, 113, 115] #[{ accessFlags := 18, nameIndex := 5, descriptorIndex := 6, attributes := #[] }, { accessFlags := 18, nameIndex := 9, descriptorIndex := 10, attributes := #[] }, { accessFlags := 2, nameIndex := 19, descriptorIndex := 10, attributes := #[] }])
  fields := #[{ name := "name", type := (.object "java/lang/String"), accessFlags := 18, slot := 0, constantValue := 0 }, { name := "ordinal", type := .int, accessFlags := 18, slot := 1, constantValue := 0 }, { name := "hash", type := .int, accessFlags := 2, slot := 2, constantValue := 0 }]
  methods := #[]
  instanceTypes := #[(.object "java/lang/String"), .int, .int]
  staticTypes := #[]
  resolved := Array.replicate 204 none
  statics := none }

def pool11 : Array CpInfo := pool [(1, .class_ 2), (0, u "com/example/certain_answers/certainanswers/store/Kind"), (2, u "CLASS"), (0, u "Lcom/example/certain_answers/certainanswers/store/Kind;"), (2, u "PROPERTY"), (0, .fieldref 1 11), (0, .nameAndType 12 13), (0, u "$VALUES"), (0, u "[Lcom/example/certain_answers/certainanswers/store/Kind;"), (0, .methodref 15 16), (0, .class_ 13), (0, .nameAndType 17 18), (0, u "clone"), (0, u "()Ljava/lang/Object;"), (1, .class_ 22), (1, u "java/lang/Enum"), (6, .fieldref 1 30), (0, .nameAndType 31 32), (0, u "word"), (0, u "Ljava/lang/String;"), (2, u "prefix"), (2, u "columns"), (0, u "Ljava/util/List;"), (2, u "indexes"), (0, .methodref 1 44), (0, .nameAndType 45 46), (0, u "values"), (0, u "()[Lcom/example/certain_answers/certainanswers/store/Kind;"), (0, .methodref 48 49), (0, .class_ 50), (0, .nameAndType 51 52), (0, u "java/lang/String"), (0, u "equals"), (0, u "(Ljava/lang/Object;)Z"), (38, u "(Ljava/lang/String;)Lcom/example/certain_answers/certainanswers/store/Kind;"), (2, u "named")] 6

def k11c0 : Code := { maxStack := 1, maxLocals := 0, code := prog_11_method_1_code, exceptionTable := #[], attributes := #[] }
def k11m0 : Method := { name := "values", desc := "()[Lcom/example/certain_answers/certainanswers/store/Kind;", sig := { parameters := [], returnType := some (.array (.object "com/example/certain_answers/certainanswers/store/Kind")) }, accessFlags := 9, code := some k11c0 }
def k11c1 : Code := { maxStack := 2, maxLocals := 6, code := prog_11_method_4_code, exceptionTable := #[], attributes := #[] }
def k11m1 : Method := { name := "named", desc := "(Ljava/lang/String;)Lcom/example/certain_answers/certainanswers/store/Kind;", sig := { parameters := [(.object "java/lang/String")], returnType := some (.object "com/example/certain_answers/certainanswers/store/Kind") }, accessFlags := 8, code := some k11c1 }
/-- com/example/certain_answers/certainanswers/store/Kind -/
def k11 : Class := { plain "com/example/certain_answers/certainanswers/store/Kind" (some 10) with
  accessFlags := 16432
  interfaces := #[]
  cf := some (fileOf pool11 1 #[] #[{ accessFlags := 9, nameIndex := 45, descriptorIndex := 46, attributes := #[] }, { accessFlags := 8, nameIndex := 94, descriptorIndex := 91, attributes := #[] }] 16432 20 #[] #[{ accessFlags := 16409, nameIndex := 5, descriptorIndex := 6, attributes := #[] }, { accessFlags := 16409, nameIndex := 9, descriptorIndex := 6, attributes := #[] }, { accessFlags := 16, nameIndex := 31, descriptorIndex := 32, attributes := #[] }, { accessFlags := 16, nameIndex := 35, descriptorIndex := 32, attributes := #[] }, { accessFlags := 16, nameIndex := 38, descriptorIndex := 39, attributes := #[] }, { accessFlags := 16, nameIndex := 42, descriptorIndex := 39, attributes := #[] }, { accessFlags := 4122, nameIndex := 12, descriptorIndex := 13, attributes := #[] }])
  fields := #[{ name := "CLASS", type := (.object "com/example/certain_answers/certainanswers/store/Kind"), accessFlags := 16409, slot := 0, constantValue := 0 }, { name := "PROPERTY", type := (.object "com/example/certain_answers/certainanswers/store/Kind"), accessFlags := 16409, slot := 1, constantValue := 0 }, { name := "word", type := (.object "java/lang/String"), accessFlags := 16, slot := 3, constantValue := 0 }, { name := "prefix", type := (.object "java/lang/String"), accessFlags := 16, slot := 4, constantValue := 0 }, { name := "columns", type := (.object "java/util/List"), accessFlags := 16, slot := 5, constantValue := 0 }, { name := "indexes", type := (.object "java/util/List"), accessFlags := 16, slot := 6, constantValue := 0 }, { name := "$VALUES", type := (.array (.object "com/example/certain_answers/certainanswers/store/Kind")), accessFlags := 4122, slot := 2, constantValue := 0 }]
  methods := #[k11m0, k11m1]
  instanceTypes := #[(.object "java/lang/String"), .int, .int, (.object "java/lang/String"), (.object "java/lang/String"), (.object "java/util/List"), (.object "java/util/List")]
  staticTypes := #[(.object "com/example/certain_answers/certainanswers/store/Kind"), (.object "com/example/certain_answers/certainanswers/store/Kind"), (.array (.object "com/example/certain_answers/certainanswers/store/Kind"))]
  resolved := Array.replicate 101 none
  statics := some 1 }

def pool12 : Array CpInfo := pool [(1, .class_ 2), (0, u "java/lang/Cloneable"), (0, .class_ 4), (0, u "java/lang/Object")] 2

/-- java/lang/Cloneable -/
def k12 : Class := { plain "java/lang/Cloneable" (some 0) with
  accessFlags := 1537
  interfaces := #[]
  cf := some (fileOf pool12 1 #[] #[] 1537 3 #[] #[])
  fields := #[]
  methods := #[]
  instanceTypes := #[]
  staticTypes := #[]
  resolved := Array.replicate 7 none
  statics := none }

def pool13 : Array CpInfo := pool [(2, .class_ 4), (1, u "java/lang/Object"), (0, u "<init>"), (0, u "()V"), (17, .class_ 26), (1, u "jdk/internal/util/Preconditions"), (28, .class_ 56), (0, u "jdk/internal/util/Preconditions$4"), (57, .class_ 115), (0, u "jdk/internal/util/Preconditions$1"), (7, u "SIOOBE_FORMATTER"), (0, u "Ljava/util/function/BiFunction;"), (0, .class_ 126), (0, u "jdk/internal/util/Preconditions$2"), (3, u "AIOOBE_FORMATTER"), (0, .class_ 132), (0, u "jdk/internal/util/Preconditions$3"), (3, u "IOOBE_FORMATTER")] 57

def k13m0 : Method := { name := "<init>", desc := "()V", sig := { parameters := [], returnType := none }, accessFlags := 1, code := none }
/-- jdk/internal/util/Preconditions -/
def k13 : Class := { plain "jdk/internal/util/Preconditions" (some 0) with
  accessFlags := 33
  interfaces := #[]
  cf := some (fileOf pool13 24 #[.nestMembers #[55, 131, 125, 114]] #[{ accessFlags := 1, nameIndex := 5, descriptorIndex := 6, attributes := #[] }] 33 2 #[] #[{ accessFlags := 25, nameIndex := 123, descriptorIndex := 124, attributes := #[] }, { accessFlags := 25, nameIndex := 130, descriptorIndex := 124, attributes := #[] }, { accessFlags := 25, nameIndex := 136, descriptorIndex := 124, attributes := #[] }])
  fields := #[{ name := "SIOOBE_FORMATTER", type := (.object "java/util/function/BiFunction"), accessFlags := 25, slot := 0, constantValue := 0 }, { name := "AIOOBE_FORMATTER", type := (.object "java/util/function/BiFunction"), accessFlags := 25, slot := 1, constantValue := 0 }, { name := "IOOBE_FORMATTER", type := (.object "java/util/function/BiFunction"), accessFlags := 25, slot := 2, constantValue := 0 }]
  methods := #[k13m0]
  instanceTypes := #[]
  staticTypes := #[(.object "java/util/function/BiFunction"), (.object "java/util/function/BiFunction"), (.object "java/util/function/BiFunction")]
  resolved := Array.replicate 194 none
  statics := some 2 }

def pool14 : Array CpInfo := pool [(9, u "<init>"), (6, .class_ 18), (1, u "java/lang/Object"), (0, u "()V"), (1, .class_ 23), (1, u "jdk/internal/util/ArraysSupport"), (0, u "LOG2_ARRAY_LONG_INDEX_SCALE"), (0, u "I"), (2, u "U"), (0, u "Ljdk/internal/misc/Unsafe;"), (8, u "BIG_ENDIAN"), (0, u "Z"), (8, u "LOG2_BYTE_BIT_SIZE"), (4, u "LOG2_ARRAY_INT_INDEX_SCALE"), (54, u "JLA"), (0, u "Ljdk/internal/access/JavaLangAccess;"), (11, u "LOG2_ARRAY_BOOLEAN_INDEX_SCALE"), (9, u "LOG2_ARRAY_BYTE_INDEX_SCALE"), (5, u "LOG2_ARRAY_CHAR_INDEX_SCALE"), (5, u "LOG2_ARRAY_SHORT_INDEX_SCALE"), (18, u "LOG2_ARRAY_FLOAT_INDEX_SCALE"), (24, u "LOG2_ARRAY_DOUBLE_INDEX_SCALE"), (89, u "T_BOOLEAN"), (2, u "T_CHAR"), (1, u "T_FLOAT"), (1, u "T_DOUBLE"), (1, u "T_BYTE"), (1, u "T_SHORT"), (1, u "T_INT"), (1, u "T_LONG"), (1, u "SOFT_MAX_ARRAY_LENGTH")] 83

def k14m0 : Method := { name := "<init>", desc := "()V", sig := { parameters := [], returnType := none }, accessFlags := 2, code := none }
/-- jdk/internal/util/ArraysSupport -/
def k14 : Class := { plain "jdk/internal/util/ArraysSupport" (some 0) with
  accessFlags := 33
  interfaces := #[]
  cf := some (fileOf pool14 21 #[] #[{ accessFlags := 2, nameIndex := 9, descriptorIndex := 19, attributes := #[] }] 33 16 #[] #[{ accessFlags := 24, nameIndex := 28, descriptorIndex := 29, attributes := #[] }, { accessFlags := 26, nameIndex := 38, descriptorIndex := 39, attributes := #[] }, { accessFlags := 25, nameIndex := 121, descriptorIndex := 25, attributes := #[] }, { accessFlags := 25, nameIndex := 131, descriptorIndex := 25, attributes := #[] }, { accessFlags := 25, nameIndex := 137, descriptorIndex := 25, attributes := #[] }, { accessFlags := 25, nameIndex := 143, descriptorIndex := 25, attributes := #[] }, { accessFlags := 25, nameIndex := 53, descriptorIndex := 25, attributes := #[] }, { accessFlags := 25, nameIndex := 24, descriptorIndex := 25, attributes := #[] }, { accessFlags := 25, nameIndex := 162, descriptorIndex := 25, attributes := #[] }, { accessFlags := 25, nameIndex := 187, descriptorIndex := 25, attributes := #[] }, { accessFlags := 26, nameIndex := 48, descriptorIndex := 25, attributes := #[] }, { accessFlags := 25, nameIndex := 277, descriptorIndex := 25, attributes := #[] }, { accessFlags := 25, nameIndex := 280, descriptorIndex := 25, attributes := #[] }, { accessFlags := 25, nameIndex := 282, descriptorIndex := 25, attributes := #[] }, { accessFlags := 25, nameIndex := 284, descriptorIndex := 25, attributes := #[] }, { accessFlags := 25, nameIndex := 286, descriptorIndex := 25, attributes := #[] }, { accessFlags := 25, nameIndex := 288, descriptorIndex := 25, attributes := #[] }, { accessFlags := 25, nameIndex := 290, descriptorIndex := 25, attributes := #[] }, { accessFlags := 25, nameIndex := 292, descriptorIndex := 25, attributes := #[] }, { accessFlags := 26, nameIndex := 108, descriptorIndex := 109, attributes := #[] }, { accessFlags := 25, nameIndex := 294, descriptorIndex := 25, attributes := #[] }])
  fields := #[{ name := "U", type := (.object "jdk/internal/misc/Unsafe"), accessFlags := 24, slot := 0, constantValue := 0 }, { name := "BIG_ENDIAN", type := .boolean, accessFlags := 26, slot := 1, constantValue := 0 }, { name := "LOG2_ARRAY_BOOLEAN_INDEX_SCALE", type := .int, accessFlags := 25, slot := 2, constantValue := 0 }, { name := "LOG2_ARRAY_BYTE_INDEX_SCALE", type := .int, accessFlags := 25, slot := 3, constantValue := 0 }, { name := "LOG2_ARRAY_CHAR_INDEX_SCALE", type := .int, accessFlags := 25, slot := 4, constantValue := 0 }, { name := "LOG2_ARRAY_SHORT_INDEX_SCALE", type := .int, accessFlags := 25, slot := 5, constantValue := 0 }, { name := "LOG2_ARRAY_INT_INDEX_SCALE", type := .int, accessFlags := 25, slot := 6, constantValue := 0 }, { name := "LOG2_ARRAY_LONG_INDEX_SCALE", type := .int, accessFlags := 25, slot := 7, constantValue := 0 }, { name := "LOG2_ARRAY_FLOAT_INDEX_SCALE", type := .int, accessFlags := 25, slot := 8, constantValue := 0 }, { name := "LOG2_ARRAY_DOUBLE_INDEX_SCALE", type := .int, accessFlags := 25, slot := 9, constantValue := 0 }, { name := "LOG2_BYTE_BIT_SIZE", type := .int, accessFlags := 26, slot := 10, constantValue := 0 }, { name := "T_BOOLEAN", type := .int, accessFlags := 25, slot := 11, constantValue := 0 }, { name := "T_CHAR", type := .int, accessFlags := 25, slot := 12, constantValue := 0 }, { name := "T_FLOAT", type := .int, accessFlags := 25, slot := 13, constantValue := 0 }, { name := "T_DOUBLE", type := .int, accessFlags := 25, slot := 14, constantValue := 0 }, { name := "T_BYTE", type := .int, accessFlags := 25, slot := 15, constantValue := 0 }, { name := "T_SHORT", type := .int, accessFlags := 25, slot := 16, constantValue := 0 }, { name := "T_INT", type := .int, accessFlags := 25, slot := 17, constantValue := 0 }, { name := "T_LONG", type := .int, accessFlags := 25, slot := 18, constantValue := 0 }, { name := "JLA", type := (.object "jdk/internal/access/JavaLangAccess"), accessFlags := 26, slot := 19, constantValue := 0 }, { name := "SOFT_MAX_ARRAY_LENGTH", type := .int, accessFlags := 25, slot := 20, constantValue := 0 }]
  methods := #[k14m0]
  instanceTypes := #[]
  staticTypes := #[(.object "jdk/internal/misc/Unsafe"), .boolean, .int, .int, .int, .int, .int, .int, .int, .int, .int, .int, .int, .int, .int, .int, .int, .int, .int, (.object "jdk/internal/access/JavaLangAccess"), .int]
  resolved := Array.replicate 378 none
  statics := none }

/-- the primitive byte -/
def k15 : Class := { plain "byte" none with kind := .primitive 'B', accessFlags := 0x411 }
/-- [B -/
def k16 : Class := { plain "[B" (some 0) with kind := .array 15 .byte, interfaces := #[12, 2], accessFlags := 1041 }

/-- the primitive char -/
def k17 : Class := { plain "char" none with kind := .primitive 'C', accessFlags := 0x411 }
/-- [C -/
def k18 : Class := { plain "[C" (some 0) with kind := .array 17 .char, interfaces := #[12, 2], accessFlags := 1041 }

/-- the primitive int -/
def k19 : Class := { plain "int" none with kind := .primitive 'I', accessFlags := 0x411 }
/-- [I -/
def k20 : Class := { plain "[I" (some 0) with kind := .array 19 .int, interfaces := #[12, 2], accessFlags := 1041 }

/-- [Lcom/example/certain_answers/certainanswers/store/Kind; -/
def k21 : Class := { plain "[Lcom/example/certain_answers/certainanswers/store/Kind;" (some 0) with kind := .array 11 (.object "com/example/certain_answers/certainanswers/store/Kind"), interfaces := #[12, 2], accessFlags := 1041 }

def heap : Heap := #[{ cls := 7, slots := #[.long 0, .int 1, .null, .int 0, .null, .int 0, .int 0], vm := .statics 7 },
  { cls := 11, slots := #[.ref 4, .ref 5, .ref 3], vm := .statics 11 },
  { cls := 13, slots := #[.null, .null, .null], vm := .statics 13 },
  { cls := 21, slots := #[.ref 4, .ref 5], vm := .none },
  { cls := 11, slots := #[.null, .int 0, .int 0, .ref 6, .null, .null, .null], vm := .none },
  { cls := 11, slots := #[.null, .int 1, .int 0, .ref 7, .null, .null, .null], vm := .none },
  { cls := 7, slots := #[.ref 8, .int 0, .int 0, .int 0], vm := .none },
  { cls := 7, slots := #[.ref 9, .int 0, .int 0, .int 0], vm := .none },
  { cls := 16, slots := #[.int 99, .int 108, .int 97, .int 115, .int 115], vm := .none },
  { cls := 16, slots := #[.int 112, .int 114, .int 111, .int 112, .int 101, .int 114, .int 116, .int 121], vm := .none }]
def classes : Array Class := #[k0, k1, k2, k3, k4, k5, k6, k7, k8, k9, k10, k11, k12, k13, k14, k15, k16, k17, k18, k19, k20, k21]
def interned : List (Array UInt16 × Addr) := []
def slotsUsed : Nat := 50
def theMethod : MethodId := ⟨1, 3⟩
def args0 : Array Value := #[.int 5, .int 6, .int 7, .long 8]
def aboutOver (below : List Frame) : State where
  vm := { classes := classes, interned := interned.toArray }
  heap := heap
  slotsUsed := slotsUsed
  threads := #[{ frames := .invoking theMethod args0 :: below }]
def below0 : List Frame := [.native { method := ⟨0, 0⟩, args := #[] }]
def about1 : State := aboutOver below0
def p0 : Program := .bare "" "" ""
def e0 : Env := launch0.env 0 0 0
theorem w_frames : about1.frames = Frame.invoking theMethod args0 :: below0 := rfl
set_option maxRecDepth 65536 in
theorem w_args : argsFit about1.vm theMethod args0 = true := by decide +kernel
set_option maxRecDepth 65536 in
theorem w_heap : heapFits about1 = true := by decide +kernel
set_option maxRecDepth 65536 in
theorem w_runnable : about1.curStatus? = some .runnable := by decide +kernel
set_option maxRecDepth 65536 in
theorem w_alone : about1.alone = true := by decide +kernel
set_option maxRecDepth 65536 in
theorem w_named : about1.methodNamed? x = some theMethod := by decide +kernel
set_option maxRecDepth 65536 in
theorem w_hears : about1.hears theMethod below0 = true := by decide +kernel
set_option maxRecDepth 65536 in
theorem w_ripe : about1.ripe theMethod args0 below0 = true := by decide +kernel
theorem w_running : about1.status = .running := rfl
set_option maxRecDepth 65536 in
theorem w_room : about1.hasRoom e0.platform room_1 = true :=
  launch0.hasRoom_least _ room_1 (by decide +kernel) (by decide +kernel) (by decide +kernel) (by decide +kernel) (by decide +kernel) (by decide +kernel)
theorem allAtoms_all (ts : List Jvm.Cond) (a : Array Jvm.Value) (st : Jvm.State) : (allAtoms ts).before a st = ts.all (fun c => c.before a st) := by
  induction ts with
  | nil => rfl
  | cons c t ih =>
    show (Jvm.Cond.and c (allAtoms t)).before a st = _
    rw [Jvm.Cond.before_and, ih, List.all_cons]
def words1 : List Jvm.Cond := Jvm.Cond.code x code maxLocals ret :: tables_1
/-- a 'code' word, met by the world's own term for the bytes: nothing is compared byte by byte -/
theorem code_word {y : MethodName} {bytes : ByteArray} {mx : Nat} {rt : Option FieldType} {a : Array Value} {s : State} {m : MethodId} {meth : Method} {c : Code} (h1 : s.methodNamed? y = some m) (h2 : s.vm.method? m = some meth) (h3 : meth.code = some c) (h4 : c.code = bytes)
    (h5 : (c.maxLocals == mx && c.exceptionTable.isEmpty && decide (c.maxStack ≤ mostOperands) && decide (meth.sig.returnType = rt) && !meth.locks && decide (parseMethodDescriptor y.desc = some meth.sig)) = true) : (Jvm.Cond.code y bytes mx rt).before a s = true := by
  simp only [Bool.and_eq_true, beq_iff_eq, Bool.not_eq_true', decide_eq_true_eq] at h5
  obtain ⟨⟨⟨⟨⟨g1, g2⟩, g3⟩, g4⟩, g5⟩, g6⟩ := h5
  simp [Cond.before, Cond.holds, Cond.value, h1, h2, h3, h4, g1, g2, g3, g4, g5, g6]
def isCode : Jvm.Cond → Bool
  | .code _ _ _ _ => true
  | _ => false
theorem all_split {L : List Jvm.Cond} {P : Jvm.Cond → Bool} (h1 : L.all (fun c => isCode c || P c) = true) (h2 : ∀ c ∈ L.filter isCode, P c = true) : L.all P = true := by
  refine List.all_eq_true.mpr fun c hc => ?_
  have h := List.all_eq_true.mp h1 c hc
  rcases Bool.eq_false_or_eq_true (isCode c) with hi | hi
  · exact h2 c (List.mem_filter.mpr ⟨hc, hi⟩)
  · simpa [hi] using h
set_option maxRecDepth 65536 in
theorem w_c0 : (Jvm.Cond.code x code maxLocals ret).before args0 about1 = true := code_word (m := ⟨1, 3⟩) (meth := k1m3) (c := k1c3) (by decide +kernel) rfl rfl rfl (by decide +kernel)
set_option maxRecDepth 65536 in
theorem w_c1 : (Jvm.Cond.code ({ cls := "java/lang/String", name := "<init>", desc := "([C)V" } : Jvm.MethodName) jdk_42_method_3_code (2 : Nat) (Option.none : Option Jvm.ClassFile.FieldType)).before args0 about1 = true := code_word (m := ⟨7, 1⟩) (meth := k7m1) (c := k7c1) (by decide +kernel) rfl rfl rfl (by decide +kernel)
set_option maxRecDepth 65536 in
theorem w_c2 : (Jvm.Cond.code ({ cls := "java/lang/String", name := "<init>", desc := "([CIILjava/lang/Void;)V" } : Jvm.MethodName) jdk_42_method_149_code (6 : Nat) (Option.none : Option Jvm.ClassFile.FieldType)).before args0 about1 = true := code_word (m := ⟨7, 3⟩) (meth := k7m3) (c := k7c3) (by decide +kernel) rfl rfl rfl (by decide +kernel)
set_option maxRecDepth 65536 in
theorem w_c3 : (Jvm.Cond.code ({ cls := "java/lang/Object", name := "<init>", desc := "()V" } : Jvm.MethodName) object_method_1_code (1 : Nat) (Option.none : Option Jvm.ClassFile.FieldType)).before args0 about1 = true := code_word (m := ⟨0, 0⟩) (meth := k0m0) (c := k0c0) (by decide +kernel) rfl rfl rfl (by decide +kernel)
set_option maxRecDepth 65536 in
theorem w_c4 : (Jvm.Cond.code ({ cls := "java/lang/StringUTF16", name := "compress", desc := "([CII)[B" } : Jvm.MethodName) jdk_52_method_16_code (6 : Nat) (Option.some (Jvm.ClassFile.FieldType.array Jvm.ClassFile.FieldType.byte))).before args0 about1 = true := code_word (m := ⟨8, 2⟩) (meth := k8m2) (c := k8c2) (by decide +kernel) rfl rfl rfl (by decide +kernel)
set_option maxRecDepth 65536 in
theorem w_c5 : (Jvm.Cond.code ({ cls := "java/lang/StringUTF16", name := "compress", desc := "([CI[BII)I" } : Jvm.MethodName) jdk_52_method_21_code (7 : Nat) (Option.some Jvm.ClassFile.FieldType.int)).before args0 about1 = true := code_word (m := ⟨8, 3⟩) (meth := k8m3) (c := k8c3) (by decide +kernel) rfl rfl rfl (by decide +kernel)
set_option maxRecDepth 65536 in
theorem w_c6 : (Jvm.Cond.code ({ cls := "java/lang/StringUTF16", name := "coderFromArrayLen", desc := "([BI)B" } : Jvm.MethodName) jdk_52_method_15_code (2 : Nat) (Option.some Jvm.ClassFile.FieldType.byte)).before args0 about1 = true := code_word (m := ⟨8, 1⟩) (meth := k8m1) (c := k8c1) (by decide +kernel) rfl rfl rfl (by decide +kernel)
set_option maxRecDepth 65536 in
theorem w_c7 : (Jvm.Cond.code ({ cls := "java/lang/String", name := "equals", desc := "(Ljava/lang/Object;)Z" } : Jvm.MethodName) jdk_42_method_66_code (3 : Nat) (Option.some Jvm.ClassFile.FieldType.boolean)).before args0 about1 = true := code_word (m := ⟨7, 2⟩) (meth := k7m2) (c := k7c2) (by decide +kernel) rfl rfl rfl (by decide +kernel)
set_option maxRecDepth 65536 in
theorem w_c8 : (Jvm.Cond.code ({ cls := "java/lang/StringLatin1", name := "equals", desc := "([B[B)Z" } : Jvm.MethodName) jdk_43_method_13_code (3 : Nat) (Option.some Jvm.ClassFile.FieldType.boolean)).before args0 about1 = true := code_word (m := ⟨9, 1⟩) (meth := k9m1) (c := k9c1) (by decide +kernel) rfl rfl rfl (by decide +kernel)
set_option maxRecDepth 65536 in
theorem w_c9 : (Jvm.Cond.code ({ cls := "com/example/certain_answers/certainanswers/store/Kind", name := "named", desc := "(Ljava/lang/String;)Lcom/example/certain_answers/certainanswers/store/Kind;" } : Jvm.MethodName) prog_11_method_4_code (6 : Nat) (Option.some (Jvm.ClassFile.FieldType.object "com/example/certain_answers/certainanswers/store/Kind"))).before args0 about1 = true := code_word (m := ⟨11, 1⟩) (meth := k11m1) (c := k11c1) (by decide +kernel) rfl rfl rfl (by decide +kernel)
set_option maxRecDepth 65536 in
theorem w_c10 : (Jvm.Cond.code ({ cls := "com/example/certain_answers/certainanswers/store/Kind", name := "values", desc := "()[Lcom/example/certain_answers/certainanswers/store/Kind;" } : Jvm.MethodName) prog_11_method_1_code (0 : Nat) (Option.some (Jvm.ClassFile.FieldType.array (Jvm.ClassFile.FieldType.object "com/example/certain_answers/certainanswers/store/Kind")))).before args0 about1 = true := code_word (m := ⟨11, 0⟩) (meth := k11m0) (c := k11c0) (by decide +kernel) rfl rfl rfl (by decide +kernel)
set_option maxRecDepth 65536 in
theorem w_c11 : (Jvm.Cond.code ({ cls := "com/example/certain_answers/certainanswers/store/KindNamedPinLaw", name := "drawn", desc := "(JI)Ljava/lang/String;" } : Jvm.MethodName) method_3_code (4 : Nat) (Option.some (Jvm.ClassFile.FieldType.object "java/lang/String"))).before args0 about1 = true := code_word (m := ⟨1, 2⟩) (meth := k1m2) (c := k1c2) (by decide +kernel) rfl rfl rfl (by decide +kernel)
set_option maxRecDepth 65536 in
theorem w_c12 : (Jvm.Cond.code ({ cls := "com/example/certain_answers/certainanswers/store/KindNamedPinLaw", name := "at", desc := "(JI)C" } : Jvm.MethodName) method_2_code (3 : Nat) (Option.some Jvm.ClassFile.FieldType.char)).before args0 about1 = true := code_word (m := ⟨1, 1⟩) (meth := k1m1) (c := k1c1) (by decide +kernel) rfl rfl rfl (by decide +kernel)
def codes1 : List Jvm.Cond := [Jvm.Cond.code x code maxLocals ret, Jvm.Cond.code ({ cls := "java/lang/String", name := "<init>", desc := "([C)V" } : Jvm.MethodName) jdk_42_method_3_code (2 : Nat) (Option.none : Option Jvm.ClassFile.FieldType), Jvm.Cond.code ({ cls := "java/lang/String", name := "<init>", desc := "([CIILjava/lang/Void;)V" } : Jvm.MethodName) jdk_42_method_149_code (6 : Nat) (Option.none : Option Jvm.ClassFile.FieldType), Jvm.Cond.code ({ cls := "java/lang/Object", name := "<init>", desc := "()V" } : Jvm.MethodName) object_method_1_code (1 : Nat) (Option.none : Option Jvm.ClassFile.FieldType), Jvm.Cond.code ({ cls := "java/lang/StringUTF16", name := "compress", desc := "([CII)[B" } : Jvm.MethodName) jdk_52_method_16_code (6 : Nat) (Option.some (Jvm.ClassFile.FieldType.array Jvm.ClassFile.FieldType.byte)), Jvm.Cond.code ({ cls := "java/lang/StringUTF16", name := "compress", desc := "([CI[BII)I" } : Jvm.MethodName) jdk_52_method_21_code (7 : Nat) (Option.some Jvm.ClassFile.FieldType.int), Jvm.Cond.code ({ cls := "java/lang/StringUTF16", name := "coderFromArrayLen", desc := "([BI)B" } : Jvm.MethodName) jdk_52_method_15_code (2 : Nat) (Option.some Jvm.ClassFile.FieldType.byte), Jvm.Cond.code ({ cls := "java/lang/String", name := "equals", desc := "(Ljava/lang/Object;)Z" } : Jvm.MethodName) jdk_42_method_66_code (3 : Nat) (Option.some Jvm.ClassFile.FieldType.boolean), Jvm.Cond.code ({ cls := "java/lang/StringLatin1", name := "equals", desc := "([B[B)Z" } : Jvm.MethodName) jdk_43_method_13_code (3 : Nat) (Option.some Jvm.ClassFile.FieldType.boolean), Jvm.Cond.code ({ cls := "com/example/certain_answers/certainanswers/store/Kind", name := "named", desc := "(Ljava/lang/String;)Lcom/example/certain_answers/certainanswers/store/Kind;" } : Jvm.MethodName) prog_11_method_4_code (6 : Nat) (Option.some (Jvm.ClassFile.FieldType.object "com/example/certain_answers/certainanswers/store/Kind")), Jvm.Cond.code ({ cls := "com/example/certain_answers/certainanswers/store/Kind", name := "values", desc := "()[Lcom/example/certain_answers/certainanswers/store/Kind;" } : Jvm.MethodName) prog_11_method_1_code (0 : Nat) (Option.some (Jvm.ClassFile.FieldType.array (Jvm.ClassFile.FieldType.object "com/example/certain_answers/certainanswers/store/Kind"))), Jvm.Cond.code ({ cls := "com/example/certain_answers/certainanswers/store/KindNamedPinLaw", name := "drawn", desc := "(JI)Ljava/lang/String;" } : Jvm.MethodName) method_3_code (4 : Nat) (Option.some (Jvm.ClassFile.FieldType.object "java/lang/String")), Jvm.Cond.code ({ cls := "com/example/certain_answers/certainanswers/store/KindNamedPinLaw", name := "at", desc := "(JI)C" } : Jvm.MethodName) method_2_code (3 : Nat) (Option.some Jvm.ClassFile.FieldType.char)]
set_option maxRecDepth 65536 in
theorem codes_eq : words1.filter isCode = codes1 := rfl
theorem w_codes : ∀ c ∈ words1.filter isCode, c.before args0 about1 = true := by
  rw [codes_eq]
  intro c hc
  simp only [codes1, List.mem_cons, List.not_mem_nil, or_false] at hc
  rcases hc with rfl | rfl | rfl | rfl | rfl | rfl | rfl | rfl | rfl | rfl | rfl | rfl | rfl
  · exact w_c0
  · exact w_c1
  · exact w_c2
  · exact w_c3
  · exact w_c4
  · exact w_c5
  · exact w_c6
  · exact w_c7
  · exact w_c8
  · exact w_c9
  · exact w_c10
  · exact w_c11
  · exact w_c12
set_option maxRecDepth 65536 in
theorem w_t1 : (words1.take 24).all (fun c => isCode c || c.before args0 about1) = true := by decide +kernel
set_option maxRecDepth 65536 in
theorem w_t2 : ((words1.drop 24).take 24).all (fun c => isCode c || c.before args0 about1) = true := by decide +kernel
set_option maxRecDepth 65536 in
theorem w_t3 : (((words1.drop 24).drop 24).take 24).all (fun c => isCode c || c.before args0 about1) = true := by decide +kernel
set_option maxRecDepth 65536 in
theorem w_t4 : (((words1.drop 24).drop 24).drop 24).all (fun c => isCode c || c.before args0 about1) = true := by decide +kernel
theorem w_tables : (allAtoms (Jvm.Cond.code x code maxLocals ret :: tables_1)).before args0 about1 = true := by
  rw [allAtoms_all]
  show words1.all (fun c => c.before args0 about1) = true
  refine all_split ?_ w_codes
  rw [← List.take_append_drop 24 words1, List.all_append, w_t1, ← List.take_append_drop 24 (words1.drop 24), List.all_append, w_t2, ← List.take_append_drop 24 ((words1.drop 24).drop 24), List.all_append, w_t3, w_t4]
  rfl
set_option maxRecDepth 65536 in
theorem w_rest : rest_1_c.before args0 about1 = true := by decide +kernel
set_option maxRecDepth 65536 in
theorem w_case : (Jvm.Cond.and given_1 narrow_1).before args0 about1 = true := by decide +kernel
set_option maxRecDepth 65536 in
theorem w_consts : constsHeld consts_1 about1 := Jvm.Lit.constsHeldB_iff.mp (by decide +kernel)
theorem w_applies : (headSpec (Jvm.Cond.code x code maxLocals ret :: tables_1) room_1).applies x e0.platform about1 = true :=
  (Spec.applies_iff w_frames).mpr ⟨w_running, w_runnable, w_alone, w_named, w_hears, w_ripe, w_room, w_tables⟩
theorem atStart : AtStart classFile x code maxLocals ret World_1 tables_1 room_1 Calls_1 rest_1 Pre_1 launch0 p0 e0 about1 theMethod args0 below0 :=
  ⟨lists_1, trivial, launch0.admits_env _ _ _, launch0.least_env, fairChoices_fair.cas, fairChoices_fair.clock, w_frames, w_args, w_heap, w_applies, ⟨w_consts, trivial⟩, w_rest, w_case⟩
end start1
theorem witness_1 : WitnessClaimed_1 := ⟨start1.p0, start1.e0, start1.about1, start1.theMethod, start1.args0, start1.below0, start1.atStart⟩
end Jvm.Pilot.@@N@@
