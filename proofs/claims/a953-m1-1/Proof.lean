import JvmDerived
import JvmDerived.Pilot.@@N@@Statement
import JvmDerived.Pilot.@@N@@Code
set_option linter.unusedVariables false
set_option linter.unusedSimpArgs false
/- laws to paste: Road.backV, Road.eqW, Road.codOf (cut by pick.py; bodies as the Statement names them) -/
namespace Jvm.Pilot.@@N@@
namespace StrChars
open Jvm Sem ClassFile Op Lib Jvm.Stand Jvm.Free.XT Jvm.Free.ALB Jvm.Free.JM Jvm.Free
open Jvm.Lib.Cold (StaticIs)
/-- a char array whose places are chars -/
def Ch (a : Addr) (A : Cell) (U : State) : Prop := Arr .char a A U ∧ Typed .char A
theorem Ch.mv {a : Addr} {A : Cell} {U U' : State} (h : Ch a A U) (hal : U.vm.Alike U'.vm) (hh : U'.heap = U.heap) : Ch a A U' := ⟨h.1.mv hal hh, h.2⟩
theorem Ch.keep {a : Addr} {A : Cell} {U U' : State} (h : Ch a A U) (hal : U.vm.Alike U'.vm) (hk : U'.heap[a]? = some A) : Ch a A U' := ⟨h.1.keep hal hk, h.2⟩
/-- what place i of a char[]'s cell holds -/
def cv (A : Cell) (i : Nat) : Int32 := match A.slots[i]? with | some (.int x) => x | _ => 0
theorem Ch.get {a : Addr} {A : Cell} {U : State} (h : Ch a A U) {i : Nat} (hi : i < A.slots.size) : A.slots[i]? = some (.int (cv A i)) := by
  have e := Array.getElem?_eq_getElem hi
  have f := h.2 i _ e
  unfold cv; rw [e]
  generalize A.slots[i] = v at f
  cases v <;> simp [fits] at f ⊢
/-- the byte that i2b leaves of a char -/
def lo8 (x : Int32) : Int32 := x.toInt8.toInt32
theorem fits_lo8 (y : Int32) : fits .byte (.int (lo8 y)) = true := by
  have h1 := y.toInt8.le_toInt
  have h2 := y.toInt8.toInt_lt
  simp only [lo8, fits, Bool.and_eq_true, decide_eq_true_eq, Int32.le_iff_toInt_le, Int8.toInt_toInt32, show (-128 : Int32).toInt = -128 from by decide, show (127 : Int32).toInt = 127 from by decide]
  omega
/-- A' is A but that each place j of lo .. hi - 1 holds f j -/
def Laid (A A' : Cell) (lo hi : Nat) (f : Nat → Value) : Prop := A'.cls = A.cls ∧ A'.vm = A.vm ∧ A'.slots.size = A.slots.size ∧ ∀ i, A'.slots[i]? = if lo ≤ i ∧ i < hi then some (f i) else A.slots[i]?
theorem Laid.zero (A : Cell) (lo : Nat) (f : Nat → Value) : Laid A A lo (lo + 0) f := ⟨rfl, rfl, rfl, fun i => by rw [if_neg (by omega)]⟩
theorem Laid.step {A Ak : Cell} {lo k : Nat} {f : Nat → Value} {v : Value} (h : Laid A Ak lo k f) (hlo : lo ≤ k) (hk : k < Ak.slots.size) (hv : v = f k) : Laid A (Ak.setSlot k v) lo (k + 1) f := by
  refine ⟨h.1, h.2.1, by simpa [Cell.setSlot] using h.2.2.1, fun i => ?_⟩
  by_cases e : k = i
  · subst e; rw [Cell.slots_setSlot_self v hk, if_pos (by omega), hv]
  · rw [Cell.slots_setSlot_ne v e, h.2.2.2 i]
    by_cases q : lo ≤ i ∧ i < k
    · rw [if_pos q, if_pos (by omega)]
    · rw [if_neg q, if_neg (by omega)]
def U16 : String := "java/lang/StringUTF16"
namespace Cmp5
def yN : MethodName := ⟨"java/lang/StringUTF16", "compress", "([CI[BII)I"⟩
abbrev yB : ByteArray := jdk_52_method_21_code
theorem d0 : decode yB 0 = .ok (.iconst 0, 1) := by decide +kernel
theorem d1 : decode yB 1 = .ok (.istore 5, 2) := by decide +kernel
theorem d3 : decode yB 3 = .ok (.iload 5, 2) := by decide +kernel
theorem d5 : decode yB 5 = .ok (.iload 4, 2) := by decide +kernel
theorem d7 : decode yB 7 = .ok (.if_icmp (.ge) 37, 3) := by decide +kernel
theorem d10 : decode yB 10 = .ok (.aload_n 0, 1) := by decide +kernel
theorem d11 : decode yB 11 = .ok (.iload_n 1, 1) := by decide +kernel
theorem d12 : decode yB 12 = .ok (.caload, 1) := by decide +kernel
theorem d13 : decode yB 13 = .ok (.istore 6, 2) := by decide +kernel
theorem d15 : decode yB 15 = .ok (.iload 6, 2) := by decide +kernel
theorem d17 : decode yB 17 = .ok (.sipush 255, 3) := by decide +kernel
theorem d20 : decode yB 20 = .ok (.if_icmp (.le) 6, 3) := by decide +kernel
theorem d26 : decode yB 26 = .ok (.aload_n 2, 1) := by decide +kernel
theorem d27 : decode yB 27 = .ok (.iload_n 3, 1) := by decide +kernel
theorem d28 : decode yB 28 = .ok (.iload 6, 2) := by decide +kernel
theorem d30 : decode yB 30 = .ok (.i2b, 1) := by decide +kernel
theorem d31 : decode yB 31 = .ok (.bastore, 1) := by decide +kernel
theorem d32 : decode yB 32 = .ok (.iinc 1 1, 3) := by decide +kernel
theorem d35 : decode yB 35 = .ok (.iinc 3 1, 3) := by decide +kernel
theorem d38 : decode yB 38 = .ok (.iinc 5 1, 3) := by decide +kernel
theorem d41 : decode yB 41 = .ok (.goto (-38), 3) := by decide +kernel
theorem d44 : decode yB 44 = .ok (.iload 4, 2) := by decide +kernel
theorem d46 : decode yB 46 = .ok (.ireturn, 1) := by decide +kernel
def site : List Cond := []
def tab : Cond := tabOf yN yB 7 (some .int) site
def P (b : Addr) (A : Cell) (d : Addr) (B : Cell) (o q len : Nat) (args : Array Value) (s : State) : Prop := args = #[.ref b, .int (Int32.ofNat o), .ref d, .int (Int32.ofNat q), .int (Int32.ofNat len)] ∧ Ch b A s ∧ Arr .byte d B s ∧ b ≠ d ∧ o + len ≤ A.slots.size ∧ q + len ≤ B.slots.size ∧ ∀ i, i < len → ¬ 255 < cv A (o + i)
def E (b : Addr) (A : Cell) (d : Addr) (B : Cell) (o q len : Nat) (r : Option Value) (s u : State) : Prop := r = some (.int (Int32.ofNat len)) ∧ ∃ B', Put d B' s u ∧ Laid B B' q (q + len) (fun j => Value.int (lo8 (cv A (o + (j - q)))))
/-- no char of the range above 255: len; the places written hold each char's low byte -/
theorem law (l : Launch) (b : Addr) (A : Cell) (d : Addr) (B : Cell) (o q len : Nat) : Law l yN 5 5 0 0 yB 7 (some .int) site (P b A d B o q len) (E b A d B o q len) (copyLocs d q len) 0 0 := by
  refine Law.of_walk (plainFor_of_name (by decide +kernel)) (by decide +kernel) (by decide +kernel) (by decide) (fun _ _ h => by rw [h.1]; rfl) (fun _ U U' hal hh h => ⟨h.1, h.2.1.mv hal hh, h.2.2.1.mv hal hh, h.2.2.2⟩) (fun r U U' V V' h1 hal h2 h => ⟨h.1, h.2.elim fun B' q => ⟨B', q.1.mv h1 h2, q.2⟩⟩) ?_
  intro p e s m args below meth c s₁ X0 hexec hbytes hml hret hlk hnm hown hh0 W hP
  obtain ⟨rfl, hA, hB, hne, l1, l2, hp⟩ := hP
  have c1 : Steps p.tables e below (s₁.setTop (entryFrame m #[.ref b, .int (Int32.ofNat o), .ref d, .int (Int32.ofNat q), .int (Int32.ofNat len)] 7)) (s₁.setTop (mkF m 0 #[.val (.ref b), .val (.int (Int32.ofNat o)), .val (.ref d), .val (.int (Int32.ofNat q)), .val (.int (Int32.ofNat len)), .unset, .unset] [])) := entry rfl
  have hA0 := hA.1.mv X0.warmed.alike hh0
  have hB0 := hB.mv X0.warmed.alike hh0
  have a31 := hA.1.2.2.2
  have c2 : Steps p.tables e below (s₁.setTop (entryFrame m #[.ref b, .int (Int32.ofNat o), .ref d, .int (Int32.ofNat q), .int (Int32.ofNat len)] 7)) (s₁.setTop (mkF m 3 #[.val (.ref b), .val (.int (Int32.ofNat o)), .val (.ref d), .val (.int (Int32.ofNat q)), .val (.int (Int32.ofNat len)), .val (.int 0), .unset] [])) := c1.trans (by
    refine iconstV X0.here hexec rfl 0 (hb hbytes d0) (by decide) ?_
    refine XS.istore X0.here hexec rfl (hb hbytes d1) rfl rfl ?_
    exact Steps.refl _)
  have loop : ∀ (r i : Nat), i + r = len → ∀ (z : Slot), (z = .unset ∨ ∃ w, z = .val w ∧ w.category = 1) → ∀ (Tl : State) (Bk : Cell), Stand p l e { frames := 0, locals := 0, cells := 0, slots := 0 } s m #[.ref b, .int (Int32.ofNat o), .ref d, .int (Int32.ofNat q), .int (Int32.ofNat len)] below meth c Tl ([] ++ copyLocs d q i) 0 0 → Put d Bk s₁ Tl → Laid B Bk q (q + i) (fun j => Value.int (lo8 (cv A (o + (j - q))))) →
      Steps p.tables e below (s₁.setTop (entryFrame m #[.ref b, .int (Int32.ofNat o), .ref d, .int (Int32.ofNat q), .int (Int32.ofNat len)] 7)) (Tl.setTop (mkF m 3 #[.val (.ref b), .val (.int (Int32.ofNat (o + i))), .val (.ref d), .val (.int (Int32.ofNat (q + i))), .val (.int (Int32.ofNat len)), .val (.int (Int32.ofNat i)), z] [])) → ∃ (T' : State) (B' : Cell) (z' : Slot), Stand p l e { frames := 0, locals := 0, cells := 0, slots := 0 } s m #[.ref b, .int (Int32.ofNat o), .ref d, .int (Int32.ofNat q), .int (Int32.ofNat len)] below meth c T' ([] ++ copyLocs d q len) 0 0 ∧ Put d B' s₁ T' ∧ Laid B B' q (q + len) (fun j => Value.int (lo8 (cv A (o + (j - q))))) ∧
      Steps p.tables e below (s₁.setTop (entryFrame m #[.ref b, .int (Int32.ofNat o), .ref d, .int (Int32.ofNat q), .int (Int32.ofNat len)] 7)) (T'.setTop (mkF m 3 #[.val (.ref b), .val (.int (Int32.ofNat (o + len))), .val (.ref d), .val (.int (Int32.ofNat (q + len))), .val (.int (Int32.ofNat len)), .val (.int (Int32.ofNat len)), z'] [])) := by
    intro r
    induction r with
    | zero =>
      intro i hi z hz Tl Bk Xl pl fl cl
      have hil : i = len := by omega
      rw [hil] at Xl fl cl
      exact ⟨Tl, Bk, z, Xl, pl, fl, cl⟩
    | succ r ih =>
      intro i hi z hz Tl Bk Xl pl fl cl
      have all := X0.warmed.alike.symm.trans Xl.warmed.alike
      have hAl := hA0.keep all (pl.other hne hA0.1)
      have hBk := hB0.like all pl.1 fl.1 fl.2.1 fl.2.2.1
      have hlt : q + i < Bk.slots.size := by rw [fl.2.2.1]; omega
      have c3 : Steps p.tables e below (s₁.setTop (entryFrame m #[.ref b, .int (Int32.ofNat o), .ref d, .int (Int32.ofNat q), .int (Int32.ofNat len)] 7)) (Tl.setTop (mkF m 12 #[.val (.ref b), .val (.int (Int32.ofNat (o + i))), .val (.ref d), .val (.int (Int32.ofNat (q + i))), .val (.int (Int32.ofNat len)), .val (.int (Int32.ofNat i)), z] [.int (Int32.ofNat (o + i)), .ref b])) := cl.trans (by
        refine XS.iload Xl.here hexec rfl (hb hbytes d3) rfl ?_
        refine XS.iload Xl.here hexec rfl (hb hbytes d5) rfl ?_
        refine XS.icmpNo Xl.here hexec rfl (hb hbytes d7) rfl (ii_ge_f (lt32 (by omega) (by omega))) ?_
        refine XS.aloadN Xl.here hexec rfl (hb hbytes d10) rfl rfl ?_
        refine XS.iloadN Xl.here hexec rfl (hb hbytes d11) rfl ?_
        exact Steps.refl _)
      have c4 : Steps p.tables e below (s₁.setTop (entryFrame m #[.ref b, .int (Int32.ofNat o), .ref d, .int (Int32.ofNat q), .int (Int32.ofNat len)] 7)) (Tl.setTop (mkF m 13 #[.val (.ref b), .val (.int (Int32.ofNat (o + i))), .val (.ref d), .val (.int (Int32.ofNat (q + i))), .val (.int (Int32.ofNat len)), .val (.int (Int32.ofNat i)), z] [.int (cv A (o + i))])) := c3.trans (by
        refine Xl.aget hexec hAl rfl (hA.get (i := o + i) (by omega)) rfl rfl (hb hbytes d12) ?_
        exact Steps.refl _)
      have c5 : Steps p.tables e below (s₁.setTop (entryFrame m #[.ref b, .int (Int32.ofNat o), .ref d, .int (Int32.ofNat q), .int (Int32.ofNat len)] 7)) (Tl.setTop (mkF m 15 #[.val (.ref b), .val (.int (Int32.ofNat (o + i))), .val (.ref d), .val (.int (Int32.ofNat (q + i))), .val (.int (Int32.ofNat len)), .val (.int (Int32.ofNat i)), .val (.int (cv A (o + i)))] [])) := c4.trans (by
        refine XS.istoreS Xl.here hexec rfl (hb hbytes d13) rfl rfl hz ?_
        exact Steps.refl _)
      have c6 : Steps p.tables e below (s₁.setTop (entryFrame m #[.ref b, .int (Int32.ofNat o), .ref d, .int (Int32.ofNat q), .int (Int32.ofNat len)] 7)) (Tl.setTop (mkF m 31 #[.val (.ref b), .val (.int (Int32.ofNat (o + i))), .val (.ref d), .val (.int (Int32.ofNat (q + i))), .val (.int (Int32.ofNat len)), .val (.int (Int32.ofNat i)), .val (.int (cv A (o + i)))] [.int (lo8 (cv A (o + i))), .int (Int32.ofNat (q + i)), .ref d])) := c5.trans (by
        refine XS.iload Xl.here hexec rfl (hb hbytes d15) rfl ?_
        refine sipushV Xl.here hexec rfl 255 (hb hbytes d17) (by decide) ?_
        refine XS.icmpYes Xl.here hexec rfl (pc0 := 20) rfl (hb hbytes d20) rfl (ii_le_t (hp i (by omega))) (by decide) rfl ?_
        refine XS.aloadN Xl.here hexec rfl (hb hbytes d26) rfl rfl ?_
        refine XS.iloadN Xl.here hexec rfl (hb hbytes d27) rfl ?_
        refine XS.iload Xl.here hexec rfl (hb hbytes d28) rfl ?_
        refine i2b Xl.here hexec rfl (hb hbytes d30) rfl ?_
        exact Steps.refl _)
      obtain ⟨T7, X7, p7, st7⟩ := Xl.aput hexec hBk rfl hlt rfl (fits_lo8 (cv A (o + i))) (g := (mkF m 31 #[.val (.ref b), .val (.int (Int32.ofNat (o + i))), .val (.ref d), .val (.int (Int32.ofNat (q + i))), .val (.int (Int32.ofNat len)), .val (.int (Int32.ofNat i)), .val (.int (cv A (o + i)))] [.int (lo8 (cv A (o + i))), .int (Int32.ofNat (q + i)), .ref d])) rfl (rest := []) rfl (hb hbytes d31)
      have c8 : Steps p.tables e below (s₁.setTop (entryFrame m #[.ref b, .int (Int32.ofNat o), .ref d, .int (Int32.ofNat q), .int (Int32.ofNat len)] 7)) (T7.setTop (mkF m 32 #[.val (.ref b), .val (.int (Int32.ofNat (o + i))), .val (.ref d), .val (.int (Int32.ofNat (q + i))), .val (.int (Int32.ofNat len)), .val (.int (Int32.ofNat i)), .val (.int (cv A (o + i)))] [])) := c6.trans (st7 _ (Steps.refl _))
      have c9 : Steps p.tables e below (s₁.setTop (entryFrame m #[.ref b, .int (Int32.ofNat o), .ref d, .int (Int32.ofNat q), .int (Int32.ofNat len)] 7)) (T7.setTop (mkF m 3 #[.val (.ref b), .val (.int (Int32.ofNat (o + i) + 1)), .val (.ref d), .val (.int (Int32.ofNat (q + i) + 1)), .val (.int (Int32.ofNat len)), .val (.int (Int32.ofNat i + 1)), .val (.int (cv A (o + i)))] [])) := c8.trans (by
        refine iincV X7.here hexec rfl 1 (hb hbytes d32) (by decide) rfl rfl ?_
        refine iincV X7.here hexec rfl 1 (hb hbytes d35) (by decide) rfl rfl ?_
        refine iincV X7.here hexec rfl 1 (hb hbytes d38) (by decide) rfl rfl ?_
        refine XS.goto X7.here hexec rfl (pc0 := 41) rfl (hb hbytes d41) (by decide) rfl ?_
        exact Steps.refl _)
      have c10 : Steps p.tables e below (s₁.setTop (entryFrame m #[.ref b, .int (Int32.ofNat o), .ref d, .int (Int32.ofNat q), .int (Int32.ofNat len)] 7)) (T7.setTop (mkF m 3 #[.val (.ref b), .val (.int (Int32.ofNat (o + (i + 1)))), .val (.ref d), .val (.int (Int32.ofNat (q + (i + 1)))), .val (.int (Int32.ofNat len)), .val (.int (Int32.ofNat (i + 1))), .val (.int (cv A (o + i)))] [])) := by
        have := c9
        rw [succ32, succ32, succ32] at this
        exact this
      exact ih (i + 1) (by omega) _ (Or.inr ⟨_, rfl, rfl⟩) T7 _ (by rw [copyLocs_step, ← List.append_assoc]; exact X7) (pl.trans p7) (fl.step (by omega) hlt (by simp)) c10
  obtain ⟨T9, B9, z9, X9, p9, f9, g9⟩ := loop len 0 (by omega) .unset (Or.inl rfl) s₁ B (by simpa [copyLocs] using X0) ⟨hB0.1, fun _ _ => rfl, rfl⟩ (Laid.zero _ _ _) c2
  have c11 : Steps p.tables e below (s₁.setTop (entryFrame m #[.ref b, .int (Int32.ofNat o), .ref d, .int (Int32.ofNat q), .int (Int32.ofNat len)] 7)) (T9.setTop (mkF m 46 #[.val (.ref b), .val (.int (Int32.ofNat (o + len))), .val (.ref d), .val (.int (Int32.ofNat (q + len))), .val (.int (Int32.ofNat len)), .val (.int (Int32.ofNat len)), z9] [.int (Int32.ofNat len)])) := g9.trans (by
    refine XS.iload X9.here hexec rfl (hb hbytes d3) rfl ?_
    refine XS.iload X9.here hexec rfl (hb hbytes d5) rfl ?_
    refine XS.icmpYes X9.here hexec rfl (pc0 := 7) rfl (hb hbytes d7) rfl (ii_ge_t (nlt32 (by omega) (Nat.le_refl _))) (by decide) rfl ?_
    refine XS.iload X9.here hexec rfl (hb hbytes d44) rfl ?_
    exact Steps.refl _)
  exact ⟨T9, some (.int (Int32.ofNat len)), _, _, _, X9, by simp, rfl, rfl, (fun h => by cases h), ⟨rfl, B9, p9.from hh0, f9⟩, fun fs hl => c11.trans (X9.ireturnOut hexec hret rfl (Or.inl rfl) (hb hbytes d46) hl)⟩
end Cmp5
namespace Cmp3
def yN : MethodName := ⟨"java/lang/StringUTF16", "compress", "([CII)[B"⟩
abbrev yB : ByteArray := jdk_52_method_16_code
theorem d0 : decode yB 0 = .ok (.iload_n 2, 1) := by decide +kernel
theorem d1 : decode yB 1 = .ok (.newarray .byte, 2) := by decide +kernel
theorem d3 : decode yB 3 = .ok (.astore_n 3, 1) := by decide +kernel
theorem d4 : decode yB 4 = .ok (.aload_n 0, 1) := by decide +kernel
theorem d5 : decode yB 5 = .ok (.iload_n 1, 1) := by decide +kernel
theorem d6 : decode yB 6 = .ok (.aload_n 3, 1) := by decide +kernel
theorem d7 : decode yB 7 = .ok (.iconst 0, 1) := by decide +kernel
theorem d8 : decode yB 8 = .ok (.iload_n 2, 1) := by decide +kernel
theorem d9 : decode yB 9 = .ok (.invokestatic 115, 3) := by decide +kernel
theorem d12 : decode yB 12 = .ok (.istore 4, 2) := by decide +kernel
theorem d14 : decode yB 14 = .ok (.iload 4, 2) := by decide +kernel
theorem d16 : decode yB 16 = .ok (.iload_n 2, 1) := by decide +kernel
theorem d17 : decode yB 17 = .ok (.if_icmp (.eq) 40, 3) := by decide +kernel
theorem d57 : decode yB 57 = .ok (.aload_n 3, 1) := by decide +kernel
theorem d58 : decode yB 58 = .ok (.areturn, 1) := by decide +kernel
def site : List Cond := [.arrayClass .byte, Cmp5.tab] ++ staticW U16 115 Cmp5.yN
def tab : Cond := tabOf yN yB 6 (some (.array .byte)) site
def P (b : Addr) (A : Cell) (o len : Nat) (args : Array Value) (s : State) : Prop := args = #[.ref b, .int (Int32.ofNat o), .int (Int32.ofNat len)] ∧ Ch b A s ∧ o + len ≤ A.slots.size ∧ len ≤ 536870912 ∧ ∀ i, i < len → ¬ 255 < cv A (o + i)
def E (b : Addr) (A : Cell) (o len : Nat) (r : Option Value) (s u : State) : Prop := NewArr .byte "[B" len (fun j => .int (lo8 (cv A (o + j)))) r s u ∧ u.heap.size = s.heap.size + 1
/-- no char of the range above 255: a new byte[] of their low bytes -/
theorem law (l : Launch) (b : Addr) (A : Cell) (o len : Nat) : Law l yN 3 3 1 18 yB 6 (some (.array .byte)) site (P b A o len) (E b A o len) [] 1 len := by
  refine Law.of_walk (plainFor_of_name (by decide +kernel)) (by decide +kernel) (by decide +kernel) (by decide) (fun _ _ h => by rw [h.1]; rfl) (fun _ U U' hal hh h => ⟨h.1, h.2.1.mv hal hh, h.2.2⟩) (fun r U U' V V' h1 hal h2 h => ⟨NewArr.mv r U U' V V' h1 hal h2 h.1, by rw [h1, h2]; exact h.2⟩) ?_
  intro p e s m args below meth c s₁ X0 hexec hbytes hml hret hlk hnm hown hh0 W hP
  obtain ⟨rfl, hA, l1, l2, hp⟩ := hP
  have a31 := hA.1.2.2.2
  have c1 : Steps p.tables e below (s₁.setTop (entryFrame m #[.ref b, .int (Int32.ofNat o), .int (Int32.ofNat len)] 6)) (s₁.setTop (mkF m 0 #[.val (.ref b), .val (.int (Int32.ofNat o)), .val (.int (Int32.ofNat len)), .unset, .unset, .unset] [])) := entry rfl
  have c2 : Steps p.tables e below (s₁.setTop (entryFrame m #[.ref b, .int (Int32.ofNat o), .int (Int32.ofNat len)] 6)) (s₁.setTop (mkF m 1 #[.val (.ref b), .val (.int (Int32.ofNat o)), .val (.int (Int32.ofNat len)), .unset, .unset, .unset] [.int (Int32.ofNat len)])) := c1.trans (by
    refine XS.iloadN X0.here hexec rfl (hb hbytes d0) rfl ?_
    exact Steps.refl _)
  obtain ⟨T3, B3, X3, ba3, bs3, bv3, bh3, bf3, st3⟩ := X0.anew hexec (atype := .byte) (wk W (.arrayClass .byte)) rfl (by show len * 1 ≤ _; omega) (by omega) (g := (mkF m 1 #[.val (.ref b), .val (.int (Int32.ofNat o)), .val (.int (Int32.ofNat len)), .unset, .unset, .unset] [.int (Int32.ofNat len)])) rfl (hb hbytes d1) (rest := []) rfl (Nat.le_refl _) (by show 0 + len ≤ len; omega)
  rw [hh0] at ba3 st3
  have kp3 : XT.Kept s T3 := (XT.Kept.of_eq hh0).push bh3
  have hA3 := hA.keep X3.warmed.alike (kp3 _ _ hA.1.1)
  have hne : b ≠ s.heap.size := hA.1.ne
  have c4 : Steps p.tables e below (s₁.setTop (entryFrame m #[.ref b, .int (Int32.ofNat o), .int (Int32.ofNat len)] 6)) (T3.setTop (mkF m 3 #[.val (.ref b), .val (.int (Int32.ofNat o)), .val (.int (Int32.ofNat len)), .unset, .unset, .unset] [.ref s.heap.size])) := c2.trans (st3 _ (Steps.refl _))
  have c5 : Steps p.tables e below (s₁.setTop (entryFrame m #[.ref b, .int (Int32.ofNat o), .int (Int32.ofNat len)] 6)) (T3.setTop (mkF m 9 #[.val (.ref b), .val (.int (Int32.ofNat o)), .val (.int (Int32.ofNat len)), .val (.ref s.heap.size), .unset, .unset] [.int (Int32.ofNat len), .int 0, .ref s.heap.size, .int (Int32.ofNat o), .ref b])) := c4.trans (by
    refine XS.astoreN X3.here hexec rfl (hb hbytes d3) rfl rfl rfl ?_
    refine XS.aloadN X3.here hexec rfl (hb hbytes d4) rfl rfl ?_
    refine XS.iloadN X3.here hexec rfl (hb hbytes d5) rfl ?_
    refine XS.aloadN X3.here hexec rfl (hb hbytes d6) rfl rfl ?_
    refine iconstV X3.here hexec rfl 0 (hb hbytes d7) (by decide) ?_
    refine XS.iloadN X3.here hexec rfl (hb hbytes d8) rfl ?_
    exact Steps.refl _)
  obtain ⟨v6, T6, X6, E6, g6⟩ := X3.callS hexec (Cmp5.law l b A s.heap.size B3 o 0 len) hown (wks W (staticW U16 115 Cmp5.yN)) (wk W Cmp5.tab) (W := 0) (Nat.le_of_ble_eq_true rfl) (Nat.le_of_ble_eq_true rfl) (Nat.le_refl _) (by show 0 + len + 0 ≤ len; omega) (g := (mkF m 9 #[.val (.ref b), .val (.int (Int32.ofNat o)), .val (.int (Int32.ofNat len)), .val (.ref s.heap.size), .unset, .unset] [.int (Int32.ofNat len), .int (Int32.ofNat 0), .ref s.heap.size, .int (Int32.ofNat o), .ref b])) rfl (by rw [hml]; rfl) c5 (argsL := [.ref b, .int (Int32.ofNat o), .ref s.heap.size, .int (Int32.ofNat 0), .int (Int32.ofNat len)]) (rest := []) rfl rfl (by show 2 * 0 + 0 ≤ _; decide) (hb hbytes d9) (⟨rfl, hA3, ba3, hne, l1, by rw [bs3]; simp, hp⟩)
  obtain ⟨rfl, B6, p6, f6⟩ := E6
  have c7 : Steps p.tables e below (s₁.setTop (entryFrame m #[.ref b, .int (Int32.ofNat o), .int (Int32.ofNat len)] 6)) (T6.setTop (mkF m 12 #[.val (.ref b), .val (.int (Int32.ofNat o)), .val (.int (Int32.ofNat len)), .val (.ref s.heap.size), .unset, .unset] [.int (Int32.ofNat len)])) := g6
  have c8 : Steps p.tables e below (s₁.setTop (entryFrame m #[.ref b, .int (Int32.ofNat o), .int (Int32.ofNat len)] 6)) (T6.setTop (mkF m 58 #[.val (.ref b), .val (.int (Int32.ofNat o)), .val (.int (Int32.ofNat len)), .val (.ref s.heap.size), .val (.int (Int32.ofNat len)), .unset] [.ref s.heap.size])) := c7.trans (by
    refine XS.istore X6.here hexec rfl (hb hbytes d12) rfl rfl ?_
    refine XS.iload X6.here hexec rfl (hb hbytes d14) rfl ?_
    refine XS.iloadN X6.here hexec rfl (hb hbytes d16) rfl ?_
    refine XS.icmpYes X6.here hexec rfl (pc0 := 17) rfl (hb hbytes d17) rfl (ii_eq_t rfl) (by decide) rfl ?_
    refine XS.aloadN X6.here hexec rfl (hb hbytes d57) rfl rfl ?_
    exact Steps.refl _)
  have X8 := X6.wide (L' := []) (cells' := 1) (slots' := len) (fun x hx hlt => by
    simp only [List.nil_append, copyLocs, List.mem_map, List.mem_range] at hx
    obtain ⟨i, -, rfl⟩ := hx
    exact absurd hlt (Nat.lt_irrefl _)) (Nat.le_refl _) (by omega)
  exact ⟨T6, some (.ref s.heap.size), _, _, _, X8, rfl, rfl, rfl, (fun h => by cases h), ⟨⟨rfl, B6, ba3.like (X3.warmed.alike.symm.trans X6.warmed.alike) p6.1 f6.1 f6.2.1 f6.2.2.1, f6.2.1.trans bv3, by rw [X6.warmed.alike.findClass, f6.1]; exact bf3, by rw [f6.2.2.1, bs3]; simp, fun j hj => by rw [f6.2.2.2 j, if_pos (by omega)]; rfl, kp3.put p6 (Nat.le_refl _)⟩, by rw [p6.2.2, bh3, hh0]; simp⟩, fun fs hl => c8.trans (X8.areturnOut hexec rfl hret rfl (hb hbytes d58) hl)⟩
end Cmp3
namespace CodL
def yN : MethodName := ⟨"java/lang/StringUTF16", "coderFromArrayLen", "([BI)B"⟩
abbrev yB : ByteArray := jdk_52_method_15_code
theorem d0 : decode yB 0 = .ok (.iload_n 1, 1) := by decide +kernel
theorem d1 : decode yB 1 = .ok (.aload_n 0, 1) := by decide +kernel
theorem d2 : decode yB 2 = .ok (.arraylength, 1) := by decide +kernel
theorem d3 : decode yB 3 = .ok (.isub, 1) := by decide +kernel
theorem d4 : decode yB 4 = .ok (.bipush 31, 2) := by decide +kernel
theorem d6 : decode yB 6 = .ok (.iushr, 1) := by decide +kernel
theorem d7 : decode yB 7 = .ok (.i2b, 1) := by decide +kernel
theorem d8 : decode yB 8 = .ok (.ireturn, 1) := by decide +kernel
def site : List Cond := []
def tab : Cond := tabOf yN yB 2 (some .byte) site
def P (d : Addr) (B : Cell) (args : Array Value) (s : State) : Prop := args = #[.ref d, .int (Int32.ofNat B.slots.size)] ∧ Arr .byte d B s
def E (r : Option Value) (s u : State) : Prop := XT.PureE (some (.int 0)) r s u
/-- an array as long as the number of chars: LATIN1 -/
theorem law (l : Launch) (d : Addr) (B : Cell) : Law l yN 2 2 0 0 yB 2 (some .byte) site (P d B) E [] 0 0 := by
  refine Law.of_walk (plainFor_of_name (by decide +kernel)) (by decide +kernel) (by decide +kernel) (by decide) (fun _ _ h => by rw [h.1]; rfl) (fun _ U U' hal hh h => ⟨h.1, h.2.mv hal hh⟩) (fun r U U' V V' h1 hal h2 h => XT.PureE.mv r U U' V V' h1 hal h2 h) ?_
  intro p e s m args below meth c s₁ X0 hexec hbytes hml hret hlk hnm hown hh0 W hP
  obtain ⟨rfl, hB⟩ := hP
  have hB0 := hB.mv X0.warmed.alike hh0
  have c1 : Steps p.tables e below (s₁.setTop (entryFrame m #[.ref d, .int (Int32.ofNat B.slots.size)] 2)) (s₁.setTop (mkF m 0 #[.val (.ref d), .val (.int (Int32.ofNat B.slots.size))] [])) := entry rfl
  have c2 : Steps p.tables e below (s₁.setTop (entryFrame m #[.ref d, .int (Int32.ofNat B.slots.size)] 2)) (s₁.setTop (mkF m 2 #[.val (.ref d), .val (.int (Int32.ofNat B.slots.size))] [.ref d, .int (Int32.ofNat B.slots.size)])) := c1.trans (by
    refine XS.iloadN X0.here hexec rfl (hb hbytes d0) rfl ?_
    refine XS.aloadN X0.here hexec rfl (hb hbytes d1) rfl rfl ?_
    exact Steps.refl _)
  have c3 : Steps p.tables e below (s₁.setTop (entryFrame m #[.ref d, .int (Int32.ofNat B.slots.size)] 2)) (s₁.setTop (mkF m 8 #[.val (.ref d), .val (.int (Int32.ofNat B.slots.size))] [.int (lo8 (ushr (Int32.ofNat B.slots.size - Int32.ofNat B.slots.size) 31))])) := c2.trans (by
    refine X0.alen hexec hB0 rfl rfl (hb hbytes d2) ?_
    refine XS.isub X0.here hexec rfl (hb hbytes d3) rfl ?_
    refine bipushV X0.here hexec rfl 31 (hb hbytes d4) (by decide) ?_
    refine iushr X0.here hexec rfl (hb hbytes d6) rfl ?_
    refine i2b X0.here hexec rfl (hb hbytes d7) rfl ?_
    exact Steps.refl _)
  have e0 : lo8 (ushr (Int32.ofNat B.slots.size - Int32.ofNat B.slots.size) 31) = 0 := by rw [Int32.sub_self]; decide
  rw [e0] at c3
  exact ⟨s₁, some (.int 0), _, _, _, X0, rfl, rfl, rfl, (fun h => by cases h), ⟨rfl, hh0⟩, fun fs hl => c3.trans (X0.ireturnOut hexec hret rfl (Or.inr (Or.inr (Or.inl rfl))) (hb hbytes d8) hl)⟩
end CodL
/-- the String at a is Latin-1 over a new byte[] (the heap's one new cell): the low bytes of the len chars of A from o on; every cell but a is kept -/
def Got (a : Addr) (D : Cell) (fV fC : Field) (A : Cell) (o len : Nat) (r : Option Value) (s u : State) : Prop := r = none ∧ ∃ D' V : Cell, Blank "java/lang/String" a D' u ∧ Same D D' [fV.slot, fC.slot] ∧ D'.slots[fV.slot]? = some (.ref s.heap.size) ∧ D'.slots[fC.slot]? = some (.int 0) ∧ Arr .byte s.heap.size V u ∧ V.vm = .none ∧ u.vm.findClass "[B" = some V.cls ∧ V.slots.size = len ∧ (∀ j, j < len → V.slots[j]? = some (.int (lo8 (cv A (o + j))))) ∧ (∀ (y : Addr) (c : Cell), y ≠ a → s.heap[y]? = some c → u.heap[y]? = some c) ∧ u.heap.size = s.heap.size + 1
theorem Got.mv {a : Addr} {D A : Cell} {fV fC : Field} {o len : Nat} : ∀ r (U U' V V' : State), U'.heap = U.heap → V.vm.Alike V'.vm → V'.heap = V.heap → Got a D fV fC A o len r U V → Got a D fV fC A o len r U' V' :=
  fun r U U' V V' h1 hal h2 ⟨e0, D', X, a1, a2, a3, a4, a5, a6, a7, a8, a9, a10, a11⟩ => ⟨e0, D', X, a1.mv hal h2, a2, by rw [h1]; exact a3, a4, by rw [h1]; exact a5.mv hal h2, a6, by rw [hal.findClass]; exact a7, a8, a9, by rw [h1, h2]; exact a10, by rw [h1, h2]; exact a11⟩
namespace New4
def yN : MethodName := ⟨"java/lang/String", "<init>", "([CIILjava/lang/Void;)V"⟩
abbrev yB : ByteArray := jdk_42_method_149_code
theorem d0 : decode yB 0 = .ok (.aload_n 0, 1) := by decide +kernel
theorem d1 : decode yB 1 = .ok (.invokespecial 1, 3) := by decide +kernel
theorem d4 : decode yB 4 = .ok (.iload_n 3, 1) := by decide +kernel
theorem d5 : decode yB 5 = .ok (.ifCond (.ne) 22, 3) := by decide +kernel
theorem d27 : decode yB 27 = .ok (.getstatic 38, 3) := by decide +kernel
theorem d30 : decode yB 30 = .ok (.ifCond (.eq) 28, 3) := by decide +kernel
theorem d33 : decode yB 33 = .ok (.aload_n 1, 1) := by decide +kernel
theorem d34 : decode yB 34 = .ok (.iload_n 2, 1) := by decide +kernel
theorem d35 : decode yB 35 = .ok (.iload_n 3, 1) := by decide +kernel
theorem d36 : decode yB 36 = .ok (.invokestatic 177, 3) := by decide +kernel
theorem d39 : decode yB 39 = .ok (.astore 5, 2) := by decide +kernel
theorem d41 : decode yB 41 = .ok (.aload_n 0, 1) := by decide +kernel
theorem d42 : decode yB 42 = .ok (.aload 5, 2) := by decide +kernel
theorem d44 : decode yB 44 = .ok (.iload_n 3, 1) := by decide +kernel
theorem d45 : decode yB 45 = .ok (.invokestatic 47, 3) := by decide +kernel
theorem d48 : decode yB 48 = .ok (.putfield 15, 3) := by decide +kernel
theorem d51 : decode yB 51 = .ok (.aload_n 0, 1) := by decide +kernel
theorem d52 : decode yB 52 = .ok (.aload 5, 2) := by decide +kernel
theorem d54 : decode yB 54 = .ok (.putfield 9, 3) := by decide +kernel
theorem d57 : decode yB 57 = .ok (.return_, 1) := by decide +kernel
def site : List Cond := [.fieldLink "java/lang/String" 38 "java/lang/String" "COMPACT_STRINGS" "Z", Cmp3.tab, CodL.tab, .laysFinal "java/lang/String" "java/lang/String" "value" "[B", .fieldLink "java/lang/String" 9 "java/lang/String" "value" "[B", .laysFinal "java/lang/String" "java/lang/String" "coder" "B", .fieldLink "java/lang/String" 15 "java/lang/String" "coder" "B"] ++ objW "java/lang/String" 1 ++ staticW "java/lang/String" 177 Cmp3.yN ++ staticW "java/lang/String" 47 CodL.yN
def tab : Cond := tabOf yN yB 6 none site
def P (a : Addr) (D : Cell) (fV fC : Field) (b : Addr) (A : Cell) (z : Int32) (o len : Nat) (args : Array Value) (s : State) : Prop := args = #[.ref a, .ref b, .int (Int32.ofNat o), .int (Int32.ofNat len), .null] ∧ Blank "java/lang/String" a D s ∧ Found "java/lang/String" "value" "[B" fV s ∧ Found "java/lang/String" "coder" "B" fC s ∧ Ch b A s ∧ StaticIs s "java/lang/String" "COMPACT_STRINGS" "Z" (.int z) ∧ ¬ z = 0 ∧ 0 < len ∧ o + len ≤ A.slots.size ∧ len ≤ 536870912 ∧ ∀ i, i < len → ¬ 255 < cv A (o + i)
def E (a : Addr) (D : Cell) (fV fC : Field) (A : Cell) (o len : Nat) (r : Option Value) (s u : State) : Prop := Got a D fV fC A o len r s u
/-- len > 0, no char of the range above 255: a Latin-1 String of their low bytes -/
theorem law (l : Launch) (a : Addr) (D : Cell) (fV fC : Field) (b : Addr) (A : Cell) (z : Int32) (o len : Nat) : Law l yN 5 4 2 35 yB 6 none site (P a D fV fC b A z o len) (E a D fV fC A o len) [⟨a, fC.slot⟩, ⟨a, fV.slot⟩] 1 len := by
  refine Law.of_walk (plainFor_of_name (by decide +kernel)) (by decide +kernel) (by decide +kernel) (by decide) (fun _ _ h => by rw [h.1]; rfl) (fun _ U U' hal hh h => ⟨h.1, h.2.1.mv hal hh, h.2.2.1.al hal, h.2.2.2.1.al hal, h.2.2.2.2.1.mv hal hh, h.2.2.2.2.2.1.there hal hh, h.2.2.2.2.2.2⟩) (fun r U U' V V' h1 hal h2 h => Got.mv r U U' V V' h1 hal h2 h) ?_
  intro p e s m args below meth c s₁ X0 hexec hbytes hml hret hlk hnm hown hh0 W hP
  obtain ⟨rfl, hB, f1, f2, hA, s1, hz, l0, l1, l2, hp⟩ := hP
  have a31 := hA.1.2.2.2
  have c1 : Steps p.tables e below (s₁.setTop (entryFrame m #[.ref a, .ref b, .int (Int32.ofNat o), .int (Int32.ofNat len), .null] 6)) (s₁.setTop (mkF m 0 #[.val (.ref a), .val (.ref b), .val (.int (Int32.ofNat o)), .val (.int (Int32.ofNat len)), .val .null, .unset] [])) := entry rfl
  have c2 : Steps p.tables e below (s₁.setTop (entryFrame m #[.ref a, .ref b, .int (Int32.ofNat o), .int (Int32.ofNat len), .null] 6)) (s₁.setTop (mkF m 1 #[.val (.ref a), .val (.ref b), .val (.int (Int32.ofNat o)), .val (.int (Int32.ofNat len)), .val .null, .unset] [.ref a])) := c1.trans (by
    refine XS.aloadN X0.here hexec rfl (hb hbytes d0) rfl rfl ?_
    exact Steps.refl _)
  obtain ⟨T3, X3, q3, st3⟩ := X0.oinit hexec hown (wks W (objW "java/lang/String" 1)) (g := (mkF m 1 #[.val (.ref a), .val (.ref b), .val (.int (Int32.ofNat o)), .val (.int (Int32.ofNat len)), .val .null, .unset] [.ref a])) rfl (by rw [hml]; rfl) (rest := []) rfl (hb hbytes d1) (W := 0) (by show 2 * 0 + 0 ≤ _; decide) (Nat.le_of_ble_eq_true rfl) (Nat.le_of_ble_eq_true rfl)
  have hh3 := q3.trans hh0
  have c4 : Steps p.tables e below (s₁.setTop (entryFrame m #[.ref a, .ref b, .int (Int32.ofNat o), .int (Int32.ofNat len), .null] 6)) (T3.setTop (mkF m 27 #[.val (.ref a), .val (.ref b), .val (.int (Int32.ofNat o)), .val (.int (Int32.ofNat len)), .val .null, .unset] [])) := (c2.trans (st3 _ (Steps.refl _))).trans (by
    refine XS.iloadN X3.here hexec rfl (hb hbytes d4) rfl ?_
    refine XS.ifYes X3.here hexec rfl (pc0 := 5) rfl (hb hbytes d5) rfl (i0_ne_t (nz32 (by omega) l0)) (by decide) rfl ?_
    exact Steps.refl _)
  obtain ⟨T5, X5, q5, st5⟩ := X3.sget hexec hown (wk W (.fieldLink "java/lang/String" 38 "java/lang/String" "COMPACT_STRINGS" "Z")) s1 (fun _ _ h => by rw [hh3]; exact h) (g := (mkF m 27 #[.val (.ref a), .val (.ref b), .val (.int (Int32.ofNat o)), .val (.int (Int32.ofNat len)), .val .null, .unset] [])) rfl (hb hbytes d27)
  have hh5 := q5.trans hh3
  have c6 : Steps p.tables e below (s₁.setTop (entryFrame m #[.ref a, .ref b, .int (Int32.ofNat o), .int (Int32.ofNat len), .null] 6)) (T5.setTop (mkF m 30 #[.val (.ref a), .val (.ref b), .val (.int (Int32.ofNat o)), .val (.int (Int32.ofNat len)), .val .null, .unset] [.int z])) := c4.trans (st5 _ (Steps.refl _))
  have c7 : Steps p.tables e below (s₁.setTop (entryFrame m #[.ref a, .ref b, .int (Int32.ofNat o), .int (Int32.ofNat len), .null] 6)) (T5.setTop (mkF m 36 #[.val (.ref a), .val (.ref b), .val (.int (Int32.ofNat o)), .val (.int (Int32.ofNat len)), .val .null, .unset] [.int (Int32.ofNat len), .int (Int32.ofNat o), .ref b])) := c6.trans (by
    refine XS.ifNo X5.here hexec rfl (hb hbytes d30) rfl (i0_eq_f hz) ?_
    refine XS.aloadN X5.here hexec rfl (hb hbytes d33) rfl rfl ?_
    refine XS.iloadN X5.here hexec rfl (hb hbytes d34) rfl ?_
    refine XS.iloadN X5.here hexec rfl (hb hbytes d35) rfl ?_
    exact Steps.refl _)
  obtain ⟨v8, T8, X8, E8, g8⟩ := X5.callS hexec (Cmp3.law l b A o len) hown (wks W (staticW "java/lang/String" 177 Cmp3.yN)) (wk W Cmp3.tab) (W := 0) (Nat.le_of_ble_eq_true rfl) (Nat.le_of_ble_eq_true rfl) (Nat.le_refl _) (by show 0 + len ≤ len; omega) (g := (mkF m 36 #[.val (.ref a), .val (.ref b), .val (.int (Int32.ofNat o)), .val (.int (Int32.ofNat len)), .val .null, .unset] [.int (Int32.ofNat len), .int (Int32.ofNat o), .ref b])) rfl (by rw [hml]; rfl) c7 (argsL := [.ref b, .int (Int32.ofNat o), .int (Int32.ofNat len)]) (rest := []) rfl rfl (by show 2 * 0 + 0 ≤ _; decide) (hb hbytes d36) (⟨rfl, hA.mv X5.warmed.alike hh5, l1, l2, hp⟩)
  obtain ⟨e8, z8⟩ := E8
  obtain ⟨rfl, N, n1, n2, n3, n4, n5, n6⟩ := NewArr.mv _ T5 s _ _ hh5.symm (Vm.Alike.refl _) rfl e8
  rw [hh5] at z8
  have hB1 := hB.keep X8.warmed.alike (n6 _ _ hB.1)
  have hne : s.heap.size ≠ a := (Nat.ne_of_lt (Array.getElem?_eq_some_iff.mp hB.1).1).symm
  have c9 : Steps p.tables e below (s₁.setTop (entryFrame m #[.ref a, .ref b, .int (Int32.ofNat o), .int (Int32.ofNat len), .null] 6)) (T8.setTop (mkF m 39 #[.val (.ref a), .val (.ref b), .val (.int (Int32.ofNat o)), .val (.int (Int32.ofNat len)), .val .null, .unset] [.ref s.heap.size])) := g8
  have c10 : Steps p.tables e below (s₁.setTop (entryFrame m #[.ref a, .ref b, .int (Int32.ofNat o), .int (Int32.ofNat len), .null] 6)) (T8.setTop (mkF m 45 #[.val (.ref a), .val (.ref b), .val (.int (Int32.ofNat o)), .val (.int (Int32.ofNat len)), .val .null, .val (.ref s.heap.size)] [.int (Int32.ofNat N.slots.size), .ref s.heap.size, .ref a])) := by
    have hc : Steps p.tables e below (s₁.setTop (entryFrame m #[.ref a, .ref b, .int (Int32.ofNat o), .int (Int32.ofNat len), .null] 6)) (T8.setTop (mkF m 45 #[.val (.ref a), .val (.ref b), .val (.int (Int32.ofNat o)), .val (.int (Int32.ofNat len)), .val .null, .val (.ref s.heap.size)] [.int (Int32.ofNat len), .ref s.heap.size, .ref a])) := c9.trans (by
      refine XS.astore X8.here hexec rfl (hb hbytes d39) rfl rfl rfl ?_
      refine XS.aloadN X8.here hexec rfl (hb hbytes d41) rfl rfl ?_
      refine XS.aload X8.here hexec rfl (hb hbytes d42) rfl rfl ?_
      refine XS.iloadN X8.here hexec rfl (hb hbytes d44) rfl ?_
      exact Steps.refl _)
    rw [n4]; exact hc
  obtain ⟨v11, T11, X11, E11, g11⟩ := X8.callS hexec (CodL.law l s.heap.size N) hown (wks W (staticW "java/lang/String" 47 CodL.yN)) (wk W CodL.tab) (W := 1) (Nat.le_of_ble_eq_true rfl) (Nat.le_of_ble_eq_true rfl) (Nat.le_refl _) (by show 0 + len + 0 ≤ len; omega) (g := (mkF m 45 #[.val (.ref a), .val (.ref b), .val (.int (Int32.ofNat o)), .val (.int (Int32.ofNat len)), .val .null, .val (.ref s.heap.size)] [.int (Int32.ofNat N.slots.size), .ref s.heap.size, .ref a])) rfl (by rw [hml]; rfl) c10 (argsL := [.ref s.heap.size, .int (Int32.ofNat N.slots.size)]) (rest := [.ref a]) rfl rfl (by show 2 * 0 + (1 + 0) ≤ _; decide) (hb hbytes d45) (⟨rfl, n1⟩)
  obtain ⟨rfl, q11⟩ := E11
  have hB11 := hB1.mv (X8.warmed.alike.symm.trans X11.warmed.alike) q11
  have c12 : Steps p.tables e below (s₁.setTop (entryFrame m #[.ref a, .ref b, .int (Int32.ofNat o), .int (Int32.ofNat len), .null] 6)) (T11.setTop (mkF m 48 #[.val (.ref a), .val (.ref b), .val (.int (Int32.ofNat o)), .val (.int (Int32.ofNat len)), .val .null, .val (.ref s.heap.size)] [.int 0, .ref a])) := g11
  obtain ⟨T13, X13, p13, bl13, sl13, st13⟩ := X11.finit hexec hown (wk W (.fieldLink "java/lang/String" 15 "java/lang/String" "coder" "B")) (Or.inr ⟨_, (wk W (.laysFinal "java/lang/String" "java/lang/String" "coder" "B"))⟩) (Or.inl ⟨rfl, hnm⟩) f2 (Or.inl rfl) hB11 (t := .byte) (by decide +kernel) rfl (g := (mkF m 48 #[.val (.ref a), .val (.ref b), .val (.int (Int32.ofNat o)), .val (.int (Int32.ofNat len)), .val .null, .val (.ref s.heap.size)] [.int 0, .ref a])) rfl (rest := []) rfl (hb hbytes d48)
  have c14 : Steps p.tables e below (s₁.setTop (entryFrame m #[.ref a, .ref b, .int (Int32.ofNat o), .int (Int32.ofNat len), .null] 6)) (T13.setTop (mkF m 54 #[.val (.ref a), .val (.ref b), .val (.int (Int32.ofNat o)), .val (.int (Int32.ofNat len)), .val .null, .val (.ref s.heap.size)] [.ref s.heap.size, .ref a])) := (c12.trans (st13 _ (Steps.refl _))).trans (by
    refine XS.aloadN X13.here hexec rfl (hb hbytes d51) rfl rfl ?_
    refine XS.aload X13.here hexec rfl (hb hbytes d52) rfl rfl ?_
    exact Steps.refl _)
  obtain ⟨T15, X15, p15, bl15, sl15, st15⟩ := X13.finit hexec hown (wk W (.fieldLink "java/lang/String" 9 "java/lang/String" "value" "[B")) (Or.inr ⟨_, (wk W (.laysFinal "java/lang/String" "java/lang/String" "value" "[B"))⟩) (Or.inl ⟨rfl, hnm⟩) f1 (Or.inl rfl) bl13 (t := (.array .byte)) (by decide +kernel) rfl (g := (mkF m 54 #[.val (.ref a), .val (.ref b), .val (.int (Int32.ofNat o)), .val (.int (Int32.ofNat len)), .val .null, .val (.ref s.heap.size)] [.ref s.heap.size, .ref a])) rfl (rest := []) rfl (hb hbytes d54)
  have c16 : Steps p.tables e below (s₁.setTop (entryFrame m #[.ref a, .ref b, .int (Int32.ofNat o), .int (Int32.ofNat len), .null] 6)) (T15.setTop (mkF m 57 #[.val (.ref a), .val (.ref b), .val (.int (Int32.ofNat o)), .val (.int (Int32.ofNat len)), .val .null, .val (.ref s.heap.size)] [])) := c14.trans (st15 _ (Steps.refl _))
  have ap := apart (Or.inr ⟨_, (wk W (.laysFinal "java/lang/String" "java/lang/String" "value" "[B"))⟩) (Or.inr ⟨_, (wk W (.laysFinal "java/lang/String" "java/lang/String" "coder" "B"))⟩) f1 f2 (t₁ := .array .byte) (t₂ := .byte) (by decide +kernel) (by decide +kernel) (by decide)
  have al := X8.warmed.alike.symm.trans X15.warmed.alike
  have n7 : T11.heap[s.heap.size]? = some N := by rw [q11]; exact n1.1
  exact ⟨T15, none, _, _, _, X15, by simp, rfl, by omega, (fun _ => rfl), ⟨rfl, _, N, bl15, ((Same.refl D _).set _ (by simp)).set _ (by simp), sl15, (Cell.slots_setSlot_ne _ ap).trans sl13, n1.keep al (p15.other hne (p13.other hne n7)), n2, by rw [al.findClass]; exact n3, n4, n5, fun y c h1 h2 => p15.other h1 (p13.other h1 (by rw [q11]; exact n6 y c h2)), by rw [p15.2.2, p13.2.2, q11]; exact z8⟩, fun fs hl => c16.trans (X15.returnOut hexec hret (hb hbytes d57) hl)⟩
end New4
namespace New1
def yN : MethodName := ⟨"java/lang/String", "<init>", "([C)V"⟩
abbrev yB : ByteArray := jdk_42_method_3_code
theorem d0 : decode yB 0 = .ok (.aload_n 0, 1) := by decide +kernel
theorem d1 : decode yB 1 = .ok (.aload_n 1, 1) := by decide +kernel
theorem d2 : decode yB 2 = .ok (.iconst 0, 1) := by decide +kernel
theorem d3 : decode yB 3 = .ok (.aload_n 1, 1) := by decide +kernel
theorem d4 : decode yB 4 = .ok (.arraylength, 1) := by decide +kernel
theorem d5 : decode yB 5 = .ok (.aconst_null, 1) := by decide +kernel
theorem d6 : decode yB 6 = .ok (.invokespecial 27, 3) := by decide +kernel
theorem d9 : decode yB 9 = .ok (.return_, 1) := by decide +kernel
def site : List Cond := [New4.tab] ++ initW "java/lang/String" 27 New4.yN
def tab : Cond := tabOf yN yB 2 none site
def P (a : Addr) (D : Cell) (fV fC : Field) (b : Addr) (A : Cell) (z : Int32) (args : Array Value) (s : State) : Prop := args = #[.ref a, .ref b] ∧ Blank "java/lang/String" a D s ∧ Found "java/lang/String" "value" "[B" fV s ∧ Found "java/lang/String" "coder" "B" fC s ∧ Ch b A s ∧ StaticIs s "java/lang/String" "COMPACT_STRINGS" "Z" (.int z) ∧ ¬ z = 0 ∧ 0 < A.slots.size ∧ A.slots.size ≤ 536870912 ∧ ∀ i, i < A.slots.size → ¬ 255 < cv A i
def E (a : Addr) (D : Cell) (fV fC : Field) (A : Cell) (r : Option Value) (s u : State) : Prop := Got a D fV fC A 0 A.slots.size r s u
/-- new String(chars), not empty, no char above 255: a Latin-1 String of their low bytes -/
theorem law (l : Launch) (a : Addr) (D : Cell) (fV fC : Field) (b : Addr) (A : Cell) (z : Int32) : Law l yN 2 1 3 52 yB 2 none site (P a D fV fC b A z) (E a D fV fC A) [⟨a, fC.slot⟩, ⟨a, fV.slot⟩] 1 A.slots.size := by
  refine Law.of_walk (plainFor_of_name (by decide +kernel)) (by decide +kernel) (by decide +kernel) (by decide) (fun _ _ h => by rw [h.1]; rfl) (fun _ U U' hal hh h => ⟨h.1, h.2.1.mv hal hh, h.2.2.1.al hal, h.2.2.2.1.al hal, h.2.2.2.2.1.mv hal hh, h.2.2.2.2.2.1.there hal hh, h.2.2.2.2.2.2⟩) (fun r U U' V V' h1 hal h2 h => Got.mv r U U' V V' h1 hal h2 h) ?_
  intro p e s m args below meth c s₁ X0 hexec hbytes hml hret hlk hnm hown hh0 W hP
  obtain ⟨rfl, hB, f1, f2, hA, s1, hz, l0, l2, hp⟩ := hP
  have c1 : Steps p.tables e below (s₁.setTop (entryFrame m #[.ref a, .ref b] 2)) (s₁.setTop (mkF m 0 #[.val (.ref a), .val (.ref b)] [])) := entry rfl
  have c2 : Steps p.tables e below (s₁.setTop (entryFrame m #[.ref a, .ref b] 2)) (s₁.setTop (mkF m 6 #[.val (.ref a), .val (.ref b)] [.null, .int (Int32.ofNat A.slots.size), .int 0, .ref b, .ref a])) := c1.trans (by
    refine XS.aloadN X0.here hexec rfl (hb hbytes d0) rfl rfl ?_
    refine XS.aloadN X0.here hexec rfl (hb hbytes d1) rfl rfl ?_
    refine iconstV X0.here hexec rfl 0 (hb hbytes d2) (by decide) ?_
    refine XS.aloadN X0.here hexec rfl (hb hbytes d3) rfl rfl ?_
    refine X0.alen hexec (hA.1.mv X0.warmed.alike hh0) rfl rfl (hb hbytes d4) ?_
    refine XS.aconstNull X0.here hexec rfl (hb hbytes d5) ?_
    exact Steps.refl _)
  obtain ⟨v3, T3, X3, E3, g3⟩ := X0.callN hexec (New4.law l a D fV fC b A z 0 A.slots.size) rfl hown (wks W (initW "java/lang/String" 27 New4.yN)) (W New4.tab (by simp only [site, List.mem_cons, List.mem_append, true_or, or_true])) (W := 0) (Nat.le_of_ble_eq_true rfl) (Nat.le_of_ble_eq_true rfl) (Nat.le_refl _) (by show 0 + A.slots.size ≤ A.slots.size; omega) (g := (mkF m 6 #[.val (.ref a), .val (.ref b)] [.null, .int (Int32.ofNat A.slots.size), .int (Int32.ofNat 0), .ref b, .ref a])) rfl (by rw [hml]; rfl) c2 (argsL := [.ref b, .int (Int32.ofNat 0), .int (Int32.ofNat A.slots.size), .null]) (rest := []) rfl rfl (by show 2 * 0 + 0 ≤ _; decide) (hb hbytes d6) (⟨rfl, hB.mv X0.warmed.alike hh0, f1.al X0.warmed.alike, f2.al X0.warmed.alike, hA.mv X0.warmed.alike hh0, s1.there X0.warmed.alike hh0, hz, l0, by omega, l2, fun i hi => by rw [Nat.zero_add]; exact hp i hi⟩)
  have e0 := Got.mv _ s₁ s _ _ hh0.symm (Vm.Alike.refl _) rfl E3
  obtain rfl := e0.1
  have c4 : Steps p.tables e below (s₁.setTop (entryFrame m #[.ref a, .ref b] 2)) (T3.setTop (mkF m 9 #[.val (.ref a), .val (.ref b)] [])) := g3
  exact ⟨T3, none, _, _, _, X3, by simp, rfl, by omega, (fun _ => rfl), e0, fun fs hl => c4.trans (X3.returnOut hexec hret (hb hbytes d9) hl)⟩
theorem pays {l : Launch} {R : Room} {p : Program} {e : Env} {below : List Frame} {s : State} {sargs : Array Value} {len W : Nat} (a : Addr) (D : Cell) (fV fC : Field) (b : Addr) (A : Cell) (z : Int32) (htab : tab.before sargs s = true) (hfr : 4 ≤ R.frames) (hlo : W + 65 ≤ R.locals) :
    Back l R p e below s sargs yN len W (fun A₁ a₁ => A₁.cells + 1 ≤ R.cells ∧ A₁.slots + A.slots.size ≤ R.slots ∧ P a D fV fC b A z a₁ A₁.U) (fun A₁ _ v₁ B₁ => E a D fV fC A v₁ A₁.U B₁.U ∧ B₁.locs = A₁.locs ++ [⟨a, fC.slot⟩, ⟨a, fV.slot⟩] ∧ B₁.cells = A₁.cells + 1 ∧ B₁.slots = A₁.slots + A.slots.size) :=
  (law l a D fV fC b A z).pays htab hfr (by omega)
end New1
/-- the byte, read back as charAt reads it, is the char -/
theorem lo8_mask {x : Int32} (h0 : ¬ x < 0) (h1 : ¬ 255 < x) : lo8 x &&& 255 = x := by
  have t : ∀ k : Fin 256, lo8 (Int32.ofNat k.val) &&& 255 = Int32.ofNat k.val := by decide +kernel
  rw [Int32.lt_iff_toInt_lt] at h0 h1
  have e0 : (0 : Int32).toInt = 0 := rfl
  have e1 : (255 : Int32).toInt = 255 := rfl
  obtain ⟨k, hk⟩ : ∃ k : Nat, x.toInt = k := ⟨x.toInt.toNat, by omega⟩
  have hx : x = Int32.ofNat k := Int32.toInt_inj.mp (by rw [hk, Int32.toInt_ofNat_small (by omega)])
  rw [hx]
  exact t ⟨k, by omega⟩
end StrChars
namespace StrChars.Road
open Jvm Sem ClassFile Op Lib Jvm.Stand Jvm.Free Jvm.Free.XT
open Jvm.Lib.Cold (StaticIs)
abbrev ST : String := "java/lang/String"
/-- every table word that New1's law asks, flat -/
abbrev words : List Jvm.Cond := [.code New1.yN New1.yB 2 none, .initialized ST, .methodLink ST 27 New4.yN, .instanceMethod New4.yN,
  .code New4.yN New4.yB 6 none, .fieldLink ST 38 ST "COMPACT_STRINGS" "Z", .laysFinal ST ST "value" "[B", .fieldLink ST 9 ST "value" "[B", .laysFinal ST ST "coder" "B", .fieldLink ST 15 ST "coder" "B",
  .methodLink ST 1 Lib.objectInit, .instanceMethod Lib.objectInit, .code Lib.objectInit ⟨#[0xb1]⟩ 1 none, .methodLink ST 177 Cmp3.yN, .static Cmp3.yN, .methodLink ST 47 CodL.yN, .static CodL.yN,
  .code Cmp3.yN Cmp3.yB 6 (some (.array .byte)), .initialized U16, .arrayClass .byte, .methodLink U16 115 Cmp5.yN, .static Cmp5.yN, .code Cmp5.yN Cmp5.yB 7 (some .int), .code CodL.yN CodL.yB 2 (some .byte)]
theorem tab_of {a : Array Value} {s : State} (h : ∀ w ∈ words, w.before a s = true) : New1.tab.before a s = true := by
  have h5 : Cmp5.tab.before a s = true := unparts (wk h (.code Cmp5.yN Cmp5.yB 7 (some .int))) (wks h (.initialized Cmp5.yN.cls :: Cmp5.site))
  have hc : CodL.tab.before a s = true := unparts (wk h (.code CodL.yN CodL.yB 2 (some .byte))) (wks h (.initialized CodL.yN.cls :: CodL.site))
  have q5 : ∀ w ∈ Cmp5.tab :: words, w.before a s = true := fun w hw => (List.mem_cons.mp hw).elim (fun e => e ▸ h5) (h w)
  have h3 : Cmp3.tab.before a s = true := unparts (wk q5 (.code Cmp3.yN Cmp3.yB 6 (some (.array .byte)))) (wks q5 (.initialized Cmp3.yN.cls :: Cmp3.site))
  have q3 : ∀ w ∈ Cmp3.tab :: CodL.tab :: words, w.before a s = true := fun w hw => (List.mem_cons.mp hw).elim (fun e => e ▸ h3) fun hw => (List.mem_cons.mp hw).elim (fun e => e ▸ hc) (h w)
  have h4 : New4.tab.before a s = true := unparts (wk q3 (.code New4.yN New4.yB 6 none)) (wks q3 (.initialized New4.yN.cls :: New4.site))
  have q4 : ∀ w ∈ New4.tab :: words, w.before a s = true := fun w hw => (List.mem_cons.mp hw).elim (fun e => e ▸ h4) (h w)
  exact unparts (wk q4 (.code New1.yN New1.yB 2 none)) (wks q4 (.initialized New1.yN.cls :: New1.site))
/-- the words ride from the start Z to the walk's own state -/
theorem moved {Z s : State} {a0 args : Array Value} (hZ : Z.Warmed39 s.vm) (hw : ∀ d ∈ words, d.before a0 Z = true) : ∀ d ∈ words, d.before args s = true := fun d hd => by
  have q := hw d hd
  have t : ∀ d ∈ words, d = .arrayClass .byte ∨ (d.onTables && d.keepsFace) = true := by decide +kernel
  rcases t d hd with rfl | t
  · exact RoadKit.mvA hZ q
  · exact RoadKit.mv hZ q t
/-- WHAT COMES BACK, over the tables of the start Z: h the heap at the call, h' behind it -/
def Q (Z : State) (x : Addr) (A : Cell) (h : Heap) (v : Option Value) (h' : Heap) (L : List Loc) : Prop := v = none ∧ (∀ y ∈ L, y.base = x) ∧ RoadKit.Keep h h' [x] ∧ h'.size = h.size + 1 ∧ RoadKit.Exa Z h' x ST ∧ RoadKit.Fld Z h' x ST "value" "[B" (.ref h.size) ∧ RoadKit.Fld Z h' x ST "coder" "B" (.int 0) ∧
  (∃ V : Cell, RoadKit.Arr Z h' h.size V .byte ∧ V.vm = .none ∧ Z.vm.findClass "[B" = some V.cls ∧ V.slots.size = A.slots.size ∧ ∀ j, j < A.slots.size → V.slots[j]? = some (.int (lo8 (cv A j)))) ∧
  ∀ (O n d : String) (w : Value), RoadKit.Fld Z h x O n d w → RoadKit.slotOf Z O n d ≠ RoadKit.slotOf Z ST "value" "[B" → RoadKit.slotOf Z O n d ≠ RoadKit.slotOf Z ST "coder" "B" → RoadKit.Fld Z h' x O n d w
/-- **new String(chars) AT A CALL, IN THE ROAD'S FORM**: for specialBack behind newO: x the fresh String, b the char[] with the cell A -/
theorem back {p : Program} {l : Launch} {e : Env} {R : Room} {s : State} {args : Array Value} {below : List Frame} {len W : Nat} {Z : State} {a0 : Array Value} {h : Heap} (hZ : Z.Warmed39 s.vm) (hw : ∀ d ∈ words, d.before a0 Z = true) {kI : Nat} (wi : (Jvm.Cond.instantiable ST kI).before a0 Z = true)
    {x b : Addr} {A : Cell} {z : Int32} {v0 c0 : Value} (E : RoadKit.Exa Z h x ST) (V : RoadKit.Fld Z h x ST "value" "[B" v0) (C : RoadKit.Fld Z h x ST "coder" "B" c0) (K : RoadKit.Arr Z h b A .char) (hty : Typed .char A) (S : RoadKit.Sta Z h ST "COMPACT_STRINGS" "Z" (.int z)) (hz : ¬ z = 0)
    (l0 : 0 < A.slots.size) (l2 : A.slots.size ≤ 536870912) (hp : ∀ i, i < A.slots.size → ¬ 255 < cv A i) (hfr : 4 ≤ R.frames) (hlo : W + 65 ≤ R.locals) :
    Back l R p e below s args New1.yN len W (fun P a => a = #[.ref x, .ref b] ∧ P.U.heap = h ∧ P.cells + 1 ≤ R.cells ∧ P.slots + A.slots.size ≤ R.slots)
      (fun P _ v B => ∃ L, Q Z x A h v B.U.heap L ∧ B.locs = P.locs ++ L ∧ B.cells = P.cells + 1 ∧ B.slots = P.slots + A.slots.size) := by
  intro m meth c P g ig mk a X hg hsize hdg hW hn hp'
  obtain ⟨rfl, rfl, r1, r2⟩ := hp'
  have al : Z.vm.Alike P.U.vm := hZ.alike.trans X.warmed.alike
  obtain ⟨D, cfV, kV, iV, fV, hD, gV, stV, knV, obV, asV, slV⟩ := id V
  obtain ⟨D', cfC, kC, iC, fC, hD', gC, stC, -, -, asC, slC⟩ := id C
  cases hD.symm.trans hD'
  obtain ⟨D2, kD, e1, e2, e3, e4, e5⟩ := id E
  cases hD.symm.trans e1
  obtain ⟨c2, k2, i1, i2, i3, -⟩ := Cond.instantiable_spec wi
  cases e2.symm.trans i1
  cases e3.symm.trans i2
  obtain ⟨kU, u1, u2⟩ := al.2.2 _ _ e3
  have hB : Blank ST x D P.U := ⟨hD, ⟨knV, fun q hq => by rw [hq] at obV; cases obV⟩, by rw [al.findClass]; exact e2, kU, u1, by rw [u2]; exact i3, by rw [u2]; exact e5 i3⟩
  have F1 : Found ST "value" "[B" fV P.U := ⟨SBG.found_only al ⟨cfV, kV, iV, gV⟩, stV⟩
  have F2 : Found ST "coder" "B" fC P.U := ⟨SBG.found_only al ⟨cfC, kC, iC, gC⟩, stC⟩
  have hA : Ch b A P.U := ⟨⟨K.1, State.isArrayOf_alike al K.2.1, K.2.2, by omega⟩, hty⟩
  have hS : StaticIs P.U ST "COMPACT_STRINGS" "Z" (.int z) := by
    obtain ⟨cfS, iS, kS, fS, st, cS, t1, t2, t3, t4, t5, t6, t7⟩ := S
    exact StaticIs.there (s := { Z with heap := P.U.heap }) ⟨cfS, iS, kS, fS, st, cS, t1, t2, t3, t4, t5, (fun q => by rw [q] at t6; cases t6), t7⟩ al rfl
  obtain ⟨v, B, X', ⟨⟨hv, E', V', q1, q2, q3, q4, q5, q6, q7, q8, q9, q10, q11⟩, hl, hc, hs⟩, st⟩ := New1.pays x D fV fC b A z (tab_of (moved hZ hw)) hfr hlo m meth c P g ig mk _ X hg hsize hdg hW hn ⟨r1, r2, rfl, hB, F1, F2, hA, hS, hz, l0, l2, hp⟩
  have al' : Z.vm.Alike B.U.vm := hZ.alike.trans X'.warmed.alike
  have hsz : E'.slots.size = D.slots.size := by
    obtain ⟨-, -, -, kB, w1, w2, w3⟩ := q1
    obtain ⟨kB', y1, y2⟩ := al'.2.2 _ _ e3
    rw [q2.2.1] at w1
    cases w1.symm.trans y1
    rw [w3, e5 i3, y2]
  refine ⟨v, B, X', ⟨_, ⟨hv, ?_, ⟨by omega, fun y cy hy hn' => q10 y cy (by simpa using hn') hy, fun y cy hy => ?_⟩, q11, ⟨E', _, q1.1, by rw [q2.2.1]; exact e2, by rw [q2.2.1]; exact e3, by rw [q2.1]; exact obV, fun _ => by rw [hsz]; exact e5 i3⟩,
    ⟨E', cfV, kV, iV, fV, q1.1, gV, stV, by rw [q2.1]; exact knV, by rw [q2.1]; exact obV, by rw [q2.2.1]; exact asV, q3⟩, ⟨E', cfC, kC, iC, fC, q1.1, gC, stC, by rw [q2.1]; exact knV, by rw [q2.1]; exact obV, by rw [q2.2.1]; exact asC, q4⟩,
    ⟨V', ⟨q5.1, State.isArrayOf_alike al'.symm q5.2.1, q5.2.2.1⟩, q6, by rw [← al'.findClass]; exact q7, q8, fun j hj => by have := q9 j hj; rwa [Nat.zero_add] at this⟩, fun O n d w F n1 n2 => ?_⟩, hl, hc, hs⟩, st⟩
  · intro y hy
    simp only [List.mem_cons, List.not_mem_nil, or_false] at hy
    rcases hy with rfl | rfl <;> rfl
  · by_cases q : y = x
    · subst q
      cases hD.symm.trans hy
      exact ⟨E', q1.1, q2.2.1, q2.1, hsz⟩
    · exact ⟨cy, q10 y cy q hy, rfl, rfl, rfl⟩
  · obtain ⟨D3, cf, k, i, f, g1, g2, g3, g4, g5, g6, g7⟩ := F
    cases hD.symm.trans g1
    simp only [RoadKit.slotOf, g2, gV, gC, Option.map_some, Option.getD_some] at n1 n2
    exact ⟨E', cf, k, i, f, q1.1, g2, g3, by rw [q2.1]; exact g4, by rw [q2.1]; exact g5, by rw [q2.2.1]; exact g6, by rw [q2.2.2 f.slot (by simp [n1, n2])]; exact g7⟩
end StrChars.Road
namespace StrChars.Road
open Jvm Sem ClassFile Op Lib Jvm.Stand Jvm.Free Jvm.Free.XT
/-- WHAT COMES BACK, the byte[] as a list of values -/
def QA (Z : State) (x : Addr) (zn : Int32) (cs : List Int32) (h : Heap) (v : Option Value) (h' : Heap) (L : List Loc) : Prop := v = none ∧ (∀ y ∈ L, y.base = x) ∧ RoadKit.Keep h h' [x] ∧ h'.size = h.size + 1 ∧ RoadKit.Exa Z h' x ST ∧ RoadKit.Fld Z h' x ST "value" "[B" (.ref h.size) ∧ RoadKit.Fld Z h' x ST "coder" "B" (.int 0) ∧
  (∃ kb, Z.vm.findClass "[B" = some kb ∧ RoadKit.Arv Z h' h.size kb .byte zn (cs.map fun c => .int (lo8 c)) (.int 0)) ∧
  ∀ (O n d : String) (w : Value), RoadKit.Fld Z h x O n d w → RoadKit.slotOf Z O n d ≠ RoadKit.slotOf Z ST "value" "[B" → RoadKit.slotOf Z O n d ≠ RoadKit.slotOf Z ST "coder" "B" → RoadKit.Fld Z h' x O n d w
/-- **new String(chars) AT A CALL, THE ARRAYS AS LISTS**: the char[] at b holds cs, not empty, no char above 255 -/
theorem backArv {p : Program} {l : Launch} {e : Env} {R : Room} {s : State} {args : Array Value} {below : List Frame} {len W : Nat} {Z : State} {a0 : Array Value} {h : Heap} (hZ : Z.Warmed39 s.vm) (hw : ∀ d ∈ words, d.before a0 Z = true) {kI : Nat} (wi : (Jvm.Cond.instantiable ST kI).before a0 Z = true)
    {x b : Addr} {k : ClassId} {zn z : Int32} {cs : List Int32} {dv v0 c0 : Value} (E : RoadKit.Exa Z h x ST) (V : RoadKit.Fld Z h x ST "value" "[B" v0) (C : RoadKit.Fld Z h x ST "coder" "B" c0) (K : RoadKit.Arv Z h b k .char zn (cs.map Value.int) dv) (S : RoadKit.Sta Z h ST "COMPACT_STRINGS" "Z" (.int z)) (hz : ¬ z = 0)
    (hlen : zn.toNatClampNeg = cs.length) (h0 : 0 < cs.length) (hbig : cs.length ≤ 536870912) (hall : ∀ c ∈ cs, ¬ 255 < c) (hfr : 4 ≤ R.frames) (hlo : W + 65 ≤ R.locals) :
    Back l R p e below s args New1.yN len W (fun P a => a = #[.ref x, .ref b] ∧ P.U.heap = h ∧ P.cells + 1 ≤ R.cells ∧ P.slots + cs.length ≤ R.slots)
      (fun P _ v B => ∃ L, QA Z x zn cs h v B.U.heap L ∧ B.locs = P.locs ++ L ∧ B.cells = P.cells + 1 ∧ B.slots = P.slots + cs.length) := by
  obtain ⟨A, K1, K2, K3, K4, K5, K6⟩ := K
  have e : A.slots.size = cs.length := K3.trans hlen
  have hat : ∀ (i : Nat) (hi : i < cs.length), A.slots[i]? = some (.int cs[i]) := fun i hi => by rw [K5 i (by omega)]; simp [List.getD_eq_getElem?_getD, hi]
  have hcv : ∀ (i : Nat) (hi : i < cs.length), cv A i = cs[i] := fun i hi => by unfold cv; rw [hat i hi]
  have hty : Typed .char A := fun i v hv => by
    have hi : i < A.slots.size := (Array.getElem?_eq_some_iff.mp hv).1
    have q := K5 i hi
    rw [hv] at q
    rw [Option.some.inj q]
    exact K6 i hi
  refine Back.mono (back hZ hw wi E V C K1 hty S hz (by omega) (by omega) (fun i hi => by rw [hcv i (by omega)]; exact hall _ (List.getElem_mem _)) hfr hlo) (fun P a hp => ⟨hp.1, hp.2.1, hp.2.2.1, by rw [e]; exact hp.2.2.2⟩) (fun P a v B hp hq => ?_)
  obtain ⟨L, ⟨q1, q2, q3, q4, q5, q6, q7, ⟨V', v1, v2, v3, v4, v5⟩, q9⟩, hl, hc, hs⟩ := hq
  refine ⟨L, ⟨q1, q2, q3, q4, q5, q6, q7, ⟨V'.cls, v3, V', v1, rfl, by rw [v4, e, hlen], K4, fun i hi => ?_, fun i hi => ?_⟩, q9⟩, hl, hc, by rw [hs, e]⟩
  · have hi' : i < cs.length := by omega
    rw [v5 i (by omega), hcv i hi']; simp [List.getD_eq_getElem?_getD, hi']
  · have hi' : i < cs.length := by omega
    simp only [List.getD_eq_getElem?_getD, List.getElem?_map, List.getElem?_eq_getElem hi', Option.map_some, Option.getD_some]
    exact fits_lo8 _
end StrChars.Road
namespace StrChars.Road
open Jvm Sem ClassFile Op Lib Jvm.Stand Jvm.Free Jvm.Free.XT
/-- WHAT COMES BACK, in the writer's own shape -/
def QV (Z : State) (x : Addr) (N : Int32) (bs : List Int32) (h : Heap) (n0 : Nat) (v : Option Value) (h' : Heap) (L : List Loc) : Prop := v = none ∧ RoadKit.Fr n0 L ∧ RoadKit.Keep h h' [x] ∧ RoadKit.Exa Z h' x ST ∧ RoadKit.Fld Z h' x ST "coder" "B" (.int 0) ∧
  ∃ (t : Addr) (kb : ClassId), n0 ≤ t ∧ h.size ≤ t ∧ ¬ t = x ∧ RoadKit.Fld Z h' x ST "value" "[B" (.ref t) ∧ RoadKit.Arv Z h' t kb .byte N (bs.map Value.int) (.int 0)
/-- **new String(chars) AT A CALL, FOR THE WRITER**: a char[] of n known ints, each 0 to 255 -/
theorem backV {p : Program} {l : Launch} {e : Env} {R : Room} {s : State} {args : Array Value} {below : List Frame} {len W : Nat} {Z : State} {a0 : Array Value} {h : Heap} (hZ : Z.Warmed39 s.vm) (hw : ∀ d ∈ words, d.before a0 Z = true) {kI : Nat} (wi : (Jvm.Cond.instantiable ST kI).before a0 Z = true)
    {x b : Addr} {kC : ClassId} {cs bs : List Int32} {d v0 c0 : Value} {z N : Int32} {n n0 : Nat} (hx0 : n0 ≤ x) (hh0 : n0 ≤ h.size) (E : RoadKit.Exa Z h x ST) (V : RoadKit.Fld Z h x ST "value" "[B" v0) (C : RoadKit.Fld Z h x ST "coder" "B" c0) (K : RoadKit.Arv Z h b kC .char N (cs.map Value.int) d) (S : RoadKit.Sta Z h ST "COMPACT_STRINGS" "Z" (.int z)) (hz : ¬ z = 0)
    (hn : cs.length = n) (hN : N = Int32.ofNat n) (l0 : 0 < n) (l2 : n ≤ 4000) (hp : ∀ c ∈ cs, ¬ c < 0 ∧ ¬ (255 : Int32) < c) (hb : bs = cs.map (fun c => c.toInt8.toInt32)) (hfr : 4 ≤ R.frames) (hlo : W + 65 ≤ R.locals) :
    Back l R p e below s args (⟨"java/lang/String", "<init>", "([C)V"⟩ : MethodName) len W (fun P a => a = #[.ref x, .ref b] ∧ P.U.heap = h ∧ P.cells + 1 ≤ R.cells ∧ P.slots + n ≤ R.slots)
      (fun P _ v B => ∃ L, QV Z x N bs h n0 v B.U.heap L ∧ B.locs = P.locs ++ L ∧ B.cells = P.cells + 1 ∧ B.slots = P.slots + n) := by
  subst hn hN hb
  refine Back.mono (backArv hZ hw wi E V C K S hz (n32 (by omega)) l0 (by omega) (fun c hc => (hp c hc).2) hfr hlo) (fun P a hp => hp) (fun P a v B hp hq => ?_)
  obtain ⟨L, ⟨q1, q2, q3, q4, q5, q6, q7, ⟨kb, v1, v2⟩, q9⟩, hl, hc, hs⟩ := hq
  exact ⟨L, ⟨q1, fun y hy => by rw [q2 y hy]; exact hx0, q3, q5, q7, h.size, kb, hh0, Nat.le_refl _, Nat.ne_of_gt E.lt, q6, by rw [List.map_map]; exact v2⟩, hl, hc, hs⟩
end StrChars.Road
namespace StrChars
open Jvm Sem ClassFile Op Lib Jvm.Stand Jvm.Free.XT Jvm.Free.ALB Jvm.Free.JM Jvm.Free
open Jvm.Lib.Cold (StaticIs)
def hi8 (x : Int32) : Int32 := lo8 (x >>> ((8 : Int32) &&& 31))
/-- what StringUTF16.getChar makes of two bytes -/
def pairCh (u v : Int32) : Int32 := (((u &&& 255) <<< ((0 : Int32) &&& 31)) ||| ((v &&& 255) <<< ((8 : Int32) &&& 31))).toUInt32.toUInt16.toUInt32.toInt32
theorem lo8_and (x : Int32) : (lo8 x &&& 255).toBitVec.toNat = x.toBitVec.toNat % 256 := by
  have h : (lo8 x).toBitVec = (x.toBitVec.signExtend 8).signExtend 32 := by rw [lo8, Int8.toBitVec_toInt32, Int32.toBitVec_toInt8]
  rw [Int32.toBitVec_and, BitVec.toNat_and, h]
  have e : ((x.toBitVec.signExtend 8).signExtend 32).toNat % 256 = x.toBitVec.toNat % 256 := by
    rw [BitVec.toNat_signExtend]
    have hlt := x.toBitVec.isLt
    simp only [BitVec.toNat_setWidth, BitVec.toNat_signExtend]
    split <;> split <;> omega
  rw [← e]
  exact Nat.and_two_pow_sub_one_eq_mod _ 8
theorem pair_says {c : Int32} (h0 : ¬ c < 0) (h1 : ¬ 65535 < c) : pairCh (lo8 c) (hi8 c) = c := by
  rw [Int32.lt_iff_toInt_lt] at h0 h1
  have e0 : (0 : Int32).toInt = 0 := rfl
  have e1 : (65535 : Int32).toInt = 65535 := rfl
  have hc : c.toInt = c.toBitVec.toNat := by
    have := c.toBitVec.isLt
    have e : c.toInt = c.toBitVec.toInt := rfl
    rw [e] at h0 h1
    rw [e]
    rw [BitVec.toInt_eq_toNat_cond] at h0 h1 ⊢
    split at h0 <;> split <;> omega
  have hn : c.toBitVec.toNat < 65536 := by omega
  have a1 := lo8_and c
  have a2 : (hi8 c &&& 255).toBitVec.toNat = c.toBitVec.toNat / 256 := by
    rw [hi8, lo8_and]
    have e : ((8 : Int32) &&& 31) = 8 := by decide
    rw [e, Int32.toBitVec_shiftRight]
    have e2 : ((8 : Int32).toBitVec.smod 32) = 8#32 := by decide
    rw [e2, BitVec.sshiftRight_eq', BitVec.toNat_sshiftRight_of_msb_false (by rw [BitVec.msb_eq_false_iff_two_mul_lt]; omega)]
    show c.toBitVec.toNat >>> 8 % 256 = _
    rw [Nat.shiftRight_eq_div_pow]
    omega
  unfold pairCh
  apply Int32.toBitVec_inj.mp
  apply BitVec.eq_of_toNat_eq
  have f0 : ((0 : Int32) &&& 31) = 0 := by decide
  have f8 : ((8 : Int32) &&& 31) = 8 := by decide
  rw [f0, f8]
  have g : (((lo8 c &&& 255) <<< (0 : Int32)) ||| ((hi8 c &&& 255) <<< (8 : Int32))).toBitVec.toNat = c.toBitVec.toNat := by
    rw [Int32.toBitVec_or, Int32.toBitVec_shiftLeft, Int32.toBitVec_shiftLeft]
    have s0 : ((0 : Int32).toBitVec.smod 32) = 0#32 := by decide
    have s8 : ((8 : Int32).toBitVec.smod 32) = 8#32 := by decide
    rw [s0, s8, BitVec.toNat_or]
    simp only [BitVec.shiftLeft_eq', BitVec.toNat_shiftLeft, a1, a2]
    show (c.toBitVec.toNat % 256) <<< 0 % 2 ^ 32 ||| (c.toBitVec.toNat / 256) <<< 8 % 2 ^ 32 = _
    rw [Nat.shiftLeft_zero, Nat.mod_eq_of_lt (show c.toBitVec.toNat % 256 < 2 ^ 32 by omega), Nat.mod_eq_of_lt (show (c.toBitVec.toNat / 256) <<< 8 < 2 ^ 32 by rw [Nat.shiftLeft_eq]; omega), Nat.or_comm, ← Nat.shiftLeft_add_eq_or_of_lt (by omega), Nat.shiftLeft_eq]
    omega
  show BitVec.toNat (((((lo8 c &&& 255) <<< (0 : Int32)) ||| ((hi8 c &&& 255) <<< (8 : Int32))).toBitVec.setWidth 16).setWidth 32) = _
  rw [BitVec.toNat_setWidth, BitVec.toNat_setWidth, g]
  omega
end StrChars
namespace StrChars
open Jvm Sem ClassFile Op Lib Jvm.Stand Jvm.Free.XT Jvm.Free.ALB Jvm.Free.JM Jvm.Free
open Jvm.Lib.Cold (StaticIs)
/-- the array's cell V codes the n chars f 0 .. f (n - 1) by the coder cd, as the JDK does: coder 1 just where some char is above 255 -/
def Cod (cd : Int32) (n : Nat) (f : Nat → Int32) (V : Cell) : Prop := (cd = 0 ∧ V.slots.size = n ∧ ∀ j, j < n → V.slots[j]? = some (.int (lo8 (f j))) ∧ ¬ 255 < f j) ∨ (cd = 1 ∧ V.slots.size = 2 * n ∧ (∀ j, j < n → V.slots[2 * j]? = some (.int (lo8 (f j))) ∧ V.slots[2 * j + 1]? = some (.int (hi8 (f j)))) ∧ ∃ j, j < n ∧ 255 < f j)
/-- **x is a String of the n chars f 0 .. f (n - 1)**, Latin-1 or UTF-16; its array at t has the cell V -/
def Txt (x t : Addr) (V : Cell) (cd : Int32) (n : Nat) (f : Nat → Int32) (U : State) : Prop := Exact "java/lang/String" x U ∧ Has x "java/lang/String" "value" "[B" (.ref t) U ∧ Has x "java/lang/String" "coder" "B" (.int cd) U ∧ XT.Arr .byte t V U ∧ Cod cd n f V ∧ ∀ j, j < n → ¬ f j < 0 ∧ ¬ 65535 < f j
theorem Txt.mv {x t : Addr} {V : Cell} {cd : Int32} {n : Nat} {f : Nat → Int32} {U U' : State} (h : Txt x t V cd n f U) (hal : U.vm.Alike U'.vm) (hh : U'.heap = U.heap) : Txt x t V cd n f U' := ⟨h.1.mv hal hh, h.2.1.mv hal hh, h.2.2.1.mv hal hh, h.2.2.2.1.mv hal hh, h.2.2.2.2⟩
end StrChars
namespace StrChars.Road
open Jvm Sem ClassFile Op Lib Jvm.Stand Jvm.Free Jvm.Free.XT
open Jvm.Lib.Cold (StaticIs)
theorem consq {a : Array Value} {s : State} {c : Jvm.Cond} {L : List Jvm.Cond} (h0 : c.before a s = true) (h : ∀ w ∈ L, w.before a s = true) : ∀ w ∈ c :: L, w.before a s = true := fun w hw => (List.mem_cons.mp hw).elim (fun e => e ▸ h0) (h w)
/-- the bytes of the chars cs, low before high -/
def wideBytes : List Int32 → List Value
  | [] => []
  | c :: cs => .int (lo8 c) :: .int (hi8 c) :: wideBytes cs
theorem wide_lo (d : Value) : ∀ (cs : List Int32) (j : Nat), j < cs.length → (wideBytes cs).getD (2 * j) d = .int (lo8 (cs.getD j 0))
  | [], j, h => absurd h (Nat.not_lt_zero j)
  | c :: cs, 0, _ => rfl
  | c :: cs, j + 1, h => by
    have q := wide_lo d cs j (by simpa using h)
    rw [show 2 * (j + 1) = 2 * j + 1 + 1 from by omega]
    simpa [wideBytes] using q
theorem wide_hi (d : Value) : ∀ (cs : List Int32) (j : Nat), j < cs.length → (wideBytes cs).getD (2 * j + 1) d = .int (hi8 (cs.getD j 0))
  | [], j, h => absurd h (Nat.not_lt_zero j)
  | c :: cs, 0, _ => rfl
  | c :: cs, j + 1, h => by
    have q := wide_hi d cs j (by simpa using h)
    rw [show 2 * (j + 1) + 1 = 2 * j + 1 + 1 + 1 from by omega]
    simpa [wideBytes] using q
theorem low_at (d : Value) (cs : List Int32) (j : Nat) (h : j < cs.length) : (cs.map fun c => Value.int (lo8 c)).getD j d = .int (lo8 (cs.getD j 0)) := by
  simp [List.getD_eq_getElem?_getD, h]
/-- an array of N2 bytes vs codes the chars cs by the coder cd -/
def CodA (cs : List Int32) (cd N2 : Int32) (vs : List Value) : Prop := (cd = 0 ∧ N2 = Int32.ofNat cs.length ∧ vs = (cs.map fun c => Value.int (lo8 c)) ∧ ∀ c ∈ cs, ¬ 255 < c) ∨ (cd = 1 ∧ N2 = Int32.ofNat (2 * cs.length) ∧ vs = wideBytes cs ∧ ∃ c ∈ cs, 255 < c)
theorem CodA.cod {cs : List Int32} {cd N2 : Int32} {vs : List Value} {V : Cell} (h : CodA cs cd N2 vs) (hn : 2 * cs.length < 2 ^ 31) (hs : V.slots.size = N2.toNatClampNeg) (hv : RoadKit.Has V vs (.int 0)) : Cod cd cs.length (fun j => cs.getD j 0) V := by
  rcases h with ⟨rfl, rfl, rfl, h⟩ | ⟨rfl, rfl, rfl, c, hc, hw⟩
  · rw [n32 (by omega)] at hs
    exact Or.inl ⟨rfl, hs, fun j hj => ⟨by rw [hv j (by omega), low_at _ _ _ hj], by
      have e : cs.getD j 0 = cs[j] := by simp [List.getD_eq_getElem?_getD, hj]
      show ¬ 255 < cs.getD j 0
      rw [e]; exact h _ (List.getElem_mem _)⟩⟩
  · rw [n32 (by omega)] at hs
    obtain ⟨j, hj, rfl⟩ := List.getElem_of_mem hc
    exact Or.inr ⟨rfl, hs, fun j hj => ⟨by rw [hv _ (by omega), wide_lo _ _ _ hj], by rw [hv _ (by omega), wide_hi _ _ _ hj]⟩, j, hj, by
      have e : cs.getD j 0 = cs[j] := by simp [List.getD_eq_getElem?_getD, hj]
      show 255 < cs.getD j 0
      rw [e]; exact hw⟩
/-- an object of exactly java/lang/String, its two fields found: as the laws ask it -/
theorem strObj {Z U : State} {a0 : Array Value} {kI : Nat} (wi : (Jvm.Cond.instantiable ST kI).before a0 Z = true) (al : Z.vm.Alike U.vm) {x : Addr} {v0 c0 : Value} (E : RoadKit.Exa Z U.heap x ST) (V : RoadKit.Fld Z U.heap x ST "value" "[B" v0) (C : RoadKit.Fld Z U.heap x ST "coder" "B" c0) :
    ∃ (D : Cell) (fV fC : Field), Blank ST x D U ∧ Found ST "value" "[B" fV U ∧ Found ST "coder" "B" fC U ∧ D.slots[fV.slot]? = some v0 ∧ D.slots[fC.slot]? = some c0 ∧ RoadKit.slotOf Z ST "value" "[B" = fV.slot ∧ RoadKit.slotOf Z ST "coder" "B" = fC.slot := by
  obtain ⟨D, cfV, kV, iV, fV, hD, gV, stV, knV, obV, asV, slV⟩ := V
  obtain ⟨D', cfC, kC, iC, fC, hD', gC, stC, -, -, asC, slC⟩ := C
  cases hD.symm.trans hD'
  obtain ⟨D2, kD, e1, e2, e3, e4, e5⟩ := E
  cases hD.symm.trans e1
  obtain ⟨c2, k2, i1, i2, i3, -⟩ := Cond.instantiable_spec wi
  cases e2.symm.trans i1
  cases e3.symm.trans i2
  obtain ⟨kU, u1, u2⟩ := al.2.2 _ _ e3
  exact ⟨D, fV, fC, ⟨hD, ⟨knV, fun q hq => by rw [hq] at obV; cases obV⟩, by rw [al.findClass]; exact e2, kU, u1, by rw [u2]; exact i3, by rw [u2]; exact e5 i3⟩, ⟨SBG.found_only al ⟨cfV, kV, iV, gV⟩, stV⟩, ⟨SBG.found_only al ⟨cfC, kC, iC, gC⟩, stC⟩, slV, slC, by simp [RoadKit.slotOf, gV], by simp [RoadKit.slotOf, gC]⟩
theorem sta_is {Z U : State} (al : Z.vm.Alike U.vm) {C n d : String} {v : Value} (S : RoadKit.Sta Z U.heap C n d v) : StaticIs U C n d v := by
  obtain ⟨cfS, iS, kS, fS, st, cS, t1, t2, t3, t4, t5, t6, t7⟩ := S
  exact StaticIs.there (s := { Z with heap := U.heap }) ⟨cfS, iS, kS, fS, st, cS, t1, t2, t3, t4, t5, (fun q => by rw [q] at t6; cases t6), t7⟩ al rfl
end StrChars.Road
namespace StrChars
open Jvm Sem ClassFile Op Lib Jvm.Stand Jvm.Free.XT Jvm.Free.ALB Jvm.Free.JM Jvm.Free
open Jvm.Lib.Cold (StaticIs)
/-- what place i of a byte[]'s cell holds -/
def yv (A : Cell) (i : Nat) : Int32 := match A.slots[i]? with | some (.int x) => x | _ => 0
theorem yv_get {a : Addr} {A : Cell} {U : State} (h : XT.Arr .byte a A U) (ht : Typed .byte A) {i : Nat} (hi : i < A.slots.size) : A.slots[i]? = some (.int (yv A i)) := by
  have e := Array.getElem?_eq_getElem hi
  have f := ht i _ e
  unfold yv; rw [e]
  generalize A.slots[i] = v at f
  cases v <;> simp [fits] at f ⊢
/-- the two arrays are equal, place for place -/
def EqC (A B : Cell) : Prop := A.slots.size = B.slots.size ∧ ∀ i, i < A.slots.size → yv A i = yv B i
/-- a boolean that says whether p -/
def Says01 (q : Prop) (r : Option Value) (s u : State) : Prop := ∃ v : Int32, r = some (.int v) ∧ u.heap = s.heap ∧ ((v = 1 ∧ q) ∨ (v = 0 ∧ ¬ q))
theorem Says01.mv {q : Prop} : ∀ r (U U' V V' : State), U'.heap = U.heap → V.vm.Alike V'.vm → V'.heap = V.heap → Says01 q r U V → Says01 q r U' V' :=
  fun r U U' V V' h1 _ h2 ⟨v, a, b, c⟩ => ⟨v, a, by rw [h1, h2]; exact b, c⟩
namespace LEq
def yN : MethodName := ⟨"java/lang/StringLatin1", "equals", "([B[B)Z"⟩
abbrev yB : ByteArray := jdk_43_method_13_code
theorem d0 : decode yB 0 = .ok (.aload_n 0, 1) := by decide +kernel
theorem d1 : decode yB 1 = .ok (.arraylength, 1) := by decide +kernel
theorem d2 : decode yB 2 = .ok (.aload_n 1, 1) := by decide +kernel
theorem d3 : decode yB 3 = .ok (.arraylength, 1) := by decide +kernel
theorem d4 : decode yB 4 = .ok (.if_icmp (.ne) 30, 3) := by decide +kernel
theorem d7 : decode yB 7 = .ok (.iconst 0, 1) := by decide +kernel
theorem d8 : decode yB 8 = .ok (.istore_n 2, 1) := by decide +kernel
theorem d9 : decode yB 9 = .ok (.iload_n 2, 1) := by decide +kernel
theorem d10 : decode yB 10 = .ok (.aload_n 0, 1) := by decide +kernel
theorem d11 : decode yB 11 = .ok (.arraylength, 1) := by decide +kernel
theorem d12 : decode yB 12 = .ok (.if_icmp (.ge) 20, 3) := by decide +kernel
theorem d15 : decode yB 15 = .ok (.aload_n 0, 1) := by decide +kernel
theorem d16 : decode yB 16 = .ok (.iload_n 2, 1) := by decide +kernel
theorem d17 : decode yB 17 = .ok (.baload, 1) := by decide +kernel
theorem d18 : decode yB 18 = .ok (.aload_n 1, 1) := by decide +kernel
theorem d19 : decode yB 19 = .ok (.iload_n 2, 1) := by decide +kernel
theorem d20 : decode yB 20 = .ok (.baload, 1) := by decide +kernel
theorem d21 : decode yB 21 = .ok (.if_icmp (.eq) 5, 3) := by decide +kernel
theorem d24 : decode yB 24 = .ok (.iconst 0, 1) := by decide +kernel
theorem d25 : decode yB 25 = .ok (.ireturn, 1) := by decide +kernel
theorem d26 : decode yB 26 = .ok (.iinc 2 1, 3) := by decide +kernel
theorem d29 : decode yB 29 = .ok (.goto (-20), 3) := by decide +kernel
theorem d32 : decode yB 32 = .ok (.iconst 1, 1) := by decide +kernel
theorem d33 : decode yB 33 = .ok (.ireturn, 1) := by decide +kernel
theorem d34 : decode yB 34 = .ok (.iconst 0, 1) := by decide +kernel
theorem d35 : decode yB 35 = .ok (.ireturn, 1) := by decide +kernel
def site : List Cond := []
def tab : Cond := tabOf yN yB 3 (some .boolean) site
def P (a : Addr) (A : Cell) (b : Addr) (B : Cell) (args : Array Value) (s : State) : Prop := args = #[.ref a, .ref b] ∧ XT.Arr .byte a A s ∧ Typed .byte A ∧ XT.Arr .byte b B s ∧ Typed .byte B
/-- whether two byte[] are equal, place for place -/
theorem law (l : Launch) (a : Addr) (A : Cell) (b : Addr) (B : Cell) : Law l yN 2 2 0 0 yB 3 (some .boolean) site (P a A b B) (Says01 (EqC A B)) [] 0 0 := by
  refine Law.of_walk (plainFor_of_name (by decide +kernel)) (by decide +kernel) (by decide +kernel) (by decide) (fun _ _ h => by rw [h.1]; rfl) (fun _ U U' hal hh h => ⟨h.1, h.2.1.mv hal hh, h.2.2.1, h.2.2.2.1.mv hal hh, h.2.2.2.2⟩) (fun r U U' V V' h1 hal h2 h => Says01.mv r U U' V V' h1 hal h2 h) ?_
  intro p e s m args below meth c s₁ X0 hexec hbytes hml hret hlk hnm hown hh0 W hP
  obtain ⟨rfl, hA, tA, hB, tB⟩ := hP
  have a31 := hA.2.2.2
  have b31 := hB.2.2.2
  have hA0 := hA.mv X0.warmed.alike hh0
  have hB0 := hB.mv X0.warmed.alike hh0
  have c1 : Steps p.tables e below (s₁.setTop (entryFrame m #[.ref a, .ref b] 3)) (s₁.setTop (mkF m 0 #[.val (.ref a), .val (.ref b), .unset] [])) := entry rfl
  have c2 : Steps p.tables e below (s₁.setTop (entryFrame m #[.ref a, .ref b] 3)) (s₁.setTop (mkF m 4 #[.val (.ref a), .val (.ref b), .unset] [.int (Int32.ofNat B.slots.size), .int (Int32.ofNat A.slots.size)])) := c1.trans (by
    refine XS.aloadN X0.here hexec rfl (hb hbytes d0) rfl rfl ?_
    refine X0.alen hexec hA0 rfl rfl (hb hbytes d1) ?_
    refine XS.aloadN X0.here hexec rfl (hb hbytes d2) rfl rfl ?_
    refine X0.alen hexec hB0 rfl rfl (hb hbytes d3) ?_
    exact Steps.refl _)
  by_cases hs : A.slots.size = B.slots.size
  · have c3 : Steps p.tables e below (s₁.setTop (entryFrame m #[.ref a, .ref b] 3)) (s₁.setTop (mkF m 9 #[.val (.ref a), .val (.ref b), .val (.int 0)] [])) := c2.trans (by
      refine XS.icmpNo X0.here hexec rfl (hb hbytes d4) rfl (ii_ne_f (by rw [hs])) ?_
      refine iconstV X0.here hexec rfl 0 (hb hbytes d7) (by decide) ?_
      refine XS.istoreN X0.here hexec rfl (hb hbytes d8) rfl rfl ?_
      exact Steps.refl _)
    have loop : ∀ (r i : Nat), i + r = A.slots.size → (∀ j, j < i → yv A j = yv B j) → Steps p.tables e below (s₁.setTop (entryFrame m #[.ref a, .ref b] 3)) (s₁.setTop (mkF m 9 #[.val (.ref a), .val (.ref b), .val (.int (Int32.ofNat i))] [])) → ∃ (pc : Nat) (Ls : Array Slot) (v : Int32), (pc = 25 ∨ pc = 33) ∧ ((v = 1 ∧ EqC A B) ∨ (v = 0 ∧ ¬ EqC A B)) ∧ Steps p.tables e below (s₁.setTop (entryFrame m #[.ref a, .ref b] 3)) (s₁.setTop (mkF m pc Ls [.int v])) := by
      intro r
      induction r with
      | zero =>
        intro i hi he cl
        exact ⟨33, _, 1, Or.inr rfl, Or.inl ⟨rfl, hs, fun j hj => he j (by omega)⟩, cl.trans (by
          refine XS.iloadN X0.here hexec rfl (hb hbytes d9) rfl ?_
          refine XS.aloadN X0.here hexec rfl (hb hbytes d10) rfl rfl ?_
          refine X0.alen hexec hA0 rfl rfl (hb hbytes d11) ?_
          refine XS.icmpYes X0.here hexec rfl (pc0 := 12) rfl (hb hbytes d12) rfl (ii_ge_t (nlt32 (by omega) (by omega))) (by decide) rfl ?_
          refine iconstV X0.here hexec rfl 1 (hb hbytes d32) (by decide) ?_
          exact Steps.refl _)⟩
      | succ r ih =>
        intro i hi he cl
        have c4 : Steps p.tables e below (s₁.setTop (entryFrame m #[.ref a, .ref b] 3)) (s₁.setTop (mkF m 21 #[.val (.ref a), .val (.ref b), .val (.int (Int32.ofNat i))] [.int (yv B i), .int (yv A i)])) := cl.trans (by
          refine XS.iloadN X0.here hexec rfl (hb hbytes d9) rfl ?_
          refine XS.aloadN X0.here hexec rfl (hb hbytes d10) rfl rfl ?_
          refine X0.alen hexec hA0 rfl rfl (hb hbytes d11) ?_
          refine XS.icmpNo X0.here hexec rfl (hb hbytes d12) rfl (ii_ge_f (lt32 (by omega) (by omega))) ?_
          refine XS.aloadN X0.here hexec rfl (hb hbytes d15) rfl rfl ?_
          refine XS.iloadN X0.here hexec rfl (hb hbytes d16) rfl ?_
          refine X0.aget hexec hA0 rfl (yv_get hA tA (i := i) (by omega)) rfl rfl (hb hbytes d17) ?_
          refine XS.aloadN X0.here hexec rfl (hb hbytes d18) rfl rfl ?_
          refine XS.iloadN X0.here hexec rfl (hb hbytes d19) rfl ?_
          refine X0.aget hexec hB0 rfl (yv_get hB tB (i := i) (by omega)) rfl rfl (hb hbytes d20) ?_
          exact Steps.refl _)
        by_cases hv : yv A i = yv B i
        · have c5 : Steps p.tables e below (s₁.setTop (entryFrame m #[.ref a, .ref b] 3)) (s₁.setTop (mkF m 9 #[.val (.ref a), .val (.ref b), .val (.int (Int32.ofNat i + 1))] [])) := c4.trans (by
            refine XS.icmpYes X0.here hexec rfl (pc0 := 21) rfl (hb hbytes d21) rfl (ii_eq_t hv) (by decide) rfl ?_
            refine iincV X0.here hexec rfl 1 (hb hbytes d26) (by decide) rfl rfl ?_
            refine XS.goto X0.here hexec rfl (pc0 := 29) rfl (hb hbytes d29) (by decide) rfl ?_
            exact Steps.refl _)
          rw [succ32] at c5
          exact ih (i + 1) (by omega) (fun j hj => by
            by_cases e : j = i
            · rw [e]; exact hv
            · exact he j (by omega)) c5
        · exact ⟨25, _, 0, Or.inl rfl, Or.inr ⟨rfl, fun q => hv (q.2 i (by omega))⟩, c4.trans (by
            refine XS.icmpNo X0.here hexec rfl (hb hbytes d21) rfl (ii_eq_f hv) ?_
            refine iconstV X0.here hexec rfl 0 (hb hbytes d24) (by decide) ?_
            exact Steps.refl _)⟩
    obtain ⟨pc, Ls, v, hpc, hv, cz⟩ := loop A.slots.size 0 (by omega) (fun j hj => absurd hj (Nat.not_lt_zero j)) c3
    have nv : narrow .boolean (.int v) = .int v := by rcases hv with ⟨rfl, -⟩ | ⟨rfl, -⟩ <;> rfl
    rcases hpc with rfl | rfl
    · exact ⟨s₁, some (.int v), _, _, _, X0, rfl, rfl, rfl, (fun h => by cases h), ⟨v, rfl, hh0, hv⟩, fun fs hl => cz.trans (X0.ireturnOut hexec hret nv (Or.inr (Or.inl rfl)) (hb hbytes d25) hl)⟩
    · exact ⟨s₁, some (.int v), _, _, _, X0, rfl, rfl, rfl, (fun h => by cases h), ⟨v, rfl, hh0, hv⟩, fun fs hl => cz.trans (X0.ireturnOut hexec hret nv (Or.inr (Or.inl rfl)) (hb hbytes d33) hl)⟩
  · have c3 : Steps p.tables e below (s₁.setTop (entryFrame m #[.ref a, .ref b] 3)) (s₁.setTop (mkF m 35 #[.val (.ref a), .val (.ref b), .unset] [.int 0])) := c2.trans (by
      refine XS.icmpYes X0.here hexec rfl (pc0 := 4) rfl (hb hbytes d4) rfl (ii_ne_t (ne32 a31 b31 hs)) (by decide) rfl ?_
      refine iconstV X0.here hexec rfl 0 (hb hbytes d34) (by decide) ?_
      exact Steps.refl _)
    exact ⟨s₁, some (.int 0), _, _, _, X0, rfl, rfl, rfl, (fun h => by cases h), ⟨0, rfl, hh0, Or.inr ⟨rfl, fun q => hs q.1⟩⟩, fun fs hl => c3.trans (X0.ireturnOut hexec hret rfl (Or.inr (Or.inl rfl)) (hb hbytes d35) hl)⟩
end LEq
theorem Cod.ty {cd : Int32} {n : Nat} {f : Nat → Int32} {V : Cell} (h : Cod cd n f V) : Typed .byte V := fun i v hv => by
  have hi : i < V.slots.size := (Array.getElem?_eq_some_iff.mp hv).1
  rcases h with ⟨-, k1, k2⟩ | ⟨-, k1, k2, -⟩
  · rw [(k2 i (by omega)).1] at hv; cases hv; exact fits_lo8 _
  · rcases Nat.mod_two_eq_zero_or_one i with e | e
    · obtain ⟨j, rfl⟩ : ∃ j, i = 2 * j := ⟨i / 2, by omega⟩
      rw [(k2 j (by omega)).1] at hv; cases hv; exact fits_lo8 _
    · obtain ⟨j, rfl⟩ : ∃ j, i = 2 * j + 1 := ⟨i / 2, by omega⟩
      rw [(k2 j (by omega)).2] at hv; cases hv; exact fits_lo8 _
/-- the same text -/
def SameT (n : Nat) (f : Nat → Int32) (k : Nat) (g : Nat → Int32) : Prop := n = k ∧ ∀ j, j < n → f j = g j
theorem lo8_inj {x y : Int32} (h0 : ¬ x < 0) (h1 : ¬ 255 < x) (k0 : ¬ y < 0) (k1 : ¬ 255 < y) (h : lo8 x = lo8 y) : x = y := by
  rw [← lo8_mask h0 h1, ← lo8_mask k0 k1, h]
/-- arrays coded by one coder are equal just where the texts are -/
theorem Cod.eqv {cd : Int32} {n k : Nat} {f g : Nat → Int32} {V V' : Cell} (h : Cod cd n f V) (h' : Cod cd k g V') (hf : ∀ j, j < n → ¬ f j < 0 ∧ ¬ 65535 < f j) (hg : ∀ j, j < k → ¬ g j < 0 ∧ ¬ 65535 < g j) : EqC V V' ↔ SameT n f k g := by
  have yvv : ∀ {W : Cell} {i : Nat} {x : Int32}, W.slots[i]? = some (.int x) → yv W i = x := fun q => by unfold yv; rw [q]
  rcases h with ⟨rfl, k1, k2⟩ | ⟨rfl, k1, k2, -⟩
  · rcases h' with ⟨-, m1, m2⟩ | ⟨e, -⟩
    · constructor
      · rintro ⟨e1, e2⟩
        refine ⟨by omega, fun j hj => ?_⟩
        have q := e2 j (by omega)
        rw [yvv (k2 j hj).1, yvv (m2 j (by omega)).1] at q
        exact lo8_inj (hf j hj).1 (k2 j hj).2 (hg j (by omega)).1 (m2 j (by omega)).2 q
      · rintro ⟨rfl, e2⟩
        refine ⟨by omega, fun j hj => ?_⟩
        rw [yvv (k2 j (by omega)).1, yvv (m2 j (by omega)).1, e2 j (by omega)]
    · exact absurd e (by decide)
  · rcases h' with ⟨e, -⟩ | ⟨-, m1, m2, -⟩
    · exact absurd e (by decide)
    · constructor
      · rintro ⟨e1, e2⟩
        refine ⟨by omega, fun j hj => ?_⟩
        have q1 := e2 (2 * j) (by omega)
        have q2 := e2 (2 * j + 1) (by omega)
        rw [yvv (k2 j hj).1, yvv (m2 j (by omega)).1] at q1
        rw [yvv (k2 j hj).2, yvv (m2 j (by omega)).2] at q2
        rw [← pair_says (hf j hj).1 (hf j hj).2, ← pair_says (hg j (by omega)).1 (hg j (by omega)).2, q1, q2]
      · rintro ⟨rfl, e2⟩
        refine ⟨by omega, fun i hi => ?_⟩
        rcases Nat.mod_two_eq_zero_or_one i with e | e
        · obtain ⟨j, rfl⟩ : ∃ j, i = 2 * j := ⟨i / 2, by omega⟩
          rw [yvv (k2 j (by omega)).1, yvv (m2 j (by omega)).1, e2 j (by omega)]
        · obtain ⟨j, rfl⟩ : ∃ j, i = 2 * j + 1 := ⟨i / 2, by omega⟩
          rw [yvv (k2 j (by omega)).2, yvv (m2 j (by omega)).2, e2 j (by omega)]
/-- two codings differ: so do the texts -/
theorem Cod.dif {cd cd' : Int32} {n k : Nat} {f g : Nat → Int32} {V V' : Cell} (h : Cod cd n f V) (h' : Cod cd' k g V') (hne : ¬ cd = cd') : ¬ SameT n f k g := by
  rintro ⟨rfl, e⟩
  rcases h with ⟨rfl, -, k2⟩ | ⟨rfl, -, -, j, hj, hw⟩
  · rcases h' with ⟨rfl, -⟩ | ⟨-, -, -, j, hj, hw⟩
    · exact hne rfl
    · exact (k2 j hj).2 (by rw [e j hj]; exact hw)
  · rcases h' with ⟨-, -, m2⟩ | ⟨rfl, -⟩
    · exact (m2 j hj).2 (by rw [← e j hj]; exact hw)
    · exact hne rfl
/-- an object of exactly C is an instance of C -/
theorem cinst {p : Program} {l : Launch} {e : Env} {R : Room} {s : State} {m : MethodId} {args : Array Value} {below : List Frame} {meth : Method} {c : Code} {T : State} {locs : List Loc} {cells slots : Nat} (X : Stand p l e R s m args below meth c T locs cells slots) (hexec : p.tables.exec = Jvm.exec) {own C : String} {index : Nat} (hown : s.vm.findClass own = some m.cls) (hlink : (Cond.classLink own index C).before args s = true) {a : Addr} (hE : Exact C a T)
    {g : JFrame} (hg : g.method = m) {rest : List Value} (hstack : g.stack = .ref a :: rest) (hdg : decode c.code g.pc = .ok (.instanceof index, 3)) :
    ∃ T', Stand p l e R s m args below meth c T' locs cells slots ∧ T'.heap = T.heap ∧ ∀ target, Steps p.tables e below (T'.setTop { g with pc := g.pc + 3, stack := .int 1 :: rest }) target → Steps p.tables e below (T.setTop g) target := by
  obtain ⟨cB, h1, D, h2, h3, h4⟩ := hE
  have h1' : s.vm.findClass C = some cB := by rw [← X.warmed.alike.findClass]; exact h1
  obtain ⟨vm', X', st⟩ := X.instanceofYes hexec hown hlink h2 h4 h1' (by rw [h3]; exact Jvm.Free.SB.assignable_self _ _) hg hstack hdg
  exact ⟨_, X', rfl, st⟩
theorem cself {p : Program} {l : Launch} {e : Env} {R : Room} {s : State} {m : MethodId} {args : Array Value} {below : List Frame} {meth : Method} {c : Code} {T : State} {locs : List Loc} {cells slots : Nat} (X : Stand p l e R s m args below meth c T locs cells slots) (hexec : p.tables.exec = Jvm.exec) {own C : String} {index : Nat} (hown : s.vm.findClass own = some m.cls) (hlink : (Cond.classLink own index C).before args s = true) {a : Addr} (hE : Exact C a T)
    {g : JFrame} (hg : g.method = m) {rest : List Value} (hstack : g.stack = .ref a :: rest) (hdg : decode c.code g.pc = .ok (.checkcast index, 3)) :
    ∃ T', Stand p l e R s m args below meth c T' locs cells slots ∧ T'.heap = T.heap ∧ ∀ target, Steps p.tables e below (T'.setTop { g with pc := g.pc + 3, stack := .ref a :: rest }) target → Steps p.tables e below (T.setTop g) target := by
  obtain ⟨cB, h1, D, h2, h3, h4⟩ := hE
  have h1' : s.vm.findClass C = some cB := by rw [← X.warmed.alike.findClass]; exact h1
  obtain ⟨vm', X', st⟩ := X.checkcastYes hexec hown hlink h2 h4 h1' (by rw [h3]; exact Jvm.Free.SB.assignable_self _ _) hg hstack hdg
  exact ⟨_, X', rfl, fun t h => st t (by rw [← hstack] at h; exact h)⟩
namespace SEq
def yN : MethodName := ⟨"java/lang/String", "equals", "(Ljava/lang/Object;)Z"⟩
abbrev yB : ByteArray := jdk_42_method_66_code
theorem d0 : decode yB 0 = .ok (.aload_n 0, 1) := by decide +kernel
theorem d1 : decode yB 1 = .ok (.aload_n 1, 1) := by decide +kernel
theorem d2 : decode yB 2 = .ok (.if_acmp (.ne) 5, 3) := by decide +kernel
theorem d5 : decode yB 5 = .ok (.iconst 1, 1) := by decide +kernel
theorem d6 : decode yB 6 = .ok (.ireturn, 1) := by decide +kernel
theorem d7 : decode yB 7 = .ok (.aload_n 1, 1) := by decide +kernel
theorem d8 : decode yB 8 = .ok (.instanceof 10, 3) := by decide +kernel
theorem d11 : decode yB 11 = .ok (.ifCond (.eq) 43, 3) := by decide +kernel
theorem d14 : decode yB 14 = .ok (.aload_n 1, 1) := by decide +kernel
theorem d15 : decode yB 15 = .ok (.checkcast 10, 3) := by decide +kernel
theorem d18 : decode yB 18 = .ok (.astore_n 2, 1) := by decide +kernel
theorem d19 : decode yB 19 = .ok (.getstatic 38, 3) := by decide +kernel
theorem d22 : decode yB 22 = .ok (.ifCond (.eq) 14, 3) := by decide +kernel
theorem d25 : decode yB 25 = .ok (.aload_n 0, 1) := by decide +kernel
theorem d26 : decode yB 26 = .ok (.getfield 15, 3) := by decide +kernel
theorem d29 : decode yB 29 = .ok (.aload_n 2, 1) := by decide +kernel
theorem d30 : decode yB 30 = .ok (.getfield 15, 3) := by decide +kernel
theorem d33 : decode yB 33 = .ok (.if_icmp (.ne) 21, 3) := by decide +kernel
theorem d36 : decode yB 36 = .ok (.aload_n 0, 1) := by decide +kernel
theorem d37 : decode yB 37 = .ok (.getfield 9, 3) := by decide +kernel
theorem d40 : decode yB 40 = .ok (.aload_n 2, 1) := by decide +kernel
theorem d41 : decode yB 41 = .ok (.getfield 9, 3) := by decide +kernel
theorem d44 : decode yB 44 = .ok (.invokestatic 541, 3) := by decide +kernel
theorem d47 : decode yB 47 = .ok (.ifCond (.eq) 7, 3) := by decide +kernel
theorem d50 : decode yB 50 = .ok (.iconst 1, 1) := by decide +kernel
theorem d51 : decode yB 51 = .ok (.goto 4, 3) := by decide +kernel
theorem d54 : decode yB 54 = .ok (.iconst 0, 1) := by decide +kernel
theorem d55 : decode yB 55 = .ok (.ireturn, 1) := by decide +kernel
def site : List Cond := [.classLink "java/lang/String" 10 "java/lang/String", .fieldLink "java/lang/String" 38 "java/lang/String" "COMPACT_STRINGS" "Z", .fieldLink "java/lang/String" 15 "java/lang/String" "coder" "B", .fieldLink "java/lang/String" 9 "java/lang/String" "value" "[B", LEq.tab] ++ staticW "java/lang/String" 541 LEq.yN
def tab : Cond := tabOf yN yB 3 (some .boolean) site
def P (x t : Addr) (V : Cell) (cd : Int32) (n : Nat) (f : Nat → Int32) (y t' : Addr) (V' : Cell) (cd' : Int32) (k : Nat) (g : Nat → Int32) (z : Int32) (args : Array Value) (s : State) : Prop := args = #[.ref x, .ref y] ∧ Txt x t V cd n f s ∧ Txt y t' V' cd' k g s ∧ StaticIs s "java/lang/String" "COMPACT_STRINGS" "Z" (.int z) ∧ ¬ z = 0
/-- equals(Object) of two Strings: whether the texts are the same -/
theorem law (l : Launch) (x t : Addr) (V : Cell) (cd : Int32) (n : Nat) (f : Nat → Int32) (y t' : Addr) (V' : Cell) (cd' : Int32) (k : Nat) (g : Nat → Int32) (z : Int32) : Law l yN 2 1 1 14 yB 3 (some .boolean) site (P x t V cd n f y t' V' cd' k g z) (Says01 (SameT n f k g)) [] 0 0 := by
  refine Law.of_walk (plainFor_of_name (by decide +kernel)) (by decide +kernel) (by decide +kernel) (by decide) (fun _ _ h => by rw [h.1]; rfl) (fun _ U U' hal hh h => ⟨h.1, h.2.1.mv hal hh, h.2.2.1.mv hal hh, h.2.2.2.1.there hal hh, h.2.2.2.2⟩) (fun r U U' V V' h1 hal h2 h => Says01.mv r U U' V V' h1 hal h2 h) ?_
  intro p e s m args below meth c s₁ X0 hexec hbytes hml hret hlk hnm hown hh0 W hP
  obtain ⟨rfl, hx, hy, s1, hz⟩ := hP
  have c1 : Steps p.tables e below (s₁.setTop (entryFrame m #[.ref x, .ref y] 3)) (s₁.setTop (mkF m 2 #[.val (.ref x), .val (.ref y), .unset] [.ref y, .ref x])) := Steps.trans (entry rfl) (by
    show Steps p.tables e below (s₁.setTop (mkF m 0 #[.val (.ref x), .val (.ref y), .unset] [])) _
    refine XS.aloadN X0.here hexec rfl (hb hbytes d0) rfl rfl ?_
    refine XS.aloadN X0.here hexec rfl (hb hbytes d1) rfl rfl ?_
    exact Steps.refl _)
  by_cases hxy : x = y
  · have c2 : Steps p.tables e below (s₁.setTop (entryFrame m #[.ref x, .ref y] 3)) (s₁.setTop (mkF m 6 #[.val (.ref x), .val (.ref y), .unset] [.int 1])) := c1.trans (by
      refine acmpNo X0.here hexec rfl (hb hbytes d2) rfl rfl rfl (by simp [acmp, hxy]) ?_
      refine iconstV X0.here hexec rfl 1 (hb hbytes d5) (by decide) ?_
      exact Steps.refl _)
    subst hxy
    have ec : cd = cd' := by
      obtain ⟨D, fd, a1, a2, a3⟩ := hx.2.2.1
      obtain ⟨D', fd', b1, b2, b3⟩ := hy.2.2.1
      cases a1.symm.trans b1
      obtain ⟨q1, q2, q3, q4⟩ := a2.1
      obtain ⟨r1, r2, r3, r4⟩ := b2.1
      cases q4.symm.trans r4
      cases a3.symm.trans b3; rfl
    have et : t = t' := by
      obtain ⟨D, fd, a1, a2, a3⟩ := hx.2.1
      obtain ⟨D', fd', b1, b2, b3⟩ := hy.2.1
      cases a1.symm.trans b1
      obtain ⟨q1, q2, q3, q4⟩ := a2.1
      obtain ⟨r1, r2, r3, r4⟩ := b2.1
      cases q4.symm.trans r4
      cases a3.symm.trans b3; rfl
    subst ec et
    have ev : V = V' := by cases hx.2.2.2.1.1.symm.trans hy.2.2.2.1.1; rfl
    subst ev
    have hs : SameT n f k g := (Cod.eqv hx.2.2.2.2.1 hy.2.2.2.2.1 hx.2.2.2.2.2 hy.2.2.2.2.2).mp ⟨rfl, fun _ _ => rfl⟩
    exact ⟨s₁, some (.int 1), _, _, _, X0, rfl, rfl, rfl, (fun h => by cases h), ⟨1, rfl, hh0, Or.inl ⟨rfl, hs⟩⟩, fun fs hl => c2.trans (X0.ireturnOut hexec hret rfl (Or.inr (Or.inl rfl)) (hb hbytes d6) hl)⟩
  · have c2 : Steps p.tables e below (s₁.setTop (entryFrame m #[.ref x, .ref y] 3)) (s₁.setTop (mkF m 8 #[.val (.ref x), .val (.ref y), .unset] [.ref y])) := c1.trans (by
      refine acmpYes X0.here hexec rfl (pc0 := 2) rfl (hb hbytes d2) rfl rfl rfl (by simp [acmp, hxy]) (by decide) rfl ?_
      refine XS.aloadN X0.here hexec rfl (hb hbytes d7) rfl rfl ?_
      exact Steps.refl _)
    obtain ⟨T3, X3, q3, st3⟩ := cinst X0 hexec hown (wk W (.classLink "java/lang/String" 10 "java/lang/String")) (hy.mv X0.warmed.alike hh0).1 (g := (mkF m 8 #[.val (.ref x), .val (.ref y), .unset] [.ref y])) rfl (rest := []) rfl (hb hbytes d8)
    have hh3 := q3.trans hh0
    have c4 : Steps p.tables e below (s₁.setTop (entryFrame m #[.ref x, .ref y] 3)) (T3.setTop (mkF m 15 #[.val (.ref x), .val (.ref y), .unset] [.ref y])) := (c2.trans (st3 _ (Steps.refl _))).trans (by
      refine XS.ifNo X3.here hexec rfl (hb hbytes d11) rfl (i0_eq_f (by decide)) ?_
      refine XS.aloadN X3.here hexec rfl (hb hbytes d14) rfl rfl ?_
      exact Steps.refl _)
    obtain ⟨T5, X5, q5, st5⟩ := cself X3 hexec hown (wk W (.classLink "java/lang/String" 10 "java/lang/String")) (hy.mv X3.warmed.alike hh3).1 (g := (mkF m 15 #[.val (.ref x), .val (.ref y), .unset] [.ref y])) rfl (rest := []) rfl (hb hbytes d15)
    have hh5 := q5.trans hh3
    have c6 : Steps p.tables e below (s₁.setTop (entryFrame m #[.ref x, .ref y] 3)) (T5.setTop (mkF m 19 #[.val (.ref x), .val (.ref y), .val (.ref y)] [])) := (c4.trans (st5 _ (Steps.refl _))).trans (by
      refine XS.astoreN X5.here hexec rfl (hb hbytes d18) rfl rfl rfl ?_
      exact Steps.refl _)
    obtain ⟨T7, X7, q7, st7⟩ := X5.sget hexec hown (wk W (.fieldLink "java/lang/String" 38 "java/lang/String" "COMPACT_STRINGS" "Z")) s1 (fun _ _ h => by rw [hh5]; exact h) (g := (mkF m 19 #[.val (.ref x), .val (.ref y), .val (.ref y)] [])) rfl (hb hbytes d19)
    have hh7 := q7.trans hh5
    have c8 : Steps p.tables e below (s₁.setTop (entryFrame m #[.ref x, .ref y] 3)) (T7.setTop (mkF m 26 #[.val (.ref x), .val (.ref y), .val (.ref y)] [.ref x])) := (c6.trans (st7 _ (Steps.refl _))).trans (by
      refine XS.ifNo X7.here hexec rfl (hb hbytes d22) rfl (i0_eq_f hz) ?_
      refine XS.aloadN X7.here hexec rfl (hb hbytes d25) rfl rfl ?_
      exact Steps.refl _)
    obtain ⟨T9, X9, q9, st9⟩ := X7.hget hexec hown (wk W (.fieldLink "java/lang/String" 15 "java/lang/String" "coder" "B")) (hx.mv X7.warmed.alike hh7).2.2.1 (g := (mkF m 26 #[.val (.ref x), .val (.ref y), .val (.ref y)] [.ref x])) rfl (rest := []) rfl (hb hbytes d26)
    have hh9 := q9.trans hh7
    have c10 : Steps p.tables e below (s₁.setTop (entryFrame m #[.ref x, .ref y] 3)) (T9.setTop (mkF m 30 #[.val (.ref x), .val (.ref y), .val (.ref y)] [.ref y, .int cd])) := (c8.trans (st9 _ (Steps.refl _))).trans (by
      refine XS.aloadN X9.here hexec rfl (hb hbytes d29) rfl rfl ?_
      exact Steps.refl _)
    obtain ⟨T11, X11, q11, st11⟩ := X9.hget hexec hown (wk W (.fieldLink "java/lang/String" 15 "java/lang/String" "coder" "B")) (hy.mv X9.warmed.alike hh9).2.2.1 (g := (mkF m 30 #[.val (.ref x), .val (.ref y), .val (.ref y)] [.ref y, .int cd])) rfl (rest := [.int cd]) rfl (hb hbytes d30)
    have hh11 := q11.trans hh9
    have c12 : Steps p.tables e below (s₁.setTop (entryFrame m #[.ref x, .ref y] 3)) (T11.setTop (mkF m 33 #[.val (.ref x), .val (.ref y), .val (.ref y)] [.int cd', .int cd])) := c10.trans (st11 _ (Steps.refl _))
    by_cases hcd : cd = cd'
    · subst hcd
      have c13 : Steps p.tables e below (s₁.setTop (entryFrame m #[.ref x, .ref y] 3)) (T11.setTop (mkF m 37 #[.val (.ref x), .val (.ref y), .val (.ref y)] [.ref x])) := c12.trans (by
        refine XS.icmpNo X11.here hexec rfl (hb hbytes d33) rfl (ii_ne_f rfl) ?_
        refine XS.aloadN X11.here hexec rfl (hb hbytes d36) rfl rfl ?_
        exact Steps.refl _)
      obtain ⟨T14, X14, q14, st14⟩ := X11.hget hexec hown (wk W (.fieldLink "java/lang/String" 9 "java/lang/String" "value" "[B")) (hx.mv X11.warmed.alike hh11).2.1 (g := (mkF m 37 #[.val (.ref x), .val (.ref y), .val (.ref y)] [.ref x])) rfl (rest := []) rfl (hb hbytes d37)
      have hh14 := q14.trans hh11
      have c15 : Steps p.tables e below (s₁.setTop (entryFrame m #[.ref x, .ref y] 3)) (T14.setTop (mkF m 41 #[.val (.ref x), .val (.ref y), .val (.ref y)] [.ref y, .ref t])) := (c13.trans (st14 _ (Steps.refl _))).trans (by
        refine XS.aloadN X14.here hexec rfl (hb hbytes d40) rfl rfl ?_
        exact Steps.refl _)
      obtain ⟨T16, X16, q16, st16⟩ := X14.hget hexec hown (wk W (.fieldLink "java/lang/String" 9 "java/lang/String" "value" "[B")) (hy.mv X14.warmed.alike hh14).2.1 (g := (mkF m 41 #[.val (.ref x), .val (.ref y), .val (.ref y)] [.ref y, .ref t])) rfl (rest := [.ref t]) rfl (hb hbytes d41)
      have hh16 := q16.trans hh14
      have c17 : Steps p.tables e below (s₁.setTop (entryFrame m #[.ref x, .ref y] 3)) (T16.setTop (mkF m 44 #[.val (.ref x), .val (.ref y), .val (.ref y)] [.ref t', .ref t])) := c15.trans (st16 _ (Steps.refl _))
      obtain ⟨v18, T18, X18, E18, g18⟩ := X16.callS hexec (LEq.law l t V t' V') hown (wks W (staticW "java/lang/String" 541 LEq.yN)) (wk W LEq.tab) (W := 0) (Nat.le_of_ble_eq_true rfl) (Nat.le_of_ble_eq_true rfl) (Nat.le_refl _) (Nat.le_refl _) (g := (mkF m 44 #[.val (.ref x), .val (.ref y), .val (.ref y)] [.ref t', .ref t])) rfl (by rw [hml]; rfl) c17 (argsL := [.ref t, .ref t']) (rest := []) rfl rfl (by show 2 * 0 + 0 ≤ _; decide) (hb hbytes d44) (⟨rfl, hx.2.2.2.1.mv X16.warmed.alike hh16, hx.2.2.2.2.1.ty, hy.2.2.2.1.mv X16.warmed.alike hh16, hy.2.2.2.2.1.ty⟩)
      obtain ⟨v, rfl, q18, hv⟩ := E18
      have iff := Cod.eqv hx.2.2.2.2.1 hy.2.2.2.2.1 hx.2.2.2.2.2 hy.2.2.2.2.2
      rcases hv with ⟨rfl, he⟩ | ⟨rfl, he⟩
      · have c19 : Steps p.tables e below (s₁.setTop (entryFrame m #[.ref x, .ref y] 3)) (T18.setTop (mkF m 55 #[.val (.ref x), .val (.ref y), .val (.ref y)] [.int 1])) := Steps.trans g18 (by
          refine XS.ifNo X18.here hexec rfl (hb hbytes d47) rfl (i0_eq_f (by decide)) ?_
          refine iconstV X18.here hexec rfl 1 (hb hbytes d50) (by decide) ?_
          refine XS.goto X18.here hexec rfl (pc0 := 51) rfl (hb hbytes d51) (by decide) rfl ?_
          exact Steps.refl _)
        exact ⟨T18, some (.int 1), _, _, _, X18, rfl, rfl, rfl, (fun h => by cases h), ⟨1, rfl, q18.trans hh16, Or.inl ⟨rfl, iff.mp he⟩⟩, fun fs hl => c19.trans (X18.ireturnOut hexec hret rfl (Or.inr (Or.inl rfl)) (hb hbytes d55) hl)⟩
      · have c19 : Steps p.tables e below (s₁.setTop (entryFrame m #[.ref x, .ref y] 3)) (T18.setTop (mkF m 55 #[.val (.ref x), .val (.ref y), .val (.ref y)] [.int 0])) := Steps.trans g18 (by
          refine XS.ifYes X18.here hexec rfl (pc0 := 47) rfl (hb hbytes d47) rfl (i0_eq_t rfl) (by decide) rfl ?_
          refine iconstV X18.here hexec rfl 0 (hb hbytes d54) (by decide) ?_
          exact Steps.refl _)
        exact ⟨T18, some (.int 0), _, _, _, X18, rfl, rfl, rfl, (fun h => by cases h), ⟨0, rfl, q18.trans hh16, Or.inr ⟨rfl, fun q => he (iff.mpr q)⟩⟩, fun fs hl => c19.trans (X18.ireturnOut hexec hret rfl (Or.inr (Or.inl rfl)) (hb hbytes d55) hl)⟩
    · have c13 : Steps p.tables e below (s₁.setTop (entryFrame m #[.ref x, .ref y] 3)) (T11.setTop (mkF m 55 #[.val (.ref x), .val (.ref y), .val (.ref y)] [.int 0])) := c12.trans (by
        refine XS.icmpYes X11.here hexec rfl (pc0 := 33) rfl (hb hbytes d33) rfl (ii_ne_t hcd) (by decide) rfl ?_
        refine iconstV X11.here hexec rfl 0 (hb hbytes d54) (by decide) ?_
        exact Steps.refl _)
      exact ⟨T11, some (.int 0), _, _, _, X11, rfl, rfl, rfl, (fun h => by cases h), ⟨0, rfl, hh11, Or.inr ⟨rfl, Cod.dif hx.2.2.2.2.1 hy.2.2.2.2.1 hcd⟩⟩, fun fs hl => c13.trans (X11.ireturnOut hexec hret rfl (Or.inr (Or.inl rfl)) (hb hbytes d55) hl)⟩
theorem pays {l : Launch} {R : Room} {p : Program} {e : Env} {below : List Frame} {s : State} {sargs : Array Value} {len W : Nat} (x t : Addr) (V : Cell) (cd : Int32) (n : Nat) (f : Nat → Int32) (y t' : Addr) (V' : Cell) (cd' : Int32) (k : Nat) (g : Nat → Int32) (z : Int32) (htab : tab.before sargs s = true) (hfr : 2 ≤ R.frames) (hlo : W + 28 ≤ R.locals) :
    Back l R p e below s sargs yN len W (fun A₁ a₁ => A₁.cells + 0 ≤ R.cells ∧ A₁.slots + 0 ≤ R.slots ∧ P x t V cd n f y t' V' cd' k g z a₁ A₁.U) (fun A₁ _ v₁ B₁ => Says01 (SameT n f k g) v₁ A₁.U B₁.U ∧ B₁.locs = A₁.locs ++ [] ∧ B₁.cells = A₁.cells + 0 ∧ B₁.slots = A₁.slots + 0) :=
  (law l x t V cd n f y t' V' cd' k g z).pays htab hfr (by omega)
end SEq
end StrChars
namespace StrChars.Road
open Jvm Sem ClassFile Op Lib Jvm.Stand Jvm.Free Jvm.Free.XT
open Jvm.Lib.Cold (StaticIs)
/-- the words of String.equals(Object) -/
abbrev wordsEq : List Jvm.Cond := [.code SEq.yN SEq.yB 3 (some .boolean), .initialized ST, .classLink ST 10 ST, .fieldLink ST 38 ST "COMPACT_STRINGS" "Z", .fieldLink ST 15 ST "coder" "B", .fieldLink ST 9 ST "value" "[B", .methodLink ST 541 LEq.yN, .static LEq.yN, .code LEq.yN LEq.yB 3 (some .boolean), .initialized "java/lang/StringLatin1"]
theorem tabEq_of {a : Array Value} {s : State} (h : ∀ w ∈ wordsEq, w.before a s = true) : SEq.tab.before a s = true := by
  have hl : LEq.tab.before a s = true := unparts (wk h (.code LEq.yN LEq.yB 3 (some .boolean))) (wks h (.initialized LEq.yN.cls :: LEq.site))
  have q := consq hl h
  exact unparts (wk q (.code SEq.yN SEq.yB 3 (some .boolean))) (wks q (.initialized SEq.yN.cls :: SEq.site))
theorem movedEq {Z s : State} {a0 args : Array Value} (hZ : Z.Warmed39 s.vm) (hw : ∀ d ∈ wordsEq, d.before a0 Z = true) : ∀ d ∈ wordsEq, d.before args s = true := fun d hd => by
  have t : ∀ d ∈ wordsEq, (d.onTables && d.keepsFace) = true := by decide +kernel
  exact RoadKit.mv hZ (hw d hd) (t d hd)
/-- the road's facts of a String, as the laws ask it -/
theorem txt_of {Z U : State} {a0 : Array Value} {kI : Nat} (wi : (Jvm.Cond.instantiable ST kI).before a0 Z = true) (al : Z.vm.Alike U.vm) {x t : Addr} {kb : ClassId} {cs : List Int32} {cd N2 : Int32} {vs : List Value} (E : RoadKit.Exa Z U.heap x ST) (V : RoadKit.Fld Z U.heap x ST "value" "[B" (.ref t)) (C : RoadKit.Fld Z U.heap x ST "coder" "B" (.int cd)) (K : RoadKit.Arv Z U.heap t kb .byte N2 vs (.int 0)) (hc : CodA cs cd N2 vs) (hb : ∀ c ∈ cs, ¬ c < 0 ∧ ¬ (65535 : Int32) < c) (l2 : cs.length ≤ 4000) :
    ∃ A, Txt x t A cd cs.length (fun j => cs.getD j 0) U := by
  obtain ⟨A, K1, K2, K3, K4, K5, K6⟩ := K
  have hcod := hc.cod (by omega) K3 K5
  obtain ⟨D, fV, fC, hB, F1, F2, g1, g2, -, -⟩ := strObj wi al E V C
  exact ⟨A, ⟨_, hB.2.2.1, D, hB.1, rfl, by cases q : D.vm <;> first | rfl | exact absurd q (hB.2.1.2 _)⟩, Has.of hB F1 g1, Has.of hB F2 g2, ⟨K1.1, State.isArrayOf_alike al K1.2.1, K1.2.2, by rcases hcod with ⟨-, q, -⟩ | ⟨-, q, -⟩ <;> omega⟩, hcod, fun j hj => by
    have e : cs.getD j 0 = cs[j] := by simp [List.getD_eq_getElem?_getD, hj]
    show ¬ cs.getD j 0 < 0 ∧ ¬ 65535 < cs.getD j 0
    rw [e]; exact hb _ (List.getElem_mem _)⟩
theorem same_list (cs ds : List Int32) : SameT cs.length (fun j => cs.getD j 0) ds.length (fun j => ds.getD j 0) ↔ cs = ds := by
  constructor
  · rintro ⟨e, q⟩
    refine List.ext_getElem e fun j h1 h2 => ?_
    have := q j h1
    simpa [List.getD_eq_getElem?_getD, h1, h2] using this
  · rintro rfl
    exact ⟨rfl, fun _ _ => rfl⟩
/-- **equals(Object) OF TWO SUCH STRINGS**: 1 just where the chars are the same -/
theorem eqW {p : Program} {l : Launch} {e : Env} {R : Room} {s : State} {args : Array Value} {below : List Frame} {len W : Nat} {Z : State} {a0 : Array Value} {h : Heap} (hZ : Z.Warmed39 s.vm) (hw : ∀ d ∈ wordsEq, d.before a0 Z = true) {kI : Nat} (wi : (Jvm.Cond.instantiable ST kI).before a0 Z = true)
    {x t : Addr} {kb : ClassId} {cs : List Int32} {cd N2 : Int32} {vs : List Value} (E : RoadKit.Exa Z h x ST) (V : RoadKit.Fld Z h x ST "value" "[B" (.ref t)) (C : RoadKit.Fld Z h x ST "coder" "B" (.int cd)) (K : RoadKit.Arv Z h t kb .byte N2 vs (.int 0)) (hc : CodA cs cd N2 vs) (hb : ∀ c ∈ cs, ¬ c < 0 ∧ ¬ (65535 : Int32) < c) (l2 : cs.length ≤ 4000)
    {y t' : Addr} {kb' : ClassId} {ds : List Int32} {cd' N2' : Int32} {vs' : List Value} (E' : RoadKit.Exa Z h y ST) (V' : RoadKit.Fld Z h y ST "value" "[B" (.ref t')) (C' : RoadKit.Fld Z h y ST "coder" "B" (.int cd')) (K' : RoadKit.Arv Z h t' kb' .byte N2' vs' (.int 0)) (hc' : CodA ds cd' N2' vs') (hb' : ∀ c ∈ ds, ¬ c < 0 ∧ ¬ (65535 : Int32) < c) (l2' : ds.length ≤ 4000)
    {z : Int32} (S : RoadKit.Sta Z h ST "COMPACT_STRINGS" "Z" (.int z)) (hz : ¬ z = 0) (hfr : 2 ≤ R.frames) (hlo : W + 28 ≤ R.locals) :
    Back l R p e below s args (⟨"java/lang/String", "equals", "(Ljava/lang/Object;)Z"⟩ : MethodName) len W (fun P a => a = #[.ref x, .ref y] ∧ P.U.heap = h ∧ P.cells + 0 ≤ R.cells ∧ P.slots + 0 ≤ R.slots)
      (fun P _ v B => ∃ L, (((v = some (.int 1) ∧ cs = ds) ∨ (v = some (.int 0) ∧ ¬ cs = ds)) ∧ L = [] ∧ B.U.heap = h) ∧ B.locs = P.locs ++ L ∧ B.cells = P.cells + 0 ∧ B.slots = P.slots + 0) := by
  intro m meth c P g ig mk a X hg hsize hdg hW hn hp'
  obtain ⟨rfl, rfl, r1, r2⟩ := hp'
  have al : Z.vm.Alike P.U.vm := hZ.alike.trans X.warmed.alike
  obtain ⟨A, hx⟩ := txt_of wi al E V C K hc hb l2
  obtain ⟨A', hy⟩ := txt_of wi al E' V' C' K' hc' hb' l2'
  obtain ⟨v, B, X', ⟨⟨w, hv, hh, hq⟩, hl, hk, hs⟩, st⟩ := SEq.pays x t A cd cs.length (fun j => cs.getD j 0) y t' A' cd' ds.length (fun j => ds.getD j 0) z (tabEq_of (movedEq hZ hw)) hfr hlo m meth c P g ig mk _ X hg hsize hdg hW hn ⟨r1, r2, rfl, hx, hy, sta_is al S, hz⟩
  refine ⟨v, B, X', ⟨[], ⟨?_, rfl, hh⟩, hl, hk, hs⟩, st⟩
  rcases hq with ⟨rfl, q⟩ | ⟨rfl, q⟩
  · exact Or.inl ⟨hv, (same_list cs ds).mp q⟩
  · exact Or.inr ⟨hv, fun e => q ((same_list cs ds).mpr e)⟩
end StrChars.Road
namespace StrChars.Road
open Jvm Sem ClassFile Op Lib Jvm.Stand Jvm.Free Jvm.Free.XT
open Jvm.Lib.Cold (StaticIs)
/-- what backV says of its String, as the contracts of this text ask it: cs's low bytes, coder 0 -/
theorem codOf {cs : List Int32} {n : Nat} (hn : cs.length = n) (hb : ∀ c ∈ cs, ¬ 255 < c) : CodA cs 0 (Int32.ofNat n) ((cs.map lo8).map Value.int) := Or.inl ⟨rfl, by rw [hn], by simp [List.map_map, Function.comp_def], hb⟩
end StrChars.Road
end Jvm.Pilot.@@N@@
namespace Jvm.Pilot.@@N@@
open Jvm Jvm.ClassFile Sem Op Lib Jvm.Free Jvm.Stand Jvm.LawKit Jvm.RoadKit Bundle Jvm.Pilot.@@N@@.Jvm.D
def EL0 : List (String × Nat) := [("com/example/qrew/qrew/dlgp/Token", 7), ("com/example/qrew/qrew/dlgp/Token", 22), ("java/lang/String", 7)]
section Own
variable {p : Program} {l : Launch} {e : Env} {R rm : Room} {s : State} {m : MethodId} {args : Array Value} {below : List Frame} {meth : Method} {c : Code} {own nm : String} {bytes : ByteArray} {ml : Nat} {rt : Option FieldType} {Z : State} {a0 : Array Value} {EL : List (String × Nat)} {h0 : Heap} {ws : List Addr} {T : State} {h h' : Heap} {cells slots : Nat} {Q : Outcome → State → Prop} {Qv : Option Value → Heap → Prop} {pc : Nat} {Ls : Array Slot} {rest : List Value}
/-- the run from U comes to an end that says Q -/
def Go (p : Program) (e : Env) (below : List Frame) (Q : Outcome → State → Prop) (U : State) : Prop := ∃ s₂ o, Steps p.tables e below U s₂ ∧ s₂.status = .running ∧ Ended s₂ below o ∧ Q o s₂
theorem Go.of {U V : State} (g : Go p e below Q V) (k : ∀ t, Steps p.tables e below V t → Steps p.tables e below U t) : Go p e below Q U := by
  obtain ⟨s2, o, a, b⟩ := g; exact ⟨s2, o, k _ a, b⟩
/-- where the walk stands: all that does not depend on the road behind; vm0: the tables over which its Stand is -/
abbrev PosV (p : Program) (l : Launch) (e : Env) (R : Room) (s : State) (m : MethodId) (args : Array Value) (below : List Frame) (meth : Method) (c : Code) (own nm : String) (bytes : ByteArray) (ml : Nat) (rt : Option FieldType) (Z : State) (a0 : Array Value) (EL : List (String × Nat)) (h0 : Heap) (ws : List Addr) (T : State) (h : Heap) (cells slots : Nat) (vm0 : Vm) : Prop :=
  ∃ (k0 : Nat) (locs : List Loc), Stand p l e R (s.setVm vm0) m args below meth c T locs cells slots ∧
    (p.tables.exec = Jvm.exec ∧ c.code = bytes ∧ c.maxLocals = ml ∧ meth.sig.returnType = rt ∧ meth.locks = false ∧ meth.name = nm ∧ s.heap = h0 ∧ EW Z a0 EL ∧ Z.Warmed39 s.vm) ∧
    Z.Warmed39 vm0 ∧ vm0.findClass own = some m.cls ∧ s.Since vm0 k0 ∧ k0 ≤ h.size ∧ T.heap = h ∧ CHr Z EL s.vm h0 vm0 h ∧ Fr Z.heap.size locs ∧ Keep h0 h ws ∧ Ext Z.heap h
def Pos (p : Program) (l : Launch) (e : Env) (R : Room) (s : State) (m : MethodId) (args : Array Value) (below : List Frame) (meth : Method) (c : Code) (own nm : String) (bytes : ByteArray) (ml : Nat) (rt : Option FieldType) (Z : State) (a0 : Array Value) (EL : List (String × Nat)) (h0 : Heap) (ws : List Addr) (T : State) (h : Heap) (cells slots : Nat) : Prop :=
  ∃ vm0 : Vm, PosV p l e R s m args below meth c own nm bytes ml rt Z a0 EL h0 ws T h cells slots vm0
/-- how a contract ends -/
def Fini (Z : State) (EL : List (String × Nat)) (h0 : Heap) (ws : List Addr) (rm : Room) (Qv : Option Value → Heap → Prop) (s : State) (o : Outcome) (t : State) : Prop :=
  ∃ v L, o = .returned v ∧ (Fr Z.heap.size L ∧ Keep h0 t.heap ws ∧ Ext Z.heap t.heap ∧ Qv v t.heap) ∧ CHr Z EL s.vm s.heap t.vm t.heap ∧ ReturnedEndW s o t L rm.cells rm.slots
/-- a method's contract: what it leaves where it is called with these arguments over the heap h0 -/
def Con (l : Launch) (Z : State) (EL : List (String × Nat)) (wl : List Jvm.Cond) (y : MethodName) (bytes : ByteArray) (ml : Nat) (rt : Option FieldType) (rm : Room) (as : Array Value) (h0 : Heap) (ws : List Addr) (Qv : Option Value → Heap → Prop) : Prop :=
  MetFree l y (head1 (Jvm.Cond.code y bytes ml rt :: wl) rm) (fun a U => a = as ∧ Z.Warmed39 U.vm ∧ U.heap = h0 ∧ CHv Z EL U.vm h0) (fun _ _ _ _ _ => True) (fun _ U o U' => ∃ v L, o = .returned v ∧ (Fr Z.heap.size L ∧ Keep h0 U'.heap ws ∧ Ext Z.heap U'.heap ∧ Qv v U'.heap) ∧ CHr Z EL U.vm U.heap U'.vm U'.heap ∧ ReturnedEndW U o U' L rm.cells rm.slots)
theorem Con.of {wl : List Jvm.Cond} {y : MethodName} {as : Array Value} {f0 : MethodId → JFrame} (hpn : plainFor y = true) (hEL : EW Z a0 EL) (hO : Ext Z.heap h0) (hf0 : ∀ m, entryFrame m as ml = f0 m)
    (body : ∀ p e s m below meth c s₁, Pos p l e rm s m as below meth c y.cls y.name bytes ml rt Z a0 EL h0 ws s₁ h0 0 0 → Go p e below (Fini Z EL h0 ws rm Qv s) (s₁.setTop (f0 m))) : Con l Z EL wl y bytes ml rt rm as h0 ws Qv := by
  refine MetFree.of_bodySF (code := bytes) (maxLocals := ml) (ret := rt) hpn hisR ?_
  intro p e s m args below meth c s₁ Bd hml0 hP hK
  obtain ⟨rfl, hZ, hh, hC⟩ := hP
  have hown : s.vm.findClass y.cls = some m.cls := findClass_of_methodNamed Bd.named
  have hnm := (name_of_methodNamed Bd.named Bd.method).1
  have X0 : Stand p l e rm s m args below meth c s₁ [] 0 0 := Stand.of_body Bd
  have e0 : s₁.heap = h0 := by rw [← hh, Bd.state]; rfl
  have hP : Pos p l e rm s m args below meth c y.cls y.name bytes ml rt Z a0 EL h0 ws s₁ h0 0 0 :=
    ⟨s.vm, h0.size, [], X0, ⟨Bd.exec, Bd.bytes, hml0, Bd.returns, Bd.notSynchronized, hnm, hh, hEL, hZ⟩, hZ, hown, State.WarmedH.since (State.WarmedH.refl s) _, Nat.le_refl _, e0, CHr.refl hC, Fr.nil _, Keep.refl _ _, hO⟩
  obtain ⟨s2, o, a, b, c', d⟩ := body p e s m below meth c s₁ hP
  rw [hf0]
  exact ⟨s2, o, a, b, c', d⟩
theorem Pos.xs {U V : State} (P : Pos p l e R s m args below meth c own nm bytes ml rt Z a0 EL h0 ws T h cells slots)
    (f : At T m c below → p.tables.exec = Jvm.exec → c.code = bytes → ∀ t, Steps p.tables e below V t → Steps p.tables e below U t) (g : Go p e below Q V) : Go p e below Q U := by
  obtain ⟨vm0, k0, locs, X, ⟨hx, hby, -⟩, -⟩ := P
  exact g.of (f X.here hx hby)
theorem Pos.st {U V : State} (P : Pos p l e R s m args below meth c own nm bytes ml rt Z a0 EL h0 ws T h cells slots)
    (f : ∀ (vm0 : Vm) (locs : List Loc), Stand p l e R (s.setVm vm0) m args below meth c T locs cells slots → p.tables.exec = Jvm.exec → c.code = bytes → ∀ t, Steps p.tables e below V t → Steps p.tables e below U t) (g : Go p e below Q V) : Go p e below Q U := by
  obtain ⟨vm0, k0, locs, X, ⟨hx, hby, -⟩, -⟩ := P
  exact g.of (f vm0 locs X hx hby)
theorem Pos.old (P : Pos p l e R s m args below meth c own nm bytes ml rt Z a0 EL h0 ws T h cells slots) : Ext Z.heap h := by
  obtain ⟨vm0, k0, locs, X, -, -, -, -, -, -, -, -, -, O⟩ := P; exact O
theorem Pos.kept (P : Pos p l e R s m args below meth c own nm bytes ml rt Z a0 EL h0 ws T h cells slots) : Keep h0 h ws := by
  obtain ⟨vm0, k0, locs, X, -, -, -, -, -, -, -, -, K, -⟩ := P; exact K
theorem Pos.wider (P : Pos p l e R s m args below meth c own nm bytes ml rt Z a0 EL h0 ws T h cells slots) {cells' slots' : Nat} (hc : cells ≤ cells') (hs : slots ≤ slots') : Pos p l e R s m args below meth c own nm bytes ml rt Z a0 EL h0 ws T h cells' slots' := by
  obtain ⟨vm0, k0, locs, X, r⟩ := P
  exact ⟨vm0, k0, locs, { X with same := X.same.mono hc hs }, r⟩
/-- nothing old was written at the end: every way to leave -/
theorem Pos.ret {w : Option Value} {i : Instr} (P : Pos p l e R s m args below meth c own nm bytes ml rt Z a0 EL h0 ws T h cells slots) {stk : List Value}
    (hv : rt = none → w = none)
    (hst : ∀ (vm0 : Vm) (locs : List Loc) (fs : List Frame), Stand p l e R (s.setVm vm0) m args below meth c T locs cells slots → p.tables.exec = Jvm.exec → c.code = bytes → meth.sig.returnType = rt → (∀ (f : JFrame) (acts : List Action), f.method = m → f.locked = none → f.entered = [] → (doReturn e (T.setTop f) acts w).1 = T.setFrames fs) → Steps p.tables e below (T.setTop (mkF m pc Ls stk)) (T.setFrames fs))
    (hc : cells ≤ rm.cells) (hs : slots ≤ rm.slots) (q : Qv w h) : Go p e below (Fini Z EL h0 ws rm Qv s) (T.setTop (mkF m pc Ls stk)) := by
  obtain ⟨vm0, k0, locs, X, ⟨hx, hby, hml, hret, hlk, hnm, hh, hEL, hZs⟩, hZ, hown, hS, hk, eT, hC, N, K, O⟩ := P
  obtain ⟨fs, hr, hrun, hended, r1, r2, r3, r4⟩ := X.leaveW hS (by rw [eT]; exact hk) (v := w) (fun q => hv (hret.symm.trans q)) hlk
  refine ⟨_, _, hst vm0 locs fs X hx hby hret hr, hrun, hended, w, locs, rfl, ⟨N, ?_, ?_, ?_⟩, ?_, r1, r2, r3, r4.mono hc hs⟩
  · show Keep h0 T.heap ws; rw [eT]; exact K
  · show Ext Z.heap T.heap; rw [eT]; exact O
  · show Qv w T.heap; rw [eT]; exact q
  · show CHr Z EL s.vm s.heap T.vm T.heap
    rw [eT, hh]; exact hC.trans (CHv.at X hZ hEL hC.1)
theorem Pos.retR {w : Value} {t : FieldType} (P : Pos p l e R s m args below meth c own nm bytes ml rt Z a0 EL h0 ws T h cells slots) (hret : rt = some t) (ht : t.isReference = true) (hw : w.isRef = true) (hd : decode bytes pc = .ok (.areturn, 1)) (hc : cells ≤ rm.cells) (hs : slots ≤ rm.slots) (q : Qv (some w) h) :
    Go p e below (Fini Z EL h0 ws rm Qv s) (T.setTop (mkF m pc Ls (w :: rest))) :=
  P.ret (i := .areturn) (fun q => by rw [hret] at q; cases q) (fun vm0 locs fs X hx hby hr hl => retOut X hx (i := .areturn) (hr.trans hret) (by cases w <;> first | (cases t <;> rfl) | (simp [Value.isRef] at hw)) (Or.inr (Or.inr (Or.inr (Or.inr ⟨rfl, ht, hw⟩)))) (hb hby hd) hl) hc hs q
theorem Pos.retN {z : Int32} {t : FieldType} (P : Pos p l e R s m args below meth c own nm bytes ml rt Z a0 EL h0 ws T h cells slots) (hret : rt = some t) (ht : t = .boolean ∨ t = .byte ∨ t = .char ∨ t = .short) (hd : decode bytes pc = .ok (.ireturn, 1)) (hc : cells ≤ rm.cells) (hs : slots ≤ rm.slots) (q : Qv (some (.int (nar t z))) h) :
    Go p e below (Fini Z EL h0 ws rm Qv s) (T.setTop (mkF m pc Ls (.int z :: rest))) :=
  P.ret (i := .ireturn) (fun q => by rw [hret] at q; cases q) (fun vm0 locs fs X hx hby hr hl => Jvm.RoadKit.retN X hx (hr.trans hret) ht (hb hby hd) hl) hc hs q
theorem Pos.retI {z : Int32} (P : Pos p l e R s m args below meth c own nm bytes ml rt Z a0 EL h0 ws T h cells slots) (hret : rt = some .int) (hd : decode bytes pc = .ok (.ireturn, 1)) (hc : cells ≤ rm.cells) (hs : slots ≤ rm.slots) (q : Qv (some (.int z)) h) :
    Go p e below (Fini Z EL h0 ws rm Qv s) (T.setTop (mkF m pc Ls (.int z :: rest))) :=
  P.ret (i := .ireturn) (fun q => by rw [hret] at q; cases q) (fun vm0 locs fs X hx hby hr hl => retOut X hx (i := .ireturn) (hr.trans hret) rfl (Or.inl ⟨rfl, Or.inl rfl, z, rfl⟩) (hb hby hd) hl) hc hs q
theorem Pos.retV (P : Pos p l e R s m args below meth c own nm bytes ml rt Z a0 EL h0 ws T h cells slots) (hret : rt = none) (hd : decode bytes pc = .ok (.return_, 1)) (hc : cells ≤ rm.cells) (hs : slots ≤ rm.slots) (q : Qv none h) :
    Go p e below (Fini Z EL h0 ws rm Qv s) (T.setTop (mkF m pc Ls [])) :=
  P.ret (i := .return_) (fun _ => rfl) (fun vm0 locs fs X hx hby hr hl => X.returnOut hx (hr.trans hret) (hb hby hd) hl) hc hs q
/-- a step that leaves the heap, given in the library's shape -/
theorem Pos.same {U : State} (P : Pos p l e R s m args below meth c own nm bytes ml rt Z a0 EL h0 ws T h cells slots) {V : State → State}
    (f : ∀ (vm0 : Vm) (locs : List Loc), Stand p l e R (s.setVm vm0) m args below meth c T locs cells slots → p.tables.exec = Jvm.exec → c.code = bytes → c.maxLocals = ml → Z.Warmed39 vm0 → vm0.findClass own = some m.cls → T.heap = h →
      ∃ T', Stand p l e R (s.setVm vm0) m args below meth c T' locs cells slots ∧ T'.heap = h ∧ ∀ t, Steps p.tables e below (V T') t → Steps p.tables e below U t)
    (k : ∀ T', Pos p l e R s m args below meth c own nm bytes ml rt Z a0 EL h0 ws T' h cells slots → Go p e below Q (V T')) : Go p e below Q U := by
  obtain ⟨vm0, k0, locs, X, ⟨hx, hby, hml, hret, hlk, hnm, hh, hEL, hZs⟩, hZ, hown, hS, hk, eT, r⟩ := P
  obtain ⟨T', X', e', st⟩ := f vm0 locs X hx hby hml hZ hown eT
  exact (k T' ⟨vm0, k0, locs, X', ⟨hx, hby, hml, hret, hlk, hnm, hh, hEL, hZs⟩, hZ, hown, hS, hk, e', r⟩).of st
theorem Pos.getF (P : Pos p l e R s m args below meth c own nm bytes ml rt Z a0 EL h0 ws T h cells slots) {R0 O n d host : String} {index : Nat} (w : (Jvm.Cond.fieldLink own index R0 n d).before a0 Z = true ∨ (Jvm.Cond.fieldLinkNest own index R0 n d host).before a0 Z = true) (via : Via Z R0 O n d) {a : Addr} {v : Value} (F : Fld Z h a O n d v) (hd : decode bytes pc = .ok (.getfield index, 3))
    (k : ∀ T', Pos p l e R s m args below meth c own nm bytes ml rt Z a0 EL h0 ws T' h cells slots → Go p e below Q (T'.setTop (mkF m (pc + 3) Ls (v :: rest)))) : Go p e below Q (T.setTop (mkF m pc Ls (.ref a :: rest))) :=
  P.same (V := fun T' => T'.setTop (mkF m (pc + 3) Ls (v :: rest))) (fun vm0 locs X hx hby hml hZ hown eT => Jvm.RoadKit.getF X hx hZ hown w via eT F (g := mkF m pc Ls (.ref a :: rest)) rfl rfl (hb hby hd)) k
theorem Pos.getS (P : Pos p l e R s m args below meth c own nm bytes ml rt Z a0 EL h0 ws T h cells slots) {R0 O n d host : String} {index : Nat} (w : (Jvm.Cond.fieldLink own index R0 n d).before a0 Z = true ∨ (Jvm.Cond.fieldLinkNest own index R0 n d host).before a0 Z = true) (via : Via Z R0 O n d) {v : Value} (F : Sta Z Z.heap O n d v) (hd : decode bytes pc = .ok (.getstatic index, 3))
    (k : ∀ T', Pos p l e R s m args below meth c own nm bytes ml rt Z a0 EL h0 ws T' h cells slots → Go p e below Q (T'.setTop (mkF m (pc + 3) Ls (v :: rest)))) : Go p e below Q (T.setTop (mkF m pc Ls rest)) :=
  have O := P.old
  P.same (V := fun T' => T'.setTop (mkF m (pc + 3) Ls (v :: rest))) (fun vm0 locs X hx hby hml hZ hown eT => getS2 X hx hZ hown w via eT (F.ext O) (g := mkF m pc Ls rest) rfl (hb hby hd)) k
theorem Pos.cast (P : Pos p l e R s m args below meth c own nm bytes ml rt Z a0 EL h0 ws T h cells slots) {K : String} {index : Nat} (w : (Jvm.Cond.classLink own index K).before a0 Z = true) {a : Addr} (F : Ins Z h a K true) (hd : decode bytes pc = .ok (.checkcast index, 3))
    (k : ∀ T', Pos p l e R s m args below meth c own nm bytes ml rt Z a0 EL h0 ws T' h cells slots → Go p e below Q (T'.setTop (mkF m (pc + 3) Ls (.ref a :: rest)))) : Go p e below Q (T.setTop (mkF m pc Ls (.ref a :: rest))) :=
  P.same (V := fun T' => T'.setTop (mkF m (pc + 3) Ls (.ref a :: rest))) (fun vm0 locs X hx hby hml hZ hown eT => castY X hx hZ hown w eT F (g := mkF m pc Ls (.ref a :: rest)) rfl rfl (hb hby hd)) k
theorem Pos.inst (P : Pos p l e R s m args below meth c own nm bytes ml rt Z a0 EL h0 ws T h cells slots) {K : String} {index : Nat} (w : (Jvm.Cond.classLink own index K).before a0 Z = true) {a : Addr} (F : Ins Z h a K true) (hd : decode bytes pc = .ok (.instanceof index, 3))
    (k : ∀ T', Pos p l e R s m args below meth c own nm bytes ml rt Z a0 EL h0 ws T' h cells slots → Go p e below Q (T'.setTop (mkF m (pc + 3) Ls (.int 1 :: rest)))) : Go p e below Q (T.setTop (mkF m pc Ls (.ref a :: rest))) :=
  P.same (V := fun T' => T'.setTop (mkF m (pc + 3) Ls (.int 1 :: rest))) (fun vm0 locs X hx hby hml hZ hown eT => instY X hx hZ hown w eT F (g := mkF m pc Ls (.ref a :: rest)) rfl rfl (hb hby hd)) k
theorem Pos.init0 (P : Pos p l e R s m args below meth c own nm bytes ml rt Z a0 EL h0 ws T h cells slots) {index W : Nat} (w1 : (Jvm.Cond.methodLink own index Lib.objectInit).before a0 Z = true) (w2 : (Jvm.Cond.instanceMethod Lib.objectInit).before a0 Z = true) (w3 : (Jvm.Cond.code Lib.objectInit ⟨#[0xb1]⟩ 1 none).before a0 Z = true) {a : Addr} (hd : decode bytes pc = .ok (.invokespecial index, 3)) (hsz : Ls.size = ml) (hf : 1 ≤ R.frames) (hW : (rest.map fun v => v.category).sum ≤ W) (hl : W + 12 ≤ R.locals)
    (k : ∀ T', Pos p l e R s m args below meth c own nm bytes ml rt Z a0 EL h0 ws T' h cells slots → Go p e below Q (T'.setTop (mkF m (pc + 3) Ls rest))) : Go p e below Q (T.setTop (mkF m pc Ls (.ref a :: rest))) :=
  P.same (V := fun T' => T'.setTop (mkF m (pc + 3) Ls rest)) (fun vm0 locs X hx hby hml hZ hown eT => initO X hx hZ hown w1 w2 w3 eT (g := mkF m pc Ls (.ref a :: rest)) rfl (by rw [hml]; exact hsz) rfl (hb hby hd) hf (W := W) (by show 2 * 0 + _ ≤ _; rw [Nat.mul_zero, Nat.zero_add]; exact hW) hl) k
/-- a step that makes new cells alone -/
theorem Pos.grow {U : State} {dc dn : Nat} {A : State → Heap → Prop} {V : State → State} (P : Pos p l e R s m args below meth c own nm bytes ml rt Z a0 EL h0 ws T h cells slots)
    (f : ∀ (vm0 : Vm) (locs : List Loc), Stand p l e R (s.setVm vm0) m args below meth c T locs cells slots → p.tables.exec = Jvm.exec → c.code = bytes → Z.Warmed39 vm0 → vm0.findClass own = some m.cls → T.heap = h →
      ∃ T' h', Stand p l e R (s.setVm vm0) m args below meth c T' locs (cells + dc) (slots + dn) ∧ T'.heap = h' ∧ Ext h h' ∧ A T' h' ∧ ∀ t, Steps p.tables e below (V T') t → Steps p.tables e below U t)
    (k : ∀ T' h', Pos p l e R s m args below meth c own nm bytes ml rt Z a0 EL h0 ws T' h' (cells + dc) (slots + dn) → Ext h h' → A T' h' → Go p e below Q (V T')) : Go p e below Q U := by
  obtain ⟨vm0, k0, locs, X, ⟨hx, hby, hml, hret, hlk, hnm, hh, hEL, hZs⟩, hZ, hown, hS, hk, eT, hC, N, K, O⟩ := P
  obtain ⟨T', h', X', e', E, hA, st⟩ := f vm0 locs X hx hby hZ hown eT
  exact (k T' h' ⟨vm0, k0, locs, X', ⟨hx, hby, hml, hret, hlk, hnm, hh, hEL, hZs⟩, hZ, hown, hS, Nat.le_trans hk E.1, e', hC.trans (CHr.ext E hC.1), N, K.ext E, ⟨Nat.le_trans O.1 E.1, fun a c q => E.2 _ _ (O.2 _ _ q)⟩⟩ E hA).of st
theorem Pos.newO (P : Pos p l e R s m args below meth c own nm bytes ml rt Z a0 EL h0 ws T h cells slots) {C : String} {index n : Nat} (w : (Jvm.Cond.classLink own index C).before a0 Z = true) (wi : (Jvm.Cond.instantiable C n).before a0 Z = true) (wz : (Jvm.Cond.initialized C).before a0 Z = true) (hd : decode bytes pc = .ok (.new index, 3)) (hc : cells + 1 ≤ R.cells) (hl : slots + n ≤ R.slots)
    (k : ∀ T' h' x, x = h.size → Pos p l e R s m args below meth c own nm bytes ml rt Z a0 EL h0 ws T' h' (cells + 1) (slots + n) → Ext h h' → Exa Z h' x C → (∀ {O nm d : String} {ty : FieldType}, Laid Z a0 C O nm d → parseFieldDescriptor d = some ty → Fld Z h' x O nm d (defaultValue ty)) → Go p e below Q (T'.setTop (mkF m (pc + 3) Ls (.ref x :: rest)))) : Go p e below Q (T.setTop (mkF m pc Ls rest)) :=
  P.grow (V := fun T' => T'.setTop (mkF m (pc + 3) Ls (.ref h.size :: rest))) (A := fun T' h' => Exa Z h' h.size C ∧ ∀ {O nm d : String} {ty : FieldType}, Laid Z a0 C O nm d → parseFieldDescriptor d = some ty → Fld Z h' h.size O nm d (defaultValue ty))
    (fun vm0 locs X hx hby hZ hown eT => by
      obtain ⟨T', h', X', e', E, A, D, -, st⟩ := Jvm.RoadKit.newO X hx hZ hown w wi wz eT (g := mkF m pc Ls rest) rfl (hb hby hd) hc hl
      exact ⟨T', h', X', e', E, ⟨A, D⟩, st⟩)
    (fun T' h' P' E A => k T' h' _ rfl P' E A.1 A.2)
theorem Pos.newP (P : Pos p l e R s m args below meth c own nm bytes ml rt Z a0 EL h0 ws T h cells slots) {aty : ArrayType} {n : Int32} {cap : Nat} (w : (Jvm.Cond.arrayClass (newarray.typeOf aty)).before a0 Z = true) (hd : decode bytes pc = .ok (.newarray aty, 2)) (hn : ¬ n < 0) (hcap : n.toNatClampNeg ≤ cap) (hb8 : cap * 8 ≤ 536870912) (hc : cells + 1 ≤ R.cells) (hl : slots + cap ≤ R.slots)
    (k : ∀ T' h' x cA, x = h.size → Pos p l e R s m args below meth c own nm bytes ml rt Z a0 EL h0 ws T' h' (cells + 1) (slots + cap) → Ext h h' → Arv Z h' x cA (newarray.typeOf aty) n [] (defaultValue (newarray.typeOf aty)) → Go p e below Q (T'.setTop (mkF m (pc + 2) Ls (.ref x :: rest)))) : Go p e below Q (T.setTop (mkF m pc Ls (.int n :: rest))) :=
  P.grow (V := fun T' => T'.setTop (mkF m (pc + 2) Ls (.ref h.size :: rest))) (A := fun T' h' => ∃ cA, Arv Z h' h.size cA (newarray.typeOf aty) n [] (defaultValue (newarray.typeOf aty)))
    (fun vm0 locs X hx hby hZ hown eT => by
      obtain ⟨T', h', cA, X', e', E, A, st⟩ := Jvm.RoadKit.newP X hx hZ w eT (g := mkF m pc Ls (.int n :: rest)) rfl (hb hby hd) rfl hn hcap hb8 hc hl
      exact ⟨T', h', X', e', E, ⟨cA, Arv.new A hn⟩, st⟩)
    (fun T' h' P' E A => by obtain ⟨cA, A⟩ := A; exact k T' h' _ cA rfl P' E A)
theorem Pos.newR (P : Pos p l e R s m args below meth c own nm bytes ml rt Z a0 EL h0 ws T h cells slots) {C : String} {index : Nat} {n : Int32} {cap : Nat} (w1 : (Jvm.Cond.classLink own index C).before a0 Z = true) (w2 : (Jvm.Cond.arrayOver (.object C)).before a0 Z = true) (hd : decode bytes pc = .ok (.anewarray index, 3)) (hn : ¬ n < 0) (hcap : n.toNatClampNeg ≤ cap) (hb8 : cap * 8 ≤ 536870912) (hc : cells + 1 ≤ R.cells) (hl : slots + cap ≤ R.slots)
    (k : ∀ T' h' x cA, x = h.size → Pos p l e R s m args below meth c own nm bytes ml rt Z a0 EL h0 ws T' h' (cells + 1) (slots + cap) → Ext h h' → Arv Z h' x cA (.object C) n [] .null → Ovr Z cA C → Go p e below Q (T'.setTop (mkF m (pc + 3) Ls (.ref x :: rest)))) : Go p e below Q (T.setTop (mkF m pc Ls (.int n :: rest))) :=
  P.grow (V := fun T' => T'.setTop (mkF m (pc + 3) Ls (.ref h.size :: rest))) (A := fun T' h' => ∃ cA, Arv Z h' h.size cA (.object C) n [] .null ∧ Ovr Z cA C)
    (fun vm0 locs X hx hby hZ hown eT => by
      obtain ⟨T', h', cA, X', e', E, A, O, st⟩ := Jvm.RoadKit.newR X hx hZ hown w1 w2 eT (g := mkF m pc Ls (.int n :: rest)) rfl (hb hby hd) rfl hn hcap hb8 hc hl
      exact ⟨T', h', X', e', E, ⟨cA, Arv.new A hn, O⟩, st⟩)
    (fun T' h' P' E A => by obtain ⟨cA, A, O⟩ := A; exact k T' h' _ cA rfl P' E A O)
/-- a step that writes one place of a -/
theorem Pos.wr {U : State} {a : Addr} {sl : Nat} {v : Value} {V : State → State} (P : Pos p l e R s m args below meth c own nm bytes ml rt Z a0 EL h0 ws T h cells slots)
    (hsafe : ∀ vm, Z.vm.Alike s.vm → Z.vm.Alike vm → CHr Z EL s.vm h0 vm h → Safe Z EL vm h a) (hz : Z.heap.size ≤ a) (hws : a ∈ ws ∨ h0.size ≤ a)
    (f : ∀ (vm0 : Vm) (locs : List Loc), Stand p l e R (s.setVm vm0) m args below meth c T locs cells slots → p.tables.exec = Jvm.exec → c.code = bytes → Z.Warmed39 vm0 → vm0.findClass own = some m.cls → T.heap = h → meth.name = nm →
      ∃ T' h', Stand p l e R (s.setVm vm0) m args below meth c T' (locs ++ [⟨a, sl⟩]) cells slots ∧ T'.heap = h' ∧ Wr h h' a sl v ∧ ∀ t, Steps p.tables e below (V T') t → Steps p.tables e below U t)
    (k : ∀ T' h', Pos p l e R s m args below meth c own nm bytes ml rt Z a0 EL h0 ws T' h' cells slots → Wr h h' a sl v → Go p e below Q (V T')) : Go p e below Q U := by
  obtain ⟨vm0, k0, locs, X, ⟨hx, hby, hml, hret, hlk, hnm, hh, hEL, hZs⟩, hZ, hown, hS, hk, eT, hC, N, K, O⟩ := P
  obtain ⟨T', h', X', e', W, st⟩ := f vm0 locs X hx hby hZ hown eT hnm
  exact (k T' h' ⟨vm0, k0, _, X', ⟨hx, hby, hml, hret, hlk, hnm, hh, hEL, hZs⟩, hZ, hown, hS, Nat.le_trans hk (Nat.le_of_eq W.size.symm), e', hC.trans (CHr.wr W (hsafe vm0 hZs.alike hZ.alike hC) hC.1), Fr.snoc X' N hz, K.wr W hws,
    (Old.wr (n0 := Z.heap.size) ⟨rfl, O⟩ W hz).2⟩ W).of st
theorem Pos.putF (P : Pos p l e R s m args below meth c own nm bytes ml rt Z a0 EL h0 ws T h cells slots) {R0 O n d C : String} {index kk : Nat} {ty : FieldType} {a : Addr} {v v' old : Value}
    (w : (Jvm.Cond.fieldLink own index R0 n d).before a0 Z = true) (via : Via Z R0 O n d) (F : Fld Z h a O n d old) (E : Exa Z h a C) (L : (Jvm.Cond.lays C O n d).before a0 Z = true ∨ ((Jvm.Cond.laysFinal C O n d).before a0 Z = true ∧ own = O ∧ nm = "<init>")) (wi : (Jvm.Cond.instantiable C kk).before a0 Z = true)
    (hty : parseFieldDescriptor d = some ty) (hn : narrow ty v = v') (hf : fits ty v' = true) (hd : decode bytes pc = .ok (.putfield index, 3))
    (hsafe : ∀ vm, Z.vm.Alike s.vm → Z.vm.Alike vm → CHr Z EL s.vm h0 vm h → Safe Z EL vm h a) (hz : Z.heap.size ≤ a) (hws : a ∈ ws ∨ h0.size ≤ a)
    (k : ∀ T' h', Pos p l e R s m args below meth c own nm bytes ml rt Z a0 EL h0 ws T' h' cells slots → Wr h h' a (Jvm.RoadKit.slotOf Z O n d) v' → Go p e below Q (T'.setTop (mkF m (pc + 3) Ls rest))) : Go p e below Q (T.setTop (mkF m pc Ls (v :: .ref a :: rest))) :=
  P.wr hsafe hz hws (V := fun T' => T'.setTop (mkF m (pc + 3) Ls rest)) (fun vm0 locs X hx hby hZ hown eT hnm => putFN X hx hZ hown w via eT F E (L.imp id fun q => ⟨q.1, q.2.1, hnm.trans q.2.2⟩) wi hty hn hf (g := mkF m pc Ls (v :: .ref a :: rest)) rfl rfl (hb hby hd)) k
theorem inb {j : Int32} {i : Nat} {cl : Cell} {z : Int32} (hj : j.toNatClampNeg = i) (hj0 : ¬ j < 0) (hS : cl.slots.size = z.toNatClampNeg) (hlt : i < z.toNatClampNeg) : ¬ (j < 0 ∨ cl.slots.size ≤ j.toNatClampNeg) := by
  rintro (q | q)
  · exact hj0 q
  · rw [hS, hj] at q; omega
theorem Pos.stC (P : Pos p l e R s m args below meth c own nm bytes ml rt Z a0 EL h0 ws T h cells slots) {a : Addr} {kc : ClassId} {z j x x' : Int32} {vs : List Value} {dv : Value} (A : Arv Z h a kc .char z vs dv) (i : Nat) (hj : j.toNatClampNeg = i) (hj0 : ¬ j < 0) (hlt : i < z.toNatClampNeg) (hi : i < vs.length) (hx' : nar .char x = x') (hd : decode bytes pc = .ok (.castore, 1)) (hz : Z.heap.size ≤ a) (hws : a ∈ ws ∨ h0.size ≤ a)
    (k : ∀ T' h', Pos p l e R s m args below meth c own nm bytes ml rt Z a0 EL h0 ws T' h' cells slots → Wr h h' a j.toNatClampNeg (.int x') → Arv Z h' a kc .char z (vs.set i (.int x')) dv → Go p e below Q (T'.setTop (mkF m (pc + 1) Ls rest))) : Go p e below Q (T.setTop (mkF m pc Ls (.int x :: .int j :: .ref a :: rest))) := by
  obtain ⟨cl, Ar, q1, S, N, H, G⟩ := A
  subst hx'
  refine P.wr (fun vm _ hal _ => Safe.arr hal Ar (by decide)) hz hws (V := fun T' => T'.setTop (mkF m (pc + 1) Ls rest)) (fun vm0 locs X hx hby hZ hown eT hnm => Jvm.RoadKit.stC X hx hZ eT Ar (inb hj hj0 S hlt) (g := mkF m pc Ls (.int x :: .int j :: .ref a :: rest)) rfl rfl (hb hby hd)) (fun T' h' P' W => k T' h' P' W (Arv.set Ar q1 S N H G (fits_nar_char x) W i hj hi))
theorem Pos.stR (P : Pos p l e R s m args below meth c own nm bytes ml rt Z a0 EL h0 ws T h cells slots) {a : Addr} {kc : ClassId} {C : String} {z j : Int32} {y : Addr} {vs : List Value} {dv : Value} (A : Arv Z h a kc (.object C) z vs dv) (O : Ovr Z kc C) (I : Ins Z h y C true) (i : Nat) (hj : j.toNatClampNeg = i) (hj0 : ¬ j < 0) (hlt : i < z.toNatClampNeg) (hi : i < vs.length) (hd : decode bytes pc = .ok (.aastore, 1)) (hz : Z.heap.size ≤ a) (hws : a ∈ ws ∨ h0.size ≤ a)
    (k : ∀ T' h', Pos p l e R s m args below meth c own nm bytes ml rt Z a0 EL h0 ws T' h' cells slots → Wr h h' a j.toNatClampNeg (.ref y) → Arv Z h' a kc (.object C) z (vs.set i (.ref y)) dv → Go p e below Q (T'.setTop (mkF m (pc + 1) Ls rest))) : Go p e below Q (T.setTop (mkF m pc Ls (.ref y :: .int j :: .ref a :: rest))) := by
  obtain ⟨cl, Ar, q1, S, N, H, G⟩ := A
  refine P.wr (fun vm _ hal _ => Safe.arr hal Ar nofun) hz hws (V := fun T' => T'.setTop (mkF m (pc + 1) Ls rest)) (fun vm0 locs X hx hby hZ hown eT hnm => Jvm.RoadKit.stR X hx hZ eT Ar (inb hj hj0 S hlt) rfl (Sto.ofV Ar q1 O I) (g := mkF m pc Ls (.ref y :: .int j :: .ref a :: rest)) rfl rfl (hb hby hd)) (fun T' h' P' W => k T' h' P' W (Arv.set Ar q1 S N H G rfl W i hj hi))
/-- a String constant, opaque -/
theorem Pos.ldcO (P : Pos p l e R s m args below meth c own nm bytes ml rt Z a0 EL h0 ws T h cells slots) {text : String} {index n : Nat} (w : (Jvm.Cond.stringLink own index text).before a0 Z = true) (wS : ∀ a ∈ Bundle.stringAtoms, a.before a0 Z = true) (hd : decode bytes pc = .ok (.ldc index, 2)) (hn : 4 * text.toList.length ≤ n) (hbig : n ≤ 536870912) (hc : cells + 2 ≤ R.cells) (hl : slots + (n + 4) ≤ R.slots)
    (k : ∀ T' h' x, Pos p l e R s m args below meth c own nm bytes ml rt Z a0 EL h0 ws T' h' (cells + 2) (slots + (n + 4)) → Ext h h' → Go p e below Q (T'.setTop (mkF m (pc + 2) Ls (.ref x :: rest)))) : Go p e below Q (T.setTop (mkF m pc Ls rest)) := by
  obtain ⟨vm0, k0, locs, X, ⟨hx, hby, hml, hret, hlk, hnm, hh, hEL, hZs⟩, hZ, hown, hS, hk, eT, hC, N, K, O⟩ := P
  obtain ⟨a, T', h', k1, X', e', E, hS', hk', hZ', hown', hC', -, st⟩ := ldcOH X hx hZ hown w wS eT hS hk hEL hC.1 (g := mkF m pc Ls rest) rfl (hb hby hd) hn hbig hc hl
  exact (k T' h' a ⟨T'.vm, k1, locs, X', ⟨hx, hby, hml, hret, hlk, hnm, hh, hEL, hZs⟩, hZ', hown', hS', hk', e', hC.trans hC', N, K.ext E, ⟨Nat.le_trans O.1 E.1, fun a c q => E.2 _ _ (O.2 _ _ q)⟩⟩ E).of st
/-- a String constant, read -/
theorem Pos.ldcR (P : Pos p l e R s m args below meth c own nm bytes ml rt Z a0 EL h0 ws T h cells slots) {text : String} {index n : Nat} {vs : List Value} {z : Int32} (w : (Jvm.Cond.stringLink own index text).before a0 Z = true) (wS : ∀ a ∈ Bundle.stringAtoms, a.before a0 Z = true) (hmem : (own, index) ∈ EL) (ht : (∀ c ∈ text.toList, c.toNat < 256) ∧ text.toList.map (fun c => Value.int (Jvm.Lit.byteI c.toNat.toUInt16)) = vs) (hz : ¬ z < 0) (hl0 : z.toNatClampNeg = vs.length) (hd : decode bytes pc = .ok (.ldc index, 2)) (hn : 4 * text.toList.length ≤ n) (hbig : n ≤ 536870912) (hc : cells + 2 ≤ R.cells) (hl : slots + (n + 4) ≤ R.slots)
    (k : ∀ T' h' x b kb, Pos p l e R s m args below meth c own nm bytes ml rt Z a0 EL h0 ws T' h' (cells + 2) (slots + (n + 4)) → Ext h h' → Exa Z h' x "java/lang/String" → Fld Z h' x "java/lang/String" "coder" "B" (.int 0) → Fld Z h' x "java/lang/String" "value" "[B" (.ref b) → Arv Z h' b kb .byte z vs (.int 0) → Go p e below Q (T'.setTop (mkF m (pc + 2) Ls (.ref x :: rest)))) : Go p e below Q (T.setTop (mkF m pc Ls rest)) := by
  obtain ⟨vm0, k0, locs, X, ⟨hx, hby, hml, hret, hlk, hnm, hh, hEL, hZs⟩, hZ, hown, hS, hk, eT, hC, N, K, O⟩ := P
  obtain ⟨a, T', h', k1, b, kb, X', e', E, hS', hk', hZ', hown', f1, f2, f3, f4, -, -, hC', -, -, st⟩ := ldcCH X hx hZ hown w wS eT hS hk hEL hmem hC.1 ht hz hl0 (g := mkF m pc Ls rest) rfl (hb hby hd) hn hbig hc hl
  exact (k T' h' a b kb ⟨T'.vm, k1, locs, X', ⟨hx, hby, hml, hret, hlk, hnm, hh, hEL, hZs⟩, hZ', hown', hS', hk', e', hC.trans hC', N, K.ext E, ⟨Nat.le_trans O.1 E.1, fun a c q => E.2 _ _ (O.2 _ _ q)⟩⟩ E f1 f2 f3 f4).of st
/-- behind a call by contract: the point, all its facts -/
theorem Pos.after {vm0 : Vm} {k0 : Nat} {locs L : List Loc} {dc dn cc nn : Nat} {ws' : List Addr} {U : State} {LL : List Loc}
    (hR : p.tables.exec = Jvm.exec ∧ c.code = bytes ∧ c.maxLocals = ml ∧ meth.sig.returnType = rt ∧ meth.locks = false ∧ meth.name = nm ∧ s.heap = h0 ∧ EW Z a0 EL ∧ Z.Warmed39 s.vm) (hZ : Z.Warmed39 vm0) (hown : vm0.findClass own = some m.cls) (hS : s.Since vm0 k0) (hk : k0 ≤ h.size) (eT : T.heap = h) (hC : CHr Z EL s.vm h0 vm0 h) (N : Fr Z.heap.size locs) (K : Keep h0 h ws)
    (X' : Stand p l e R ((s.setVm vm0).setVm U.vm) m args below meth c U LL cc nn) (hS2 : (s.setVm vm0).Since U.vm U.heap.size) (g : T.heap.size ≤ U.heap.size) (hLL : LL = locs ++ L) (hcc : cc = cells + dc) (hnn : nn = slots + dn) (hC' : CHr Z EL vm0 h U.vm U.heap) (N' : Fr Z.heap.size L) (K' : Keep h U.heap ws') (O' : Ext Z.heap U.heap) (hws : ∀ x ∈ ws', x ∈ ws ∨ h0.size ≤ x) :
    Pos p l e R s m args below meth c own nm bytes ml rt Z a0 EL h0 ws U U.heap (cells + dc) (slots + dn) := by
  subst hLL hcc hnn
  rw [eT] at g
  obtain ⟨Y, hS3, hZ3, ho3⟩ := rebS hS hk X' hS2 g hZ hown
  exact ⟨U.vm, _, _, Y, hR, hZ3, ho3, hS3, Nat.le_refl _, rfl, hC.trans hC', N.app N', K.trans K' hws, O'⟩
theorem Pos.callS (P : Pos p l e R s m args below meth c own nm bytes ml rt Z a0 EL h0 ws T h cells slots) {index : Nat} {y : MethodName} {bytes' : ByteArray} {ml' W : Nat} {rt' : Option FieldType} {argsL stk : List Value} {ws' : List Addr} {ps : List FieldType} {r : Option FieldType}
    (w1 : (Jvm.Cond.methodLink own index y).before a0 Z = true) (w2 : (Jvm.Cond.static y).before a0 Z = true) (w3 : (Jvm.Cond.initialized y.cls).before a0 Z = true) (w4 : (Jvm.Cond.code y bytes' ml' rt').before a0 Z = true) (hy : y.cls ≠ "java/lang/invoke/MethodHandle" ∧ y.cls ≠ "java/lang/invoke/VarHandle")
    (C : Con l Z EL [] y bytes' ml' rt' rm argsL.toArray h ws' Qv) (hf : rm.frames + 1 ≤ R.frames) (hl : W + (ml' + 11) + rm.locals ≤ R.locals) (hc : cells + rm.cells ≤ R.cells) (hs : slots + rm.slots ≤ R.slots) (hws : ∀ x ∈ ws', x ∈ ws ∨ h0.size ≤ x)
    (pd : parseMethodDescriptor y.desc = some ⟨ps, r⟩) (hlen : argsL.length = ps.length) (hst : stk = argsL.reverse ++ rest) (hsz : Ls.size = ml) (hW : (rest.map fun v => v.category).sum ≤ W) (hd : decode bytes pc = .ok (.invokestatic index, 3))
    (k : ∀ v T' h', Pos p l e R s m args below meth c own nm bytes ml rt Z a0 EL h0 ws T' h' (cells + rm.cells) (slots + rm.slots) → Keep h h' ws' → Qv v h' → Go p e below Q (T'.setTop (mkF m (pc + 3) Ls (v.toList ++ rest)))) : Go p e below Q (T.setTop (mkF m pc Ls stk)) := by
  obtain ⟨vm0, k0, locs, X, hR, hZ, hown, hS, hk, eT, hC, N, K, O⟩ := P
  have hR' := hR
  obtain ⟨hx, hby, hml, hret, hlk, hnm, hh, hEL, hZs⟩ := hR'
  obtain ⟨v, _, ⟨U, LL, cc, nn⟩, -, X', hS2, hg, ⟨L, ⟨N', K', O', hQ⟩, hLL, hcc, hnn, hC'⟩, st⟩ := callSS X hx (y := y) hown (mvT (s := s.setVm vm0) hZ w1) (mvT (s := s.setVm vm0) hZ w2) (mvT (s := s.setVm vm0) hZ w3) (mvT (s := s.setVm vm0) hZ w4) hy (backOfSH (W := W) (vm0 := vm0) (Q := fun v h' L => Fr Z.heap.size L ∧ Keep h h' ws' ∧ Ext Z.heap h' ∧ Qv v h') C hZ w4 w3 hf hl hEL hC.1) (g := mkF m pc Ls stk) rfl (by rw [hml]; exact hsz) (argsL := argsL) (rest := rest) (lenOf pd hlen) hst (by show 2 * 0 + _ ≤ _; rw [Nat.mul_zero, Nat.zero_add]; exact hW) (hb hby hd) (fun _ _ => ⟨rfl, eT, hc, hs⟩)
  dsimp only at X' hS2 hg hLL hcc hnn hC' st N' K' O' hQ
  exact (k v U U.heap (Pos.after hR hZ hown hS hk eT hC N K X' hS2 hg hLL hcc hnn hC' N' K' O' hws) K' hQ).of (fun t q => st.trans q)
theorem Pos.callI (P : Pos p l e R s m args below meth c own nm bytes ml rt Z a0 EL h0 ws T h cells slots) {index : Nat} {y : MethodName} {bytes' : ByteArray} {ml' W : Nat} {a : Addr} {argsL stk : List Value} {ws' : List Addr} {ps : List FieldType} {r : Option FieldType} (hy1 : y.name = "<init>")
    (w1 : (Jvm.Cond.methodLink own index y).before a0 Z = true) (w2 : (Jvm.Cond.instanceMethod y).before a0 Z = true) (w3 : (Jvm.Cond.initialized y.cls).before a0 Z = true) (w4 : (Jvm.Cond.code y bytes' ml' none).before a0 Z = true) (hy : y.cls ≠ "java/lang/invoke/MethodHandle" ∧ y.cls ≠ "java/lang/invoke/VarHandle")
    (C : Con l Z EL [] y bytes' ml' none rm (.ref a :: argsL).toArray h ws' Qv) (hf : rm.frames + 1 ≤ R.frames) (hl : W + (ml' + 11) + rm.locals ≤ R.locals) (hc : cells + rm.cells ≤ R.cells) (hs : slots + rm.slots ≤ R.slots) (hws : ∀ x ∈ ws', x ∈ ws ∨ h0.size ≤ x)
    (pd : parseMethodDescriptor y.desc = some ⟨ps, r⟩) (hlen : argsL.length = ps.length) (hst : stk = argsL.reverse ++ .ref a :: rest) (hsz : Ls.size = ml) (hW : (rest.map fun v => v.category).sum ≤ W) (hd : decode bytes pc = .ok (.invokespecial index, 3))
    (k : ∀ v T' h', Pos p l e R s m args below meth c own nm bytes ml rt Z a0 EL h0 ws T' h' (cells + rm.cells) (slots + rm.slots) → Keep h h' ws' → Qv v h' → Go p e below Q (T'.setTop (mkF m (pc + 3) Ls (v.toList ++ rest)))) : Go p e below Q (T.setTop (mkF m pc Ls stk)) := by
  obtain ⟨vm0, k0, locs, X, hR, hZ, hown, hS, hk, eT, hC, N, K, O⟩ := P
  have hR' := hR
  obtain ⟨hx, hby, hml, hret, hlk, hnm, hh, hEL, hZs⟩ := hR'
  obtain ⟨v, _, ⟨U, LL, cc, nn⟩, -, X', hS2, hg, ⟨L, ⟨N', K', O', hQ⟩, hLL, hcc, hnn, hC'⟩, st⟩ := X.specialBackS hx (y := y) hy1 hown (mvT (s := s.setVm vm0) hZ w1) (mvT (s := s.setVm vm0) hZ w2) (mvT (s := s.setVm vm0) hZ w4) hy (backOfSH (W := W) (vm0 := vm0) (Q := fun v h' L => Fr Z.heap.size L ∧ Keep h h' ws' ∧ Ext Z.heap h' ∧ Qv v h') C hZ w4 w3 hf hl hEL hC.1) (g := mkF m pc Ls stk) rfl (by rw [hml]; exact hsz) (Steps.refl _) (a := a) (argsL := argsL) (rest := rest) (lenOf pd hlen) hst (by show 2 * 0 + _ ≤ _; rw [Nat.mul_zero, Nat.zero_add]; exact hW) (hb hby hd) (fun _ _ => ⟨rfl, eT, hc, hs⟩)
  dsimp only at X' hS2 hg hLL hcc hnn hC' st N' K' O' hQ
  exact (k v U U.heap (Pos.after hR hZ hown hS hk eT hC N K X' hS2 hg hLL hcc hnn hC' N' K' O' hws) K' hQ).of (fun t q => st.trans q)
theorem Pos.callV (P : Pos p l e R s m args below meth c own nm bytes ml rt Z a0 EL h0 ws T h cells slots) {index : Nat} {y z : MethodName} {bytes' : ByteArray} {ml' W : Nat} {rt' : Option FieldType} {C : String} {a : Addr} {argsL stk : List Value} {ws' : List Addr} {ps : List FieldType} {r : Option FieldType}
    (w1 : (Jvm.Cond.methodLink own index y).before a0 Z = true) (w2 : (Jvm.Cond.declares y).before a0 Z = true) (w5 : (Jvm.Cond.selects C y z).before a0 Z = true) (hnf : ∀ vm0, Z.Warmed39 vm0 → NotFace (s.setVm vm0) y) (w6 : (Jvm.Cond.instanceMethod z).before a0 Z = true) (w3 : (Jvm.Cond.initialized z.cls).before a0 Z = true) (w4 : (Jvm.Cond.code z bytes' ml' rt').before a0 Z = true) (hy : y.cls ≠ "java/lang/invoke/MethodHandle" ∧ y.cls ≠ "java/lang/invoke/VarHandle") (E : Exa Z h a C)
    (Cn : Con l Z EL [] z bytes' ml' rt' rm (.ref a :: argsL).toArray h ws' Qv) (hf : rm.frames + 1 ≤ R.frames) (hl : W + (ml' + 11) + rm.locals ≤ R.locals) (hc : cells + rm.cells ≤ R.cells) (hs : slots + rm.slots ≤ R.slots) (hws : ∀ x ∈ ws', x ∈ ws ∨ h0.size ≤ x)
    (pd : parseMethodDescriptor y.desc = some ⟨ps, r⟩) (hlen : argsL.length = ps.length) (hst : stk = argsL.reverse ++ .ref a :: rest) (hsz : Ls.size = ml) (hW : (rest.map fun v => v.category).sum ≤ W) (hd : decode bytes pc = .ok (.invokevirtual index, 3))
    (k : ∀ v T' h', Pos p l e R s m args below meth c own nm bytes ml rt Z a0 EL h0 ws T' h' (cells + rm.cells) (slots + rm.slots) → Keep h h' ws' → Qv v h' → Go p e below Q (T'.setTop (mkF m (pc + 3) Ls (v.toList ++ rest)))) : Go p e below Q (T.setTop (mkF m pc Ls stk)) := by
  obtain ⟨vm0, k0, locs, X, hR, hZ, hown, hS, hk, eT, hC, N, K, O⟩ := P
  have hR' := hR
  obtain ⟨hx, hby, hml, hret, hlk, hnm, hh, hEL, hZs⟩ := hR'
  obtain ⟨cq, kq, qa, qb, qc⟩ := isOf (s := s.setVm vm0) (T := T) hZ eT E
  obtain ⟨v, _, ⟨U, LL, cc, nn⟩, -, X', hS2, hg, ⟨L, ⟨N', K', O', hQ⟩, hLL, hcc, hnn, hC'⟩, st⟩ := X.virtualBackS hx (y := y) (z := z) hown (mvT (s := s.setVm vm0) hZ w1) (mvT (s := s.setVm vm0) hZ w2) (hnf vm0 hZ) (mvT (s := s.setVm vm0) hZ w5) (mvT (s := s.setVm vm0) hZ w6) hy (backOfSH (W := W) (vm0 := vm0) (Q := fun v h' L => Fr Z.heap.size L ∧ Keep h h' ws' ∧ Ext Z.heap h' ∧ Qv v h') Cn hZ w4 w3 hf hl hEL hC.1) qa qc (g := mkF m pc Ls stk) rfl (by rw [hml]; exact hsz) (Steps.refl _) (argsL := argsL) (rest := rest) (lenOf pd hlen) hst (by show 2 * 0 + _ ≤ _; rw [Nat.mul_zero, Nat.zero_add]; exact hW) (hb hby hd) (fun _ _ => ⟨rfl, eT, hc, hs⟩)
  dsimp only at X' hS2 hg hLL hcc hnn hC' st N' K' O' hQ
  exact (k v U U.heap (Pos.after hR hZ hown hS hk eT hC N K X' hS2 hg hLL hcc hnn hC' N' K' O' hws) K' hQ).of (fun t q => st.trans q)
theorem nfOf {y : MethodName} {C : String} (w5 : (Jvm.Cond.selects C y y).before a0 Z = true) : ∀ vm0, Z.Warmed39 vm0 → NotFace (s.setVm vm0) y := fun vm0 hZ => notFace_of_selects (args := #[]) (mvT (s := s.setVm vm0) hZ w5)
/-- behind a call by one of the library's payers (it interns nothing) -/
theorem Pos.afterB {vm0 : Vm} {k0 : Nat} {locs L : List Loc} {dc dn cc nn : Nat} {ws' : List Addr} {U : State} {LL : List Loc}
    (hR : p.tables.exec = Jvm.exec ∧ c.code = bytes ∧ c.maxLocals = ml ∧ meth.sig.returnType = rt ∧ meth.locks = false ∧ meth.name = nm ∧ s.heap = h0 ∧ EW Z a0 EL ∧ Z.Warmed39 s.vm) (hZ : Z.Warmed39 vm0) (hown : vm0.findClass own = some m.cls) (hS : s.Since vm0 k0) (hk : k0 ≤ h.size) (hC : CHr Z EL s.vm h0 vm0 h) (N : Fr Z.heap.size locs) (K : Keep h0 h ws) (O : Ext Z.heap h)
    (X' : Stand p l e R (s.setVm vm0) m args below meth c U LL cc nn) (hLL : LL = locs ++ L) (hcc : cc = cells + dc) (hnn : nn = slots + dn) (N' : Fr Z.heap.size L) (K' : Keep h U.heap ws') (hws : ∀ x ∈ ws', (x ∈ ws ∨ h0.size ≤ x) ∧ Z.heap.size ≤ x) (hsafe : ∀ vm, Z.vm.Alike s.vm → Z.vm.Alike vm → CHr Z EL s.vm h0 vm h → ∀ x ∈ ws', Safe Z EL vm h x) :
    Pos p l e R s m args below meth c own nm bytes ml rt Z a0 EL h0 ws U U.heap (cells + dc) (slots + dn) := by
  subst hLL hcc hnn
  exact ⟨vm0, k0, _, X', hR, hZ, hown, hS, Nat.le_trans hk K'.1, rfl, hC.trans (CHr.keep K' (hsafe vm0 hR.2.2.2.2.2.2.2.2.alike hZ.alike hC) hC.1), N.app N', K.trans K' (fun x hx => (hws x hx).1), (Old.keep (n0 := Z.heap.size) ⟨rfl, O⟩ K' (fun x hx => (hws x hx).2)).2⟩
theorem Pos.specB (P : Pos p l e R s m args below meth c own nm bytes ml rt Z a0 EL h0 ws T h cells slots) {index : Nat} {y : MethodName} {bytes' : ByteArray} {ml' W dc dn : Nat} {a : Addr} {argsL stk : List Value} {as' : Array Value} {ws' : List Addr} {ps : List FieldType} {r : Option FieldType} {Qx : Option Value → Heap → List Loc → Prop} (hy1 : y.name = "<init>")
    (w1 : (Jvm.Cond.methodLink own index y).before a0 Z = true) (w2 : (Jvm.Cond.instanceMethod y).before a0 Z = true) (w4 : (Jvm.Cond.code y bytes' ml' none).before a0 Z = true) (hy : y.cls ≠ "java/lang/invoke/MethodHandle" ∧ y.cls ≠ "java/lang/invoke/VarHandle")
    (B : ∀ vm0 : Vm, Z.Warmed39 (s.setVm vm0).vm → Back l R p e below (s.setVm vm0) args y 3 W (fun P a => a = as' ∧ P.U.heap = h ∧ P.cells + dc ≤ R.cells ∧ P.slots + dn ≤ R.slots) (fun P _ v B => ∃ L, Qx v B.U.heap L ∧ B.locs = P.locs ++ L ∧ B.cells = P.cells + dc ∧ B.slots = P.slots + dn)) (has : (.ref a :: argsL).toArray = as')
    (hQ : ∀ v h' L, Qx v h' L → Fr Z.heap.size L ∧ Keep h h' ws') (hc : cells + dc ≤ R.cells) (hs : slots + dn ≤ R.slots) (hws : ∀ x ∈ ws', (x ∈ ws ∨ h0.size ≤ x) ∧ Z.heap.size ≤ x) (hsafe : ∀ vm, Z.vm.Alike s.vm → Z.vm.Alike vm → CHr Z EL s.vm h0 vm h → ∀ x ∈ ws', Safe Z EL vm h x)
    (pd : parseMethodDescriptor y.desc = some ⟨ps, r⟩) (hlen : argsL.length = ps.length) (hst : stk = argsL.reverse ++ .ref a :: rest) (hsz : Ls.size = ml) (hW : (rest.map fun v => v.category).sum ≤ W) (hd : decode bytes pc = .ok (.invokespecial index, 3))
    (k : ∀ v T' h' L, Pos p l e R s m args below meth c own nm bytes ml rt Z a0 EL h0 ws T' h' (cells + dc) (slots + dn) → Qx v h' L → Go p e below Q (T'.setTop (mkF m (pc + 3) Ls (v.toList ++ rest)))) : Go p e below Q (T.setTop (mkF m pc Ls stk)) := by
  obtain ⟨vm0, k0, locs, X, hR, hZ, hown, hS, hk, eT, hC, N, K, O⟩ := P
  have hR' := hR
  obtain ⟨hx, hby, hml, hret, hlk, hnm, hh, hEL, hZs⟩ := hR'
  obtain ⟨v, _, ⟨U, LL, cc, nn⟩, -, X', ⟨L, hq, hLL, hcc, hnn⟩, st⟩ := X.specialBack hx (y := y) hy1 hown (mvT (s := s.setVm vm0) hZ w1) (mvT (s := s.setVm vm0) hZ w2) (mvT (s := s.setVm vm0) hZ w4) hy (B vm0 hZ) (g := mkF m pc Ls stk) rfl (by rw [hml]; exact hsz) (Steps.refl _) (a := a) (argsL := argsL) (rest := rest) (lenOf pd hlen) hst (by show 2 * 0 + _ ≤ _; rw [Nat.mul_zero, Nat.zero_add]; exact hW) (hb hby hd) (fun _ _ => ⟨has, eT, hc, hs⟩)
  dsimp only at X' hLL hcc hnn st hq
  obtain ⟨N', K'⟩ := hQ _ _ _ hq
  exact (k v U U.heap L (Pos.afterB hR hZ hown hS hk hC N K O X' hLL hcc hnn N' K' hws hsafe) hq).of (fun t q => st.trans q)
theorem Pos.virtB (P : Pos p l e R s m args below meth c own nm bytes ml rt Z a0 EL h0 ws T h cells slots) {index : Nat} {y z : MethodName} {W dc dn : Nat} {C : String} {a : Addr} {argsL stk : List Value} {as' : Array Value} {ws' : List Addr} {ps : List FieldType} {r : Option FieldType} {Qx : Option Value → Heap → List Loc → Prop}
    (w1 : (Jvm.Cond.methodLink own index y).before a0 Z = true) (w2 : (Jvm.Cond.declares y).before a0 Z = true) (w5 : (Jvm.Cond.selects C y z).before a0 Z = true) (hnf : ∀ vm0, Z.Warmed39 vm0 → NotFace (s.setVm vm0) y) (w6 : (Jvm.Cond.instanceMethod z).before a0 Z = true) (hy : y.cls ≠ "java/lang/invoke/MethodHandle" ∧ y.cls ≠ "java/lang/invoke/VarHandle") (E : Exa Z h a C)
    (B : ∀ vm0 : Vm, Z.Warmed39 (s.setVm vm0).vm → Back l R p e below (s.setVm vm0) args z 3 W (fun P a => a = as' ∧ P.U.heap = h ∧ P.cells + dc ≤ R.cells ∧ P.slots + dn ≤ R.slots) (fun P _ v B => ∃ L, Qx v B.U.heap L ∧ B.locs = P.locs ++ L ∧ B.cells = P.cells + dc ∧ B.slots = P.slots + dn)) (has : (.ref a :: argsL).toArray = as')
    (hQ : ∀ v h' L, Qx v h' L → Fr Z.heap.size L ∧ Keep h h' ws') (hc : cells + dc ≤ R.cells) (hs : slots + dn ≤ R.slots) (hws : ∀ x ∈ ws', (x ∈ ws ∨ h0.size ≤ x) ∧ Z.heap.size ≤ x) (hsafe : ∀ vm, Z.vm.Alike s.vm → Z.vm.Alike vm → CHr Z EL s.vm h0 vm h → ∀ x ∈ ws', Safe Z EL vm h x)
    (pd : parseMethodDescriptor y.desc = some ⟨ps, r⟩) (hlen : argsL.length = ps.length) (hst : stk = argsL.reverse ++ .ref a :: rest) (hsz : Ls.size = ml) (hW : (rest.map fun v => v.category).sum ≤ W) (hd : decode bytes pc = .ok (.invokevirtual index, 3))
    (k : ∀ v T' h' L, Pos p l e R s m args below meth c own nm bytes ml rt Z a0 EL h0 ws T' h' (cells + dc) (slots + dn) → Qx v h' L → Go p e below Q (T'.setTop (mkF m (pc + 3) Ls (v.toList ++ rest)))) : Go p e below Q (T.setTop (mkF m pc Ls stk)) := by
  obtain ⟨vm0, k0, locs, X, hR, hZ, hown, hS, hk, eT, hC, N, K, O⟩ := P
  have hR' := hR
  obtain ⟨hx, hby, hml, hret, hlk, hnm, hh, hEL, hZs⟩ := hR'
  obtain ⟨cq, kq, qa, qb, qc⟩ := isOf (s := s.setVm vm0) (T := T) hZ eT E
  obtain ⟨v, _, ⟨U, LL, cc, nn⟩, -, X', ⟨L, hq, hLL, hcc, hnn⟩, st⟩ := X.virtualBack hx (y := y) (z := z) hown (mvT (s := s.setVm vm0) hZ w1) (mvT (s := s.setVm vm0) hZ w2) (hnf vm0 hZ) (mvT (s := s.setVm vm0) hZ w5) (mvT (s := s.setVm vm0) hZ w6) hy (B vm0 hZ) qa qc (g := mkF m pc Ls stk) rfl (by rw [hml]; exact hsz) (Steps.refl _) (argsL := argsL) (rest := rest) (lenOf pd hlen) hst (by show 2 * 0 + _ ≤ _; rw [Nat.mul_zero, Nat.zero_add]; exact hW) (hb hby hd) (fun _ _ => ⟨has, eT, hc, hs⟩)
  dsimp only at X' hLL hcc hnn st hq
  obtain ⟨N', K'⟩ := hQ _ _ _ hq
  exact (k v U U.heap L (Pos.afterB hR hZ hown hS hk hC N K O X' hLL hcc hnn N' K' hws hsafe) hq).of (fun t q => st.trans q)
theorem Pos.alen (P : Pos p l e R s m args below meth c own nm bytes ml rt Z a0 EL h0 ws T h cells slots) {a : Addr} {kc : ClassId} {ty : FieldType} {z : Int32} {vs : List Value} {dv : Value} (A : Arv Z h a kc ty z vs dv) (hd : decode bytes pc = .ok (.arraylength, 1))
    (g : Go p e below Q (T.setTop (mkF m (pc + 1) Ls (.int z :: rest)))) : Go p e below Q (T.setTop (mkF m pc Ls (.ref a :: rest))) := by
  obtain ⟨vm0, k0, locs, X, ⟨hx, hby, hml, hret, hlk, hnm, hh, hEL, hZs⟩, hZ, hown, hS, hk, eT, -⟩ := P
  obtain ⟨cl, Ar, q1, S, N, -, -⟩ := A
  exact g.of fun t k => X.arraylength hx (by rw [eT]; exact Ar.1) (State.isArrayOf_alike (T := s.setVm vm0) hZ.alike Ar.2.1) (g := mkF m pc Ls (.ref a :: rest)) rfl rfl (hb hby hd) _ (by rw [len_of S N]; exact k)
theorem Pos.ldc2 (P : Pos p l e R s m args below meth c own nm bytes ml rt Z a0 EL h0 ws T h cells slots) {index : Nat} {v : Int64} (w : (Jvm.Cond.constantLong own index v).before a0 Z = true) (hd : decode bytes pc = .ok (.ldc2_w index, 3))
    (g : Go p e below Q (T.setTop (mkF m (pc + 3) Ls (.long v :: rest)))) : Go p e below Q (T.setTop (mkF m pc Ls rest)) := by
  obtain ⟨vm0, k0, locs, X, ⟨hx, hby, hml, hret, hlk, hnm, hh, hEL, hZs⟩, hZ, hown, -⟩ := P
  exact g.of fun t k => X.ldc2Long hx hown (mvT (s := s.setVm vm0) hZ w) (g := mkF m pc Ls rest) rfl (hb hby hd) _ k
theorem Pos.ldcI (P : Pos p l e R s m args below meth c own nm bytes ml rt Z a0 EL h0 ws T h cells slots) {index : Nat} {v : Int32} (w : (Jvm.Cond.constant own index v).before a0 Z = true) (hd : decode bytes pc = .ok (.ldc index, 2))
    (g : Go p e below Q (T.setTop (mkF m (pc + 2) Ls (.int v :: rest)))) : Go p e below Q (T.setTop (mkF m pc Ls rest)) := by
  obtain ⟨vm0, k0, locs, X, ⟨hx, hby, hml, hret, hlk, hnm, hh, hEL, hZs⟩, hZ, hown, -⟩ := P
  exact g.of fun t k => X.ldcInt hx hown (mvT (s := s.setVm vm0) hZ w) (g := mkF m pc Ls rest) rfl (hb hby hd) _ k
theorem Pos.aald (P : Pos p l e R s m args below meth c own nm bytes ml rt Z a0 EL h0 ws T h cells slots) {a : Addr} {kc : ClassId} {ty : FieldType} {z j : Int32} {vs : List Value} {dv v : Value} (A : Arv Z h a kc ty z vs dv) (hty : ty.isReference = true) (hj0 : ¬ j < 0) (hlt : j.toNatClampNeg < z.toNatClampNeg) (hv : vs.getD j.toNatClampNeg dv = v) (hd : decode bytes pc = .ok (.aaload, 1))
    (g : Go p e below Q (T.setTop (mkF m (pc + 1) Ls (v :: rest)))) : Go p e below Q (T.setTop (mkF m pc Ls (.int j :: .ref a :: rest))) := by
  obtain ⟨vm0, k0, locs, X, ⟨hx, hby, hml, hret, hlk, hnm, hh, hEL, hZs⟩, hZ, hown, hS, hk, eT, -⟩ := P
  obtain ⟨cl, Ar, q1, S, N, H, -⟩ := A
  have hin : ¬ (j < 0 ∨ cl.slots.size ≤ j.toNatClampNeg) := inb rfl hj0 S hlt
  exact g.of fun t k => X.aaload hx (by rw [eT]; exact Ar.1) (State.isArrayOf_alike (T := s.setVm vm0) hZ.alike Ar.2.1) hty Ar.2.2 hin (H.at hin hv) (g := mkF m pc Ls (.int j :: .ref a :: rest)) rfl rfl (hb hby hd) _ k
theorem Pos.cald (P : Pos p l e R s m args below meth c own nm bytes ml rt Z a0 EL h0 ws T h cells slots) {a : Addr} {kc : ClassId} {z j : Int32} {vs : List Value} {dv v : Value} (A : Arv Z h a kc .char z vs dv) (hj0 : ¬ j < 0) (hlt : j.toNatClampNeg < z.toNatClampNeg) (hv : vs.getD j.toNatClampNeg dv = v) (hd : decode bytes pc = .ok (.caload, 1))
    (g : Go p e below Q (T.setTop (mkF m (pc + 1) Ls (v :: rest)))) : Go p e below Q (T.setTop (mkF m pc Ls (.int j :: .ref a :: rest))) := by
  obtain ⟨vm0, k0, locs, X, ⟨hx, hby, hml, hret, hlk, hnm, hh, hEL, hZs⟩, hZ, hown, hS, hk, eT, -⟩ := P
  obtain ⟨cl, Ar, q1, S, N, H, -⟩ := A
  have hin : ¬ (j < 0 ∨ cl.slots.size ≤ j.toNatClampNeg) := inb rfl hj0 S hlt
  exact g.of fun t k => X.caload hx (by rw [eT]; exact Ar.1) (State.isArrayOf_alike (T := s.setVm vm0) hZ.alike Ar.2.1) Ar.2.2 hin (H.at hin hv) (g := mkF m pc Ls (.int j :: .ref a :: rest)) rfl rfl (hb hby hd) _ k
/-- a new byte array: it is no literal's -/
theorem Pos.newPB (P : Pos p l e R s m args below meth c own nm bytes ml rt Z a0 EL h0 ws T h cells slots) {n : Int32} {cap : Nat} (w : (Jvm.Cond.arrayClass .byte).before a0 Z = true) (hd : decode bytes pc = .ok (.newarray .byte, 2)) (hn : ¬ n < 0) (hcap : n.toNatClampNeg ≤ cap) (hb8 : cap * 8 ≤ 536870912) (hc : cells + 1 ≤ R.cells) (hl : slots + cap ≤ R.slots)
    (k : ∀ T' h' x cA vm, x = h.size → PosV p l e R s m args below meth c own nm bytes ml rt Z a0 EL h0 ws T' h' (cells + 1) (slots + cap) vm → Safe Z EL vm h' x → Ext h h' → Arv Z h' x cA .byte n [] (.int 0) → Go p e below Q (T'.setTop (mkF m (pc + 2) Ls (.ref x :: rest)))) : Go p e below Q (T.setTop (mkF m pc Ls (.int n :: rest))) := by
  obtain ⟨vm0, k0, locs, X, ⟨hx, hby, hml, hret, hlk, hnm, hh, hEL, hZs⟩, hZ, hown, hS, hk, eT, hC, N, K, O⟩ := P
  obtain ⟨T', h', cA, X', e', E, A, st⟩ := Jvm.RoadKit.newP (aty := .byte) X hx hZ w eT (g := mkF m pc Ls (.int n :: rest)) rfl (hb hby hd) rfl hn hcap hb8 hc hl
  exact (k T' h' _ cA vm0 rfl ⟨k0, locs, X', ⟨hx, hby, hml, hret, hlk, hnm, hh, hEL, hZs⟩, hZ, hown, hS, Nat.le_trans hk E.1, e', hC.trans (CHr.ext E hC.1), N, K.ext E, ⟨Nat.le_trans O.1 E.1, fun a c q => E.2 _ _ (O.2 _ _ q)⟩⟩ (Safe.ext E hC.1 (Safe.new (Nat.le_refl _))) E (Arv.new A hn)).of st
theorem posStB {vm : Vm} (P : PosV p l e R s m args below meth c own nm bytes ml rt Z a0 EL h0 ws T h cells slots vm) {a : Addr} {kc : ClassId} {z j x x' : Int32} {vs : List Value} {dv : Value} (hsf : Safe Z EL vm h a) (A : Arv Z h a kc .byte z vs dv) (i : Nat) (hj : j.toNatClampNeg = i) (hj0 : ¬ j < 0) (hlt : i < z.toNatClampNeg) (hi : i < vs.length) (hx' : nar .byte x = x') (hd : decode bytes pc = .ok (.bastore, 1)) (hz : Z.heap.size ≤ a) (hws : a ∈ ws ∨ h0.size ≤ a)
    (k : ∀ T' h', Pos p l e R s m args below meth c own nm bytes ml rt Z a0 EL h0 ws T' h' cells slots → Wr h h' a j.toNatClampNeg (.int x') → Arv Z h' a kc .byte z (vs.set i (.int x')) dv → Go p e below Q (T'.setTop (mkF m (pc + 1) Ls rest))) : Go p e below Q (T.setTop (mkF m pc Ls (.int x :: .int j :: .ref a :: rest))) := by
  obtain ⟨cl, Ar, q1, S, N', H, G⟩ := A
  subst hx'
  obtain ⟨k0, locs, X, ⟨hx, hby, hml, hret, hlk, hnm, hh, hEL, hZs⟩, hZ, hown, hS, hk, eT, hC, N, K, O⟩ := P
  obtain ⟨T', h', X', e', W, st⟩ := Jvm.RoadKit.stB X hx hZ eT Ar (inb hj hj0 S hlt) (g := mkF m pc Ls (.int x :: .int j :: .ref a :: rest)) rfl rfl (hb hby hd)
  exact (k T' h' ⟨vm, k0, _, X', ⟨hx, hby, hml, hret, hlk, hnm, hh, hEL, hZs⟩, hZ, hown, hS, Nat.le_trans hk (Nat.le_of_eq W.size.symm), e', hC.trans (CHr.wr W hsf hC.1), Fr.snoc X' N hz, K.wr W hws, (Old.wr (n0 := Z.heap.size) ⟨rfl, O⟩ W hz).2⟩ W (Arv.set Ar q1 S N' H G (fits_nar_byte x) W i hj hi)).of st
end Own
section Own2
theorem nin0 {x : Addr} : x ∉ ([] : List Addr) := fun q => nomatch q
theorem ninS {x a : Addr} {ws : List Addr} (h : x ≠ a) (r : x ∉ ws) : x ∉ a :: ws := fun q => (List.mem_cons.mp q).elim h r
theorem narR {t : FieldType} {v : Value} (h : v.isRef = true) : narrow t v = v := by cases v <;> first | (simp [Value.isRef] at h; done) | (cases t <;> rfl)
theorem fitR {C : String} {v : Value} (h : v.isRef = true) : fits (.object C) v = true := by cases v <;> first | (simp [Value.isRef] at h; done) | rfl
theorem mask255 (x : Int32) : ∃ k : Fin 256, (x &&& 255) = Int32.ofNat k.val := by
  have h : (x &&& 255).toBitVec.toNat < 256 := by
    simp only [Int32.toBitVec_and, BitVec.toNat_and]
    exact Nat.lt_succ_of_le Nat.and_le_right
  refine ⟨⟨_, h⟩, ?_⟩
  apply Int32.toBitVec_inj.mp
  show _ = BitVec.ofNat 32 _
  rw [BitVec.ofNat_toNat]; simp
/-- (char) (x & 255): from 0 to 255, and a char -/
theorem chr255 {x y : Int32} (h : ((x &&& (255 : Int32)).toUInt32.toUInt16.toUInt32.toInt32) = y) : (¬ y < 0 ∧ ¬ (255 : Int32) < y) ∧ nar .char y = y := by
  subst h
  have t : ∀ k : Fin 256, (¬ ((Int32.ofNat k.val).toUInt32.toUInt16.toUInt32.toInt32) < 0 ∧ ¬ (255 : Int32) < ((Int32.ofNat k.val).toUInt32.toUInt16.toUInt32.toInt32)) ∧ nar .char ((Int32.ofNat k.val).toUInt32.toUInt16.toUInt32.toInt32) = ((Int32.ofNat k.val).toUInt32.toUInt16.toUInt32.toInt32) := by decide +kernel
  obtain ⟨k, e⟩ := mask255 x
  rw [e]; exact t k
theorem upC (cs : List Int32) (h : ∀ c ∈ cs, ¬ c < 0 ∧ ¬ (255 : Int32) < c) : ∀ c ∈ cs, ¬ c < 0 ∧ ¬ (65535 : Int32) < c := fun c hc => ⟨(h c hc).1, fun q => (h c hc).2 (by rw [Int32.lt_iff_toInt_lt] at q ⊢; have e1 : (65535 : Int32).toInt = 65535 := rfl; have e2 : (255 : Int32).toInt = 255 := rfl; omega)⟩
theorem lat0 : ∀ c ∈ ([] : List Int32), ¬ c < 0 ∧ ¬ (255 : Int32) < c := fun _ q => nomatch q
theorem latS {x : Int32} {cs : List Int32} (h : ¬ x < 0 ∧ ¬ (255 : Int32) < x) (r : ∀ c ∈ cs, ¬ c < 0 ∧ ¬ (255 : Int32) < c) : ∀ c ∈ x :: cs, ¬ c < 0 ∧ ¬ (255 : Int32) < c := fun c q => (List.mem_cons.mp q).elim (fun e => e ▸ h) (r c)
/-- a String whose value is not laid yet is no literal -/
theorem safeNull {Z : State} {EL : List (String × Nat)} {vm : Vm} {h : Heap} {x : Addr} (hal : Z.vm.Alike vm) (E : Exa Z h x "java/lang/String") (F : Fld Z h x "java/lang/String" "value" "[B" .null) : Safe Z EL vm h x := fun B => by
  obtain ⟨cell, k, e1, e2, e3, -, -⟩ := E
  obtain ⟨cell', cf, kf, i, f, f1, f2, f3, f4, f5, f6, f7⟩ := F
  cases e1.symm.trans f1
  obtain ⟨p, -, u, a, -, q, -, G, rfl | rfl⟩ := B
  · cases (show h[q.sa]? = some q.sC from G.ha).symm.trans e1
    obtain ⟨cS, ⟨⟨-, -, -, ⟨c1, k1, i1, g1, -⟩, -, -, -, v1, -⟩, -⟩, -⟩ := G
    obtain ⟨k', z⟩ := ff_back (U := Wst Z vm h) hal g1
    have e4 := z.symm.trans f2
    simp only [Option.some.injEq, Prod.mk.injEq] at e4
    rw [e4.2.2.2, f7] at v1
    cases v1
  · cases (show h[q.sd]? = some q.SA from G.hd).symm.trans e1
    obtain ⟨cS, -, -, g, -⟩ := G
    have g' : vm.findClass "[B" = some q.SA.cls := g
    rw [hal.findClass] at g'
    obtain ⟨k1, q1, q2⟩ := Vm.findClass_spec g'
    obtain ⟨k2, q3, q4⟩ := Vm.findClass_spec e2
    cases q1.symm.trans q3
    exact absurd (q2.symm.trans q4) (by decide)
theorem safe1 {Z : State} {EL : List (String × Nat)} {vm : Vm} {h : Heap} {x : Addr} (S : Safe Z EL vm h x) : ∀ y ∈ [x], Safe Z EL vm h y := fun y q => by cases List.mem_singleton.mp q; exact S
theorem ieq {x y : Int32} (h : x.toInt = y.toInt) : x = y := Int32.toInt_inj.mp h
theorem narB (x : Int32) : nar .byte (x.toInt8.toInt32) = x.toInt8.toInt32 := by simp [nar]
end Own2
section Own3
/-- x is a String of the chars cs -/
def Str (Z : State) (h : Heap) (x : Addr) (cs : List Int32) : Prop := Exa Z h x "java/lang/String" ∧ (∀ c ∈ cs, ¬ c < 0 ∧ ¬ (65535 : Int32) < c) ∧ cs.length ≤ 4000 ∧ ∃ (t : Addr) (kb : ClassId) (cd N2 : Int32) (vs : List Value), Fld Z h x "java/lang/String" "value" "[B" (.ref t) ∧ Fld Z h x "java/lang/String" "coder" "B" (.int cd) ∧ Arv Z h t kb .byte N2 vs (.int 0) ∧ StrChars.Road.CodA cs cd N2 vs
/-- a is no byte array -/
def NB (Z : State) (h : Heap) (a : Addr) : Prop := (∃ (C : String) (n : Nat) (a0 : Array Value), Exa Z h a C ∧ (Jvm.Cond.instantiable C n).before a0 Z = true) ∨ ∃ (cl : Cell) (ty : FieldType), Arr Z h a cl ty ∧ ty ≠ .byte
theorem NB.ne {Z : State} {h : Heap} {a t : Addr} {k : ClassId} {z : Int32} {vs : List Value} {d : Value} (N : NB Z h a) (A : Arv Z h t k .byte z vs d) : t ≠ a := by
  rcases N with ⟨C, n, a0, E, w⟩ | ⟨cl, ty, B, hty⟩
  · exact Ne.symm (Exa.neArv E A w)
  · rintro rfl
    obtain ⟨cl', ⟨A1, ⟨-, kA, hkA, compA, hkindA⟩, -⟩, -⟩ := A
    obtain ⟨B1, ⟨-, kB, hkB, compB, hkindB⟩, -⟩ := B
    cases A1.symm.trans B1
    cases hkA.symm.trans hkB
    have := hkindA.symm.trans hkindB
    injection this with _ e
    exact hty e.symm
theorem nbE {Z : State} {h : Heap} {a : Addr} {C : String} {n : Nat} {a0 : Array Value} (E : Exa Z h a C) (w : (Jvm.Cond.instantiable C n).before a0 Z = true) : NB Z h a := Or.inl ⟨C, n, a0, E, w⟩
theorem nbA {Z : State} {h : Heap} {a : Addr} {k : ClassId} {ty : FieldType} {z : Int32} {vs : List Value} {d : Value} (A : Arv Z h a k ty z vs d) (q : ty ≠ .byte) : NB Z h a := by obtain ⟨cl, B, -⟩ := A; exact Or.inr ⟨cl, ty, B, q⟩
theorem Str.lt {Z : State} {h : Heap} {x : Addr} {cs : List Int32} (S : Str Z h x cs) : x < h.size := S.1.lt
theorem Str.ext {Z : State} {h h' : Heap} {x : Addr} {cs : List Int32} (S : Str Z h x cs) (E : Ext h h') : Str Z h' x cs := by
  obtain ⟨s1, s2, s3, t, kb, cd, N2, vs, s4, s5, s6, s7⟩ := S
  exact ⟨s1.ext E, s2, s3, t, kb, cd, N2, vs, s4.ext E, s5.ext E, s6.ext E, s7⟩
theorem Str.keep {Z : State} {h h' : Heap} {x : Addr} {cs : List Int32} {ws : List Addr} (S : Str Z h x cs) (K : Keep h h' ws) (q : ∀ a ∈ ws, x ≠ a ∧ NB Z h a) : Str Z h' x cs := by
  obtain ⟨s1, s2, s3, t, kb, cd, N2, vs, s4, s5, s6, s7⟩ := S
  have n1 : x ∉ ws := fun m => (q x m).1 rfl
  have n2 : t ∉ ws := fun m => (q t m).2.ne s6 rfl
  exact ⟨s1.keep K, s2, s3, t, kb, cd, N2, vs, s4.keep K n1, s5.keep K n1, s6.keep K n2, s7⟩
theorem Str.wr {Z : State} {h h' : Heap} {x a : Addr} {cs : List Int32} {sl : Nat} {v : Value} (S : Str Z h x cs) (W : Wr h h' a sl v) (q1 : x ≠ a) (q2 : NB Z h a) : Str Z h' x cs := S.keep (Keep.of_wr W) (allS ⟨q1, q2⟩ all0)
theorem strOf {Z : State} {h : Heap} {x t : Addr} {kb : ClassId} {cs : List Int32} {n : Nat} (hn : cs.length = n) (hb : ∀ c ∈ cs, ¬ c < 0 ∧ ¬ (255 : Int32) < c) (h4 : n ≤ 4000) (E : Exa Z h x "java/lang/String") (C : Fld Z h x "java/lang/String" "coder" "B" (.int 0)) (V : Fld Z h x "java/lang/String" "value" "[B" (.ref t)) (B : Arv Z h t kb .byte (Int32.ofNat n) ((cs.map (fun c => c.toInt8.toInt32)).map Value.int) (.int 0)) : Str Z h x cs :=
  ⟨E, upC cs hb, by rw [hn]; exact h4, t, kb, 0, _, _, V, C, B, StrChars.Road.codOf hn (fun c hc => (hb c hc).2)⟩
theorem strE {Z : State} {h : Heap} {x t : Addr} {kb : ClassId} (E : Exa Z h x "java/lang/String") (C : Fld Z h x "java/lang/String" "coder" "B" (.int 0)) (V : Fld Z h x "java/lang/String" "value" "[B" (.ref t)) (B : Arv Z h t kb .byte (0 : Int32) [] (.int 0)) : Str Z h x [] :=
  strOf (n := 0) rfl lat0 (by decide) E C V B
end Own3
section Own4
variable {p : Program} {l : Launch} {e : Env} {R rm : Room} {s : State} {m : MethodId} {args : Array Value} {below : List Frame} {meth : Method} {c : Code} {own nm : String} {bytes : ByteArray} {ml : Nat} {rt : Option FieldType} {Z : State} {a0 : Array Value} {EL : List (String × Nat)} {h0 : Heap} {ws : List Addr} {T : State} {h h' : Heap} {cells slots : Nat} {Q : Outcome → State → Prop} {pc : Nat} {Ls : Array Slot} {rest : List Value}
/-- equals of two Strings of known chars -/
theorem Pos.strEq (P : Pos p l e R s m args below meth c own nm bytes ml rt Z a0 EL h0 ws T h cells slots) {index W : Nat} {x y : Addr} {cs ds : List Int32} {zc : Int32} {ps : List FieldType} {r : Option FieldType} {C : String}
    (w1 : (Jvm.Cond.methodLink own index (⟨C, "equals", "(Ljava/lang/Object;)Z"⟩ : MethodName)).before a0 Z = true) (w2 : (Jvm.Cond.declares (⟨C, "equals", "(Ljava/lang/Object;)Z"⟩ : MethodName)).before a0 Z = true) (w5 : (Jvm.Cond.selects "java/lang/String" (⟨C, "equals", "(Ljava/lang/Object;)Z"⟩ : MethodName) (⟨"java/lang/String", "equals", "(Ljava/lang/Object;)Z"⟩ : MethodName)).before a0 Z = true) (hnf : ∀ vm0, Z.Warmed39 vm0 → NotFace (s.setVm vm0) (⟨C, "equals", "(Ljava/lang/Object;)Z"⟩ : MethodName)) (w6 : (Jvm.Cond.instanceMethod (⟨"java/lang/String", "equals", "(Ljava/lang/Object;)Z"⟩ : MethodName)).before a0 Z = true) (hy : C ≠ "java/lang/invoke/MethodHandle" ∧ C ≠ "java/lang/invoke/VarHandle")
    (wq : ∀ d ∈ StrChars.Road.wordsEq, d.before a0 Z = true) (wi : (Jvm.Cond.instantiable "java/lang/String" 4).before a0 Z = true) (S0 : Sta Z Z.heap "java/lang/String" "COMPACT_STRINGS" "Z" (.int zc)) (Pz : ¬ zc = 0) (S1 : Str Z h x cs) (S2 : Str Z h y ds)
    (hf : 2 ≤ R.frames) (hl : W + 28 ≤ R.locals) (hc : cells + 0 ≤ R.cells) (hs : slots + 0 ≤ R.slots) (pd : parseMethodDescriptor "(Ljava/lang/Object;)Z" = some ⟨ps, r⟩) (hlen : 1 = ps.length) (hsz : Ls.size = ml) (hW : (rest.map fun v => v.category).sum ≤ W) (hd : decode bytes pc = .ok (.invokevirtual index, 3))
    (k1 : ∀ T', Pos p l e R s m args below meth c own nm bytes ml rt Z a0 EL h0 ws T' h cells slots → cs = ds → Go p e below Q (T'.setTop (mkF m (pc + 3) Ls (.int 1 :: rest))))
    (k0 : ∀ T', Pos p l e R s m args below meth c own nm bytes ml rt Z a0 EL h0 ws T' h cells slots → ¬ cs = ds → Go p e below Q (T'.setTop (mkF m (pc + 3) Ls (.int 0 :: rest)))) : Go p e below Q (T.setTop (mkF m pc Ls (.ref y :: .ref x :: rest))) := by
  have O := P.old
  obtain ⟨e1, b1, l1, t1, kb1, c1, n1, v1, F1, G1, A1, D1⟩ := S1
  obtain ⟨e2, b2, l2, t2, kb2, c2, n2, v2, F2, G2, A2, D2⟩ := S2
  refine P.virtB (W := W) (ws' := []) (Qx := fun v h' L => ((v = some (.int 1) ∧ cs = ds) ∨ (v = some (.int 0) ∧ ¬ cs = ds)) ∧ L = [] ∧ h' = h) w1 w2 w5 hnf w6 hy e1 (fun vm0 hZ => StrChars.Road.eqW (W := W) hZ wq (kI := 4) wi e1 F1 G1 A1 D1 b1 l1 e2 F2 G2 A2 D2 b2 l2 (S0.ext O) Pz hf hl) (argsL := [.ref y]) rfl (fun v h' L q => ⟨by rw [q.2.1]; exact Fr.nil _, by rw [q.2.2]; exact Keep.refl _ _⟩) hc hs all0 (fun _ _ _ _ => all0) pd hlen rfl hsz hW hd ?_
  intro v T' h' L P' q
  obtain ⟨q, -, hh⟩ := q
  rw [hh] at P'
  rcases q with ⟨rfl, q⟩ | ⟨rfl, q⟩
  · exact k1 T' P' q
  · exact k0 T' P' q
end Own4
section Own5
variable {p : Program} {l : Launch} {e : Env} {R rm : Room} {s : State} {m : MethodId} {args : Array Value} {below : List Frame} {meth : Method} {c : Code} {own nm : String} {bytes : ByteArray} {ml : Nat} {rt : Option FieldType} {Z : State} {a0 : Array Value} {EL : List (String × Nat)} {h0 : Heap} {ws : List Addr} {T : State} {h h' : Heap} {cells slots : Nat} {Q : Outcome → State → Prop} {pc : Nat} {Ls : Array Slot} {rest : List Value}
theorem noAsg {C S K : String} {n : Nat} (w : (Jvm.Cond.superclass C S).before a0 Z = true) (wr : (Jvm.Cond.noSuperclass S).before a0 Z = true) (wi : (Jvm.Cond.instantiable K n).before a0 Z = true) (h1 : C ≠ K) (h2 : S ≠ K) : ∃ c t, Z.vm.findClass C = some c ∧ Z.vm.findClass K = some t ∧ Z.vm.assignable c t = false := by
  obtain ⟨t, kt, g1, g2, g3, g4, -, -⟩ := Cond.instantiable_spec wi
  obtain ⟨c, f0⟩ := found_sup w
  obtain ⟨p, k, kp, f1, f2, f3, f4, f5, f6, f7⟩ := Cond.superclass_spec f0 w
  obtain ⟨o, ko, r1, r2, r3, r4, r5⟩ := Cond.noSuperclass_spec wr
  obtain rfl : o = p := Option.some.inj (r1.symm.trans f1)
  have n1 := ids_ne f0 g1 h1
  have n2 := ids_ne f1 g1 h2
  have hi : kt.isInterface = false := by
    cases hq : kt.isInterface with
    | false => rfl
    | true => rw [hq] at g4; simp at g4
  have n4 : ∀ fuel, Z.vm.isSubclassAux fuel o t = false := fun fuel => by
    cases fuel with
    | zero => rfl
    | succ f => simp [Vm.isSubclassAux, n2, r2, r3]
  have n3 : ∀ fuel, Z.vm.isSubclassAux fuel c t = false := fun fuel => by
    cases fuel with
    | zero => rfl
    | succ f => simp [Vm.isSubclassAux, n1, f2, f4, n4]
  refine ⟨c, t, f0, g1, ?_⟩
  show Z.vm.assignableAux (255 + 1) c t = false
  simp [Vm.assignableAux, n1, f2, g2, f5, g3, hi, Vm.isSubclass, n3]
theorem Pos.instN (P : Pos p l e R s m args below meth c own nm bytes ml rt Z a0 EL h0 ws T h cells slots) {K C : String} {index : Nat} (w : (Jvm.Cond.classLink own index K).before a0 Z = true) {a : Addr} (E : Exa Z h a C) (F : ∃ c t, Z.vm.findClass C = some c ∧ Z.vm.findClass K = some t ∧ Z.vm.assignable c t = false) (hd : decode bytes pc = .ok (.instanceof index, 3))
    (k : ∀ T', Pos p l e R s m args below meth c own nm bytes ml rt Z a0 EL h0 ws T' h cells slots → Go p e below Q (T'.setTop (mkF m (pc + 3) Ls (.int 0 :: rest)))) : Go p e below Q (T.setTop (mkF m pc Ls (.ref a :: rest))) :=
  P.same (V := fun T' => T'.setTop (mkF m (pc + 3) Ls (.int 0 :: rest))) (fun vm0 locs X hx hby hml hZ hown eT => instNo X hx hZ hown w eT E F (g := mkF m pc Ls (.ref a :: rest)) rfl rfl (hb hby hd)) k
theorem Pos.inst0 (P : Pos p l e R s m args below meth c own nm bytes ml rt Z a0 EL h0 ws T h cells slots) {index : Nat} (hd : decode bytes pc = .ok (.instanceof index, 3))
    (g : Go p e below Q (T.setTop (mkF m (pc + 3) Ls (.int 0 :: rest)))) : Go p e below Q (T.setTop (mkF m pc Ls (.null :: rest))) :=
  P.st (fun vm0 locs X hx hy t k => X.instanceofNull hx (g := mkF m pc Ls (.null :: rest)) rfl rfl (hb hy hd) _ k) g
end Own5
theorem wSt {Z : State} {a0 : Array Value} (hw : ∀ d ∈ tables_1, d.before a0 Z = true) : ∀ d ∈ Bundle.stringAtoms, d.before a0 Z = true := fun d hd => hw d ((by decide +kernel : ∀ d ∈ Bundle.stringAtoms, d ∈ tables_1) d hd)
theorem wStr {Z : State} {a0 : Array Value} (hw : ∀ d ∈ tables_1, d.before a0 Z = true) : ∀ d ∈ StrChars.Road.words, d.before a0 Z = true := fun d hd => hw d ((by decide +kernel : ∀ d ∈ StrChars.Road.words, d ∈ tables_1) d hd)
theorem wEq {Z : State} {a0 : Array Value} (hw : ∀ d ∈ tables_1, d.before a0 Z = true) : ∀ d ∈ StrChars.Road.wordsEq, d.before a0 Z = true := fun d hd => hw d ((by decide +kernel : ∀ d ∈ StrChars.Road.wordsEq, d ∈ tables_1) d hd)
theorem d1_0 : decode method_3_code 0 = .ok (.bipush 19, 2) := by decide +kernel
theorem d1_2 : decode method_3_code 2 = .ok (.anewarray 12, 3) := by decide +kernel
theorem d1_5 : decode method_3_code 5 = .ok (.dup, 1) := by decide +kernel
theorem d1_6 : decode method_3_code 6 = .ok (.iconst 0, 1) := by decide +kernel
theorem d1_7 : decode method_3_code 7 = .ok (.getstatic 14, 3) := by decide +kernel
theorem d1_10 : decode method_3_code 10 = .ok (.aastore, 1) := by decide +kernel
theorem d1_11 : decode method_3_code 11 = .ok (.dup, 1) := by decide +kernel
theorem d1_12 : decode method_3_code 12 = .ok (.iconst 1, 1) := by decide +kernel
theorem d1_13 : decode method_3_code 13 = .ok (.getstatic 18, 3) := by decide +kernel
theorem d1_16 : decode method_3_code 16 = .ok (.aastore, 1) := by decide +kernel
theorem d1_17 : decode method_3_code 17 = .ok (.dup, 1) := by decide +kernel
theorem d1_18 : decode method_3_code 18 = .ok (.iconst 2, 1) := by decide +kernel
theorem d1_19 : decode method_3_code 19 = .ok (.getstatic 21, 3) := by decide +kernel
theorem d1_22 : decode method_3_code 22 = .ok (.aastore, 1) := by decide +kernel
theorem d1_23 : decode method_3_code 23 = .ok (.dup, 1) := by decide +kernel
theorem d1_24 : decode method_3_code 24 = .ok (.iconst 3, 1) := by decide +kernel
theorem d1_25 : decode method_3_code 25 = .ok (.getstatic 24, 3) := by decide +kernel
theorem d1_28 : decode method_3_code 28 = .ok (.aastore, 1) := by decide +kernel
theorem d1_29 : decode method_3_code 29 = .ok (.dup, 1) := by decide +kernel
theorem d1_30 : decode method_3_code 30 = .ok (.iconst 4, 1) := by decide +kernel
theorem d1_31 : decode method_3_code 31 = .ok (.getstatic 27, 3) := by decide +kernel
theorem d1_34 : decode method_3_code 34 = .ok (.aastore, 1) := by decide +kernel
theorem d1_35 : decode method_3_code 35 = .ok (.dup, 1) := by decide +kernel
theorem d1_36 : decode method_3_code 36 = .ok (.iconst 5, 1) := by decide +kernel
theorem d1_37 : decode method_3_code 37 = .ok (.getstatic 30, 3) := by decide +kernel
theorem d1_40 : decode method_3_code 40 = .ok (.aastore, 1) := by decide +kernel
theorem d1_41 : decode method_3_code 41 = .ok (.dup, 1) := by decide +kernel
theorem d1_42 : decode method_3_code 42 = .ok (.bipush 6, 2) := by decide +kernel
theorem d1_44 : decode method_3_code 44 = .ok (.getstatic 33, 3) := by decide +kernel
theorem d1_47 : decode method_3_code 47 = .ok (.aastore, 1) := by decide +kernel
theorem d1_48 : decode method_3_code 48 = .ok (.dup, 1) := by decide +kernel
theorem d1_49 : decode method_3_code 49 = .ok (.bipush 7, 2) := by decide +kernel
theorem d1_51 : decode method_3_code 51 = .ok (.getstatic 36, 3) := by decide +kernel
theorem d1_54 : decode method_3_code 54 = .ok (.aastore, 1) := by decide +kernel
theorem d1_55 : decode method_3_code 55 = .ok (.dup, 1) := by decide +kernel
theorem d1_56 : decode method_3_code 56 = .ok (.bipush 8, 2) := by decide +kernel
theorem d1_58 : decode method_3_code 58 = .ok (.getstatic 39, 3) := by decide +kernel
theorem d1_61 : decode method_3_code 61 = .ok (.aastore, 1) := by decide +kernel
theorem d1_62 : decode method_3_code 62 = .ok (.dup, 1) := by decide +kernel
theorem d1_63 : decode method_3_code 63 = .ok (.bipush 9, 2) := by decide +kernel
theorem d1_65 : decode method_3_code 65 = .ok (.getstatic 42, 3) := by decide +kernel
theorem d1_68 : decode method_3_code 68 = .ok (.aastore, 1) := by decide +kernel
theorem d1_69 : decode method_3_code 69 = .ok (.dup, 1) := by decide +kernel
theorem d1_70 : decode method_3_code 70 = .ok (.bipush 10, 2) := by decide +kernel
theorem d1_72 : decode method_3_code 72 = .ok (.getstatic 45, 3) := by decide +kernel
theorem d1_75 : decode method_3_code 75 = .ok (.aastore, 1) := by decide +kernel
theorem d1_76 : decode method_3_code 76 = .ok (.dup, 1) := by decide +kernel
theorem d1_77 : decode method_3_code 77 = .ok (.bipush 11, 2) := by decide +kernel
theorem d1_79 : decode method_3_code 79 = .ok (.getstatic 48, 3) := by decide +kernel
theorem d1_82 : decode method_3_code 82 = .ok (.aastore, 1) := by decide +kernel
theorem d1_83 : decode method_3_code 83 = .ok (.dup, 1) := by decide +kernel
theorem d1_84 : decode method_3_code 84 = .ok (.bipush 12, 2) := by decide +kernel
theorem d1_86 : decode method_3_code 86 = .ok (.getstatic 51, 3) := by decide +kernel
theorem d1_89 : decode method_3_code 89 = .ok (.aastore, 1) := by decide +kernel
theorem d1_90 : decode method_3_code 90 = .ok (.dup, 1) := by decide +kernel
theorem d1_91 : decode method_3_code 91 = .ok (.bipush 13, 2) := by decide +kernel
theorem d1_93 : decode method_3_code 93 = .ok (.getstatic 54, 3) := by decide +kernel
theorem d1_96 : decode method_3_code 96 = .ok (.aastore, 1) := by decide +kernel
theorem d1_97 : decode method_3_code 97 = .ok (.dup, 1) := by decide +kernel
theorem d1_98 : decode method_3_code 98 = .ok (.bipush 14, 2) := by decide +kernel
theorem d1_100 : decode method_3_code 100 = .ok (.getstatic 57, 3) := by decide +kernel
theorem d1_103 : decode method_3_code 103 = .ok (.aastore, 1) := by decide +kernel
theorem d1_104 : decode method_3_code 104 = .ok (.dup, 1) := by decide +kernel
theorem d1_105 : decode method_3_code 105 = .ok (.bipush 15, 2) := by decide +kernel
theorem d1_107 : decode method_3_code 107 = .ok (.getstatic 60, 3) := by decide +kernel
theorem d1_110 : decode method_3_code 110 = .ok (.aastore, 1) := by decide +kernel
theorem d1_111 : decode method_3_code 111 = .ok (.dup, 1) := by decide +kernel
theorem d1_112 : decode method_3_code 112 = .ok (.bipush 16, 2) := by decide +kernel
theorem d1_114 : decode method_3_code 114 = .ok (.getstatic 63, 3) := by decide +kernel
theorem d1_117 : decode method_3_code 117 = .ok (.aastore, 1) := by decide +kernel
theorem d1_118 : decode method_3_code 118 = .ok (.dup, 1) := by decide +kernel
theorem d1_119 : decode method_3_code 119 = .ok (.bipush 17, 2) := by decide +kernel
theorem d1_121 : decode method_3_code 121 = .ok (.getstatic 66, 3) := by decide +kernel
theorem d1_124 : decode method_3_code 124 = .ok (.aastore, 1) := by decide +kernel
theorem d1_125 : decode method_3_code 125 = .ok (.dup, 1) := by decide +kernel
theorem d1_126 : decode method_3_code 126 = .ok (.bipush 18, 2) := by decide +kernel
theorem d1_128 : decode method_3_code 128 = .ok (.getstatic 69, 3) := by decide +kernel
theorem d1_131 : decode method_3_code 131 = .ok (.aastore, 1) := by decide +kernel
theorem d1_132 : decode method_3_code 132 = .ok (.astore_n 1, 1) := by decide +kernel
theorem d1_133 : decode method_3_code 133 = .ok (.aload_n 1, 1) := by decide +kernel
theorem d1_134 : decode method_3_code 134 = .ok (.iload_n 0, 1) := by decide +kernel
theorem d1_135 : decode method_3_code 135 = .ok (.aaload, 1) := by decide +kernel
theorem d1_136 : decode method_3_code 136 = .ok (.areturn, 1) := by decide +kernel
theorem d2_0 : decode method_2_code 0 = .ok (.iload_n 0, 1) := by decide +kernel
theorem d2_1 : decode method_2_code 1 = .ok (.ifCond .ne 14, 3) := by decide +kernel
theorem d2_4 : decode method_2_code 4 = .ok (.new 7, 3) := by decide +kernel
theorem d2_7 : decode method_2_code 7 = .ok (.dup, 1) := by decide +kernel
theorem d2_8 : decode method_2_code 8 = .ok (.iconst 0, 1) := by decide +kernel
theorem d2_9 : decode method_2_code 9 = .ok (.newarray .char, 2) := by decide +kernel
theorem d2_11 : decode method_2_code 11 = .ok (.invokespecial 9, 3) := by decide +kernel
theorem d2_14 : decode method_2_code 14 = .ok (.areturn, 1) := by decide +kernel
theorem d2_15 : decode method_2_code 15 = .ok (.iload_n 0, 1) := by decide +kernel
theorem d2_16 : decode method_2_code 16 = .ok (.iconst 1, 1) := by decide +kernel
theorem d2_17 : decode method_2_code 17 = .ok (.if_icmp .ne 18, 3) := by decide +kernel
theorem d2_20 : decode method_2_code 20 = .ok (.new 7, 3) := by decide +kernel
theorem d2_23 : decode method_2_code 23 = .ok (.dup, 1) := by decide +kernel
theorem d2_24 : decode method_2_code 24 = .ok (.iconst 1, 1) := by decide +kernel
theorem d2_25 : decode method_2_code 25 = .ok (.newarray .char, 2) := by decide +kernel
theorem d2_27 : decode method_2_code 27 = .ok (.dup, 1) := by decide +kernel
theorem d2_28 : decode method_2_code 28 = .ok (.iconst 0, 1) := by decide +kernel
theorem d2_29 : decode method_2_code 29 = .ok (.iload_n 1, 1) := by decide +kernel
theorem d2_30 : decode method_2_code 30 = .ok (.castore, 1) := by decide +kernel
theorem d2_31 : decode method_2_code 31 = .ok (.invokespecial 9, 3) := by decide +kernel
theorem d2_34 : decode method_2_code 34 = .ok (.areturn, 1) := by decide +kernel
theorem d2_35 : decode method_2_code 35 = .ok (.iload_n 0, 1) := by decide +kernel
theorem d2_36 : decode method_2_code 36 = .ok (.iconst 2, 1) := by decide +kernel
theorem d2_37 : decode method_2_code 37 = .ok (.if_icmp .ne 22, 3) := by decide +kernel
theorem d2_40 : decode method_2_code 40 = .ok (.new 7, 3) := by decide +kernel
theorem d2_43 : decode method_2_code 43 = .ok (.dup, 1) := by decide +kernel
theorem d2_44 : decode method_2_code 44 = .ok (.iconst 2, 1) := by decide +kernel
theorem d2_45 : decode method_2_code 45 = .ok (.newarray .char, 2) := by decide +kernel
theorem d2_47 : decode method_2_code 47 = .ok (.dup, 1) := by decide +kernel
theorem d2_48 : decode method_2_code 48 = .ok (.iconst 0, 1) := by decide +kernel
theorem d2_49 : decode method_2_code 49 = .ok (.iload_n 1, 1) := by decide +kernel
theorem d2_50 : decode method_2_code 50 = .ok (.castore, 1) := by decide +kernel
theorem d2_51 : decode method_2_code 51 = .ok (.dup, 1) := by decide +kernel
theorem d2_52 : decode method_2_code 52 = .ok (.iconst 1, 1) := by decide +kernel
theorem d2_53 : decode method_2_code 53 = .ok (.iload_n 2, 1) := by decide +kernel
theorem d2_54 : decode method_2_code 54 = .ok (.castore, 1) := by decide +kernel
theorem d2_55 : decode method_2_code 55 = .ok (.invokespecial 9, 3) := by decide +kernel
theorem d2_58 : decode method_2_code 58 = .ok (.areturn, 1) := by decide +kernel
theorem d2_59 : decode method_2_code 59 = .ok (.new 7, 3) := by decide +kernel
theorem d2_62 : decode method_2_code 62 = .ok (.dup, 1) := by decide +kernel
theorem d2_63 : decode method_2_code 63 = .ok (.iconst 3, 1) := by decide +kernel
theorem d2_64 : decode method_2_code 64 = .ok (.newarray .char, 2) := by decide +kernel
theorem d2_66 : decode method_2_code 66 = .ok (.dup, 1) := by decide +kernel
theorem d2_67 : decode method_2_code 67 = .ok (.iconst 0, 1) := by decide +kernel
theorem d2_68 : decode method_2_code 68 = .ok (.iload_n 1, 1) := by decide +kernel
theorem d2_69 : decode method_2_code 69 = .ok (.castore, 1) := by decide +kernel
theorem d2_70 : decode method_2_code 70 = .ok (.dup, 1) := by decide +kernel
theorem d2_71 : decode method_2_code 71 = .ok (.iconst 1, 1) := by decide +kernel
theorem d2_72 : decode method_2_code 72 = .ok (.iload_n 2, 1) := by decide +kernel
theorem d2_73 : decode method_2_code 73 = .ok (.castore, 1) := by decide +kernel
theorem d2_74 : decode method_2_code 74 = .ok (.dup, 1) := by decide +kernel
theorem d2_75 : decode method_2_code 75 = .ok (.iconst 2, 1) := by decide +kernel
theorem d2_76 : decode method_2_code 76 = .ok (.iload_n 3, 1) := by decide +kernel
theorem d2_77 : decode method_2_code 77 = .ok (.castore, 1) := by decide +kernel
theorem d2_78 : decode method_2_code 78 = .ok (.invokespecial 9, 3) := by decide +kernel
theorem d2_81 : decode method_2_code 81 = .ok (.areturn, 1) := by decide +kernel
theorem d3_0 : decode jdk_42_method_3_code 0 = .ok (.aload_n 0, 1) := by decide +kernel
theorem d3_1 : decode jdk_42_method_3_code 1 = .ok (.aload_n 1, 1) := by decide +kernel
theorem d3_2 : decode jdk_42_method_3_code 2 = .ok (.iconst 0, 1) := by decide +kernel
theorem d3_3 : decode jdk_42_method_3_code 3 = .ok (.aload_n 1, 1) := by decide +kernel
theorem d3_4 : decode jdk_42_method_3_code 4 = .ok (.arraylength, 1) := by decide +kernel
theorem d3_5 : decode jdk_42_method_3_code 5 = .ok (.aconst_null, 1) := by decide +kernel
theorem d3_6 : decode jdk_42_method_3_code 6 = .ok (.invokespecial 27, 3) := by decide +kernel
theorem d3_9 : decode jdk_42_method_3_code 9 = .ok (.return_, 1) := by decide +kernel
theorem d4_0 : decode jdk_42_method_149_code 0 = .ok (.aload_n 0, 1) := by decide +kernel
theorem d4_1 : decode jdk_42_method_149_code 1 = .ok (.invokespecial 1, 3) := by decide +kernel
theorem d4_4 : decode jdk_42_method_149_code 4 = .ok (.iload_n 3, 1) := by decide +kernel
theorem d4_5 : decode jdk_42_method_149_code 5 = .ok (.ifCond .ne 22, 3) := by decide +kernel
theorem d4_8 : decode jdk_42_method_149_code 8 = .ok (.aload_n 0, 1) := by decide +kernel
theorem d4_9 : decode jdk_42_method_149_code 9 = .ok (.ldc 7, 2) := by decide +kernel
theorem d4_11 : decode jdk_42_method_149_code 11 = .ok (.getfield 9, 3) := by decide +kernel
theorem d4_14 : decode jdk_42_method_149_code 14 = .ok (.putfield 9, 3) := by decide +kernel
theorem d4_17 : decode jdk_42_method_149_code 17 = .ok (.aload_n 0, 1) := by decide +kernel
theorem d4_18 : decode jdk_42_method_149_code 18 = .ok (.ldc 7, 2) := by decide +kernel
theorem d4_20 : decode jdk_42_method_149_code 20 = .ok (.getfield 15, 3) := by decide +kernel
theorem d4_23 : decode jdk_42_method_149_code 23 = .ok (.putfield 15, 3) := by decide +kernel
theorem d4_26 : decode jdk_42_method_149_code 26 = .ok (.return_, 1) := by decide +kernel
theorem d9_0 : decode prog_7_method_1_code 0 = .ok (.aload_n 0, 1) := by decide +kernel
theorem d9_1 : decode prog_7_method_1_code 1 = .ok (.invokespecial 1, 3) := by decide +kernel
theorem d9_4 : decode prog_7_method_1_code 4 = .ok (.aload_n 0, 1) := by decide +kernel
theorem d9_5 : decode prog_7_method_1_code 5 = .ok (.aload_n 1, 1) := by decide +kernel
theorem d9_6 : decode prog_7_method_1_code 6 = .ok (.ldc 7, 2) := by decide +kernel
theorem d9_8 : decode prog_7_method_1_code 8 = .ok (.invokestatic 9, 3) := by decide +kernel
theorem d9_11 : decode prog_7_method_1_code 11 = .ok (.checkcast 15, 3) := by decide +kernel
theorem d9_14 : decode prog_7_method_1_code 14 = .ok (.putfield 17, 3) := by decide +kernel
theorem d9_17 : decode prog_7_method_1_code 17 = .ok (.aload_n 0, 1) := by decide +kernel
theorem d9_18 : decode prog_7_method_1_code 18 = .ok (.aload_n 2, 1) := by decide +kernel
theorem d9_19 : decode prog_7_method_1_code 19 = .ok (.ldc 22, 2) := by decide +kernel
theorem d9_21 : decode prog_7_method_1_code 21 = .ok (.invokestatic 9, 3) := by decide +kernel
theorem d9_24 : decode prog_7_method_1_code 24 = .ok (.checkcast 24, 3) := by decide +kernel
theorem d9_27 : decode prog_7_method_1_code 27 = .ok (.putfield 26, 3) := by decide +kernel
theorem d9_30 : decode prog_7_method_1_code 30 = .ok (.aload_n 0, 1) := by decide +kernel
theorem d9_31 : decode prog_7_method_1_code 31 = .ok (.iload_n 3, 1) := by decide +kernel
theorem d9_32 : decode prog_7_method_1_code 32 = .ok (.putfield 29, 3) := by decide +kernel
theorem d9_35 : decode prog_7_method_1_code 35 = .ok (.return_, 1) := by decide +kernel
theorem d10_0 : decode jdk_31_method_11_code 0 = .ok (.aload_n 0, 1) := by decide +kernel
theorem d10_1 : decode jdk_31_method_11_code 1 = .ok (.ifnonnull 12, 3) := by decide +kernel
theorem d10_13 : decode jdk_31_method_11_code 13 = .ok (.aload_n 0, 1) := by decide +kernel
theorem d10_14 : decode jdk_31_method_11_code 14 = .ok (.areturn, 1) := by decide +kernel
theorem d11_0 : decode prog_7_method_5_code 0 = .ok (.aload_n 1, 1) := by decide +kernel
theorem d11_1 : decode prog_7_method_5_code 1 = .ok (.instanceof 18, 3) := by decide +kernel
theorem d11_4 : decode prog_7_method_5_code 4 = .ok (.ifCond .eq 48, 3) := by decide +kernel
theorem d11_7 : decode prog_7_method_5_code 7 = .ok (.aload_n 1, 1) := by decide +kernel
theorem d11_8 : decode prog_7_method_5_code 8 = .ok (.checkcast 18, 3) := by decide +kernel
theorem d11_11 : decode prog_7_method_5_code 11 = .ok (.astore_n 2, 1) := by decide +kernel
theorem d11_12 : decode prog_7_method_5_code 12 = .ok (.aload_n 0, 1) := by decide +kernel
theorem d11_13 : decode prog_7_method_5_code 13 = .ok (.getfield 17, 3) := by decide +kernel
theorem d11_16 : decode prog_7_method_5_code 16 = .ok (.aload_n 2, 1) := by decide +kernel
theorem d11_17 : decode prog_7_method_5_code 17 = .ok (.getfield 17, 3) := by decide +kernel
theorem d11_20 : decode prog_7_method_5_code 20 = .ok (.if_acmp .ne 32, 3) := by decide +kernel
theorem d11_23 : decode prog_7_method_5_code 23 = .ok (.aload_n 0, 1) := by decide +kernel
theorem d11_24 : decode prog_7_method_5_code 24 = .ok (.getfield 26, 3) := by decide +kernel
theorem d11_27 : decode prog_7_method_5_code 27 = .ok (.aload_n 2, 1) := by decide +kernel
theorem d11_28 : decode prog_7_method_5_code 28 = .ok (.getfield 26, 3) := by decide +kernel
theorem d11_31 : decode prog_7_method_5_code 31 = .ok (.invokevirtual 33, 3) := by decide +kernel
theorem d11_34 : decode prog_7_method_5_code 34 = .ok (.ifCond .eq 18, 3) := by decide +kernel
theorem d11_37 : decode prog_7_method_5_code 37 = .ok (.aload_n 0, 1) := by decide +kernel
theorem d11_38 : decode prog_7_method_5_code 38 = .ok (.getfield 29, 3) := by decide +kernel
theorem d11_41 : decode prog_7_method_5_code 41 = .ok (.aload_n 2, 1) := by decide +kernel
theorem d11_42 : decode prog_7_method_5_code 42 = .ok (.getfield 29, 3) := by decide +kernel
theorem d11_45 : decode prog_7_method_5_code 45 = .ok (.if_icmp .ne 7, 3) := by decide +kernel
theorem d11_48 : decode prog_7_method_5_code 48 = .ok (.iconst 1, 1) := by decide +kernel
theorem d11_49 : decode prog_7_method_5_code 49 = .ok (.goto 4, 3) := by decide +kernel
theorem d11_52 : decode prog_7_method_5_code 52 = .ok (.iconst 0, 1) := by decide +kernel
theorem d11_53 : decode prog_7_method_5_code 53 = .ok (.ireturn, 1) := by decide +kernel
theorem d12_0 : decode prog_7_method_3_code 0 = .ok (.aload_n 0, 1) := by decide +kernel
theorem d12_1 : decode prog_7_method_3_code 1 = .ok (.getfield 26, 3) := by decide +kernel
theorem d12_4 : decode prog_7_method_3_code 4 = .ok (.areturn, 1) := by decide +kernel
theorem pd_0 : parseMethodDescriptor "([CIILjava/lang/Void;)V" = some ⟨[(.array .char), .int, .int, (.object "java/lang/Void")], none⟩ := by decide +kernel
theorem pd_1 : parseMethodDescriptor "([C)V" = some ⟨[(.array .char)], none⟩ := by decide +kernel
theorem pd_2 : parseMethodDescriptor "(Ljava/lang/Object;Ljava/lang/String;)Ljava/lang/Object;" = some ⟨[(.object "java/lang/Object"), (.object "java/lang/String")], some (.object "java/lang/Object")⟩ := by decide +kernel
theorem pd_3 : parseMethodDescriptor "(Ljava/lang/Object;)Z" = some ⟨[(.object "java/lang/Object")], some .boolean⟩ := by decide +kernel
theorem pd_4 : parseMethodDescriptor "(I)Lcom/example/qrew/qrew/dlgp/TokenKind;" = some ⟨[.int], some (.object "com/example/qrew/qrew/dlgp/TokenKind")⟩ := by decide +kernel
theorem pd_5 : parseMethodDescriptor "(ICCC)Ljava/lang/String;" = some ⟨[.int, .char, .char, .char], some (.object "java/lang/String")⟩ := by decide +kernel
theorem pd_6 : parseMethodDescriptor "(Lcom/example/qrew/qrew/dlgp/TokenKind;Ljava/lang/String;I)V" = some ⟨[(.object "com/example/qrew/qrew/dlgp/TokenKind"), (.object "java/lang/String"), .int], none⟩ := by decide +kernel
theorem pd_7 : parseMethodDescriptor "()Ljava/lang/String;" = some ⟨[], some (.object "java/lang/String")⟩ := by decide +kernel
theorem pn_3 : plainName "com/example/qrew/qrew/dlgp/Token" = true := by first | (simp [plainName, overriddenIn]; done) | decide +kernel
theorem pn_2 : plainName "com/example/qrew/qrew/dlgp/TokenEqualsPinLaw" = true := by first | (simp [plainName, overriddenIn]; done) | decide +kernel
theorem pn_0 : plainName "java/lang/String" = true := by first | (simp [plainName, overriddenIn]; done) | decide +kernel
theorem pn_1 : plainName "java/util/Objects" = true := by first | (simp [plainName, overriddenIn]; done) | decide +kernel
/-- the first n of these chars (all three from 3 on) -/
def cs3 (n a b c : Int32) : List Int32 := if n = 0 then [] else if n = 1 then [a] else if n = 2 then [a, b] else [a, b, c]
theorem cs3_0 {n a b c : Int32} (h : n = 0) : cs3 n a b c = [] := if_pos h
theorem cs3_1 {n a b c : Int32} (h : ¬ n = 0) (h1 : n = 1) : cs3 n a b c = [a] := by unfold cs3; rw [if_neg h, if_pos h1]
theorem cs3_2 {n a b c : Int32} (h : ¬ n = 0) (h1 : ¬ n = 1) (h2 : n = 2) : cs3 n a b c = [a, b] := by unfold cs3; rw [if_neg h, if_neg h1, if_pos h2]
theorem cs3_3 {n a b c : Int32} (h : ¬ n = 0) (h1 : ¬ n = 1) (h2 : ¬ n = 2) : cs3 n a b c = [a, b, c] := by unfold cs3; rw [if_neg h, if_neg h1, if_neg h2]

section Own6
theorem mask3 (x : Int32) : (x &&& 3) = 0 ∨ (x &&& 3) = 1 ∨ (x &&& 3) = 2 ∨ (x &&& 3) = 3 := by
  have h : (x &&& 3).toBitVec.toNat < 4 := by
    simp only [Int32.toBitVec_and, BitVec.toNat_and]
    exact Nat.lt_succ_of_le Nat.and_le_right
  have e : (x &&& 3) = Int32.ofNat (x &&& 3).toBitVec.toNat := by
    apply Int32.toBitVec_inj.mp
    show _ = BitVec.ofNat 32 _
    rw [BitVec.ofNat_toNat]; simp
  have t : ∀ k : Fin 4, Int32.ofNat k.val = 0 ∨ Int32.ofNat k.val = 1 ∨ Int32.ofNat k.val = 2 ∨ Int32.ofNat k.val = 3 := by decide
  rw [e]; exact t ⟨_, h⟩
/-- one char for one low byte -/
theorem chrI (x y : Int32) : ((x &&& (255 : Int32)).toUInt32.toUInt16.toUInt32.toInt32) = ((y &&& (255 : Int32)).toUInt32.toUInt16.toUInt32.toInt32) ↔ (x &&& (255 : Int32)) = (y &&& (255 : Int32)) := by
  refine ⟨fun h => ?_, fun h => by rw [h]⟩
  have t : ∀ k : Fin 256, (Int32.ofNat k.val).toUInt32.toUInt16.toUInt32.toInt32 = Int32.ofNat k.val := by decide +kernel
  obtain ⟨k, e⟩ := mask255 x
  obtain ⟨k', e'⟩ := mask255 y
  rw [e, e'] at h ⊢
  rwa [t k, t k'] at h
theorem cs3_ne {n m a b c a' b' c' : Int32} (hn : n = 0 ∨ n = 1 ∨ n = 2 ∨ n = 3) (hm : m = 0 ∨ m = 1 ∨ m = 2 ∨ m = 3) (h : ¬ n = m) : ¬ cs3 n a b c = cs3 m a' b' c' := by
  rcases hn with rfl | rfl | rfl | rfl <;> rcases hm with rfl | rfl | rfl | rfl <;> first | exact absurd rfl h | (simp [cs3])
theorem cs3_e1 {a b c a' b' c' : Int32} : cs3 1 a b c = cs3 1 a' b' c' ↔ a = a' := by simp [cs3]
theorem cs3_e2 {a b c a' b' c' : Int32} : cs3 2 a b c = cs3 2 a' b' c' ↔ a = a' ∧ b = b' := by simp [cs3]
theorem cs3_e3 {a b c a' b' c' : Int32} : cs3 3 a b c = cs3 3 a' b' c' ↔ a = a' ∧ b = b' ∧ c = c' := by simp [cs3]
end Own6
section Own7
/-- the rest by 19 of what isn't negative -/
theorem rem_lt {x : Int32} {k : Int32} {n : Nat} (hx : ¬ x < 0) (hk : k.toInt = n) (hn : 0 < n) : ¬ x % k < 0 ∧ (x % k).toNatClampNeg < n := by
  rw [Int32.lt_iff_toInt_lt] at hx
  have e0 : (0 : Int32).toInt = 0 := rfl
  have e : (x % k).toInt = x.toInt.tmod k.toInt := Int32.toInt_mod _ _
  rw [hk] at e
  have p : x.toInt.tmod (n : Int) = x.toInt % (n : Int) := Int.tmod_eq_emod_of_nonneg (by omega)
  have p1 : 0 ≤ x.toInt % (n : Int) := Int.emod_nonneg _ (by omega)
  have p2 : x.toInt % (n : Int) < (n : Int) := Int.emod_lt_of_pos _ (by omega)
  refine ⟨by rw [Int32.lt_iff_toInt_lt, e0]; omega, ?_⟩
  show (x % k).toInt.toNat < n
  omega
theorem mask31 (x : Int32) : ¬ (x &&& (2147483647 : Int32)) < 0 := by
  rw [Int32.lt_iff_toInt_lt]
  have e : (x &&& (2147483647 : Int32)).toInt = (x &&& (2147483647 : Int32)).toBitVec.toInt := rfl
  have h : (x &&& (2147483647 : Int32)).toBitVec.toNat < 2147483648 := by
    simp only [Int32.toBitVec_and, BitVec.toNat_and]
    exact Nat.lt_succ_of_le Nat.and_le_right
  rw [e, BitVec.toInt_eq_toNat_of_lt (by omega)]
  have e0 : (0 : Int32).toInt = 0 := rfl
  omega
/-- a logical shift by one place or more isn't negative -/
theorem ushr_nn (x : Int32) (k : Nat) (hk : 0 < k) (h32 : k < 32) {y : Int32} (hy : (y &&& 31).toUInt32 = UInt32.ofNat k) : ¬ ((x.toUInt32 >>> (y &&& 31).toUInt32).toInt32) < 0 := by
  rw [hy, Int32.lt_iff_toInt_lt]
  have e0 : (0 : Int32).toInt = 0 := rfl
  have h1 : (x.toUInt32 >>> UInt32.ofNat k).toNat < 2147483648 := by
    rw [UInt32.toNat_shiftRight]
    have : (UInt32.ofNat k).toNat = k := by rw [UInt32.toNat_ofNat']; omega
    rw [this, Nat.mod_eq_of_lt h32, Nat.shiftRight_eq_div_pow]
    have hx := x.toUInt32.toNat_lt
    have : 2 ^ 1 ≤ 2 ^ k := Nat.pow_le_pow_right (by decide) hk
    have h2 : x.toUInt32.toNat / 2 ^ k ≤ x.toUInt32.toNat / 2 ^ 1 := Nat.div_le_div_left this (by decide)
    omega
  have e1 : ((x.toUInt32 >>> UInt32.ofNat k).toInt32).toInt = ((x.toUInt32 >>> UInt32.ofNat k).toBitVec).toInt := rfl
  rw [e1, BitVec.toInt_eq_toNat_of_lt (by show 2 * (x.toUInt32 >>> UInt32.ofNat k).toNat < _; omega)]
  omega
/-- a Latin-1 char changed in its low byte -/
theorem xorChr {x y z : Int32} (hx : ¬ x < 0 ∧ ¬ (255 : Int32) < x) (hy : ¬ y < 0 ∧ ¬ (255 : Int32) < y) (h : ((x ^^^ y).toUInt32.toUInt16.toUInt32.toInt32) = z) : (¬ z < 0 ∧ ¬ (255 : Int32) < z) ∧ nar .char z = z := by
  have r : ∀ x : Int32, (¬ x < 0 ∧ ¬ (255 : Int32) < x) → x &&& 255 = x := fun x hx => by
    rw [Int32.lt_iff_toInt_lt, Int32.lt_iff_toInt_lt] at hx
    have e0 : (0 : Int32).toInt = 0 := rfl
    have e1 : (255 : Int32).toInt = 255 := rfl
    obtain ⟨k, hk⟩ : ∃ k : Nat, x.toInt = k := ⟨x.toInt.toNat, by omega⟩
    have t : ∀ k : Fin 256, Int32.ofNat k.val &&& 255 = Int32.ofNat k.val := by decide +kernel
    have hx' : x = Int32.ofNat k := Int32.toInt_inj.mp (by rw [hk, Int32.toInt_ofNat_small (by omega)])
    rw [hx']; exact t ⟨k, by omega⟩
  have e : (x ^^^ y) = (x ^^^ y) &&& 255 := by
    rw [← r x hx, ← r y hy]
    apply Int32.toBitVec_inj.mp
    simp only [Int32.toBitVec_and, Int32.toBitVec_xor]
    ext i
    simp
    cases x.toBitVec[i] <;> cases y.toBitVec[i] <;> simp
  rw [e] at h
  exact chr255 h
theorem lat255 (x : Int32) : ¬ (x &&& (255 : Int32)) < 0 ∧ ¬ (255 : Int32) < (x &&& (255 : Int32)) := by
  have t : ∀ k : Fin 256, ¬ Int32.ofNat k.val < 0 ∧ ¬ (255 : Int32) < Int32.ofNat k.val := by decide +kernel
  obtain ⟨k, e⟩ := mask255 x
  rw [e]; exact t k
end Own7

def R_initE4 : Room := { frames := 1, cells := 4, slots := 8, locals := 12 }
def Q_initE4 (Z : State) (x : Addr) (h0 : Heap) (v : Option Value) (h : Heap) : Prop := v = none ∧ Exa Z h x "java/lang/String" ∧ Fld Z h x "java/lang/String" "coder" "B" (.int (0 : Int32)) ∧ ∃ (t : Addr) (kb : ClassId), Fld Z h x "java/lang/String" "value" "[B" (.ref t) ∧ Arv Z h t kb .byte (0 : Int32) [] (.int 0)
set_option maxRecDepth 65536 in
set_option maxHeartbeats 40000000 in
theorem initE4 (l : Launch) (Z : State) (a0 : Array Value) (hw : ∀ d ∈ tables_1, d.before a0 Z = true) (hEL : EW Z a0 EL0) (zc : Int32) (S0 : Sta Z Z.heap "java/lang/String" "COMPACT_STRINGS" "Z" (.int zc)) (Pz : ¬ zc = 0) (w_IDENTIFIER w_VARIABLE w_IRI w_PREFIXED_NAME w_STRING w_LANGUAGE_TAG w_DATATYPE_MARK w_INTEGER w_LABEL w_DIRECTIVE w_LEFT_PARENTHESIS w_RIGHT_PARENTHESIS w_COMMA w_DOT w_IMPLIES w_QUESTION_MARK w_EXCLAMATION_MARK w_BAR w_END : Addr) (S_IDENTIFIER : Sta Z Z.heap "com/example/qrew/qrew/dlgp/TokenKind" "IDENTIFIER" "Lcom/example/qrew/qrew/dlgp/TokenKind;" (.ref w_IDENTIFIER)) (E_IDENTIFIER : Exa Z Z.heap w_IDENTIFIER "com/example/qrew/qrew/dlgp/TokenKind") (S_VARIABLE : Sta Z Z.heap "com/example/qrew/qrew/dlgp/TokenKind" "VARIABLE" "Lcom/example/qrew/qrew/dlgp/TokenKind;" (.ref w_VARIABLE)) (E_VARIABLE : Exa Z Z.heap w_VARIABLE "com/example/qrew/qrew/dlgp/TokenKind") (S_IRI : Sta Z Z.heap "com/example/qrew/qrew/dlgp/TokenKind" "IRI" "Lcom/example/qrew/qrew/dlgp/TokenKind;" (.ref w_IRI)) (E_IRI : Exa Z Z.heap w_IRI "com/example/qrew/qrew/dlgp/TokenKind") (S_PREFIXED_NAME : Sta Z Z.heap "com/example/qrew/qrew/dlgp/TokenKind" "PREFIXED_NAME" "Lcom/example/qrew/qrew/dlgp/TokenKind;" (.ref w_PREFIXED_NAME)) (E_PREFIXED_NAME : Exa Z Z.heap w_PREFIXED_NAME "com/example/qrew/qrew/dlgp/TokenKind") (S_STRING : Sta Z Z.heap "com/example/qrew/qrew/dlgp/TokenKind" "STRING" "Lcom/example/qrew/qrew/dlgp/TokenKind;" (.ref w_STRING)) (E_STRING : Exa Z Z.heap w_STRING "com/example/qrew/qrew/dlgp/TokenKind") (S_LANGUAGE_TAG : Sta Z Z.heap "com/example/qrew/qrew/dlgp/TokenKind" "LANGUAGE_TAG" "Lcom/example/qrew/qrew/dlgp/TokenKind;" (.ref w_LANGUAGE_TAG)) (E_LANGUAGE_TAG : Exa Z Z.heap w_LANGUAGE_TAG "com/example/qrew/qrew/dlgp/TokenKind") (S_DATATYPE_MARK : Sta Z Z.heap "com/example/qrew/qrew/dlgp/TokenKind" "DATATYPE_MARK" "Lcom/example/qrew/qrew/dlgp/TokenKind;" (.ref w_DATATYPE_MARK)) (E_DATATYPE_MARK : Exa Z Z.heap w_DATATYPE_MARK "com/example/qrew/qrew/dlgp/TokenKind") (S_INTEGER : Sta Z Z.heap "com/example/qrew/qrew/dlgp/TokenKind" "INTEGER" "Lcom/example/qrew/qrew/dlgp/TokenKind;" (.ref w_INTEGER)) (E_INTEGER : Exa Z Z.heap w_INTEGER "com/example/qrew/qrew/dlgp/TokenKind") (S_LABEL : Sta Z Z.heap "com/example/qrew/qrew/dlgp/TokenKind" "LABEL" "Lcom/example/qrew/qrew/dlgp/TokenKind;" (.ref w_LABEL)) (E_LABEL : Exa Z Z.heap w_LABEL "com/example/qrew/qrew/dlgp/TokenKind") (S_DIRECTIVE : Sta Z Z.heap "com/example/qrew/qrew/dlgp/TokenKind" "DIRECTIVE" "Lcom/example/qrew/qrew/dlgp/TokenKind;" (.ref w_DIRECTIVE)) (E_DIRECTIVE : Exa Z Z.heap w_DIRECTIVE "com/example/qrew/qrew/dlgp/TokenKind") (S_LEFT_PARENTHESIS : Sta Z Z.heap "com/example/qrew/qrew/dlgp/TokenKind" "LEFT_PARENTHESIS" "Lcom/example/qrew/qrew/dlgp/TokenKind;" (.ref w_LEFT_PARENTHESIS)) (E_LEFT_PARENTHESIS : Exa Z Z.heap w_LEFT_PARENTHESIS "com/example/qrew/qrew/dlgp/TokenKind") (S_RIGHT_PARENTHESIS : Sta Z Z.heap "com/example/qrew/qrew/dlgp/TokenKind" "RIGHT_PARENTHESIS" "Lcom/example/qrew/qrew/dlgp/TokenKind;" (.ref w_RIGHT_PARENTHESIS)) (E_RIGHT_PARENTHESIS : Exa Z Z.heap w_RIGHT_PARENTHESIS "com/example/qrew/qrew/dlgp/TokenKind") (S_COMMA : Sta Z Z.heap "com/example/qrew/qrew/dlgp/TokenKind" "COMMA" "Lcom/example/qrew/qrew/dlgp/TokenKind;" (.ref w_COMMA)) (E_COMMA : Exa Z Z.heap w_COMMA "com/example/qrew/qrew/dlgp/TokenKind") (S_DOT : Sta Z Z.heap "com/example/qrew/qrew/dlgp/TokenKind" "DOT" "Lcom/example/qrew/qrew/dlgp/TokenKind;" (.ref w_DOT)) (E_DOT : Exa Z Z.heap w_DOT "com/example/qrew/qrew/dlgp/TokenKind") (S_IMPLIES : Sta Z Z.heap "com/example/qrew/qrew/dlgp/TokenKind" "IMPLIES" "Lcom/example/qrew/qrew/dlgp/TokenKind;" (.ref w_IMPLIES)) (E_IMPLIES : Exa Z Z.heap w_IMPLIES "com/example/qrew/qrew/dlgp/TokenKind") (S_QUESTION_MARK : Sta Z Z.heap "com/example/qrew/qrew/dlgp/TokenKind" "QUESTION_MARK" "Lcom/example/qrew/qrew/dlgp/TokenKind;" (.ref w_QUESTION_MARK)) (E_QUESTION_MARK : Exa Z Z.heap w_QUESTION_MARK "com/example/qrew/qrew/dlgp/TokenKind") (S_EXCLAMATION_MARK : Sta Z Z.heap "com/example/qrew/qrew/dlgp/TokenKind" "EXCLAMATION_MARK" "Lcom/example/qrew/qrew/dlgp/TokenKind;" (.ref w_EXCLAMATION_MARK)) (E_EXCLAMATION_MARK : Exa Z Z.heap w_EXCLAMATION_MARK "com/example/qrew/qrew/dlgp/TokenKind") (S_BAR : Sta Z Z.heap "com/example/qrew/qrew/dlgp/TokenKind" "BAR" "Lcom/example/qrew/qrew/dlgp/TokenKind;" (.ref w_BAR)) (E_BAR : Exa Z Z.heap w_BAR "com/example/qrew/qrew/dlgp/TokenKind") (S_END : Sta Z Z.heap "com/example/qrew/qrew/dlgp/TokenKind" "END" "Lcom/example/qrew/qrew/dlgp/TokenKind;" (.ref w_END)) (E_END : Exa Z Z.heap w_END "com/example/qrew/qrew/dlgp/TokenKind") (x b : Addr) (h0 : Heap) (hO : Ext Z.heap h0) (E : Exa Z h0 x "java/lang/String") (V : Fld Z h0 x "java/lang/String" "value" "[B" .null) (C : Fld Z h0 x "java/lang/String" "coder" "B" (.int (0 : Int32))) (gx : Z.heap.size ≤ x) (hmem : ("java/lang/String", 7) ∈ EL0) :
    Con l Z EL0 [] (⟨"java/lang/String", "<init>", "([CIILjava/lang/Void;)V"⟩ : MethodName) jdk_42_method_149_code 6 none R_initE4 #[(.ref x), (.ref b), (.int (0 : Int32)), (.int (0 : Int32)), .null] h0 [x] (Q_initE4 Z x h0) := by
  refine Con.of (y := (⟨"java/lang/String", "<init>", "([CIILjava/lang/Void;)V"⟩ : MethodName)) (f0 := fun m => mkF m 0 #[.val (.ref x), .val (.ref b), .val (.int (0 : Int32)), .val (.int (0 : Int32)), .val .null, .unset] []) (plainFor_of_name pn_0) hEL hO (fun m => by skip <;> first | (simp [entryFrame, mkF, argsToLocals, Value.category, maxLocals]; done) | rfl) ?_
  intro p e s m below meth c s₁ P0
  show Go p e below _ (s₁.setTop (mkF m 0 #[.val (.ref x), .val (.ref b), .val (.int (0 : Int32)), .val (.int (0 : Int32)), .val .null, .unset] []))
  refine P0.xs (fun hA hx hy t k => XS.aloadN hA hx rfl (hb hy d4_0) rfl rfl  k) ?_
  show Go p e below _ (s₁.setTop (mkF m 1 #[.val (.ref x), .val (.ref b), .val (.int (0 : Int32)), .val (.int (0 : Int32)), .val .null, .unset] [(.ref x)]))
  refine P0.init0 (W := 0) (hw _ (List.mem_of_getElem? (i := 64) rfl)) (hw _ (List.mem_of_getElem? (i := 65) rfl)) (hw _ (List.mem_of_getElem? (i := 66) rfl)) d4_1 rfl (by decide) (Nat.le_of_eq rfl) (by decide) fun T1 P1 => ?_
  show Go p e below _ (T1.setTop (mkF m 4 #[.val (.ref x), .val (.ref b), .val (.int (0 : Int32)), .val (.int (0 : Int32)), .val .null, .unset] []))
  refine P1.xs (fun hA hx hy t k => XS.iloadN hA hx rfl (hb hy d4_4) rfl  k) ?_
  show Go p e below _ (T1.setTop (mkF m 5 #[.val (.ref x), .val (.ref b), .val (.int (0 : Int32)), .val (.int (0 : Int32)), .val .null, .unset] [(.int (0 : Int32))]))
  refine P1.xs (fun hA hx hy t k => XS.ifNo hA hx rfl (hb hy d4_5) rfl ((if0 _ _).trans (teq rfl).2) k) ?_
  show Go p e below _ (T1.setTop (mkF m 8 #[.val (.ref x), .val (.ref b), .val (.int (0 : Int32)), .val (.int (0 : Int32)), .val .null, .unset] []))
  refine P1.xs (fun hA hx hy t k => XS.aloadN hA hx rfl (hb hy d4_8) rfl rfl  k) ?_
  show Go p e below _ (T1.setTop (mkF m 9 #[.val (.ref x), .val (.ref b), .val (.int (0 : Int32)), .val (.int (0 : Int32)), .val .null, .unset] [(.ref x)]))
  refine P1.ldcR (hw _ (List.mem_of_getElem? (i := 110) rfl)) (wSt hw) hmem (vs := []) (z := (0 : Int32)) ⟨by decide, by decide⟩ (by decide) (by decide) d4_9 (n := 0) (by decide) (by decide) (by decide) (by decide) fun T2 h2 o2 b2 k2 P2 E2 A2 C2 V2 B2 => ?_
  show Go p e below _ (T2.setTop (mkF m 11 #[.val (.ref x), .val (.ref b), .val (.int (0 : Int32)), .val (.int (0 : Int32)), .val .null, .unset] [(.ref o2), (.ref x)]))
  refine P2.getF (host := "") (Or.inl (hw _ (List.mem_of_getElem? (i := 81) rfl))) Via.refl V2 d4_11 fun T3 P3 => ?_
  show Go p e below _ (T3.setTop (mkF m 14 #[.val (.ref x), .val (.ref b), .val (.int (0 : Int32)), .val (.int (0 : Int32)), .val .null, .unset] [(.ref b2), (.ref x)]))
  have Ec5 : Exa Z h2 x "java/lang/String" := (E.ext E2)
  have Fc6 : Fld Z h2 x "java/lang/String" "coder" "B" (.int (0 : Int32)) := (C.ext E2)
  have Fc7 : Fld Z h2 x "java/lang/String" "value" "[B" .null := (V.ext E2)
  refine P3.putF (hw _ (List.mem_of_getElem? (i := 81) rfl)) Via.refl Fc7 Ec5 (Or.inr ⟨(hw _ (List.mem_of_getElem? (i := 82) rfl)), rfl, rfl⟩) (hw _ (List.mem_of_getElem? (i := 54) rfl)) (ty := (.array .byte)) (v' := (.ref b2)) (by decide) rfl rfl d4_14 (fun vm hs hal hr => hr.safe E.lt (safeNull hs E V)) gx (Or.inl (List.mem_of_getElem? (i := 0) rfl)) fun T4 h4 P4 W4 => ?_
  show Go p e below _ (T4.setTop (mkF m 17 #[.val (.ref x), .val (.ref b), .val (.int (0 : Int32)), .val (.int (0 : Int32)), .val .null, .unset] []))
  refine P4.xs (fun hA hx hy t k => XS.aloadN hA hx rfl (hb hy d4_17) rfl rfl  k) ?_
  show Go p e below _ (T4.setTop (mkF m 18 #[.val (.ref x), .val (.ref b), .val (.int (0 : Int32)), .val (.int (0 : Int32)), .val .null, .unset] [(.ref x)]))
  refine P4.ldcR (hw _ (List.mem_of_getElem? (i := 110) rfl)) (wSt hw) hmem (vs := []) (z := (0 : Int32)) ⟨by decide, by decide⟩ (by decide) (by decide) d4_18 (n := 0) (by decide) (by decide) (by decide) (by decide) fun T8 h8 o8 b8 k8 P8 E8 A8 C8 V8 B8 => ?_
  show Go p e below _ (T8.setTop (mkF m 20 #[.val (.ref x), .val (.ref b), .val (.int (0 : Int32)), .val (.int (0 : Int32)), .val .null, .unset] [(.ref o8), (.ref x)]))
  refine P8.getF (host := "") (Or.inl (hw _ (List.mem_of_getElem? (i := 79) rfl))) Via.refl C8 d4_20 fun T9 P9 => ?_
  show Go p e below _ (T9.setTop (mkF m 23 #[.val (.ref x), .val (.ref b), .val (.int (0 : Int32)), .val (.int (0 : Int32)), .val .null, .unset] [(.int (0 : Int32)), (.ref x)]))
  have Ec11 : Exa Z h8 x "java/lang/String" := ((Ec5.wr W4).ext E8)
  have Fc12 : Fld Z h8 x "java/lang/String" "coder" "B" (.int (0 : Int32)) := ((Fc6.other W4 (Or.inr (slot_ne (Or.inr (hw _ (List.mem_of_getElem? (i := 80) rfl))) (Or.inr (hw _ (List.mem_of_getElem? (i := 82) rfl))) (by decide) (t := .byte) (t' := (.array .byte)) (by decide) (by decide)))).ext E8)
  have Fc13 : Fld Z h8 x "java/lang/String" "value" "[B" (.ref b2) := ((Fc7.same W4).ext E8)
  have Ac14 : Arv Z h8 b2 k2 .byte (0 : Int32) [] (.int 0) := ((B2.other W4 (Ne.symm (Exa.neArv (E.ext E2) B2 (hw _ (List.mem_of_getElem? (i := 54) rfl))))).ext E8)
  refine P9.putF (hw _ (List.mem_of_getElem? (i := 79) rfl)) Via.refl Fc12 Ec11 (Or.inr ⟨(hw _ (List.mem_of_getElem? (i := 80) rfl)), rfl, rfl⟩) (hw _ (List.mem_of_getElem? (i := 54) rfl)) (ty := .byte) (v' := (.int (0 : Int32))) (by decide) rfl rfl d4_23 (fun vm hs hal hr => hr.safe E.lt (safeNull hs E V)) gx (Or.inl (List.mem_of_getElem? (i := 0) rfl)) fun T10 h10 P10 W10 => ?_
  show Go p e below _ (T10.setTop (mkF m 26 #[.val (.ref x), .val (.ref b), .val (.int (0 : Int32)), .val (.int (0 : Int32)), .val .null, .unset] []))
  have Ec15 : Exa Z h10 x "java/lang/String" := (Ec11.wr W10)
  have Fc16 : Fld Z h10 x "java/lang/String" "coder" "B" (.int (0 : Int32)) := (Fc12.same W10)
  have Fc17 : Fld Z h10 x "java/lang/String" "value" "[B" (.ref b2) := (Fc13.other W10 (Or.inr (slot_ne (Or.inr (hw _ (List.mem_of_getElem? (i := 82) rfl))) (Or.inr (hw _ (List.mem_of_getElem? (i := 80) rfl))) (by decide) (t := (.array .byte)) (t' := .byte) (by decide) (by decide))))
  have Ac18 : Arv Z h10 b2 k2 .byte (0 : Int32) [] (.int 0) := (Ac14.other W10 (Ne.symm (Exa.neArv ((Ec5.wr W4).ext E8) ((B2.other W4 (Ne.symm (Exa.neArv (E.ext E2) B2 (hw _ (List.mem_of_getElem? (i := 54) rfl))))).ext E8) (hw _ (List.mem_of_getElem? (i := 54) rfl)))))
  exact P10.retV rfl d4_26 (by decide) (by decide) ⟨rfl, Ec15, Fc16, b2, _, Fc17, Ac18⟩

def R_initE1 : Room := { frames := 2, cells := 4, slots := 8, locals := 29 }
def Q_initE1 (Z : State) (x : Addr) (h0 : Heap) (v : Option Value) (h : Heap) : Prop := v = none ∧ Exa Z h x "java/lang/String" ∧ Fld Z h x "java/lang/String" "coder" "B" (.int (0 : Int32)) ∧ ∃ (t : Addr) (kb : ClassId), Fld Z h x "java/lang/String" "value" "[B" (.ref t) ∧ Arv Z h t kb .byte (0 : Int32) [] (.int 0)
set_option maxRecDepth 65536 in
set_option maxHeartbeats 40000000 in
theorem initE1 (l : Launch) (Z : State) (a0 : Array Value) (hw : ∀ d ∈ tables_1, d.before a0 Z = true) (hEL : EW Z a0 EL0) (zc : Int32) (S0 : Sta Z Z.heap "java/lang/String" "COMPACT_STRINGS" "Z" (.int zc)) (Pz : ¬ zc = 0) (w_IDENTIFIER w_VARIABLE w_IRI w_PREFIXED_NAME w_STRING w_LANGUAGE_TAG w_DATATYPE_MARK w_INTEGER w_LABEL w_DIRECTIVE w_LEFT_PARENTHESIS w_RIGHT_PARENTHESIS w_COMMA w_DOT w_IMPLIES w_QUESTION_MARK w_EXCLAMATION_MARK w_BAR w_END : Addr) (S_IDENTIFIER : Sta Z Z.heap "com/example/qrew/qrew/dlgp/TokenKind" "IDENTIFIER" "Lcom/example/qrew/qrew/dlgp/TokenKind;" (.ref w_IDENTIFIER)) (E_IDENTIFIER : Exa Z Z.heap w_IDENTIFIER "com/example/qrew/qrew/dlgp/TokenKind") (S_VARIABLE : Sta Z Z.heap "com/example/qrew/qrew/dlgp/TokenKind" "VARIABLE" "Lcom/example/qrew/qrew/dlgp/TokenKind;" (.ref w_VARIABLE)) (E_VARIABLE : Exa Z Z.heap w_VARIABLE "com/example/qrew/qrew/dlgp/TokenKind") (S_IRI : Sta Z Z.heap "com/example/qrew/qrew/dlgp/TokenKind" "IRI" "Lcom/example/qrew/qrew/dlgp/TokenKind;" (.ref w_IRI)) (E_IRI : Exa Z Z.heap w_IRI "com/example/qrew/qrew/dlgp/TokenKind") (S_PREFIXED_NAME : Sta Z Z.heap "com/example/qrew/qrew/dlgp/TokenKind" "PREFIXED_NAME" "Lcom/example/qrew/qrew/dlgp/TokenKind;" (.ref w_PREFIXED_NAME)) (E_PREFIXED_NAME : Exa Z Z.heap w_PREFIXED_NAME "com/example/qrew/qrew/dlgp/TokenKind") (S_STRING : Sta Z Z.heap "com/example/qrew/qrew/dlgp/TokenKind" "STRING" "Lcom/example/qrew/qrew/dlgp/TokenKind;" (.ref w_STRING)) (E_STRING : Exa Z Z.heap w_STRING "com/example/qrew/qrew/dlgp/TokenKind") (S_LANGUAGE_TAG : Sta Z Z.heap "com/example/qrew/qrew/dlgp/TokenKind" "LANGUAGE_TAG" "Lcom/example/qrew/qrew/dlgp/TokenKind;" (.ref w_LANGUAGE_TAG)) (E_LANGUAGE_TAG : Exa Z Z.heap w_LANGUAGE_TAG "com/example/qrew/qrew/dlgp/TokenKind") (S_DATATYPE_MARK : Sta Z Z.heap "com/example/qrew/qrew/dlgp/TokenKind" "DATATYPE_MARK" "Lcom/example/qrew/qrew/dlgp/TokenKind;" (.ref w_DATATYPE_MARK)) (E_DATATYPE_MARK : Exa Z Z.heap w_DATATYPE_MARK "com/example/qrew/qrew/dlgp/TokenKind") (S_INTEGER : Sta Z Z.heap "com/example/qrew/qrew/dlgp/TokenKind" "INTEGER" "Lcom/example/qrew/qrew/dlgp/TokenKind;" (.ref w_INTEGER)) (E_INTEGER : Exa Z Z.heap w_INTEGER "com/example/qrew/qrew/dlgp/TokenKind") (S_LABEL : Sta Z Z.heap "com/example/qrew/qrew/dlgp/TokenKind" "LABEL" "Lcom/example/qrew/qrew/dlgp/TokenKind;" (.ref w_LABEL)) (E_LABEL : Exa Z Z.heap w_LABEL "com/example/qrew/qrew/dlgp/TokenKind") (S_DIRECTIVE : Sta Z Z.heap "com/example/qrew/qrew/dlgp/TokenKind" "DIRECTIVE" "Lcom/example/qrew/qrew/dlgp/TokenKind;" (.ref w_DIRECTIVE)) (E_DIRECTIVE : Exa Z Z.heap w_DIRECTIVE "com/example/qrew/qrew/dlgp/TokenKind") (S_LEFT_PARENTHESIS : Sta Z Z.heap "com/example/qrew/qrew/dlgp/TokenKind" "LEFT_PARENTHESIS" "Lcom/example/qrew/qrew/dlgp/TokenKind;" (.ref w_LEFT_PARENTHESIS)) (E_LEFT_PARENTHESIS : Exa Z Z.heap w_LEFT_PARENTHESIS "com/example/qrew/qrew/dlgp/TokenKind") (S_RIGHT_PARENTHESIS : Sta Z Z.heap "com/example/qrew/qrew/dlgp/TokenKind" "RIGHT_PARENTHESIS" "Lcom/example/qrew/qrew/dlgp/TokenKind;" (.ref w_RIGHT_PARENTHESIS)) (E_RIGHT_PARENTHESIS : Exa Z Z.heap w_RIGHT_PARENTHESIS "com/example/qrew/qrew/dlgp/TokenKind") (S_COMMA : Sta Z Z.heap "com/example/qrew/qrew/dlgp/TokenKind" "COMMA" "Lcom/example/qrew/qrew/dlgp/TokenKind;" (.ref w_COMMA)) (E_COMMA : Exa Z Z.heap w_COMMA "com/example/qrew/qrew/dlgp/TokenKind") (S_DOT : Sta Z Z.heap "com/example/qrew/qrew/dlgp/TokenKind" "DOT" "Lcom/example/qrew/qrew/dlgp/TokenKind;" (.ref w_DOT)) (E_DOT : Exa Z Z.heap w_DOT "com/example/qrew/qrew/dlgp/TokenKind") (S_IMPLIES : Sta Z Z.heap "com/example/qrew/qrew/dlgp/TokenKind" "IMPLIES" "Lcom/example/qrew/qrew/dlgp/TokenKind;" (.ref w_IMPLIES)) (E_IMPLIES : Exa Z Z.heap w_IMPLIES "com/example/qrew/qrew/dlgp/TokenKind") (S_QUESTION_MARK : Sta Z Z.heap "com/example/qrew/qrew/dlgp/TokenKind" "QUESTION_MARK" "Lcom/example/qrew/qrew/dlgp/TokenKind;" (.ref w_QUESTION_MARK)) (E_QUESTION_MARK : Exa Z Z.heap w_QUESTION_MARK "com/example/qrew/qrew/dlgp/TokenKind") (S_EXCLAMATION_MARK : Sta Z Z.heap "com/example/qrew/qrew/dlgp/TokenKind" "EXCLAMATION_MARK" "Lcom/example/qrew/qrew/dlgp/TokenKind;" (.ref w_EXCLAMATION_MARK)) (E_EXCLAMATION_MARK : Exa Z Z.heap w_EXCLAMATION_MARK "com/example/qrew/qrew/dlgp/TokenKind") (S_BAR : Sta Z Z.heap "com/example/qrew/qrew/dlgp/TokenKind" "BAR" "Lcom/example/qrew/qrew/dlgp/TokenKind;" (.ref w_BAR)) (E_BAR : Exa Z Z.heap w_BAR "com/example/qrew/qrew/dlgp/TokenKind") (S_END : Sta Z Z.heap "com/example/qrew/qrew/dlgp/TokenKind" "END" "Lcom/example/qrew/qrew/dlgp/TokenKind;" (.ref w_END)) (E_END : Exa Z Z.heap w_END "com/example/qrew/qrew/dlgp/TokenKind") (x b : Addr) (kc : ClassId) (h0 : Heap) (hO : Ext Z.heap h0) (E : Exa Z h0 x "java/lang/String") (V : Fld Z h0 x "java/lang/String" "value" "[B" .null) (C : Fld Z h0 x "java/lang/String" "coder" "B" (.int (0 : Int32))) (gx : Z.heap.size ≤ x) (hmem : ("java/lang/String", 7) ∈ EL0) (A : Arv Z h0 b kc .char (0 : Int32) [] (.int (0 : Int32))) :
    Con l Z EL0 [] (⟨"java/lang/String", "<init>", "([C)V"⟩ : MethodName) jdk_42_method_3_code 2 none R_initE1 #[(.ref x), (.ref b)] h0 [x] (Q_initE1 Z x h0) := by
  refine Con.of (y := (⟨"java/lang/String", "<init>", "([C)V"⟩ : MethodName)) (f0 := fun m => mkF m 0 #[.val (.ref x), .val (.ref b)] []) (plainFor_of_name pn_0) hEL hO (fun m => by skip <;> first | (simp [entryFrame, mkF, argsToLocals, Value.category, maxLocals]; done) | rfl) ?_
  intro p e s m below meth c s₁ P0
  show Go p e below _ (s₁.setTop (mkF m 0 #[.val (.ref x), .val (.ref b)] []))
  refine P0.xs (fun hA hx hy t k => XS.aloadN hA hx rfl (hb hy d3_0) rfl rfl  k) ?_
  show Go p e below _ (s₁.setTop (mkF m 1 #[.val (.ref x), .val (.ref b)] [(.ref x)]))
  refine P0.xs (fun hA hx hy t k => XS.aloadN hA hx rfl (hb hy d3_1) rfl rfl  k) ?_
  show Go p e below _ (s₁.setTop (mkF m 2 #[.val (.ref x), .val (.ref b)] [(.ref b), (.ref x)]))
  refine P0.xs (fun hA hx hy t k => XS.iconst hA hx rfl (hb hy d3_2) k) ?_
  show Go p e below _ (s₁.setTop (mkF m 3 #[.val (.ref x), .val (.ref b)] [(.int (0 : Int32)), (.ref b), (.ref x)]))
  refine P0.xs (fun hA hx hy t k => XS.aloadN hA hx rfl (hb hy d3_3) rfl rfl  k) ?_
  show Go p e below _ (s₁.setTop (mkF m 4 #[.val (.ref x), .val (.ref b)] [(.ref b), (.int (0 : Int32)), (.ref b), (.ref x)]))
  refine P0.alen A d3_4 ?_
  show Go p e below _ (s₁.setTop (mkF m 5 #[.val (.ref x), .val (.ref b)] [(.int (0 : Int32)), (.int (0 : Int32)), (.ref b), (.ref x)]))
  refine P0.xs (fun hA hx hy t k => XS.aconstNull hA hx rfl (hb hy d3_5) k) ?_
  show Go p e below _ (s₁.setTop (mkF m 6 #[.val (.ref x), .val (.ref b)] [.null, (.int (0 : Int32)), (.int (0 : Int32)), (.ref b), (.ref x)]))
  refine P0.callI rfl (hw _ (List.mem_of_getElem? (i := 60) rfl)) (hw _ (List.mem_of_getElem? (i := 61) rfl)) (hw _ (List.mem_of_getElem? (i := 55) rfl)) (hw _ (List.mem_of_getElem? (i := 63) rfl)) (by decide) (initE4 l Z a0 hw hEL zc S0 Pz w_IDENTIFIER w_VARIABLE w_IRI w_PREFIXED_NAME w_STRING w_LANGUAGE_TAG w_DATATYPE_MARK w_INTEGER w_LABEL w_DIRECTIVE w_LEFT_PARENTHESIS w_RIGHT_PARENTHESIS w_COMMA w_DOT w_IMPLIES w_QUESTION_MARK w_EXCLAMATION_MARK w_BAR w_END S_IDENTIFIER E_IDENTIFIER S_VARIABLE E_VARIABLE S_IRI E_IRI S_PREFIXED_NAME E_PREFIXED_NAME S_STRING E_STRING S_LANGUAGE_TAG E_LANGUAGE_TAG S_DATATYPE_MARK E_DATATYPE_MARK S_INTEGER E_INTEGER S_LABEL E_LABEL S_DIRECTIVE E_DIRECTIVE S_LEFT_PARENTHESIS E_LEFT_PARENTHESIS S_RIGHT_PARENTHESIS E_RIGHT_PARENTHESIS S_COMMA E_COMMA S_DOT E_DOT S_IMPLIES E_IMPLIES S_QUESTION_MARK E_QUESTION_MARK S_EXCLAMATION_MARK E_EXCLAMATION_MARK S_BAR E_BAR S_END E_END x b h0 P0.old E V C gx hmem) (W := 0) (by decide) (by decide) (by decide) (by decide) (allS (Or.inl (List.mem_of_getElem? (i := 0) rfl)) all0) pd_0 (argsL := [(.ref b), (.int (0 : Int32)), (.int (0 : Int32)), .null]) rfl rfl rfl (Nat.le_of_eq rfl) d3_6 fun v19 T19 h19 P19 K19 Q19 => ?_
  obtain ⟨rfl, E19, C19, b19, k19, V19, B19⟩ := Q19
  show Go p e below _ (T19.setTop (mkF m 9 #[.val (.ref x), .val (.ref b)] []))
  exact P19.retV rfl d3_9 (by decide) (by decide) ⟨rfl, E19, C19, b19, _, V19, B19⟩

def R_reqNN : Room := { frames := 0, cells := 0, slots := 0, locals := 0 }
def Q_reqNN (Z : State) (x : Addr) (h0 : Heap) (v : Option Value) (h : Heap) : Prop := v = some (.ref x) ∧ h = h0
set_option maxRecDepth 65536 in
set_option maxHeartbeats 40000000 in
theorem reqNN (l : Launch) (Z : State) (a0 : Array Value) (hw : ∀ d ∈ tables_1, d.before a0 Z = true) (hEL : EW Z a0 EL0) (zc : Int32) (S0 : Sta Z Z.heap "java/lang/String" "COMPACT_STRINGS" "Z" (.int zc)) (Pz : ¬ zc = 0) (w_IDENTIFIER w_VARIABLE w_IRI w_PREFIXED_NAME w_STRING w_LANGUAGE_TAG w_DATATYPE_MARK w_INTEGER w_LABEL w_DIRECTIVE w_LEFT_PARENTHESIS w_RIGHT_PARENTHESIS w_COMMA w_DOT w_IMPLIES w_QUESTION_MARK w_EXCLAMATION_MARK w_BAR w_END : Addr) (S_IDENTIFIER : Sta Z Z.heap "com/example/qrew/qrew/dlgp/TokenKind" "IDENTIFIER" "Lcom/example/qrew/qrew/dlgp/TokenKind;" (.ref w_IDENTIFIER)) (E_IDENTIFIER : Exa Z Z.heap w_IDENTIFIER "com/example/qrew/qrew/dlgp/TokenKind") (S_VARIABLE : Sta Z Z.heap "com/example/qrew/qrew/dlgp/TokenKind" "VARIABLE" "Lcom/example/qrew/qrew/dlgp/TokenKind;" (.ref w_VARIABLE)) (E_VARIABLE : Exa Z Z.heap w_VARIABLE "com/example/qrew/qrew/dlgp/TokenKind") (S_IRI : Sta Z Z.heap "com/example/qrew/qrew/dlgp/TokenKind" "IRI" "Lcom/example/qrew/qrew/dlgp/TokenKind;" (.ref w_IRI)) (E_IRI : Exa Z Z.heap w_IRI "com/example/qrew/qrew/dlgp/TokenKind") (S_PREFIXED_NAME : Sta Z Z.heap "com/example/qrew/qrew/dlgp/TokenKind" "PREFIXED_NAME" "Lcom/example/qrew/qrew/dlgp/TokenKind;" (.ref w_PREFIXED_NAME)) (E_PREFIXED_NAME : Exa Z Z.heap w_PREFIXED_NAME "com/example/qrew/qrew/dlgp/TokenKind") (S_STRING : Sta Z Z.heap "com/example/qrew/qrew/dlgp/TokenKind" "STRING" "Lcom/example/qrew/qrew/dlgp/TokenKind;" (.ref w_STRING)) (E_STRING : Exa Z Z.heap w_STRING "com/example/qrew/qrew/dlgp/TokenKind") (S_LANGUAGE_TAG : Sta Z Z.heap "com/example/qrew/qrew/dlgp/TokenKind" "LANGUAGE_TAG" "Lcom/example/qrew/qrew/dlgp/TokenKind;" (.ref w_LANGUAGE_TAG)) (E_LANGUAGE_TAG : Exa Z Z.heap w_LANGUAGE_TAG "com/example/qrew/qrew/dlgp/TokenKind") (S_DATATYPE_MARK : Sta Z Z.heap "com/example/qrew/qrew/dlgp/TokenKind" "DATATYPE_MARK" "Lcom/example/qrew/qrew/dlgp/TokenKind;" (.ref w_DATATYPE_MARK)) (E_DATATYPE_MARK : Exa Z Z.heap w_DATATYPE_MARK "com/example/qrew/qrew/dlgp/TokenKind") (S_INTEGER : Sta Z Z.heap "com/example/qrew/qrew/dlgp/TokenKind" "INTEGER" "Lcom/example/qrew/qrew/dlgp/TokenKind;" (.ref w_INTEGER)) (E_INTEGER : Exa Z Z.heap w_INTEGER "com/example/qrew/qrew/dlgp/TokenKind") (S_LABEL : Sta Z Z.heap "com/example/qrew/qrew/dlgp/TokenKind" "LABEL" "Lcom/example/qrew/qrew/dlgp/TokenKind;" (.ref w_LABEL)) (E_LABEL : Exa Z Z.heap w_LABEL "com/example/qrew/qrew/dlgp/TokenKind") (S_DIRECTIVE : Sta Z Z.heap "com/example/qrew/qrew/dlgp/TokenKind" "DIRECTIVE" "Lcom/example/qrew/qrew/dlgp/TokenKind;" (.ref w_DIRECTIVE)) (E_DIRECTIVE : Exa Z Z.heap w_DIRECTIVE "com/example/qrew/qrew/dlgp/TokenKind") (S_LEFT_PARENTHESIS : Sta Z Z.heap "com/example/qrew/qrew/dlgp/TokenKind" "LEFT_PARENTHESIS" "Lcom/example/qrew/qrew/dlgp/TokenKind;" (.ref w_LEFT_PARENTHESIS)) (E_LEFT_PARENTHESIS : Exa Z Z.heap w_LEFT_PARENTHESIS "com/example/qrew/qrew/dlgp/TokenKind") (S_RIGHT_PARENTHESIS : Sta Z Z.heap "com/example/qrew/qrew/dlgp/TokenKind" "RIGHT_PARENTHESIS" "Lcom/example/qrew/qrew/dlgp/TokenKind;" (.ref w_RIGHT_PARENTHESIS)) (E_RIGHT_PARENTHESIS : Exa Z Z.heap w_RIGHT_PARENTHESIS "com/example/qrew/qrew/dlgp/TokenKind") (S_COMMA : Sta Z Z.heap "com/example/qrew/qrew/dlgp/TokenKind" "COMMA" "Lcom/example/qrew/qrew/dlgp/TokenKind;" (.ref w_COMMA)) (E_COMMA : Exa Z Z.heap w_COMMA "com/example/qrew/qrew/dlgp/TokenKind") (S_DOT : Sta Z Z.heap "com/example/qrew/qrew/dlgp/TokenKind" "DOT" "Lcom/example/qrew/qrew/dlgp/TokenKind;" (.ref w_DOT)) (E_DOT : Exa Z Z.heap w_DOT "com/example/qrew/qrew/dlgp/TokenKind") (S_IMPLIES : Sta Z Z.heap "com/example/qrew/qrew/dlgp/TokenKind" "IMPLIES" "Lcom/example/qrew/qrew/dlgp/TokenKind;" (.ref w_IMPLIES)) (E_IMPLIES : Exa Z Z.heap w_IMPLIES "com/example/qrew/qrew/dlgp/TokenKind") (S_QUESTION_MARK : Sta Z Z.heap "com/example/qrew/qrew/dlgp/TokenKind" "QUESTION_MARK" "Lcom/example/qrew/qrew/dlgp/TokenKind;" (.ref w_QUESTION_MARK)) (E_QUESTION_MARK : Exa Z Z.heap w_QUESTION_MARK "com/example/qrew/qrew/dlgp/TokenKind") (S_EXCLAMATION_MARK : Sta Z Z.heap "com/example/qrew/qrew/dlgp/TokenKind" "EXCLAMATION_MARK" "Lcom/example/qrew/qrew/dlgp/TokenKind;" (.ref w_EXCLAMATION_MARK)) (E_EXCLAMATION_MARK : Exa Z Z.heap w_EXCLAMATION_MARK "com/example/qrew/qrew/dlgp/TokenKind") (S_BAR : Sta Z Z.heap "com/example/qrew/qrew/dlgp/TokenKind" "BAR" "Lcom/example/qrew/qrew/dlgp/TokenKind;" (.ref w_BAR)) (E_BAR : Exa Z Z.heap w_BAR "com/example/qrew/qrew/dlgp/TokenKind") (S_END : Sta Z Z.heap "com/example/qrew/qrew/dlgp/TokenKind" "END" "Lcom/example/qrew/qrew/dlgp/TokenKind;" (.ref w_END)) (E_END : Exa Z Z.heap w_END "com/example/qrew/qrew/dlgp/TokenKind") (x y : Addr) (h0 : Heap) (hO : Ext Z.heap h0)  :
    Con l Z EL0 [] (⟨"java/util/Objects", "requireNonNull", "(Ljava/lang/Object;Ljava/lang/String;)Ljava/lang/Object;"⟩ : MethodName) jdk_31_method_11_code 2 (some (.object "java/lang/Object")) R_reqNN #[(.ref x), (.ref y)] h0 [] (Q_reqNN Z x h0) := by
  refine Con.of (y := (⟨"java/util/Objects", "requireNonNull", "(Ljava/lang/Object;Ljava/lang/String;)Ljava/lang/Object;"⟩ : MethodName)) (f0 := fun m => mkF m 0 #[.val (.ref x), .val (.ref y)] []) (plainFor_of_name pn_1) hEL hO (fun m => by skip <;> first | (simp [entryFrame, mkF, argsToLocals, Value.category, maxLocals]; done) | rfl) ?_
  intro p e s m below meth c s₁ P0
  show Go p e below _ (s₁.setTop (mkF m 0 #[.val (.ref x), .val (.ref y)] []))
  refine P0.xs (fun hA hx hy t k => XS.aloadN hA hx rfl (hb hy d10_0) rfl rfl  k) ?_
  show Go p e below _ (s₁.setTop (mkF m 1 #[.val (.ref x), .val (.ref y)] [(.ref x)]))
  refine P0.xs (fun hA hx hy t k => XS.ifnonnullYes hA hx rfl (pc0 := 1) (pc' := 13) rfl (hb hy d10_1) rfl (by decide) (by decide) k) ?_
  show Go p e below _ (s₁.setTop (mkF m 13 #[.val (.ref x), .val (.ref y)] []))
  refine P0.xs (fun hA hx hy t k => XS.aloadN hA hx rfl (hb hy d10_13) rfl rfl  k) ?_
  show Go p e below _ (s₁.setTop (mkF m 14 #[.val (.ref x), .val (.ref y)] [(.ref x)]))
  exact P0.retR rfl rfl rfl d10_14 (by decide) (by decide) ⟨rfl, rfl⟩

def R_mKind : Room := { frames := 0, cells := 1, slots := 19, locals := 0 }
def Q_mKind (Z : State)  (h0 : Heap) (v : Option Value) (h : Heap) : Prop := ∃ x : Addr, v = some (.ref x) ∧ Exa Z Z.heap x "com/example/qrew/qrew/dlgp/TokenKind"
set_option maxRecDepth 65536 in
set_option maxHeartbeats 40000000 in
theorem mKind (l : Launch) (Z : State) (a0 : Array Value) (hw : ∀ d ∈ tables_1, d.before a0 Z = true) (hEL : EW Z a0 EL0) (zc : Int32) (S0 : Sta Z Z.heap "java/lang/String" "COMPACT_STRINGS" "Z" (.int zc)) (Pz : ¬ zc = 0) (w_IDENTIFIER w_VARIABLE w_IRI w_PREFIXED_NAME w_STRING w_LANGUAGE_TAG w_DATATYPE_MARK w_INTEGER w_LABEL w_DIRECTIVE w_LEFT_PARENTHESIS w_RIGHT_PARENTHESIS w_COMMA w_DOT w_IMPLIES w_QUESTION_MARK w_EXCLAMATION_MARK w_BAR w_END : Addr) (S_IDENTIFIER : Sta Z Z.heap "com/example/qrew/qrew/dlgp/TokenKind" "IDENTIFIER" "Lcom/example/qrew/qrew/dlgp/TokenKind;" (.ref w_IDENTIFIER)) (E_IDENTIFIER : Exa Z Z.heap w_IDENTIFIER "com/example/qrew/qrew/dlgp/TokenKind") (S_VARIABLE : Sta Z Z.heap "com/example/qrew/qrew/dlgp/TokenKind" "VARIABLE" "Lcom/example/qrew/qrew/dlgp/TokenKind;" (.ref w_VARIABLE)) (E_VARIABLE : Exa Z Z.heap w_VARIABLE "com/example/qrew/qrew/dlgp/TokenKind") (S_IRI : Sta Z Z.heap "com/example/qrew/qrew/dlgp/TokenKind" "IRI" "Lcom/example/qrew/qrew/dlgp/TokenKind;" (.ref w_IRI)) (E_IRI : Exa Z Z.heap w_IRI "com/example/qrew/qrew/dlgp/TokenKind") (S_PREFIXED_NAME : Sta Z Z.heap "com/example/qrew/qrew/dlgp/TokenKind" "PREFIXED_NAME" "Lcom/example/qrew/qrew/dlgp/TokenKind;" (.ref w_PREFIXED_NAME)) (E_PREFIXED_NAME : Exa Z Z.heap w_PREFIXED_NAME "com/example/qrew/qrew/dlgp/TokenKind") (S_STRING : Sta Z Z.heap "com/example/qrew/qrew/dlgp/TokenKind" "STRING" "Lcom/example/qrew/qrew/dlgp/TokenKind;" (.ref w_STRING)) (E_STRING : Exa Z Z.heap w_STRING "com/example/qrew/qrew/dlgp/TokenKind") (S_LANGUAGE_TAG : Sta Z Z.heap "com/example/qrew/qrew/dlgp/TokenKind" "LANGUAGE_TAG" "Lcom/example/qrew/qrew/dlgp/TokenKind;" (.ref w_LANGUAGE_TAG)) (E_LANGUAGE_TAG : Exa Z Z.heap w_LANGUAGE_TAG "com/example/qrew/qrew/dlgp/TokenKind") (S_DATATYPE_MARK : Sta Z Z.heap "com/example/qrew/qrew/dlgp/TokenKind" "DATATYPE_MARK" "Lcom/example/qrew/qrew/dlgp/TokenKind;" (.ref w_DATATYPE_MARK)) (E_DATATYPE_MARK : Exa Z Z.heap w_DATATYPE_MARK "com/example/qrew/qrew/dlgp/TokenKind") (S_INTEGER : Sta Z Z.heap "com/example/qrew/qrew/dlgp/TokenKind" "INTEGER" "Lcom/example/qrew/qrew/dlgp/TokenKind;" (.ref w_INTEGER)) (E_INTEGER : Exa Z Z.heap w_INTEGER "com/example/qrew/qrew/dlgp/TokenKind") (S_LABEL : Sta Z Z.heap "com/example/qrew/qrew/dlgp/TokenKind" "LABEL" "Lcom/example/qrew/qrew/dlgp/TokenKind;" (.ref w_LABEL)) (E_LABEL : Exa Z Z.heap w_LABEL "com/example/qrew/qrew/dlgp/TokenKind") (S_DIRECTIVE : Sta Z Z.heap "com/example/qrew/qrew/dlgp/TokenKind" "DIRECTIVE" "Lcom/example/qrew/qrew/dlgp/TokenKind;" (.ref w_DIRECTIVE)) (E_DIRECTIVE : Exa Z Z.heap w_DIRECTIVE "com/example/qrew/qrew/dlgp/TokenKind") (S_LEFT_PARENTHESIS : Sta Z Z.heap "com/example/qrew/qrew/dlgp/TokenKind" "LEFT_PARENTHESIS" "Lcom/example/qrew/qrew/dlgp/TokenKind;" (.ref w_LEFT_PARENTHESIS)) (E_LEFT_PARENTHESIS : Exa Z Z.heap w_LEFT_PARENTHESIS "com/example/qrew/qrew/dlgp/TokenKind") (S_RIGHT_PARENTHESIS : Sta Z Z.heap "com/example/qrew/qrew/dlgp/TokenKind" "RIGHT_PARENTHESIS" "Lcom/example/qrew/qrew/dlgp/TokenKind;" (.ref w_RIGHT_PARENTHESIS)) (E_RIGHT_PARENTHESIS : Exa Z Z.heap w_RIGHT_PARENTHESIS "com/example/qrew/qrew/dlgp/TokenKind") (S_COMMA : Sta Z Z.heap "com/example/qrew/qrew/dlgp/TokenKind" "COMMA" "Lcom/example/qrew/qrew/dlgp/TokenKind;" (.ref w_COMMA)) (E_COMMA : Exa Z Z.heap w_COMMA "com/example/qrew/qrew/dlgp/TokenKind") (S_DOT : Sta Z Z.heap "com/example/qrew/qrew/dlgp/TokenKind" "DOT" "Lcom/example/qrew/qrew/dlgp/TokenKind;" (.ref w_DOT)) (E_DOT : Exa Z Z.heap w_DOT "com/example/qrew/qrew/dlgp/TokenKind") (S_IMPLIES : Sta Z Z.heap "com/example/qrew/qrew/dlgp/TokenKind" "IMPLIES" "Lcom/example/qrew/qrew/dlgp/TokenKind;" (.ref w_IMPLIES)) (E_IMPLIES : Exa Z Z.heap w_IMPLIES "com/example/qrew/qrew/dlgp/TokenKind") (S_QUESTION_MARK : Sta Z Z.heap "com/example/qrew/qrew/dlgp/TokenKind" "QUESTION_MARK" "Lcom/example/qrew/qrew/dlgp/TokenKind;" (.ref w_QUESTION_MARK)) (E_QUESTION_MARK : Exa Z Z.heap w_QUESTION_MARK "com/example/qrew/qrew/dlgp/TokenKind") (S_EXCLAMATION_MARK : Sta Z Z.heap "com/example/qrew/qrew/dlgp/TokenKind" "EXCLAMATION_MARK" "Lcom/example/qrew/qrew/dlgp/TokenKind;" (.ref w_EXCLAMATION_MARK)) (E_EXCLAMATION_MARK : Exa Z Z.heap w_EXCLAMATION_MARK "com/example/qrew/qrew/dlgp/TokenKind") (S_BAR : Sta Z Z.heap "com/example/qrew/qrew/dlgp/TokenKind" "BAR" "Lcom/example/qrew/qrew/dlgp/TokenKind;" (.ref w_BAR)) (E_BAR : Exa Z Z.heap w_BAR "com/example/qrew/qrew/dlgp/TokenKind") (S_END : Sta Z Z.heap "com/example/qrew/qrew/dlgp/TokenKind" "END" "Lcom/example/qrew/qrew/dlgp/TokenKind;" (.ref w_END)) (E_END : Exa Z Z.heap w_END "com/example/qrew/qrew/dlgp/TokenKind") (i : Int32) (h0 : Heap) (hO : Ext Z.heap h0) (hi : ¬ i < 0 ∧ i.toNatClampNeg < 19) :
    Con l Z EL0 [] (⟨"com/example/qrew/qrew/dlgp/TokenEqualsPinLaw", "kindOf", "(I)Lcom/example/qrew/qrew/dlgp/TokenKind;"⟩ : MethodName) method_3_code 2 (some (.object "com/example/qrew/qrew/dlgp/TokenKind")) R_mKind #[(.int i)] h0 [] (Q_mKind Z  h0) := by
  refine Con.of (y := (⟨"com/example/qrew/qrew/dlgp/TokenEqualsPinLaw", "kindOf", "(I)Lcom/example/qrew/qrew/dlgp/TokenKind;"⟩ : MethodName)) (f0 := fun m => mkF m 0 #[.val (.int i), .unset] []) (plainFor_of_name pn_2) hEL hO (fun m => by skip <;> first | (simp [entryFrame, mkF, argsToLocals, Value.category, maxLocals]; done) | rfl) ?_
  intro p e s m below meth c s₁ P0
  show Go p e below _ (s₁.setTop (mkF m 0 #[.val (.int i), .unset] []))
  refine P0.xs (fun hA hx hy t k => XS.bipush hA hx rfl (hb hy d1_0) k) ?_
  show Go p e below _ (s₁.setTop (mkF m 2 #[.val (.int i), .unset] [(.int (19 : Int32))]))
  refine P0.newR (hw _ (List.mem_of_getElem? (i := 5) rfl)) (hw _ (List.mem_of_getElem? (i := 6) rfl)) d1_2 (by decide) (cap := 19) (by decide) (by decide) (by decide) (by decide) fun T20 h20 o20 k20 g20 P20 E20 A20 O20 => ?_
  have gz_o20 : Z.heap.size ≤ o20 := Nat.le_trans P0.old.1 (Nat.le_of_eq g20.symm)
  have gw_o20 : h0.size ≤ o20 := Nat.le_trans P0.kept.1 (Nat.le_of_eq g20.symm)
  have V20 : Arv Z h20 o20 k20 (.object "com/example/qrew/qrew/dlgp/TokenKind") (19 : Int32) [.null, .null, .null, .null, .null, .null, .null, .null, .null, .null, .null, .null, .null, .null, .null, .null, .null, .null, .null] .null := Arv.pad A20 (pad_rep [] .null 19)
  show Go p e below _ (T20.setTop (mkF m 5 #[.val (.int i), .unset] [(.ref o20)]))
  refine P20.xs (fun hA hx hy t k => XS.dup hA hx rfl (hb hy d1_5) rfl rfl k) ?_
  show Go p e below _ (T20.setTop (mkF m 6 #[.val (.int i), .unset] [(.ref o20), (.ref o20)]))
  refine P20.xs (fun hA hx hy t k => XS.iconst hA hx rfl (hb hy d1_6) k) ?_
  show Go p e below _ (T20.setTop (mkF m 7 #[.val (.int i), .unset] [(.int (0 : Int32)), (.ref o20), (.ref o20)]))
  refine P20.getS (host := "") (Or.inl (hw _ (List.mem_of_getElem? (i := 7) rfl))) Via.refl S_IDENTIFIER d1_7 fun T21 P21 => ?_
  show Go p e below _ (T21.setTop (mkF m 10 #[.val (.int i), .unset] [(.ref w_IDENTIFIER), (.int (0 : Int32)), (.ref o20), (.ref o20)]))
  have Ec23 : Exa Z h20 w_IDENTIFIER "com/example/qrew/qrew/dlgp/TokenKind" := (E_IDENTIFIER.ext P21.old)
  refine P21.stR V20 O20 (Ins.self Ec23) 0 (by decide) (by decide) (by decide) (Nat.le_of_ble_eq_true rfl) d1_10 gz_o20 (Or.inr gw_o20) fun T22 h22 P22 W22 V22 => ?_
  have Va22 : Arv Z h22 o20 k20 (.object "com/example/qrew/qrew/dlgp/TokenKind") (19 : Int32) [(.ref w_IDENTIFIER), .null, .null, .null, .null, .null, .null, .null, .null, .null, .null, .null, .null, .null, .null, .null, .null, .null, .null] .null := V22
  show Go p e below _ (T22.setTop (mkF m 11 #[.val (.int i), .unset] [(.ref o20)]))
  refine P22.xs (fun hA hx hy t k => XS.dup hA hx rfl (hb hy d1_11) rfl rfl k) ?_
  show Go p e below _ (T22.setTop (mkF m 12 #[.val (.int i), .unset] [(.ref o20), (.ref o20)]))
  refine P22.xs (fun hA hx hy t k => XS.iconst hA hx rfl (hb hy d1_12) k) ?_
  show Go p e below _ (T22.setTop (mkF m 13 #[.val (.int i), .unset] [(.int (1 : Int32)), (.ref o20), (.ref o20)]))
  refine P22.getS (host := "") (Or.inl (hw _ (List.mem_of_getElem? (i := 11) rfl))) Via.refl S_VARIABLE d1_13 fun T24 P24 => ?_
  show Go p e below _ (T24.setTop (mkF m 16 #[.val (.int i), .unset] [(.ref w_VARIABLE), (.int (1 : Int32)), (.ref o20), (.ref o20)]))
  have Ec26 : Exa Z h22 w_VARIABLE "com/example/qrew/qrew/dlgp/TokenKind" := (E_VARIABLE.ext P24.old)
  refine P24.stR Va22 O20 (Ins.self Ec26) 1 (by decide) (by decide) (by decide) (Nat.le_of_ble_eq_true rfl) d1_16 gz_o20 (Or.inr gw_o20) fun T25 h25 P25 W25 V25 => ?_
  have Va25 : Arv Z h25 o20 k20 (.object "com/example/qrew/qrew/dlgp/TokenKind") (19 : Int32) [(.ref w_IDENTIFIER), (.ref w_VARIABLE), .null, .null, .null, .null, .null, .null, .null, .null, .null, .null, .null, .null, .null, .null, .null, .null, .null] .null := V25
  show Go p e below _ (T25.setTop (mkF m 17 #[.val (.int i), .unset] [(.ref o20)]))
  refine P25.xs (fun hA hx hy t k => XS.dup hA hx rfl (hb hy d1_17) rfl rfl k) ?_
  show Go p e below _ (T25.setTop (mkF m 18 #[.val (.int i), .unset] [(.ref o20), (.ref o20)]))
  refine P25.xs (fun hA hx hy t k => XS.iconst hA hx rfl (hb hy d1_18) k) ?_
  show Go p e below _ (T25.setTop (mkF m 19 #[.val (.int i), .unset] [(.int (2 : Int32)), (.ref o20), (.ref o20)]))
  refine P25.getS (host := "") (Or.inl (hw _ (List.mem_of_getElem? (i := 13) rfl))) Via.refl S_IRI d1_19 fun T27 P27 => ?_
  show Go p e below _ (T27.setTop (mkF m 22 #[.val (.int i), .unset] [(.ref w_IRI), (.int (2 : Int32)), (.ref o20), (.ref o20)]))
  have Ec29 : Exa Z h25 w_IRI "com/example/qrew/qrew/dlgp/TokenKind" := (E_IRI.ext P27.old)
  refine P27.stR Va25 O20 (Ins.self Ec29) 2 (by decide) (by decide) (by decide) (Nat.le_of_ble_eq_true rfl) d1_22 gz_o20 (Or.inr gw_o20) fun T28 h28 P28 W28 V28 => ?_
  have Va28 : Arv Z h28 o20 k20 (.object "com/example/qrew/qrew/dlgp/TokenKind") (19 : Int32) [(.ref w_IDENTIFIER), (.ref w_VARIABLE), (.ref w_IRI), .null, .null, .null, .null, .null, .null, .null, .null, .null, .null, .null, .null, .null, .null, .null, .null] .null := V28
  show Go p e below _ (T28.setTop (mkF m 23 #[.val (.int i), .unset] [(.ref o20)]))
  refine P28.xs (fun hA hx hy t k => XS.dup hA hx rfl (hb hy d1_23) rfl rfl k) ?_
  show Go p e below _ (T28.setTop (mkF m 24 #[.val (.int i), .unset] [(.ref o20), (.ref o20)]))
  refine P28.xs (fun hA hx hy t k => XS.iconst hA hx rfl (hb hy d1_24) k) ?_
  show Go p e below _ (T28.setTop (mkF m 25 #[.val (.int i), .unset] [(.int (3 : Int32)), (.ref o20), (.ref o20)]))
  refine P28.getS (host := "") (Or.inl (hw _ (List.mem_of_getElem? (i := 15) rfl))) Via.refl S_PREFIXED_NAME d1_25 fun T30 P30 => ?_
  show Go p e below _ (T30.setTop (mkF m 28 #[.val (.int i), .unset] [(.ref w_PREFIXED_NAME), (.int (3 : Int32)), (.ref o20), (.ref o20)]))
  have Ec32 : Exa Z h28 w_PREFIXED_NAME "com/example/qrew/qrew/dlgp/TokenKind" := (E_PREFIXED_NAME.ext P30.old)
  refine P30.stR Va28 O20 (Ins.self Ec32) 3 (by decide) (by decide) (by decide) (Nat.le_of_ble_eq_true rfl) d1_28 gz_o20 (Or.inr gw_o20) fun T31 h31 P31 W31 V31 => ?_
  have Va31 : Arv Z h31 o20 k20 (.object "com/example/qrew/qrew/dlgp/TokenKind") (19 : Int32) [(.ref w_IDENTIFIER), (.ref w_VARIABLE), (.ref w_IRI), (.ref w_PREFIXED_NAME), .null, .null, .null, .null, .null, .null, .null, .null, .null, .null, .null, .null, .null, .null, .null] .null := V31
  show Go p e below _ (T31.setTop (mkF m 29 #[.val (.int i), .unset] [(.ref o20)]))
  refine P31.xs (fun hA hx hy t k => XS.dup hA hx rfl (hb hy d1_29) rfl rfl k) ?_
  show Go p e below _ (T31.setTop (mkF m 30 #[.val (.int i), .unset] [(.ref o20), (.ref o20)]))
  refine P31.xs (fun hA hx hy t k => XS.iconst hA hx rfl (hb hy d1_30) k) ?_
  show Go p e below _ (T31.setTop (mkF m 31 #[.val (.int i), .unset] [(.int (4 : Int32)), (.ref o20), (.ref o20)]))
  refine P31.getS (host := "") (Or.inl (hw _ (List.mem_of_getElem? (i := 17) rfl))) Via.refl S_STRING d1_31 fun T33 P33 => ?_
  show Go p e below _ (T33.setTop (mkF m 34 #[.val (.int i), .unset] [(.ref w_STRING), (.int (4 : Int32)), (.ref o20), (.ref o20)]))
  have Ec35 : Exa Z h31 w_STRING "com/example/qrew/qrew/dlgp/TokenKind" := (E_STRING.ext P33.old)
  refine P33.stR Va31 O20 (Ins.self Ec35) 4 (by decide) (by decide) (by decide) (Nat.le_of_ble_eq_true rfl) d1_34 gz_o20 (Or.inr gw_o20) fun T34 h34 P34 W34 V34 => ?_
  have Va34 : Arv Z h34 o20 k20 (.object "com/example/qrew/qrew/dlgp/TokenKind") (19 : Int32) [(.ref w_IDENTIFIER), (.ref w_VARIABLE), (.ref w_IRI), (.ref w_PREFIXED_NAME), (.ref w_STRING), .null, .null, .null, .null, .null, .null, .null, .null, .null, .null, .null, .null, .null, .null] .null := V34
  show Go p e below _ (T34.setTop (mkF m 35 #[.val (.int i), .unset] [(.ref o20)]))
  refine P34.xs (fun hA hx hy t k => XS.dup hA hx rfl (hb hy d1_35) rfl rfl k) ?_
  show Go p e below _ (T34.setTop (mkF m 36 #[.val (.int i), .unset] [(.ref o20), (.ref o20)]))
  refine P34.xs (fun hA hx hy t k => XS.iconst hA hx rfl (hb hy d1_36) k) ?_
  show Go p e below _ (T34.setTop (mkF m 37 #[.val (.int i), .unset] [(.int (5 : Int32)), (.ref o20), (.ref o20)]))
  refine P34.getS (host := "") (Or.inl (hw _ (List.mem_of_getElem? (i := 19) rfl))) Via.refl S_LANGUAGE_TAG d1_37 fun T36 P36 => ?_
  show Go p e below _ (T36.setTop (mkF m 40 #[.val (.int i), .unset] [(.ref w_LANGUAGE_TAG), (.int (5 : Int32)), (.ref o20), (.ref o20)]))
  have Ec38 : Exa Z h34 w_LANGUAGE_TAG "com/example/qrew/qrew/dlgp/TokenKind" := (E_LANGUAGE_TAG.ext P36.old)
  refine P36.stR Va34 O20 (Ins.self Ec38) 5 (by decide) (by decide) (by decide) (Nat.le_of_ble_eq_true rfl) d1_40 gz_o20 (Or.inr gw_o20) fun T37 h37 P37 W37 V37 => ?_
  have Va37 : Arv Z h37 o20 k20 (.object "com/example/qrew/qrew/dlgp/TokenKind") (19 : Int32) [(.ref w_IDENTIFIER), (.ref w_VARIABLE), (.ref w_IRI), (.ref w_PREFIXED_NAME), (.ref w_STRING), (.ref w_LANGUAGE_TAG), .null, .null, .null, .null, .null, .null, .null, .null, .null, .null, .null, .null, .null] .null := V37
  show Go p e below _ (T37.setTop (mkF m 41 #[.val (.int i), .unset] [(.ref o20)]))
  refine P37.xs (fun hA hx hy t k => XS.dup hA hx rfl (hb hy d1_41) rfl rfl k) ?_
  show Go p e below _ (T37.setTop (mkF m 42 #[.val (.int i), .unset] [(.ref o20), (.ref o20)]))
  refine P37.xs (fun hA hx hy t k => XS.bipush hA hx rfl (hb hy d1_42) k) ?_
  show Go p e below _ (T37.setTop (mkF m 44 #[.val (.int i), .unset] [(.int (6 : Int32)), (.ref o20), (.ref o20)]))
  refine P37.getS (host := "") (Or.inl (hw _ (List.mem_of_getElem? (i := 21) rfl))) Via.refl S_DATATYPE_MARK d1_44 fun T39 P39 => ?_
  show Go p e below _ (T39.setTop (mkF m 47 #[.val (.int i), .unset] [(.ref w_DATATYPE_MARK), (.int (6 : Int32)), (.ref o20), (.ref o20)]))
  have Ec41 : Exa Z h37 w_DATATYPE_MARK "com/example/qrew/qrew/dlgp/TokenKind" := (E_DATATYPE_MARK.ext P39.old)
  refine P39.stR Va37 O20 (Ins.self Ec41) 6 (by decide) (by decide) (by decide) (Nat.le_of_ble_eq_true rfl) d1_47 gz_o20 (Or.inr gw_o20) fun T40 h40 P40 W40 V40 => ?_
  have Va40 : Arv Z h40 o20 k20 (.object "com/example/qrew/qrew/dlgp/TokenKind") (19 : Int32) [(.ref w_IDENTIFIER), (.ref w_VARIABLE), (.ref w_IRI), (.ref w_PREFIXED_NAME), (.ref w_STRING), (.ref w_LANGUAGE_TAG), (.ref w_DATATYPE_MARK), .null, .null, .null, .null, .null, .null, .null, .null, .null, .null, .null, .null] .null := V40
  show Go p e below _ (T40.setTop (mkF m 48 #[.val (.int i), .unset] [(.ref o20)]))
  refine P40.xs (fun hA hx hy t k => XS.dup hA hx rfl (hb hy d1_48) rfl rfl k) ?_
  show Go p e below _ (T40.setTop (mkF m 49 #[.val (.int i), .unset] [(.ref o20), (.ref o20)]))
  refine P40.xs (fun hA hx hy t k => XS.bipush hA hx rfl (hb hy d1_49) k) ?_
  show Go p e below _ (T40.setTop (mkF m 51 #[.val (.int i), .unset] [(.int (7 : Int32)), (.ref o20), (.ref o20)]))
  refine P40.getS (host := "") (Or.inl (hw _ (List.mem_of_getElem? (i := 23) rfl))) Via.refl S_INTEGER d1_51 fun T42 P42 => ?_
  show Go p e below _ (T42.setTop (mkF m 54 #[.val (.int i), .unset] [(.ref w_INTEGER), (.int (7 : Int32)), (.ref o20), (.ref o20)]))
  have Ec44 : Exa Z h40 w_INTEGER "com/example/qrew/qrew/dlgp/TokenKind" := (E_INTEGER.ext P42.old)
  refine P42.stR Va40 O20 (Ins.self Ec44) 7 (by decide) (by decide) (by decide) (Nat.le_of_ble_eq_true rfl) d1_54 gz_o20 (Or.inr gw_o20) fun T43 h43 P43 W43 V43 => ?_
  have Va43 : Arv Z h43 o20 k20 (.object "com/example/qrew/qrew/dlgp/TokenKind") (19 : Int32) [(.ref w_IDENTIFIER), (.ref w_VARIABLE), (.ref w_IRI), (.ref w_PREFIXED_NAME), (.ref w_STRING), (.ref w_LANGUAGE_TAG), (.ref w_DATATYPE_MARK), (.ref w_INTEGER), .null, .null, .null, .null, .null, .null, .null, .null, .null, .null, .null] .null := V43
  show Go p e below _ (T43.setTop (mkF m 55 #[.val (.int i), .unset] [(.ref o20)]))
  refine P43.xs (fun hA hx hy t k => XS.dup hA hx rfl (hb hy d1_55) rfl rfl k) ?_
  show Go p e below _ (T43.setTop (mkF m 56 #[.val (.int i), .unset] [(.ref o20), (.ref o20)]))
  refine P43.xs (fun hA hx hy t k => XS.bipush hA hx rfl (hb hy d1_56) k) ?_
  show Go p e below _ (T43.setTop (mkF m 58 #[.val (.int i), .unset] [(.int (8 : Int32)), (.ref o20), (.ref o20)]))
  refine P43.getS (host := "") (Or.inl (hw _ (List.mem_of_getElem? (i := 25) rfl))) Via.refl S_LABEL d1_58 fun T45 P45 => ?_
  show Go p e below _ (T45.setTop (mkF m 61 #[.val (.int i), .unset] [(.ref w_LABEL), (.int (8 : Int32)), (.ref o20), (.ref o20)]))
  have Ec47 : Exa Z h43 w_LABEL "com/example/qrew/qrew/dlgp/TokenKind" := (E_LABEL.ext P45.old)
  refine P45.stR Va43 O20 (Ins.self Ec47) 8 (by decide) (by decide) (by decide) (Nat.le_of_ble_eq_true rfl) d1_61 gz_o20 (Or.inr gw_o20) fun T46 h46 P46 W46 V46 => ?_
  have Va46 : Arv Z h46 o20 k20 (.object "com/example/qrew/qrew/dlgp/TokenKind") (19 : Int32) [(.ref w_IDENTIFIER), (.ref w_VARIABLE), (.ref w_IRI), (.ref w_PREFIXED_NAME), (.ref w_STRING), (.ref w_LANGUAGE_TAG), (.ref w_DATATYPE_MARK), (.ref w_INTEGER), (.ref w_LABEL), .null, .null, .null, .null, .null, .null, .null, .null, .null, .null] .null := V46
  show Go p e below _ (T46.setTop (mkF m 62 #[.val (.int i), .unset] [(.ref o20)]))
  refine P46.xs (fun hA hx hy t k => XS.dup hA hx rfl (hb hy d1_62) rfl rfl k) ?_
  show Go p e below _ (T46.setTop (mkF m 63 #[.val (.int i), .unset] [(.ref o20), (.ref o20)]))
  refine P46.xs (fun hA hx hy t k => XS.bipush hA hx rfl (hb hy d1_63) k) ?_
  show Go p e below _ (T46.setTop (mkF m 65 #[.val (.int i), .unset] [(.int (9 : Int32)), (.ref o20), (.ref o20)]))
  refine P46.getS (host := "") (Or.inl (hw _ (List.mem_of_getElem? (i := 27) rfl))) Via.refl S_DIRECTIVE d1_65 fun T48 P48 => ?_
  show Go p e below _ (T48.setTop (mkF m 68 #[.val (.int i), .unset] [(.ref w_DIRECTIVE), (.int (9 : Int32)), (.ref o20), (.ref o20)]))
  have Ec50 : Exa Z h46 w_DIRECTIVE "com/example/qrew/qrew/dlgp/TokenKind" := (E_DIRECTIVE.ext P48.old)
  refine P48.stR Va46 O20 (Ins.self Ec50) 9 (by decide) (by decide) (by decide) (Nat.le_of_ble_eq_true rfl) d1_68 gz_o20 (Or.inr gw_o20) fun T49 h49 P49 W49 V49 => ?_
  have Va49 : Arv Z h49 o20 k20 (.object "com/example/qrew/qrew/dlgp/TokenKind") (19 : Int32) [(.ref w_IDENTIFIER), (.ref w_VARIABLE), (.ref w_IRI), (.ref w_PREFIXED_NAME), (.ref w_STRING), (.ref w_LANGUAGE_TAG), (.ref w_DATATYPE_MARK), (.ref w_INTEGER), (.ref w_LABEL), (.ref w_DIRECTIVE), .null, .null, .null, .null, .null, .null, .null, .null, .null] .null := V49
  show Go p e below _ (T49.setTop (mkF m 69 #[.val (.int i), .unset] [(.ref o20)]))
  refine P49.xs (fun hA hx hy t k => XS.dup hA hx rfl (hb hy d1_69) rfl rfl k) ?_
  show Go p e below _ (T49.setTop (mkF m 70 #[.val (.int i), .unset] [(.ref o20), (.ref o20)]))
  refine P49.xs (fun hA hx hy t k => XS.bipush hA hx rfl (hb hy d1_70) k) ?_
  show Go p e below _ (T49.setTop (mkF m 72 #[.val (.int i), .unset] [(.int (10 : Int32)), (.ref o20), (.ref o20)]))
  refine P49.getS (host := "") (Or.inl (hw _ (List.mem_of_getElem? (i := 29) rfl))) Via.refl S_LEFT_PARENTHESIS d1_72 fun T51 P51 => ?_
  show Go p e below _ (T51.setTop (mkF m 75 #[.val (.int i), .unset] [(.ref w_LEFT_PARENTHESIS), (.int (10 : Int32)), (.ref o20), (.ref o20)]))
  have Ec53 : Exa Z h49 w_LEFT_PARENTHESIS "com/example/qrew/qrew/dlgp/TokenKind" := (E_LEFT_PARENTHESIS.ext P51.old)
  refine P51.stR Va49 O20 (Ins.self Ec53) 10 (by decide) (by decide) (by decide) (Nat.le_of_ble_eq_true rfl) d1_75 gz_o20 (Or.inr gw_o20) fun T52 h52 P52 W52 V52 => ?_
  have Va52 : Arv Z h52 o20 k20 (.object "com/example/qrew/qrew/dlgp/TokenKind") (19 : Int32) [(.ref w_IDENTIFIER), (.ref w_VARIABLE), (.ref w_IRI), (.ref w_PREFIXED_NAME), (.ref w_STRING), (.ref w_LANGUAGE_TAG), (.ref w_DATATYPE_MARK), (.ref w_INTEGER), (.ref w_LABEL), (.ref w_DIRECTIVE), (.ref w_LEFT_PARENTHESIS), .null, .null, .null, .null, .null, .null, .null, .null] .null := V52
  show Go p e below _ (T52.setTop (mkF m 76 #[.val (.int i), .unset] [(.ref o20)]))
  refine P52.xs (fun hA hx hy t k => XS.dup hA hx rfl (hb hy d1_76) rfl rfl k) ?_
  show Go p e below _ (T52.setTop (mkF m 77 #[.val (.int i), .unset] [(.ref o20), (.ref o20)]))
  refine P52.xs (fun hA hx hy t k => XS.bipush hA hx rfl (hb hy d1_77) k) ?_
  show Go p e below _ (T52.setTop (mkF m 79 #[.val (.int i), .unset] [(.int (11 : Int32)), (.ref o20), (.ref o20)]))
  refine P52.getS (host := "") (Or.inl (hw _ (List.mem_of_getElem? (i := 31) rfl))) Via.refl S_RIGHT_PARENTHESIS d1_79 fun T54 P54 => ?_
  show Go p e below _ (T54.setTop (mkF m 82 #[.val (.int i), .unset] [(.ref w_RIGHT_PARENTHESIS), (.int (11 : Int32)), (.ref o20), (.ref o20)]))
  have Ec56 : Exa Z h52 w_RIGHT_PARENTHESIS "com/example/qrew/qrew/dlgp/TokenKind" := (E_RIGHT_PARENTHESIS.ext P54.old)
  refine P54.stR Va52 O20 (Ins.self Ec56) 11 (by decide) (by decide) (by decide) (Nat.le_of_ble_eq_true rfl) d1_82 gz_o20 (Or.inr gw_o20) fun T55 h55 P55 W55 V55 => ?_
  have Va55 : Arv Z h55 o20 k20 (.object "com/example/qrew/qrew/dlgp/TokenKind") (19 : Int32) [(.ref w_IDENTIFIER), (.ref w_VARIABLE), (.ref w_IRI), (.ref w_PREFIXED_NAME), (.ref w_STRING), (.ref w_LANGUAGE_TAG), (.ref w_DATATYPE_MARK), (.ref w_INTEGER), (.ref w_LABEL), (.ref w_DIRECTIVE), (.ref w_LEFT_PARENTHESIS), (.ref w_RIGHT_PARENTHESIS), .null, .null, .null, .null, .null, .null, .null] .null := V55
  show Go p e below _ (T55.setTop (mkF m 83 #[.val (.int i), .unset] [(.ref o20)]))
  refine P55.xs (fun hA hx hy t k => XS.dup hA hx rfl (hb hy d1_83) rfl rfl k) ?_
  show Go p e below _ (T55.setTop (mkF m 84 #[.val (.int i), .unset] [(.ref o20), (.ref o20)]))
  refine P55.xs (fun hA hx hy t k => XS.bipush hA hx rfl (hb hy d1_84) k) ?_
  show Go p e below _ (T55.setTop (mkF m 86 #[.val (.int i), .unset] [(.int (12 : Int32)), (.ref o20), (.ref o20)]))
  refine P55.getS (host := "") (Or.inl (hw _ (List.mem_of_getElem? (i := 33) rfl))) Via.refl S_COMMA d1_86 fun T57 P57 => ?_
  show Go p e below _ (T57.setTop (mkF m 89 #[.val (.int i), .unset] [(.ref w_COMMA), (.int (12 : Int32)), (.ref o20), (.ref o20)]))
  have Ec59 : Exa Z h55 w_COMMA "com/example/qrew/qrew/dlgp/TokenKind" := (E_COMMA.ext P57.old)
  refine P57.stR Va55 O20 (Ins.self Ec59) 12 (by decide) (by decide) (by decide) (Nat.le_of_ble_eq_true rfl) d1_89 gz_o20 (Or.inr gw_o20) fun T58 h58 P58 W58 V58 => ?_
  have Va58 : Arv Z h58 o20 k20 (.object "com/example/qrew/qrew/dlgp/TokenKind") (19 : Int32) [(.ref w_IDENTIFIER), (.ref w_VARIABLE), (.ref w_IRI), (.ref w_PREFIXED_NAME), (.ref w_STRING), (.ref w_LANGUAGE_TAG), (.ref w_DATATYPE_MARK), (.ref w_INTEGER), (.ref w_LABEL), (.ref w_DIRECTIVE), (.ref w_LEFT_PARENTHESIS), (.ref w_RIGHT_PARENTHESIS), (.ref w_COMMA), .null, .null, .null, .null, .null, .null] .null := V58
  show Go p e below _ (T58.setTop (mkF m 90 #[.val (.int i), .unset] [(.ref o20)]))
  refine P58.xs (fun hA hx hy t k => XS.dup hA hx rfl (hb hy d1_90) rfl rfl k) ?_
  show Go p e below _ (T58.setTop (mkF m 91 #[.val (.int i), .unset] [(.ref o20), (.ref o20)]))
  refine P58.xs (fun hA hx hy t k => XS.bipush hA hx rfl (hb hy d1_91) k) ?_
  show Go p e below _ (T58.setTop (mkF m 93 #[.val (.int i), .unset] [(.int (13 : Int32)), (.ref o20), (.ref o20)]))
  refine P58.getS (host := "") (Or.inl (hw _ (List.mem_of_getElem? (i := 35) rfl))) Via.refl S_DOT d1_93 fun T60 P60 => ?_
  show Go p e below _ (T60.setTop (mkF m 96 #[.val (.int i), .unset] [(.ref w_DOT), (.int (13 : Int32)), (.ref o20), (.ref o20)]))
  have Ec62 : Exa Z h58 w_DOT "com/example/qrew/qrew/dlgp/TokenKind" := (E_DOT.ext P60.old)
  refine P60.stR Va58 O20 (Ins.self Ec62) 13 (by decide) (by decide) (by decide) (Nat.le_of_ble_eq_true rfl) d1_96 gz_o20 (Or.inr gw_o20) fun T61 h61 P61 W61 V61 => ?_
  have Va61 : Arv Z h61 o20 k20 (.object "com/example/qrew/qrew/dlgp/TokenKind") (19 : Int32) [(.ref w_IDENTIFIER), (.ref w_VARIABLE), (.ref w_IRI), (.ref w_PREFIXED_NAME), (.ref w_STRING), (.ref w_LANGUAGE_TAG), (.ref w_DATATYPE_MARK), (.ref w_INTEGER), (.ref w_LABEL), (.ref w_DIRECTIVE), (.ref w_LEFT_PARENTHESIS), (.ref w_RIGHT_PARENTHESIS), (.ref w_COMMA), (.ref w_DOT), .null, .null, .null, .null, .null] .null := V61
  show Go p e below _ (T61.setTop (mkF m 97 #[.val (.int i), .unset] [(.ref o20)]))
  refine P61.xs (fun hA hx hy t k => XS.dup hA hx rfl (hb hy d1_97) rfl rfl k) ?_
  show Go p e below _ (T61.setTop (mkF m 98 #[.val (.int i), .unset] [(.ref o20), (.ref o20)]))
  refine P61.xs (fun hA hx hy t k => XS.bipush hA hx rfl (hb hy d1_98) k) ?_
  show Go p e below _ (T61.setTop (mkF m 100 #[.val (.int i), .unset] [(.int (14 : Int32)), (.ref o20), (.ref o20)]))
  refine P61.getS (host := "") (Or.inl (hw _ (List.mem_of_getElem? (i := 37) rfl))) Via.refl S_IMPLIES d1_100 fun T63 P63 => ?_
  show Go p e below _ (T63.setTop (mkF m 103 #[.val (.int i), .unset] [(.ref w_IMPLIES), (.int (14 : Int32)), (.ref o20), (.ref o20)]))
  have Ec65 : Exa Z h61 w_IMPLIES "com/example/qrew/qrew/dlgp/TokenKind" := (E_IMPLIES.ext P63.old)
  refine P63.stR Va61 O20 (Ins.self Ec65) 14 (by decide) (by decide) (by decide) (Nat.le_of_ble_eq_true rfl) d1_103 gz_o20 (Or.inr gw_o20) fun T64 h64 P64 W64 V64 => ?_
  have Va64 : Arv Z h64 o20 k20 (.object "com/example/qrew/qrew/dlgp/TokenKind") (19 : Int32) [(.ref w_IDENTIFIER), (.ref w_VARIABLE), (.ref w_IRI), (.ref w_PREFIXED_NAME), (.ref w_STRING), (.ref w_LANGUAGE_TAG), (.ref w_DATATYPE_MARK), (.ref w_INTEGER), (.ref w_LABEL), (.ref w_DIRECTIVE), (.ref w_LEFT_PARENTHESIS), (.ref w_RIGHT_PARENTHESIS), (.ref w_COMMA), (.ref w_DOT), (.ref w_IMPLIES), .null, .null, .null, .null] .null := V64
  show Go p e below _ (T64.setTop (mkF m 104 #[.val (.int i), .unset] [(.ref o20)]))
  refine P64.xs (fun hA hx hy t k => XS.dup hA hx rfl (hb hy d1_104) rfl rfl k) ?_
  show Go p e below _ (T64.setTop (mkF m 105 #[.val (.int i), .unset] [(.ref o20), (.ref o20)]))
  refine P64.xs (fun hA hx hy t k => XS.bipush hA hx rfl (hb hy d1_105) k) ?_
  show Go p e below _ (T64.setTop (mkF m 107 #[.val (.int i), .unset] [(.int (15 : Int32)), (.ref o20), (.ref o20)]))
  refine P64.getS (host := "") (Or.inl (hw _ (List.mem_of_getElem? (i := 39) rfl))) Via.refl S_QUESTION_MARK d1_107 fun T66 P66 => ?_
  show Go p e below _ (T66.setTop (mkF m 110 #[.val (.int i), .unset] [(.ref w_QUESTION_MARK), (.int (15 : Int32)), (.ref o20), (.ref o20)]))
  have Ec68 : Exa Z h64 w_QUESTION_MARK "com/example/qrew/qrew/dlgp/TokenKind" := (E_QUESTION_MARK.ext P66.old)
  refine P66.stR Va64 O20 (Ins.self Ec68) 15 (by decide) (by decide) (by decide) (Nat.le_of_ble_eq_true rfl) d1_110 gz_o20 (Or.inr gw_o20) fun T67 h67 P67 W67 V67 => ?_
  have Va67 : Arv Z h67 o20 k20 (.object "com/example/qrew/qrew/dlgp/TokenKind") (19 : Int32) [(.ref w_IDENTIFIER), (.ref w_VARIABLE), (.ref w_IRI), (.ref w_PREFIXED_NAME), (.ref w_STRING), (.ref w_LANGUAGE_TAG), (.ref w_DATATYPE_MARK), (.ref w_INTEGER), (.ref w_LABEL), (.ref w_DIRECTIVE), (.ref w_LEFT_PARENTHESIS), (.ref w_RIGHT_PARENTHESIS), (.ref w_COMMA), (.ref w_DOT), (.ref w_IMPLIES), (.ref w_QUESTION_MARK), .null, .null, .null] .null := V67
  show Go p e below _ (T67.setTop (mkF m 111 #[.val (.int i), .unset] [(.ref o20)]))
  refine P67.xs (fun hA hx hy t k => XS.dup hA hx rfl (hb hy d1_111) rfl rfl k) ?_
  show Go p e below _ (T67.setTop (mkF m 112 #[.val (.int i), .unset] [(.ref o20), (.ref o20)]))
  refine P67.xs (fun hA hx hy t k => XS.bipush hA hx rfl (hb hy d1_112) k) ?_
  show Go p e below _ (T67.setTop (mkF m 114 #[.val (.int i), .unset] [(.int (16 : Int32)), (.ref o20), (.ref o20)]))
  refine P67.getS (host := "") (Or.inl (hw _ (List.mem_of_getElem? (i := 41) rfl))) Via.refl S_EXCLAMATION_MARK d1_114 fun T69 P69 => ?_
  show Go p e below _ (T69.setTop (mkF m 117 #[.val (.int i), .unset] [(.ref w_EXCLAMATION_MARK), (.int (16 : Int32)), (.ref o20), (.ref o20)]))
  have Ec71 : Exa Z h67 w_EXCLAMATION_MARK "com/example/qrew/qrew/dlgp/TokenKind" := (E_EXCLAMATION_MARK.ext P69.old)
  refine P69.stR Va67 O20 (Ins.self Ec71) 16 (by decide) (by decide) (by decide) (Nat.le_of_ble_eq_true rfl) d1_117 gz_o20 (Or.inr gw_o20) fun T70 h70 P70 W70 V70 => ?_
  have Va70 : Arv Z h70 o20 k20 (.object "com/example/qrew/qrew/dlgp/TokenKind") (19 : Int32) [(.ref w_IDENTIFIER), (.ref w_VARIABLE), (.ref w_IRI), (.ref w_PREFIXED_NAME), (.ref w_STRING), (.ref w_LANGUAGE_TAG), (.ref w_DATATYPE_MARK), (.ref w_INTEGER), (.ref w_LABEL), (.ref w_DIRECTIVE), (.ref w_LEFT_PARENTHESIS), (.ref w_RIGHT_PARENTHESIS), (.ref w_COMMA), (.ref w_DOT), (.ref w_IMPLIES), (.ref w_QUESTION_MARK), (.ref w_EXCLAMATION_MARK), .null, .null] .null := V70
  show Go p e below _ (T70.setTop (mkF m 118 #[.val (.int i), .unset] [(.ref o20)]))
  refine P70.xs (fun hA hx hy t k => XS.dup hA hx rfl (hb hy d1_118) rfl rfl k) ?_
  show Go p e below _ (T70.setTop (mkF m 119 #[.val (.int i), .unset] [(.ref o20), (.ref o20)]))
  refine P70.xs (fun hA hx hy t k => XS.bipush hA hx rfl (hb hy d1_119) k) ?_
  show Go p e below _ (T70.setTop (mkF m 121 #[.val (.int i), .unset] [(.int (17 : Int32)), (.ref o20), (.ref o20)]))
  refine P70.getS (host := "") (Or.inl (hw _ (List.mem_of_getElem? (i := 43) rfl))) Via.refl S_BAR d1_121 fun T72 P72 => ?_
  show Go p e below _ (T72.setTop (mkF m 124 #[.val (.int i), .unset] [(.ref w_BAR), (.int (17 : Int32)), (.ref o20), (.ref o20)]))
  have Ec74 : Exa Z h70 w_BAR "com/example/qrew/qrew/dlgp/TokenKind" := (E_BAR.ext P72.old)
  refine P72.stR Va70 O20 (Ins.self Ec74) 17 (by decide) (by decide) (by decide) (Nat.le_of_ble_eq_true rfl) d1_124 gz_o20 (Or.inr gw_o20) fun T73 h73 P73 W73 V73 => ?_
  have Va73 : Arv Z h73 o20 k20 (.object "com/example/qrew/qrew/dlgp/TokenKind") (19 : Int32) [(.ref w_IDENTIFIER), (.ref w_VARIABLE), (.ref w_IRI), (.ref w_PREFIXED_NAME), (.ref w_STRING), (.ref w_LANGUAGE_TAG), (.ref w_DATATYPE_MARK), (.ref w_INTEGER), (.ref w_LABEL), (.ref w_DIRECTIVE), (.ref w_LEFT_PARENTHESIS), (.ref w_RIGHT_PARENTHESIS), (.ref w_COMMA), (.ref w_DOT), (.ref w_IMPLIES), (.ref w_QUESTION_MARK), (.ref w_EXCLAMATION_MARK), (.ref w_BAR), .null] .null := V73
  show Go p e below _ (T73.setTop (mkF m 125 #[.val (.int i), .unset] [(.ref o20)]))
  refine P73.xs (fun hA hx hy t k => XS.dup hA hx rfl (hb hy d1_125) rfl rfl k) ?_
  show Go p e below _ (T73.setTop (mkF m 126 #[.val (.int i), .unset] [(.ref o20), (.ref o20)]))
  refine P73.xs (fun hA hx hy t k => XS.bipush hA hx rfl (hb hy d1_126) k) ?_
  show Go p e below _ (T73.setTop (mkF m 128 #[.val (.int i), .unset] [(.int (18 : Int32)), (.ref o20), (.ref o20)]))
  refine P73.getS (host := "") (Or.inl (hw _ (List.mem_of_getElem? (i := 45) rfl))) Via.refl S_END d1_128 fun T75 P75 => ?_
  show Go p e below _ (T75.setTop (mkF m 131 #[.val (.int i), .unset] [(.ref w_END), (.int (18 : Int32)), (.ref o20), (.ref o20)]))
  have Ec77 : Exa Z h73 w_END "com/example/qrew/qrew/dlgp/TokenKind" := (E_END.ext P75.old)
  refine P75.stR Va73 O20 (Ins.self Ec77) 18 (by decide) (by decide) (by decide) (Nat.le_of_ble_eq_true rfl) d1_131 gz_o20 (Or.inr gw_o20) fun T76 h76 P76 W76 V76 => ?_
  have Va76 : Arv Z h76 o20 k20 (.object "com/example/qrew/qrew/dlgp/TokenKind") (19 : Int32) [(.ref w_IDENTIFIER), (.ref w_VARIABLE), (.ref w_IRI), (.ref w_PREFIXED_NAME), (.ref w_STRING), (.ref w_LANGUAGE_TAG), (.ref w_DATATYPE_MARK), (.ref w_INTEGER), (.ref w_LABEL), (.ref w_DIRECTIVE), (.ref w_LEFT_PARENTHESIS), (.ref w_RIGHT_PARENTHESIS), (.ref w_COMMA), (.ref w_DOT), (.ref w_IMPLIES), (.ref w_QUESTION_MARK), (.ref w_EXCLAMATION_MARK), (.ref w_BAR), (.ref w_END)] .null := V76
  show Go p e below _ (T76.setTop (mkF m 132 #[.val (.int i), .unset] [(.ref o20)]))
  refine P76.xs (fun hA hx hy t k => XS.astoreN hA hx rfl (hb hy d1_132) rfl rfl (l' := #[.val (.int i), .val (.ref o20)]) rfl k) ?_
  show Go p e below _ (T76.setTop (mkF m 133 #[.val (.int i), .val (.ref o20)] []))
  refine P76.xs (fun hA hx hy t k => XS.aloadN hA hx rfl (hb hy d1_133) rfl rfl  k) ?_
  show Go p e below _ (T76.setTop (mkF m 134 #[.val (.int i), .val (.ref o20)] [(.ref o20)]))
  refine P76.xs (fun hA hx hy t k => XS.iloadN hA hx rfl (hb hy d1_134) rfl  k) ?_
  show Go p e below _ (T76.setTop (mkF m 135 #[.val (.int i), .val (.ref o20)] [(.int i), (.ref o20)]))
  have hin : ∀ n, n < 19 → ∃ x, [(.ref w_IDENTIFIER), (.ref w_VARIABLE), (.ref w_IRI), (.ref w_PREFIXED_NAME), (.ref w_STRING), (.ref w_LANGUAGE_TAG), (.ref w_DATATYPE_MARK), (.ref w_INTEGER), (.ref w_LABEL), (.ref w_DIRECTIVE), (.ref w_LEFT_PARENTHESIS), (.ref w_RIGHT_PARENTHESIS), (.ref w_COMMA), (.ref w_DOT), (.ref w_IMPLIES), (.ref w_QUESTION_MARK), (.ref w_EXCLAMATION_MARK), (.ref w_BAR), (.ref w_END)].getD n .null = Value.ref x ∧ Exa Z Z.heap x "com/example/qrew/qrew/dlgp/TokenKind" := by
    intro n hn
    match n, hn with
    | 0, _ => exact ⟨_, rfl, E_IDENTIFIER⟩
    | 1, _ => exact ⟨_, rfl, E_VARIABLE⟩
    | 2, _ => exact ⟨_, rfl, E_IRI⟩
    | 3, _ => exact ⟨_, rfl, E_PREFIXED_NAME⟩
    | 4, _ => exact ⟨_, rfl, E_STRING⟩
    | 5, _ => exact ⟨_, rfl, E_LANGUAGE_TAG⟩
    | 6, _ => exact ⟨_, rfl, E_DATATYPE_MARK⟩
    | 7, _ => exact ⟨_, rfl, E_INTEGER⟩
    | 8, _ => exact ⟨_, rfl, E_LABEL⟩
    | 9, _ => exact ⟨_, rfl, E_DIRECTIVE⟩
    | 10, _ => exact ⟨_, rfl, E_LEFT_PARENTHESIS⟩
    | 11, _ => exact ⟨_, rfl, E_RIGHT_PARENTHESIS⟩
    | 12, _ => exact ⟨_, rfl, E_COMMA⟩
    | 13, _ => exact ⟨_, rfl, E_DOT⟩
    | 14, _ => exact ⟨_, rfl, E_IMPLIES⟩
    | 15, _ => exact ⟨_, rfl, E_QUESTION_MARK⟩
    | 16, _ => exact ⟨_, rfl, E_EXCLAMATION_MARK⟩
    | 17, _ => exact ⟨_, rfl, E_BAR⟩
    | 18, _ => exact ⟨_, rfl, E_END⟩
    | n + 19, h => omega
  obtain ⟨x, hx1, hx2⟩ := hin _ hi.2
  refine P76.aald Va76 rfl hi.1 hi.2 hx1 d1_135 ?_
  show Go p e below _ (T76.setTop (mkF m 136 #[.val (.int i), .val (.ref o20)] [(.ref x)]))
  exact P76.retR rfl rfl rfl d1_136 (by decide) (by decide) ⟨x, rfl, hx2⟩

def R_mMk : Room := { frames := 4, cells := 6, slots := 12, locals := 66 }
def Q_mMk (Z : State) (i ca cb cc : Int32) (h0 : Heap) (v : Option Value) (h : Heap) : Prop := ∃ x : Addr, v = some (.ref x) ∧ h0.size ≤ x ∧ Str Z h x (cs3 i ca cb cc)
set_option maxRecDepth 65536 in
set_option maxHeartbeats 40000000 in
theorem mMk (l : Launch) (Z : State) (a0 : Array Value) (hw : ∀ d ∈ tables_1, d.before a0 Z = true) (hEL : EW Z a0 EL0) (zc : Int32) (S0 : Sta Z Z.heap "java/lang/String" "COMPACT_STRINGS" "Z" (.int zc)) (Pz : ¬ zc = 0) (w_IDENTIFIER w_VARIABLE w_IRI w_PREFIXED_NAME w_STRING w_LANGUAGE_TAG w_DATATYPE_MARK w_INTEGER w_LABEL w_DIRECTIVE w_LEFT_PARENTHESIS w_RIGHT_PARENTHESIS w_COMMA w_DOT w_IMPLIES w_QUESTION_MARK w_EXCLAMATION_MARK w_BAR w_END : Addr) (S_IDENTIFIER : Sta Z Z.heap "com/example/qrew/qrew/dlgp/TokenKind" "IDENTIFIER" "Lcom/example/qrew/qrew/dlgp/TokenKind;" (.ref w_IDENTIFIER)) (E_IDENTIFIER : Exa Z Z.heap w_IDENTIFIER "com/example/qrew/qrew/dlgp/TokenKind") (S_VARIABLE : Sta Z Z.heap "com/example/qrew/qrew/dlgp/TokenKind" "VARIABLE" "Lcom/example/qrew/qrew/dlgp/TokenKind;" (.ref w_VARIABLE)) (E_VARIABLE : Exa Z Z.heap w_VARIABLE "com/example/qrew/qrew/dlgp/TokenKind") (S_IRI : Sta Z Z.heap "com/example/qrew/qrew/dlgp/TokenKind" "IRI" "Lcom/example/qrew/qrew/dlgp/TokenKind;" (.ref w_IRI)) (E_IRI : Exa Z Z.heap w_IRI "com/example/qrew/qrew/dlgp/TokenKind") (S_PREFIXED_NAME : Sta Z Z.heap "com/example/qrew/qrew/dlgp/TokenKind" "PREFIXED_NAME" "Lcom/example/qrew/qrew/dlgp/TokenKind;" (.ref w_PREFIXED_NAME)) (E_PREFIXED_NAME : Exa Z Z.heap w_PREFIXED_NAME "com/example/qrew/qrew/dlgp/TokenKind") (S_STRING : Sta Z Z.heap "com/example/qrew/qrew/dlgp/TokenKind" "STRING" "Lcom/example/qrew/qrew/dlgp/TokenKind;" (.ref w_STRING)) (E_STRING : Exa Z Z.heap w_STRING "com/example/qrew/qrew/dlgp/TokenKind") (S_LANGUAGE_TAG : Sta Z Z.heap "com/example/qrew/qrew/dlgp/TokenKind" "LANGUAGE_TAG" "Lcom/example/qrew/qrew/dlgp/TokenKind;" (.ref w_LANGUAGE_TAG)) (E_LANGUAGE_TAG : Exa Z Z.heap w_LANGUAGE_TAG "com/example/qrew/qrew/dlgp/TokenKind") (S_DATATYPE_MARK : Sta Z Z.heap "com/example/qrew/qrew/dlgp/TokenKind" "DATATYPE_MARK" "Lcom/example/qrew/qrew/dlgp/TokenKind;" (.ref w_DATATYPE_MARK)) (E_DATATYPE_MARK : Exa Z Z.heap w_DATATYPE_MARK "com/example/qrew/qrew/dlgp/TokenKind") (S_INTEGER : Sta Z Z.heap "com/example/qrew/qrew/dlgp/TokenKind" "INTEGER" "Lcom/example/qrew/qrew/dlgp/TokenKind;" (.ref w_INTEGER)) (E_INTEGER : Exa Z Z.heap w_INTEGER "com/example/qrew/qrew/dlgp/TokenKind") (S_LABEL : Sta Z Z.heap "com/example/qrew/qrew/dlgp/TokenKind" "LABEL" "Lcom/example/qrew/qrew/dlgp/TokenKind;" (.ref w_LABEL)) (E_LABEL : Exa Z Z.heap w_LABEL "com/example/qrew/qrew/dlgp/TokenKind") (S_DIRECTIVE : Sta Z Z.heap "com/example/qrew/qrew/dlgp/TokenKind" "DIRECTIVE" "Lcom/example/qrew/qrew/dlgp/TokenKind;" (.ref w_DIRECTIVE)) (E_DIRECTIVE : Exa Z Z.heap w_DIRECTIVE "com/example/qrew/qrew/dlgp/TokenKind") (S_LEFT_PARENTHESIS : Sta Z Z.heap "com/example/qrew/qrew/dlgp/TokenKind" "LEFT_PARENTHESIS" "Lcom/example/qrew/qrew/dlgp/TokenKind;" (.ref w_LEFT_PARENTHESIS)) (E_LEFT_PARENTHESIS : Exa Z Z.heap w_LEFT_PARENTHESIS "com/example/qrew/qrew/dlgp/TokenKind") (S_RIGHT_PARENTHESIS : Sta Z Z.heap "com/example/qrew/qrew/dlgp/TokenKind" "RIGHT_PARENTHESIS" "Lcom/example/qrew/qrew/dlgp/TokenKind;" (.ref w_RIGHT_PARENTHESIS)) (E_RIGHT_PARENTHESIS : Exa Z Z.heap w_RIGHT_PARENTHESIS "com/example/qrew/qrew/dlgp/TokenKind") (S_COMMA : Sta Z Z.heap "com/example/qrew/qrew/dlgp/TokenKind" "COMMA" "Lcom/example/qrew/qrew/dlgp/TokenKind;" (.ref w_COMMA)) (E_COMMA : Exa Z Z.heap w_COMMA "com/example/qrew/qrew/dlgp/TokenKind") (S_DOT : Sta Z Z.heap "com/example/qrew/qrew/dlgp/TokenKind" "DOT" "Lcom/example/qrew/qrew/dlgp/TokenKind;" (.ref w_DOT)) (E_DOT : Exa Z Z.heap w_DOT "com/example/qrew/qrew/dlgp/TokenKind") (S_IMPLIES : Sta Z Z.heap "com/example/qrew/qrew/dlgp/TokenKind" "IMPLIES" "Lcom/example/qrew/qrew/dlgp/TokenKind;" (.ref w_IMPLIES)) (E_IMPLIES : Exa Z Z.heap w_IMPLIES "com/example/qrew/qrew/dlgp/TokenKind") (S_QUESTION_MARK : Sta Z Z.heap "com/example/qrew/qrew/dlgp/TokenKind" "QUESTION_MARK" "Lcom/example/qrew/qrew/dlgp/TokenKind;" (.ref w_QUESTION_MARK)) (E_QUESTION_MARK : Exa Z Z.heap w_QUESTION_MARK "com/example/qrew/qrew/dlgp/TokenKind") (S_EXCLAMATION_MARK : Sta Z Z.heap "com/example/qrew/qrew/dlgp/TokenKind" "EXCLAMATION_MARK" "Lcom/example/qrew/qrew/dlgp/TokenKind;" (.ref w_EXCLAMATION_MARK)) (E_EXCLAMATION_MARK : Exa Z Z.heap w_EXCLAMATION_MARK "com/example/qrew/qrew/dlgp/TokenKind") (S_BAR : Sta Z Z.heap "com/example/qrew/qrew/dlgp/TokenKind" "BAR" "Lcom/example/qrew/qrew/dlgp/TokenKind;" (.ref w_BAR)) (E_BAR : Exa Z Z.heap w_BAR "com/example/qrew/qrew/dlgp/TokenKind") (S_END : Sta Z Z.heap "com/example/qrew/qrew/dlgp/TokenKind" "END" "Lcom/example/qrew/qrew/dlgp/TokenKind;" (.ref w_END)) (E_END : Exa Z Z.heap w_END "com/example/qrew/qrew/dlgp/TokenKind") (i ca cb cc : Int32) (h0 : Heap) (hO : Ext Z.heap h0)  (lca : ¬ ca < 0 ∧ ¬ (255 : Int32) < ca) (nca : nar .char ca = ca) (lcb : ¬ cb < 0 ∧ ¬ (255 : Int32) < cb) (ncb : nar .char cb = cb) (lcc : ¬ cc < 0 ∧ ¬ (255 : Int32) < cc) (ncc : nar .char cc = cc) :
    Con l Z EL0 [] (⟨"com/example/qrew/qrew/dlgp/TokenEqualsPinLaw", "mk", "(ICCC)Ljava/lang/String;"⟩ : MethodName) method_2_code 4 (some (.object "java/lang/String")) R_mMk #[(.int i), (.int ca), (.int cb), (.int cc)] h0 [] (Q_mMk Z i ca cb cc h0) := by
  refine Con.of (y := (⟨"com/example/qrew/qrew/dlgp/TokenEqualsPinLaw", "mk", "(ICCC)Ljava/lang/String;"⟩ : MethodName)) (f0 := fun m => mkF m 0 #[.val (.int i), .val (.int ca), .val (.int cb), .val (.int cc)] []) (plainFor_of_name pn_2) hEL hO (fun m => by skip <;> first | (simp [entryFrame, mkF, argsToLocals, Value.category, maxLocals]; done) | rfl) ?_
  intro p e s m below meth c s₁ P0
  show Go p e below _ (s₁.setTop (mkF m 0 #[.val (.int i), .val (.int ca), .val (.int cb), .val (.int cc)] []))
  refine P0.xs (fun hA hx hy t k => XS.iloadN hA hx rfl (hb hy d2_0) rfl  k) ?_
  show Go p e below _ (s₁.setTop (mkF m 1 #[.val (.int i), .val (.int ca), .val (.int cb), .val (.int cc)] [(.int i)]))
  by_cases hq0 : i = 0
  · refine P0.xs (fun hA hx hy t k => XS.ifNo hA hx rfl (hb hy d2_1) rfl ((if0 _ _).trans (teq hq0).2) k) ?_
    show Go p e below _ (s₁.setTop (mkF m 4 #[.val (.int i), .val (.int ca), .val (.int cb), .val (.int cc)] []))
    refine P0.newO (hw _ (List.mem_of_getElem? (i := 53) rfl)) (hw _ (List.mem_of_getElem? (i := 54) rfl)) (hw _ (List.mem_of_getElem? (i := 55) rfl)) d2_4 (by decide) (by decide) fun T78 h78 o78 g78 P78 E78 A78 D78 => ?_
    have gz_o78 : Z.heap.size ≤ o78 := Nat.le_trans P0.old.1 (Nat.le_of_eq g78.symm)
    have gw_o78 : h0.size ≤ o78 := Nat.le_trans P0.kept.1 (Nat.le_of_eq g78.symm)
    have F78_coder : Fld Z h78 o78 "java/lang/String" "coder" "B" (.int (0 : Int32)) := D78 (Or.inr (hw _ (List.mem_of_getElem? (i := 80) rfl))) (ty := .byte) (by decide)
    have F78_value : Fld Z h78 o78 "java/lang/String" "value" "[B" .null := D78 (Or.inr (hw _ (List.mem_of_getElem? (i := 82) rfl))) (ty := (.array .byte)) (by decide)
    show Go p e below _ (T78.setTop (mkF m 7 #[.val (.int i), .val (.int ca), .val (.int cb), .val (.int cc)] [(.ref o78)]))
    refine P78.xs (fun hA hx hy t k => XS.dup hA hx rfl (hb hy d2_7) rfl rfl k) ?_
    show Go p e below _ (T78.setTop (mkF m 8 #[.val (.int i), .val (.int ca), .val (.int cb), .val (.int cc)] [(.ref o78), (.ref o78)]))
    refine P78.xs (fun hA hx hy t k => XS.iconst hA hx rfl (hb hy d2_8) k) ?_
    show Go p e below _ (T78.setTop (mkF m 9 #[.val (.int i), .val (.int ca), .val (.int cb), .val (.int cc)] [(.int (0 : Int32)), (.ref o78), (.ref o78)]))
    refine P78.newP (aty := .char) (hw _ (List.mem_of_getElem? (i := 56) rfl)) d2_9 (by decide) (cap := 0) (by decide) (by decide) (by decide) (by decide) fun T79 h79 o79 k79 g79 P79 E79 A79 => ?_
    have ne_o78_o79 : o78 ≠ o79 := Nat.ne_of_lt (Nat.lt_of_lt_of_le A78.lt (Nat.le_of_eq g79.symm))
    have gz_o79 : Z.heap.size ≤ o79 := Nat.le_trans P78.old.1 (Nat.le_of_eq g79.symm)
    have gw_o79 : h0.size ≤ o79 := Nat.le_trans P78.kept.1 (Nat.le_of_eq g79.symm)
    have V79 : Arv Z h79 o79 k79 .char (0 : Int32) [] (.int (0 : Int32)) := Arv.pad A79 (pad_rep [] (.int (0 : Int32)) 0)
    show Go p e below _ (T79.setTop (mkF m 11 #[.val (.int i), .val (.int ca), .val (.int cb), .val (.int cc)] [(.ref o79), (.ref o78), (.ref o78)]))
    have Ec80 : Exa Z h79 o78 "java/lang/String" := (A78.ext E79)
    have Fc81 : Fld Z h79 o78 "java/lang/String" "coder" "B" (.int (0 : Int32)) := (F78_coder.ext E79)
    have Fc82 : Fld Z h79 o78 "java/lang/String" "value" "[B" .null := (F78_value.ext E79)
    have hmem : ("java/lang/String", 7) ∈ EL0 := (by decide)
    refine P79.callI rfl (hw _ (List.mem_of_getElem? (i := 57) rfl)) (hw _ (List.mem_of_getElem? (i := 58) rfl)) (hw _ (List.mem_of_getElem? (i := 55) rfl)) (hw _ (List.mem_of_getElem? (i := 59) rfl)) (by decide) (initE1 l Z a0 hw hEL zc S0 Pz w_IDENTIFIER w_VARIABLE w_IRI w_PREFIXED_NAME w_STRING w_LANGUAGE_TAG w_DATATYPE_MARK w_INTEGER w_LABEL w_DIRECTIVE w_LEFT_PARENTHESIS w_RIGHT_PARENTHESIS w_COMMA w_DOT w_IMPLIES w_QUESTION_MARK w_EXCLAMATION_MARK w_BAR w_END S_IDENTIFIER E_IDENTIFIER S_VARIABLE E_VARIABLE S_IRI E_IRI S_PREFIXED_NAME E_PREFIXED_NAME S_STRING E_STRING S_LANGUAGE_TAG E_LANGUAGE_TAG S_DATATYPE_MARK E_DATATYPE_MARK S_INTEGER E_INTEGER S_LABEL E_LABEL S_DIRECTIVE E_DIRECTIVE S_LEFT_PARENTHESIS E_LEFT_PARENTHESIS S_RIGHT_PARENTHESIS E_RIGHT_PARENTHESIS S_COMMA E_COMMA S_DOT E_DOT S_IMPLIES E_IMPLIES S_QUESTION_MARK E_QUESTION_MARK S_EXCLAMATION_MARK E_EXCLAMATION_MARK S_BAR E_BAR S_END E_END o78 o79 k79 h79 P79.old Ec80 Fc82 Fc81 gz_o78 hmem V79) (W := 1) (by decide) (by decide) (by decide) (by decide) (allS (Or.inr gw_o78) all0) pd_1 (argsL := [(.ref o79)]) rfl rfl rfl (Nat.le_of_eq rfl) d2_11 fun v83 T83 h83 P83 K83 Q83 => ?_
    obtain ⟨rfl, E83, C83, b83, k83, V83, B83⟩ := Q83
    show Go p e below _ (T83.setTop (mkF m 14 #[.val (.int i), .val (.int ca), .val (.int cb), .val (.int cc)] [(.ref o78)]))
    have Ac84 : Arv Z h83 o79 k79 .char (0 : Int32) [] (.int (0 : Int32)) := (V79.keep K83 (ninS (Ne.symm ne_o78_o79) nin0))
    have hcs85 : cs3 i ca cb cc = [] := cs3_0 hq0
    exact P83.retR rfl rfl rfl d2_14 (by decide) (by decide) ⟨o78, rfl, gw_o78, by rw [hcs85]; exact (strE E83 C83 V83 B83)⟩
  · refine P0.xs (fun hA hx hy t k => XS.ifYes hA hx rfl (pc0 := 1) (pc' := 15) rfl (hb hy d2_1) rfl ((if0 _ _).trans (feq hq0).2) (by decide) (by decide) k) ?_
    show Go p e below _ (s₁.setTop (mkF m 15 #[.val (.int i), .val (.int ca), .val (.int cb), .val (.int cc)] []))
    refine P0.xs (fun hA hx hy t k => XS.iloadN hA hx rfl (hb hy d2_15) rfl  k) ?_
    show Go p e below _ (s₁.setTop (mkF m 16 #[.val (.int i), .val (.int ca), .val (.int cb), .val (.int cc)] [(.int i)]))
    refine P0.xs (fun hA hx hy t k => XS.iconst hA hx rfl (hb hy d2_16) k) ?_
    show Go p e below _ (s₁.setTop (mkF m 17 #[.val (.int i), .val (.int ca), .val (.int cb), .val (.int cc)] [(.int (1 : Int32)), (.int i)]))
    by_cases hq1 : i = 1
    · refine P0.xs (fun hA hx hy t k => XS.icmpNo hA hx rfl (hb hy d2_17) rfl (teq hq1).2 k) ?_
      show Go p e below _ (s₁.setTop (mkF m 20 #[.val (.int i), .val (.int ca), .val (.int cb), .val (.int cc)] []))
      refine P0.newO (hw _ (List.mem_of_getElem? (i := 53) rfl)) (hw _ (List.mem_of_getElem? (i := 54) rfl)) (hw _ (List.mem_of_getElem? (i := 55) rfl)) d2_20 (by decide) (by decide) fun T86 h86 o86 g86 P86 E86 A86 D86 => ?_
      have gz_o86 : Z.heap.size ≤ o86 := Nat.le_trans P0.old.1 (Nat.le_of_eq g86.symm)
      have gw_o86 : h0.size ≤ o86 := Nat.le_trans P0.kept.1 (Nat.le_of_eq g86.symm)
      have F86_coder : Fld Z h86 o86 "java/lang/String" "coder" "B" (.int (0 : Int32)) := D86 (Or.inr (hw _ (List.mem_of_getElem? (i := 80) rfl))) (ty := .byte) (by decide)
      have F86_value : Fld Z h86 o86 "java/lang/String" "value" "[B" .null := D86 (Or.inr (hw _ (List.mem_of_getElem? (i := 82) rfl))) (ty := (.array .byte)) (by decide)
      show Go p e below _ (T86.setTop (mkF m 23 #[.val (.int i), .val (.int ca), .val (.int cb), .val (.int cc)] [(.ref o86)]))
      refine P86.xs (fun hA hx hy t k => XS.dup hA hx rfl (hb hy d2_23) rfl rfl k) ?_
      show Go p e below _ (T86.setTop (mkF m 24 #[.val (.int i), .val (.int ca), .val (.int cb), .val (.int cc)] [(.ref o86), (.ref o86)]))
      refine P86.xs (fun hA hx hy t k => XS.iconst hA hx rfl (hb hy d2_24) k) ?_
      show Go p e below _ (T86.setTop (mkF m 25 #[.val (.int i), .val (.int ca), .val (.int cb), .val (.int cc)] [(.int (1 : Int32)), (.ref o86), (.ref o86)]))
      refine P86.newP (aty := .char) (hw _ (List.mem_of_getElem? (i := 56) rfl)) d2_25 (by decide) (cap := 1) (by decide) (by decide) (by decide) (by decide) fun T87 h87 o87 k87 g87 P87 E87 A87 => ?_
      have ne_o86_o87 : o86 ≠ o87 := Nat.ne_of_lt (Nat.lt_of_lt_of_le A86.lt (Nat.le_of_eq g87.symm))
      have gz_o87 : Z.heap.size ≤ o87 := Nat.le_trans P86.old.1 (Nat.le_of_eq g87.symm)
      have gw_o87 : h0.size ≤ o87 := Nat.le_trans P86.kept.1 (Nat.le_of_eq g87.symm)
      have V87 : Arv Z h87 o87 k87 .char (1 : Int32) [(.int (0 : Int32))] (.int (0 : Int32)) := Arv.pad A87 (pad_rep [] (.int (0 : Int32)) 1)
      show Go p e below _ (T87.setTop (mkF m 27 #[.val (.int i), .val (.int ca), .val (.int cb), .val (.int cc)] [(.ref o87), (.ref o86), (.ref o86)]))
      refine P87.xs (fun hA hx hy t k => XS.dup hA hx rfl (hb hy d2_27) rfl rfl k) ?_
      show Go p e below _ (T87.setTop (mkF m 28 #[.val (.int i), .val (.int ca), .val (.int cb), .val (.int cc)] [(.ref o87), (.ref o87), (.ref o86), (.ref o86)]))
      refine P87.xs (fun hA hx hy t k => XS.iconst hA hx rfl (hb hy d2_28) k) ?_
      show Go p e below _ (T87.setTop (mkF m 29 #[.val (.int i), .val (.int ca), .val (.int cb), .val (.int cc)] [(.int (0 : Int32)), (.ref o87), (.ref o87), (.ref o86), (.ref o86)]))
      refine P87.xs (fun hA hx hy t k => XS.iloadN hA hx rfl (hb hy d2_29) rfl  k) ?_
      show Go p e below _ (T87.setTop (mkF m 30 #[.val (.int i), .val (.int ca), .val (.int cb), .val (.int cc)] [(.int ca), (.int (0 : Int32)), (.ref o87), (.ref o87), (.ref o86), (.ref o86)]))
      have Ec89 : Exa Z h87 o86 "java/lang/String" := (A86.ext E87)
      have Fc90 : Fld Z h87 o86 "java/lang/String" "coder" "B" (.int (0 : Int32)) := (F86_coder.ext E87)
      have Fc91 : Fld Z h87 o86 "java/lang/String" "value" "[B" .null := (F86_value.ext E87)
      refine P87.stC V87 0 (by decide) (by decide) (by decide) (Nat.le_of_ble_eq_true rfl) (x' := ca) nca d2_30 gz_o87 (Or.inr gw_o87) fun T88 h88 P88 W88 V88 => ?_
      have Va88 : Arv Z h88 o87 k87 .char (1 : Int32) [(.int ca)] (.int (0 : Int32)) := V88
      show Go p e below _ (T88.setTop (mkF m 31 #[.val (.int i), .val (.int ca), .val (.int cb), .val (.int cc)] [(.ref o87), (.ref o86), (.ref o86)]))
      have Ec92 : Exa Z h88 o86 "java/lang/String" := (Ec89.wr W88)
      have Fc93 : Fld Z h88 o86 "java/lang/String" "coder" "B" (.int (0 : Int32)) := (Fc90.other W88 (Or.inl ne_o86_o87))
      have Fc94 : Fld Z h88 o86 "java/lang/String" "value" "[B" .null := (Fc91.other W88 (Or.inl ne_o86_o87))
      refine P88.specB (W := 1) (ws' := [o86]) rfl (hw _ (List.mem_of_getElem? (i := 57) rfl)) (hw _ (List.mem_of_getElem? (i := 58) rfl)) (hw _ (List.mem_of_getElem? (i := 59) rfl)) (by decide) (fun vm0 hZ => StrChars.Road.backV (W := 1) hZ (wStr hw) (kI := 4) (hw _ (List.mem_of_getElem? (i := 54) rfl)) (cs := ([ca] : List Int32)) (bs := ([ca] : List Int32).map (fun c => c.toInt8.toInt32)) (n := 1) gz_o86 P88.old.1 Ec92 Fc94 Fc93 Va88 (S0.ext P88.old) Pz rfl rfl (by decide) (by decide) (latS lca lat0) rfl (by decide) (by decide)) rfl (fun v h' L q => ⟨q.2.1, q.2.2.1⟩) (by decide) (by decide) (allS ⟨(Or.inr gw_o86), gz_o86⟩ all0) (fun vm hs hal hr => safe1 (safeNull hal Ec92 Fc94)) pd_1 (argsL := [(.ref o87)]) rfl rfl rfl (Nat.le_of_eq rfl) d2_31 fun v95 T95 h95 L95 P95 Q95 => ?_
      obtain ⟨rfl, N95, K95, E95, C95, b95, k95, gb95, gc95, gd95, V95, B95⟩ := Q95
      show Go p e below _ (T95.setTop (mkF m 34 #[.val (.int i), .val (.int ca), .val (.int cb), .val (.int cc)] [(.ref o86)]))
      have Ac96 : Arv Z h95 o87 k87 .char (1 : Int32) [(.int ca)] (.int (0 : Int32)) := (Va88.keep K95 (ninS (Ne.symm ne_o86_o87) nin0))
      have hcs97 : cs3 i ca cb cc = ([ca] : List Int32) := cs3_1 hq0 hq1
      exact P95.retR rfl rfl rfl d2_34 (by decide) (by decide) ⟨o86, rfl, gw_o86, by rw [hcs97]; exact (strOf (n := 1) rfl (latS lca lat0) (by decide) E95 C95 V95 B95)⟩
    · refine P0.xs (fun hA hx hy t k => XS.icmpYes hA hx rfl (pc0 := 17) (pc' := 35) rfl (hb hy d2_17) rfl (feq hq1).2 (by decide) (by decide) k) ?_
      show Go p e below _ (s₁.setTop (mkF m 35 #[.val (.int i), .val (.int ca), .val (.int cb), .val (.int cc)] []))
      refine P0.xs (fun hA hx hy t k => XS.iloadN hA hx rfl (hb hy d2_35) rfl  k) ?_
      show Go p e below _ (s₁.setTop (mkF m 36 #[.val (.int i), .val (.int ca), .val (.int cb), .val (.int cc)] [(.int i)]))
      refine P0.xs (fun hA hx hy t k => XS.iconst hA hx rfl (hb hy d2_36) k) ?_
      show Go p e below _ (s₁.setTop (mkF m 37 #[.val (.int i), .val (.int ca), .val (.int cb), .val (.int cc)] [(.int (2 : Int32)), (.int i)]))
      by_cases hq2 : i = 2
      · refine P0.xs (fun hA hx hy t k => XS.icmpNo hA hx rfl (hb hy d2_37) rfl (teq hq2).2 k) ?_
        show Go p e below _ (s₁.setTop (mkF m 40 #[.val (.int i), .val (.int ca), .val (.int cb), .val (.int cc)] []))
        refine P0.newO (hw _ (List.mem_of_getElem? (i := 53) rfl)) (hw _ (List.mem_of_getElem? (i := 54) rfl)) (hw _ (List.mem_of_getElem? (i := 55) rfl)) d2_40 (by decide) (by decide) fun T98 h98 o98 g98 P98 E98 A98 D98 => ?_
        have gz_o98 : Z.heap.size ≤ o98 := Nat.le_trans P0.old.1 (Nat.le_of_eq g98.symm)
        have gw_o98 : h0.size ≤ o98 := Nat.le_trans P0.kept.1 (Nat.le_of_eq g98.symm)
        have F98_coder : Fld Z h98 o98 "java/lang/String" "coder" "B" (.int (0 : Int32)) := D98 (Or.inr (hw _ (List.mem_of_getElem? (i := 80) rfl))) (ty := .byte) (by decide)
        have F98_value : Fld Z h98 o98 "java/lang/String" "value" "[B" .null := D98 (Or.inr (hw _ (List.mem_of_getElem? (i := 82) rfl))) (ty := (.array .byte)) (by decide)
        show Go p e below _ (T98.setTop (mkF m 43 #[.val (.int i), .val (.int ca), .val (.int cb), .val (.int cc)] [(.ref o98)]))
        refine P98.xs (fun hA hx hy t k => XS.dup hA hx rfl (hb hy d2_43) rfl rfl k) ?_
        show Go p e below _ (T98.setTop (mkF m 44 #[.val (.int i), .val (.int ca), .val (.int cb), .val (.int cc)] [(.ref o98), (.ref o98)]))
        refine P98.xs (fun hA hx hy t k => XS.iconst hA hx rfl (hb hy d2_44) k) ?_
        show Go p e below _ (T98.setTop (mkF m 45 #[.val (.int i), .val (.int ca), .val (.int cb), .val (.int cc)] [(.int (2 : Int32)), (.ref o98), (.ref o98)]))
        refine P98.newP (aty := .char) (hw _ (List.mem_of_getElem? (i := 56) rfl)) d2_45 (by decide) (cap := 2) (by decide) (by decide) (by decide) (by decide) fun T99 h99 o99 k99 g99 P99 E99 A99 => ?_
        have ne_o98_o99 : o98 ≠ o99 := Nat.ne_of_lt (Nat.lt_of_lt_of_le A98.lt (Nat.le_of_eq g99.symm))
        have gz_o99 : Z.heap.size ≤ o99 := Nat.le_trans P98.old.1 (Nat.le_of_eq g99.symm)
        have gw_o99 : h0.size ≤ o99 := Nat.le_trans P98.kept.1 (Nat.le_of_eq g99.symm)
        have V99 : Arv Z h99 o99 k99 .char (2 : Int32) [(.int (0 : Int32)), (.int (0 : Int32))] (.int (0 : Int32)) := Arv.pad A99 (pad_rep [] (.int (0 : Int32)) 2)
        show Go p e below _ (T99.setTop (mkF m 47 #[.val (.int i), .val (.int ca), .val (.int cb), .val (.int cc)] [(.ref o99), (.ref o98), (.ref o98)]))
        refine P99.xs (fun hA hx hy t k => XS.dup hA hx rfl (hb hy d2_47) rfl rfl k) ?_
        show Go p e below _ (T99.setTop (mkF m 48 #[.val (.int i), .val (.int ca), .val (.int cb), .val (.int cc)] [(.ref o99), (.ref o99), (.ref o98), (.ref o98)]))
        refine P99.xs (fun hA hx hy t k => XS.iconst hA hx rfl (hb hy d2_48) k) ?_
        show Go p e below _ (T99.setTop (mkF m 49 #[.val (.int i), .val (.int ca), .val (.int cb), .val (.int cc)] [(.int (0 : Int32)), (.ref o99), (.ref o99), (.ref o98), (.ref o98)]))
        refine P99.xs (fun hA hx hy t k => XS.iloadN hA hx rfl (hb hy d2_49) rfl  k) ?_
        show Go p e below _ (T99.setTop (mkF m 50 #[.val (.int i), .val (.int ca), .val (.int cb), .val (.int cc)] [(.int ca), (.int (0 : Int32)), (.ref o99), (.ref o99), (.ref o98), (.ref o98)]))
        have Ec101 : Exa Z h99 o98 "java/lang/String" := (A98.ext E99)
        have Fc102 : Fld Z h99 o98 "java/lang/String" "coder" "B" (.int (0 : Int32)) := (F98_coder.ext E99)
        have Fc103 : Fld Z h99 o98 "java/lang/String" "value" "[B" .null := (F98_value.ext E99)
        refine P99.stC V99 0 (by decide) (by decide) (by decide) (Nat.le_of_ble_eq_true rfl) (x' := ca) nca d2_50 gz_o99 (Or.inr gw_o99) fun T100 h100 P100 W100 V100 => ?_
        have Va100 : Arv Z h100 o99 k99 .char (2 : Int32) [(.int ca), (.int (0 : Int32))] (.int (0 : Int32)) := V100
        show Go p e below _ (T100.setTop (mkF m 51 #[.val (.int i), .val (.int ca), .val (.int cb), .val (.int cc)] [(.ref o99), (.ref o98), (.ref o98)]))
        refine P100.xs (fun hA hx hy t k => XS.dup hA hx rfl (hb hy d2_51) rfl rfl k) ?_
        show Go p e below _ (T100.setTop (mkF m 52 #[.val (.int i), .val (.int ca), .val (.int cb), .val (.int cc)] [(.ref o99), (.ref o99), (.ref o98), (.ref o98)]))
        refine P100.xs (fun hA hx hy t k => XS.iconst hA hx rfl (hb hy d2_52) k) ?_
        show Go p e below _ (T100.setTop (mkF m 53 #[.val (.int i), .val (.int ca), .val (.int cb), .val (.int cc)] [(.int (1 : Int32)), (.ref o99), (.ref o99), (.ref o98), (.ref o98)]))
        refine P100.xs (fun hA hx hy t k => XS.iloadN hA hx rfl (hb hy d2_53) rfl  k) ?_
        show Go p e below _ (T100.setTop (mkF m 54 #[.val (.int i), .val (.int ca), .val (.int cb), .val (.int cc)] [(.int cb), (.int (1 : Int32)), (.ref o99), (.ref o99), (.ref o98), (.ref o98)]))
        have Ec105 : Exa Z h100 o98 "java/lang/String" := (Ec101.wr W100)
        have Fc106 : Fld Z h100 o98 "java/lang/String" "coder" "B" (.int (0 : Int32)) := (Fc102.other W100 (Or.inl ne_o98_o99))
        have Fc107 : Fld Z h100 o98 "java/lang/String" "value" "[B" .null := (Fc103.other W100 (Or.inl ne_o98_o99))
        refine P100.stC Va100 1 (by decide) (by decide) (by decide) (Nat.le_of_ble_eq_true rfl) (x' := cb) ncb d2_54 gz_o99 (Or.inr gw_o99) fun T104 h104 P104 W104 V104 => ?_
        have Va104 : Arv Z h104 o99 k99 .char (2 : Int32) [(.int ca), (.int cb)] (.int (0 : Int32)) := V104
        show Go p e below _ (T104.setTop (mkF m 55 #[.val (.int i), .val (.int ca), .val (.int cb), .val (.int cc)] [(.ref o99), (.ref o98), (.ref o98)]))
        have Ec108 : Exa Z h104 o98 "java/lang/String" := (Ec105.wr W104)
        have Fc109 : Fld Z h104 o98 "java/lang/String" "coder" "B" (.int (0 : Int32)) := (Fc106.other W104 (Or.inl ne_o98_o99))
        have Fc110 : Fld Z h104 o98 "java/lang/String" "value" "[B" .null := (Fc107.other W104 (Or.inl ne_o98_o99))
        refine P104.specB (W := 1) (ws' := [o98]) rfl (hw _ (List.mem_of_getElem? (i := 57) rfl)) (hw _ (List.mem_of_getElem? (i := 58) rfl)) (hw _ (List.mem_of_getElem? (i := 59) rfl)) (by decide) (fun vm0 hZ => StrChars.Road.backV (W := 1) hZ (wStr hw) (kI := 4) (hw _ (List.mem_of_getElem? (i := 54) rfl)) (cs := ([ca, cb] : List Int32)) (bs := ([ca, cb] : List Int32).map (fun c => c.toInt8.toInt32)) (n := 2) gz_o98 P104.old.1 Ec108 Fc110 Fc109 Va104 (S0.ext P104.old) Pz rfl rfl (by decide) (by decide) (latS lca (latS lcb lat0)) rfl (by decide) (by decide)) rfl (fun v h' L q => ⟨q.2.1, q.2.2.1⟩) (by decide) (by decide) (allS ⟨(Or.inr gw_o98), gz_o98⟩ all0) (fun vm hs hal hr => safe1 (safeNull hal Ec108 Fc110)) pd_1 (argsL := [(.ref o99)]) rfl rfl rfl (Nat.le_of_eq rfl) d2_55 fun v111 T111 h111 L111 P111 Q111 => ?_
        obtain ⟨rfl, N111, K111, E111, C111, b111, k111, gb111, gc111, gd111, V111, B111⟩ := Q111
        show Go p e below _ (T111.setTop (mkF m 58 #[.val (.int i), .val (.int ca), .val (.int cb), .val (.int cc)] [(.ref o98)]))
        have Ac112 : Arv Z h111 o99 k99 .char (2 : Int32) [(.int ca), (.int cb)] (.int (0 : Int32)) := (Va104.keep K111 (ninS (Ne.symm ne_o98_o99) nin0))
        have hcs113 : cs3 i ca cb cc = ([ca, cb] : List Int32) := cs3_2 hq0 hq1 hq2
        exact P111.retR rfl rfl rfl d2_58 (by decide) (by decide) ⟨o98, rfl, gw_o98, by rw [hcs113]; exact (strOf (n := 2) rfl (latS lca (latS lcb lat0)) (by decide) E111 C111 V111 B111)⟩
      · refine P0.xs (fun hA hx hy t k => XS.icmpYes hA hx rfl (pc0 := 37) (pc' := 59) rfl (hb hy d2_37) rfl (feq hq2).2 (by decide) (by decide) k) ?_
        show Go p e below _ (s₁.setTop (mkF m 59 #[.val (.int i), .val (.int ca), .val (.int cb), .val (.int cc)] []))
        refine P0.newO (hw _ (List.mem_of_getElem? (i := 53) rfl)) (hw _ (List.mem_of_getElem? (i := 54) rfl)) (hw _ (List.mem_of_getElem? (i := 55) rfl)) d2_59 (by decide) (by decide) fun T114 h114 o114 g114 P114 E114 A114 D114 => ?_
        have gz_o114 : Z.heap.size ≤ o114 := Nat.le_trans P0.old.1 (Nat.le_of_eq g114.symm)
        have gw_o114 : h0.size ≤ o114 := Nat.le_trans P0.kept.1 (Nat.le_of_eq g114.symm)
        have F114_coder : Fld Z h114 o114 "java/lang/String" "coder" "B" (.int (0 : Int32)) := D114 (Or.inr (hw _ (List.mem_of_getElem? (i := 80) rfl))) (ty := .byte) (by decide)
        have F114_value : Fld Z h114 o114 "java/lang/String" "value" "[B" .null := D114 (Or.inr (hw _ (List.mem_of_getElem? (i := 82) rfl))) (ty := (.array .byte)) (by decide)
        show Go p e below _ (T114.setTop (mkF m 62 #[.val (.int i), .val (.int ca), .val (.int cb), .val (.int cc)] [(.ref o114)]))
        refine P114.xs (fun hA hx hy t k => XS.dup hA hx rfl (hb hy d2_62) rfl rfl k) ?_
        show Go p e below _ (T114.setTop (mkF m 63 #[.val (.int i), .val (.int ca), .val (.int cb), .val (.int cc)] [(.ref o114), (.ref o114)]))
        refine P114.xs (fun hA hx hy t k => XS.iconst hA hx rfl (hb hy d2_63) k) ?_
        show Go p e below _ (T114.setTop (mkF m 64 #[.val (.int i), .val (.int ca), .val (.int cb), .val (.int cc)] [(.int (3 : Int32)), (.ref o114), (.ref o114)]))
        refine P114.newP (aty := .char) (hw _ (List.mem_of_getElem? (i := 56) rfl)) d2_64 (by decide) (cap := 3) (by decide) (by decide) (by decide) (by decide) fun T115 h115 o115 k115 g115 P115 E115 A115 => ?_
        have ne_o114_o115 : o114 ≠ o115 := Nat.ne_of_lt (Nat.lt_of_lt_of_le A114.lt (Nat.le_of_eq g115.symm))
        have gz_o115 : Z.heap.size ≤ o115 := Nat.le_trans P114.old.1 (Nat.le_of_eq g115.symm)
        have gw_o115 : h0.size ≤ o115 := Nat.le_trans P114.kept.1 (Nat.le_of_eq g115.symm)
        have V115 : Arv Z h115 o115 k115 .char (3 : Int32) [(.int (0 : Int32)), (.int (0 : Int32)), (.int (0 : Int32))] (.int (0 : Int32)) := Arv.pad A115 (pad_rep [] (.int (0 : Int32)) 3)
        show Go p e below _ (T115.setTop (mkF m 66 #[.val (.int i), .val (.int ca), .val (.int cb), .val (.int cc)] [(.ref o115), (.ref o114), (.ref o114)]))
        refine P115.xs (fun hA hx hy t k => XS.dup hA hx rfl (hb hy d2_66) rfl rfl k) ?_
        show Go p e below _ (T115.setTop (mkF m 67 #[.val (.int i), .val (.int ca), .val (.int cb), .val (.int cc)] [(.ref o115), (.ref o115), (.ref o114), (.ref o114)]))
        refine P115.xs (fun hA hx hy t k => XS.iconst hA hx rfl (hb hy d2_67) k) ?_
        show Go p e below _ (T115.setTop (mkF m 68 #[.val (.int i), .val (.int ca), .val (.int cb), .val (.int cc)] [(.int (0 : Int32)), (.ref o115), (.ref o115), (.ref o114), (.ref o114)]))
        refine P115.xs (fun hA hx hy t k => XS.iloadN hA hx rfl (hb hy d2_68) rfl  k) ?_
        show Go p e below _ (T115.setTop (mkF m 69 #[.val (.int i), .val (.int ca), .val (.int cb), .val (.int cc)] [(.int ca), (.int (0 : Int32)), (.ref o115), (.ref o115), (.ref o114), (.ref o114)]))
        have Ec117 : Exa Z h115 o114 "java/lang/String" := (A114.ext E115)
        have Fc118 : Fld Z h115 o114 "java/lang/String" "coder" "B" (.int (0 : Int32)) := (F114_coder.ext E115)
        have Fc119 : Fld Z h115 o114 "java/lang/String" "value" "[B" .null := (F114_value.ext E115)
        refine P115.stC V115 0 (by decide) (by decide) (by decide) (Nat.le_of_ble_eq_true rfl) (x' := ca) nca d2_69 gz_o115 (Or.inr gw_o115) fun T116 h116 P116 W116 V116 => ?_
        have Va116 : Arv Z h116 o115 k115 .char (3 : Int32) [(.int ca), (.int (0 : Int32)), (.int (0 : Int32))] (.int (0 : Int32)) := V116
        show Go p e below _ (T116.setTop (mkF m 70 #[.val (.int i), .val (.int ca), .val (.int cb), .val (.int cc)] [(.ref o115), (.ref o114), (.ref o114)]))
        refine P116.xs (fun hA hx hy t k => XS.dup hA hx rfl (hb hy d2_70) rfl rfl k) ?_
        show Go p e below _ (T116.setTop (mkF m 71 #[.val (.int i), .val (.int ca), .val (.int cb), .val (.int cc)] [(.ref o115), (.ref o115), (.ref o114), (.ref o114)]))
        refine P116.xs (fun hA hx hy t k => XS.iconst hA hx rfl (hb hy d2_71) k) ?_
        show Go p e below _ (T116.setTop (mkF m 72 #[.val (.int i), .val (.int ca), .val (.int cb), .val (.int cc)] [(.int (1 : Int32)), (.ref o115), (.ref o115), (.ref o114), (.ref o114)]))
        refine P116.xs (fun hA hx hy t k => XS.iloadN hA hx rfl (hb hy d2_72) rfl  k) ?_
        show Go p e below _ (T116.setTop (mkF m 73 #[.val (.int i), .val (.int ca), .val (.int cb), .val (.int cc)] [(.int cb), (.int (1 : Int32)), (.ref o115), (.ref o115), (.ref o114), (.ref o114)]))
        have Ec121 : Exa Z h116 o114 "java/lang/String" := (Ec117.wr W116)
        have Fc122 : Fld Z h116 o114 "java/lang/String" "coder" "B" (.int (0 : Int32)) := (Fc118.other W116 (Or.inl ne_o114_o115))
        have Fc123 : Fld Z h116 o114 "java/lang/String" "value" "[B" .null := (Fc119.other W116 (Or.inl ne_o114_o115))
        refine P116.stC Va116 1 (by decide) (by decide) (by decide) (Nat.le_of_ble_eq_true rfl) (x' := cb) ncb d2_73 gz_o115 (Or.inr gw_o115) fun T120 h120 P120 W120 V120 => ?_
        have Va120 : Arv Z h120 o115 k115 .char (3 : Int32) [(.int ca), (.int cb), (.int (0 : Int32))] (.int (0 : Int32)) := V120
        show Go p e below _ (T120.setTop (mkF m 74 #[.val (.int i), .val (.int ca), .val (.int cb), .val (.int cc)] [(.ref o115), (.ref o114), (.ref o114)]))
        refine P120.xs (fun hA hx hy t k => XS.dup hA hx rfl (hb hy d2_74) rfl rfl k) ?_
        show Go p e below _ (T120.setTop (mkF m 75 #[.val (.int i), .val (.int ca), .val (.int cb), .val (.int cc)] [(.ref o115), (.ref o115), (.ref o114), (.ref o114)]))
        refine P120.xs (fun hA hx hy t k => XS.iconst hA hx rfl (hb hy d2_75) k) ?_
        show Go p e below _ (T120.setTop (mkF m 76 #[.val (.int i), .val (.int ca), .val (.int cb), .val (.int cc)] [(.int (2 : Int32)), (.ref o115), (.ref o115), (.ref o114), (.ref o114)]))
        refine P120.xs (fun hA hx hy t k => XS.iloadN hA hx rfl (hb hy d2_76) rfl  k) ?_
        show Go p e below _ (T120.setTop (mkF m 77 #[.val (.int i), .val (.int ca), .val (.int cb), .val (.int cc)] [(.int cc), (.int (2 : Int32)), (.ref o115), (.ref o115), (.ref o114), (.ref o114)]))
        have Ec125 : Exa Z h120 o114 "java/lang/String" := (Ec121.wr W120)
        have Fc126 : Fld Z h120 o114 "java/lang/String" "coder" "B" (.int (0 : Int32)) := (Fc122.other W120 (Or.inl ne_o114_o115))
        have Fc127 : Fld Z h120 o114 "java/lang/String" "value" "[B" .null := (Fc123.other W120 (Or.inl ne_o114_o115))
        refine P120.stC Va120 2 (by decide) (by decide) (by decide) (Nat.le_of_ble_eq_true rfl) (x' := cc) ncc d2_77 gz_o115 (Or.inr gw_o115) fun T124 h124 P124 W124 V124 => ?_
        have Va124 : Arv Z h124 o115 k115 .char (3 : Int32) [(.int ca), (.int cb), (.int cc)] (.int (0 : Int32)) := V124
        show Go p e below _ (T124.setTop (mkF m 78 #[.val (.int i), .val (.int ca), .val (.int cb), .val (.int cc)] [(.ref o115), (.ref o114), (.ref o114)]))
        have Ec128 : Exa Z h124 o114 "java/lang/String" := (Ec125.wr W124)
        have Fc129 : Fld Z h124 o114 "java/lang/String" "coder" "B" (.int (0 : Int32)) := (Fc126.other W124 (Or.inl ne_o114_o115))
        have Fc130 : Fld Z h124 o114 "java/lang/String" "value" "[B" .null := (Fc127.other W124 (Or.inl ne_o114_o115))
        refine P124.specB (W := 1) (ws' := [o114]) rfl (hw _ (List.mem_of_getElem? (i := 57) rfl)) (hw _ (List.mem_of_getElem? (i := 58) rfl)) (hw _ (List.mem_of_getElem? (i := 59) rfl)) (by decide) (fun vm0 hZ => StrChars.Road.backV (W := 1) hZ (wStr hw) (kI := 4) (hw _ (List.mem_of_getElem? (i := 54) rfl)) (cs := ([ca, cb, cc] : List Int32)) (bs := ([ca, cb, cc] : List Int32).map (fun c => c.toInt8.toInt32)) (n := 3) gz_o114 P124.old.1 Ec128 Fc130 Fc129 Va124 (S0.ext P124.old) Pz rfl rfl (by decide) (by decide) (latS lca (latS lcb (latS lcc lat0))) rfl (by decide) (by decide)) rfl (fun v h' L q => ⟨q.2.1, q.2.2.1⟩) (by decide) (by decide) (allS ⟨(Or.inr gw_o114), gz_o114⟩ all0) (fun vm hs hal hr => safe1 (safeNull hal Ec128 Fc130)) pd_1 (argsL := [(.ref o115)]) rfl rfl rfl (Nat.le_of_eq rfl) d2_78 fun v131 T131 h131 L131 P131 Q131 => ?_
        obtain ⟨rfl, N131, K131, E131, C131, b131, k131, gb131, gc131, gd131, V131, B131⟩ := Q131
        show Go p e below _ (T131.setTop (mkF m 81 #[.val (.int i), .val (.int ca), .val (.int cb), .val (.int cc)] [(.ref o114)]))
        have Ac132 : Arv Z h131 o115 k115 .char (3 : Int32) [(.int ca), (.int cb), (.int cc)] (.int (0 : Int32)) := (Va124.keep K131 (ninS (Ne.symm ne_o114_o115) nin0))
        have hcs133 : cs3 i ca cb cc = ([ca, cb, cc] : List Int32) := cs3_3 hq0 hq1 hq2
        exact P131.retR rfl rfl rfl d2_81 (by decide) (by decide) ⟨o114, rfl, gw_o114, by rw [hcs133]; exact (strOf (n := 3) rfl (latS lca (latS lcb (latS lcc lat0))) (by decide) E131 C131 V131 B131)⟩

def R_mTok : Room := { frames := 1, cells := 4, slots := 40, locals := 14 }
def Q_mTok (Z : State) (o k t : Addr) (ln : Int32) (h0 : Heap) (v : Option Value) (h : Heap) : Prop := v = none ∧ Exa Z h o "com/example/qrew/qrew/dlgp/Token" ∧ Fld Z h o "com/example/qrew/qrew/dlgp/Token" "kind" "Lcom/example/qrew/qrew/dlgp/TokenKind;" (.ref k) ∧ Fld Z h o "com/example/qrew/qrew/dlgp/Token" "text" "Ljava/lang/String;" (.ref t) ∧ Fld Z h o "com/example/qrew/qrew/dlgp/Token" "line" "I" (.int ln)
set_option maxRecDepth 65536 in
set_option maxHeartbeats 40000000 in
theorem mTok (l : Launch) (Z : State) (a0 : Array Value) (hw : ∀ d ∈ tables_1, d.before a0 Z = true) (hEL : EW Z a0 EL0) (zc : Int32) (S0 : Sta Z Z.heap "java/lang/String" "COMPACT_STRINGS" "Z" (.int zc)) (Pz : ¬ zc = 0) (w_IDENTIFIER w_VARIABLE w_IRI w_PREFIXED_NAME w_STRING w_LANGUAGE_TAG w_DATATYPE_MARK w_INTEGER w_LABEL w_DIRECTIVE w_LEFT_PARENTHESIS w_RIGHT_PARENTHESIS w_COMMA w_DOT w_IMPLIES w_QUESTION_MARK w_EXCLAMATION_MARK w_BAR w_END : Addr) (S_IDENTIFIER : Sta Z Z.heap "com/example/qrew/qrew/dlgp/TokenKind" "IDENTIFIER" "Lcom/example/qrew/qrew/dlgp/TokenKind;" (.ref w_IDENTIFIER)) (E_IDENTIFIER : Exa Z Z.heap w_IDENTIFIER "com/example/qrew/qrew/dlgp/TokenKind") (S_VARIABLE : Sta Z Z.heap "com/example/qrew/qrew/dlgp/TokenKind" "VARIABLE" "Lcom/example/qrew/qrew/dlgp/TokenKind;" (.ref w_VARIABLE)) (E_VARIABLE : Exa Z Z.heap w_VARIABLE "com/example/qrew/qrew/dlgp/TokenKind") (S_IRI : Sta Z Z.heap "com/example/qrew/qrew/dlgp/TokenKind" "IRI" "Lcom/example/qrew/qrew/dlgp/TokenKind;" (.ref w_IRI)) (E_IRI : Exa Z Z.heap w_IRI "com/example/qrew/qrew/dlgp/TokenKind") (S_PREFIXED_NAME : Sta Z Z.heap "com/example/qrew/qrew/dlgp/TokenKind" "PREFIXED_NAME" "Lcom/example/qrew/qrew/dlgp/TokenKind;" (.ref w_PREFIXED_NAME)) (E_PREFIXED_NAME : Exa Z Z.heap w_PREFIXED_NAME "com/example/qrew/qrew/dlgp/TokenKind") (S_STRING : Sta Z Z.heap "com/example/qrew/qrew/dlgp/TokenKind" "STRING" "Lcom/example/qrew/qrew/dlgp/TokenKind;" (.ref w_STRING)) (E_STRING : Exa Z Z.heap w_STRING "com/example/qrew/qrew/dlgp/TokenKind") (S_LANGUAGE_TAG : Sta Z Z.heap "com/example/qrew/qrew/dlgp/TokenKind" "LANGUAGE_TAG" "Lcom/example/qrew/qrew/dlgp/TokenKind;" (.ref w_LANGUAGE_TAG)) (E_LANGUAGE_TAG : Exa Z Z.heap w_LANGUAGE_TAG "com/example/qrew/qrew/dlgp/TokenKind") (S_DATATYPE_MARK : Sta Z Z.heap "com/example/qrew/qrew/dlgp/TokenKind" "DATATYPE_MARK" "Lcom/example/qrew/qrew/dlgp/TokenKind;" (.ref w_DATATYPE_MARK)) (E_DATATYPE_MARK : Exa Z Z.heap w_DATATYPE_MARK "com/example/qrew/qrew/dlgp/TokenKind") (S_INTEGER : Sta Z Z.heap "com/example/qrew/qrew/dlgp/TokenKind" "INTEGER" "Lcom/example/qrew/qrew/dlgp/TokenKind;" (.ref w_INTEGER)) (E_INTEGER : Exa Z Z.heap w_INTEGER "com/example/qrew/qrew/dlgp/TokenKind") (S_LABEL : Sta Z Z.heap "com/example/qrew/qrew/dlgp/TokenKind" "LABEL" "Lcom/example/qrew/qrew/dlgp/TokenKind;" (.ref w_LABEL)) (E_LABEL : Exa Z Z.heap w_LABEL "com/example/qrew/qrew/dlgp/TokenKind") (S_DIRECTIVE : Sta Z Z.heap "com/example/qrew/qrew/dlgp/TokenKind" "DIRECTIVE" "Lcom/example/qrew/qrew/dlgp/TokenKind;" (.ref w_DIRECTIVE)) (E_DIRECTIVE : Exa Z Z.heap w_DIRECTIVE "com/example/qrew/qrew/dlgp/TokenKind") (S_LEFT_PARENTHESIS : Sta Z Z.heap "com/example/qrew/qrew/dlgp/TokenKind" "LEFT_PARENTHESIS" "Lcom/example/qrew/qrew/dlgp/TokenKind;" (.ref w_LEFT_PARENTHESIS)) (E_LEFT_PARENTHESIS : Exa Z Z.heap w_LEFT_PARENTHESIS "com/example/qrew/qrew/dlgp/TokenKind") (S_RIGHT_PARENTHESIS : Sta Z Z.heap "com/example/qrew/qrew/dlgp/TokenKind" "RIGHT_PARENTHESIS" "Lcom/example/qrew/qrew/dlgp/TokenKind;" (.ref w_RIGHT_PARENTHESIS)) (E_RIGHT_PARENTHESIS : Exa Z Z.heap w_RIGHT_PARENTHESIS "com/example/qrew/qrew/dlgp/TokenKind") (S_COMMA : Sta Z Z.heap "com/example/qrew/qrew/dlgp/TokenKind" "COMMA" "Lcom/example/qrew/qrew/dlgp/TokenKind;" (.ref w_COMMA)) (E_COMMA : Exa Z Z.heap w_COMMA "com/example/qrew/qrew/dlgp/TokenKind") (S_DOT : Sta Z Z.heap "com/example/qrew/qrew/dlgp/TokenKind" "DOT" "Lcom/example/qrew/qrew/dlgp/TokenKind;" (.ref w_DOT)) (E_DOT : Exa Z Z.heap w_DOT "com/example/qrew/qrew/dlgp/TokenKind") (S_IMPLIES : Sta Z Z.heap "com/example/qrew/qrew/dlgp/TokenKind" "IMPLIES" "Lcom/example/qrew/qrew/dlgp/TokenKind;" (.ref w_IMPLIES)) (E_IMPLIES : Exa Z Z.heap w_IMPLIES "com/example/qrew/qrew/dlgp/TokenKind") (S_QUESTION_MARK : Sta Z Z.heap "com/example/qrew/qrew/dlgp/TokenKind" "QUESTION_MARK" "Lcom/example/qrew/qrew/dlgp/TokenKind;" (.ref w_QUESTION_MARK)) (E_QUESTION_MARK : Exa Z Z.heap w_QUESTION_MARK "com/example/qrew/qrew/dlgp/TokenKind") (S_EXCLAMATION_MARK : Sta Z Z.heap "com/example/qrew/qrew/dlgp/TokenKind" "EXCLAMATION_MARK" "Lcom/example/qrew/qrew/dlgp/TokenKind;" (.ref w_EXCLAMATION_MARK)) (E_EXCLAMATION_MARK : Exa Z Z.heap w_EXCLAMATION_MARK "com/example/qrew/qrew/dlgp/TokenKind") (S_BAR : Sta Z Z.heap "com/example/qrew/qrew/dlgp/TokenKind" "BAR" "Lcom/example/qrew/qrew/dlgp/TokenKind;" (.ref w_BAR)) (E_BAR : Exa Z Z.heap w_BAR "com/example/qrew/qrew/dlgp/TokenKind") (S_END : Sta Z Z.heap "com/example/qrew/qrew/dlgp/TokenKind" "END" "Lcom/example/qrew/qrew/dlgp/TokenKind;" (.ref w_END)) (E_END : Exa Z Z.heap w_END "com/example/qrew/qrew/dlgp/TokenKind") (o k t : Addr) (ln : Int32) (h0 : Heap) (hO : Ext Z.heap h0) (E : Exa Z h0 o "com/example/qrew/qrew/dlgp/Token") (F_kind : Fld Z h0 o "com/example/qrew/qrew/dlgp/Token" "kind" "Lcom/example/qrew/qrew/dlgp/TokenKind;" .null) (F_text : Fld Z h0 o "com/example/qrew/qrew/dlgp/Token" "text" "Ljava/lang/String;" .null) (F_line : Fld Z h0 o "com/example/qrew/qrew/dlgp/Token" "line" "I" (.int (0 : Int32))) (go : Z.heap.size ≤ o) (Ek : Exa Z h0 k "com/example/qrew/qrew/dlgp/TokenKind") (Et : Exa Z h0 t "java/lang/String") :
    Con l Z EL0 [] (⟨"com/example/qrew/qrew/dlgp/Token", "<init>", "(Lcom/example/qrew/qrew/dlgp/TokenKind;Ljava/lang/String;I)V"⟩ : MethodName) prog_7_method_1_code 4 none R_mTok #[(.ref o), (.ref k), (.ref t), (.int ln)] h0 [o] (Q_mTok Z o k t ln h0) := by
  refine Con.of (y := (⟨"com/example/qrew/qrew/dlgp/Token", "<init>", "(Lcom/example/qrew/qrew/dlgp/TokenKind;Ljava/lang/String;I)V"⟩ : MethodName)) (f0 := fun m => mkF m 0 #[.val (.ref o), .val (.ref k), .val (.ref t), .val (.int ln)] []) (plainFor_of_name pn_3) hEL hO (fun m => by skip <;> first | (simp [entryFrame, mkF, argsToLocals, Value.category, maxLocals]; done) | rfl) ?_
  intro p e s m below meth c s₁ P0
  show Go p e below _ (s₁.setTop (mkF m 0 #[.val (.ref o), .val (.ref k), .val (.ref t), .val (.int ln)] []))
  refine P0.xs (fun hA hx hy t k => XS.aloadN hA hx rfl (hb hy d9_0) rfl rfl  k) ?_
  show Go p e below _ (s₁.setTop (mkF m 1 #[.val (.ref o), .val (.ref k), .val (.ref t), .val (.int ln)] [(.ref o)]))
  refine P0.init0 (W := 0) (hw _ (List.mem_of_getElem? (i := 86) rfl)) (hw _ (List.mem_of_getElem? (i := 65) rfl)) (hw _ (List.mem_of_getElem? (i := 66) rfl)) d9_1 rfl (by decide) (Nat.le_of_eq rfl) (by decide) fun T134 P134 => ?_
  show Go p e below _ (T134.setTop (mkF m 4 #[.val (.ref o), .val (.ref k), .val (.ref t), .val (.int ln)] []))
  refine P134.xs (fun hA hx hy t k => XS.aloadN hA hx rfl (hb hy d9_4) rfl rfl  k) ?_
  show Go p e below _ (T134.setTop (mkF m 5 #[.val (.ref o), .val (.ref k), .val (.ref t), .val (.int ln)] [(.ref o)]))
  refine P134.xs (fun hA hx hy t k => XS.aloadN hA hx rfl (hb hy d9_5) rfl rfl  k) ?_
  show Go p e below _ (T134.setTop (mkF m 6 #[.val (.ref o), .val (.ref k), .val (.ref t), .val (.int ln)] [(.ref k), (.ref o)]))
  refine P134.ldcO (hw _ (List.mem_of_getElem? (i := 87) rfl)) (wSt hw) d9_6 (n := 16) (by decide) (by decide) (by decide) (by decide) fun T135 h135 o135 P135 E135 => ?_
  show Go p e below _ (T135.setTop (mkF m 8 #[.val (.ref o), .val (.ref k), .val (.ref t), .val (.int ln)] [(.ref o135), (.ref k), (.ref o)]))
  have Ec137 : Exa Z h135 o "com/example/qrew/qrew/dlgp/Token" := (E.ext E135)
  have Ec138 : Exa Z h135 k "com/example/qrew/qrew/dlgp/TokenKind" := (Ek.ext E135)
  have Ec139 : Exa Z h135 t "java/lang/String" := (Et.ext E135)
  have Fc140 : Fld Z h135 o "com/example/qrew/qrew/dlgp/Token" "kind" "Lcom/example/qrew/qrew/dlgp/TokenKind;" .null := (F_kind.ext E135)
  have Fc141 : Fld Z h135 o "com/example/qrew/qrew/dlgp/Token" "text" "Ljava/lang/String;" .null := (F_text.ext E135)
  have Fc142 : Fld Z h135 o "com/example/qrew/qrew/dlgp/Token" "line" "I" (.int (0 : Int32)) := (F_line.ext E135)
  refine P135.callS (hw _ (List.mem_of_getElem? (i := 90) rfl)) (hw _ (List.mem_of_getElem? (i := 91) rfl)) (hw _ (List.mem_of_getElem? (i := 92) rfl)) (hw _ (List.mem_of_getElem? (i := 93) rfl)) (by decide) (reqNN l Z a0 hw hEL zc S0 Pz w_IDENTIFIER w_VARIABLE w_IRI w_PREFIXED_NAME w_STRING w_LANGUAGE_TAG w_DATATYPE_MARK w_INTEGER w_LABEL w_DIRECTIVE w_LEFT_PARENTHESIS w_RIGHT_PARENTHESIS w_COMMA w_DOT w_IMPLIES w_QUESTION_MARK w_EXCLAMATION_MARK w_BAR w_END S_IDENTIFIER E_IDENTIFIER S_VARIABLE E_VARIABLE S_IRI E_IRI S_PREFIXED_NAME E_PREFIXED_NAME S_STRING E_STRING S_LANGUAGE_TAG E_LANGUAGE_TAG S_DATATYPE_MARK E_DATATYPE_MARK S_INTEGER E_INTEGER S_LABEL E_LABEL S_DIRECTIVE E_DIRECTIVE S_LEFT_PARENTHESIS E_LEFT_PARENTHESIS S_RIGHT_PARENTHESIS E_RIGHT_PARENTHESIS S_COMMA E_COMMA S_DOT E_DOT S_IMPLIES E_IMPLIES S_QUESTION_MARK E_QUESTION_MARK S_EXCLAMATION_MARK E_EXCLAMATION_MARK S_BAR E_BAR S_END E_END k o135 h135 P135.old) (W := 1) (by decide) (by decide) (by decide) (by decide) all0 pd_2 (argsL := [(.ref k), (.ref o135)]) rfl rfl rfl (Nat.le_of_eq rfl) d9_8 fun v136 T136 h136 P136 K136 Q136 => ?_
  obtain ⟨hv136, hh136⟩ := Q136
  subst hv136
  rw [hh136] at P136
  show Go p e below _ (T136.setTop (mkF m 11 #[.val (.ref o), .val (.ref k), .val (.ref t), .val (.int ln)] [(.ref k), (.ref o)]))
  refine P136.cast (hw _ (List.mem_of_getElem? (i := 94) rfl)) (Ins.self Ec138) d9_11 fun T143 P143 => ?_
  show Go p e below _ (T143.setTop (mkF m 14 #[.val (.ref o), .val (.ref k), .val (.ref t), .val (.int ln)] [(.ref k), (.ref o)]))
  refine P143.putF (hw _ (List.mem_of_getElem? (i := 95) rfl)) Via.refl Fc140 Ec137 (Or.inr ⟨(hw _ (List.mem_of_getElem? (i := 96) rfl)), rfl, rfl⟩) (hw _ (List.mem_of_getElem? (i := 48) rfl)) (ty := (.object "com/example/qrew/qrew/dlgp/TokenKind")) (v' := (.ref k)) (by decide) rfl rfl d9_14 (fun vm _ hal _ => Safe.exa hal Ec137 (by decide) (by decide)) go (Or.inl (List.mem_of_getElem? (i := 0) rfl)) fun T144 h144 P144 W144 => ?_
  show Go p e below _ (T144.setTop (mkF m 17 #[.val (.ref o), .val (.ref k), .val (.ref t), .val (.int ln)] []))
  refine P144.xs (fun hA hx hy t k => XS.aloadN hA hx rfl (hb hy d9_17) rfl rfl  k) ?_
  show Go p e below _ (T144.setTop (mkF m 18 #[.val (.ref o), .val (.ref k), .val (.ref t), .val (.int ln)] [(.ref o)]))
  refine P144.xs (fun hA hx hy t k => XS.aloadN hA hx rfl (hb hy d9_18) rfl rfl  k) ?_
  show Go p e below _ (T144.setTop (mkF m 19 #[.val (.ref o), .val (.ref k), .val (.ref t), .val (.int ln)] [(.ref t), (.ref o)]))
  refine P144.ldcO (hw _ (List.mem_of_getElem? (i := 97) rfl)) (wSt hw) d9_19 (n := 16) (by decide) (by decide) (by decide) (by decide) fun T145 h145 o145 P145 E145 => ?_
  show Go p e below _ (T145.setTop (mkF m 21 #[.val (.ref o), .val (.ref k), .val (.ref t), .val (.int ln)] [(.ref o145), (.ref t), (.ref o)]))
  have Ec147 : Exa Z h145 o "com/example/qrew/qrew/dlgp/Token" := ((Ec137.wr W144).ext E145)
  have Ec148 : Exa Z h145 k "com/example/qrew/qrew/dlgp/TokenKind" := ((Ec138.wr W144).ext E145)
  have Ec149 : Exa Z h145 t "java/lang/String" := ((Ec139.wr W144).ext E145)
  have Fc150 : Fld Z h145 o "com/example/qrew/qrew/dlgp/Token" "kind" "Lcom/example/qrew/qrew/dlgp/TokenKind;" (.ref k) := ((Fc140.same W144).ext E145)
  have Fc151 : Fld Z h145 o "com/example/qrew/qrew/dlgp/Token" "text" "Ljava/lang/String;" .null := ((Fc141.other W144 (Or.inr (slot_ne (Or.inr (hw _ (List.mem_of_getElem? (i := 100) rfl))) (Or.inr (hw _ (List.mem_of_getElem? (i := 96) rfl))) (by decide) (t := (.object "java/lang/String")) (t' := (.object "com/example/qrew/qrew/dlgp/TokenKind")) (by decide) (by decide)))).ext E145)
  have Fc152 : Fld Z h145 o "com/example/qrew/qrew/dlgp/Token" "line" "I" (.int (0 : Int32)) := ((Fc142.other W144 (Or.inr (slot_ne (Or.inr (hw _ (List.mem_of_getElem? (i := 102) rfl))) (Or.inr (hw _ (List.mem_of_getElem? (i := 96) rfl))) (by decide) (t := .int) (t' := (.object "com/example/qrew/qrew/dlgp/TokenKind")) (by decide) (by decide)))).ext E145)
  refine P145.callS (hw _ (List.mem_of_getElem? (i := 90) rfl)) (hw _ (List.mem_of_getElem? (i := 91) rfl)) (hw _ (List.mem_of_getElem? (i := 92) rfl)) (hw _ (List.mem_of_getElem? (i := 93) rfl)) (by decide) (reqNN l Z a0 hw hEL zc S0 Pz w_IDENTIFIER w_VARIABLE w_IRI w_PREFIXED_NAME w_STRING w_LANGUAGE_TAG w_DATATYPE_MARK w_INTEGER w_LABEL w_DIRECTIVE w_LEFT_PARENTHESIS w_RIGHT_PARENTHESIS w_COMMA w_DOT w_IMPLIES w_QUESTION_MARK w_EXCLAMATION_MARK w_BAR w_END S_IDENTIFIER E_IDENTIFIER S_VARIABLE E_VARIABLE S_IRI E_IRI S_PREFIXED_NAME E_PREFIXED_NAME S_STRING E_STRING S_LANGUAGE_TAG E_LANGUAGE_TAG S_DATATYPE_MARK E_DATATYPE_MARK S_INTEGER E_INTEGER S_LABEL E_LABEL S_DIRECTIVE E_DIRECTIVE S_LEFT_PARENTHESIS E_LEFT_PARENTHESIS S_RIGHT_PARENTHESIS E_RIGHT_PARENTHESIS S_COMMA E_COMMA S_DOT E_DOT S_IMPLIES E_IMPLIES S_QUESTION_MARK E_QUESTION_MARK S_EXCLAMATION_MARK E_EXCLAMATION_MARK S_BAR E_BAR S_END E_END t o145 h145 P145.old) (W := 1) (by decide) (by decide) (by decide) (by decide) all0 pd_2 (argsL := [(.ref t), (.ref o145)]) rfl rfl rfl (Nat.le_of_eq rfl) d9_21 fun v146 T146 h146 P146 K146 Q146 => ?_
  obtain ⟨hv146, hh146⟩ := Q146
  subst hv146
  rw [hh146] at P146
  show Go p e below _ (T146.setTop (mkF m 24 #[.val (.ref o), .val (.ref k), .val (.ref t), .val (.int ln)] [(.ref t), (.ref o)]))
  refine P146.cast (hw _ (List.mem_of_getElem? (i := 98) rfl)) (Ins.self Ec149) d9_24 fun T153 P153 => ?_
  show Go p e below _ (T153.setTop (mkF m 27 #[.val (.ref o), .val (.ref k), .val (.ref t), .val (.int ln)] [(.ref t), (.ref o)]))
  refine P153.putF (hw _ (List.mem_of_getElem? (i := 99) rfl)) Via.refl Fc151 Ec147 (Or.inr ⟨(hw _ (List.mem_of_getElem? (i := 100) rfl)), rfl, rfl⟩) (hw _ (List.mem_of_getElem? (i := 48) rfl)) (ty := (.object "java/lang/String")) (v' := (.ref t)) (by decide) rfl rfl d9_27 (fun vm _ hal _ => Safe.exa hal Ec147 (by decide) (by decide)) go (Or.inl (List.mem_of_getElem? (i := 0) rfl)) fun T154 h154 P154 W154 => ?_
  show Go p e below _ (T154.setTop (mkF m 30 #[.val (.ref o), .val (.ref k), .val (.ref t), .val (.int ln)] []))
  refine P154.xs (fun hA hx hy t k => XS.aloadN hA hx rfl (hb hy d9_30) rfl rfl  k) ?_
  show Go p e below _ (T154.setTop (mkF m 31 #[.val (.ref o), .val (.ref k), .val (.ref t), .val (.int ln)] [(.ref o)]))
  refine P154.xs (fun hA hx hy t k => XS.iloadN hA hx rfl (hb hy d9_31) rfl  k) ?_
  show Go p e below _ (T154.setTop (mkF m 32 #[.val (.ref o), .val (.ref k), .val (.ref t), .val (.int ln)] [(.int ln), (.ref o)]))
  have Ec156 : Exa Z h154 o "com/example/qrew/qrew/dlgp/Token" := (Ec147.wr W154)
  have Ec157 : Exa Z h154 k "com/example/qrew/qrew/dlgp/TokenKind" := (Ec148.wr W154)
  have Ec158 : Exa Z h154 t "java/lang/String" := (Ec149.wr W154)
  have Fc159 : Fld Z h154 o "com/example/qrew/qrew/dlgp/Token" "kind" "Lcom/example/qrew/qrew/dlgp/TokenKind;" (.ref k) := (Fc150.other W154 (Or.inr (slot_ne (Or.inr (hw _ (List.mem_of_getElem? (i := 96) rfl))) (Or.inr (hw _ (List.mem_of_getElem? (i := 100) rfl))) (by decide) (t := (.object "com/example/qrew/qrew/dlgp/TokenKind")) (t' := (.object "java/lang/String")) (by decide) (by decide))))
  have Fc160 : Fld Z h154 o "com/example/qrew/qrew/dlgp/Token" "text" "Ljava/lang/String;" (.ref t) := (Fc151.same W154)
  have Fc161 : Fld Z h154 o "com/example/qrew/qrew/dlgp/Token" "line" "I" (.int (0 : Int32)) := (Fc152.other W154 (Or.inr (slot_ne (Or.inr (hw _ (List.mem_of_getElem? (i := 102) rfl))) (Or.inr (hw _ (List.mem_of_getElem? (i := 100) rfl))) (by decide) (t := .int) (t' := (.object "java/lang/String")) (by decide) (by decide))))
  refine P154.putF (hw _ (List.mem_of_getElem? (i := 101) rfl)) Via.refl Fc161 Ec156 (Or.inr ⟨(hw _ (List.mem_of_getElem? (i := 102) rfl)), rfl, rfl⟩) (hw _ (List.mem_of_getElem? (i := 48) rfl)) (ty := .int) (v' := (.int ln)) (by decide) rfl rfl d9_32 (fun vm _ hal _ => Safe.exa hal Ec156 (by decide) (by decide)) go (Or.inl (List.mem_of_getElem? (i := 0) rfl)) fun T155 h155 P155 W155 => ?_
  show Go p e below _ (T155.setTop (mkF m 35 #[.val (.ref o), .val (.ref k), .val (.ref t), .val (.int ln)] []))
  have Ec162 : Exa Z h155 o "com/example/qrew/qrew/dlgp/Token" := (Ec156.wr W155)
  have Ec163 : Exa Z h155 k "com/example/qrew/qrew/dlgp/TokenKind" := (Ec157.wr W155)
  have Ec164 : Exa Z h155 t "java/lang/String" := (Ec158.wr W155)
  have Fc165 : Fld Z h155 o "com/example/qrew/qrew/dlgp/Token" "kind" "Lcom/example/qrew/qrew/dlgp/TokenKind;" (.ref k) := (Fc159.other W155 (Or.inr (slot_ne (Or.inr (hw _ (List.mem_of_getElem? (i := 96) rfl))) (Or.inr (hw _ (List.mem_of_getElem? (i := 102) rfl))) (by decide) (t := (.object "com/example/qrew/qrew/dlgp/TokenKind")) (t' := .int) (by decide) (by decide))))
  have Fc166 : Fld Z h155 o "com/example/qrew/qrew/dlgp/Token" "text" "Ljava/lang/String;" (.ref t) := (Fc160.other W155 (Or.inr (slot_ne (Or.inr (hw _ (List.mem_of_getElem? (i := 100) rfl))) (Or.inr (hw _ (List.mem_of_getElem? (i := 102) rfl))) (by decide) (t := (.object "java/lang/String")) (t' := .int) (by decide) (by decide))))
  have Fc167 : Fld Z h155 o "com/example/qrew/qrew/dlgp/Token" "line" "I" (.int ln) := (Fc161.same W155)
  exact P155.retV rfl d9_35 (by decide) (by decide) ⟨rfl, Ec162, Fc165, Fc166, Fc167⟩

def R_m_text : Room := { frames := 0, cells := 0, slots := 0, locals := 0 }
def Q_m_text (Z : State) (wv : Value) (h0 : Heap) (v : Option Value) (h : Heap) : Prop := v = some wv ∧ h = h0
set_option maxRecDepth 65536 in
set_option maxHeartbeats 40000000 in
theorem m_text (l : Launch) (Z : State) (a0 : Array Value) (hw : ∀ d ∈ tables_1, d.before a0 Z = true) (hEL : EW Z a0 EL0) (zc : Int32) (S0 : Sta Z Z.heap "java/lang/String" "COMPACT_STRINGS" "Z" (.int zc)) (Pz : ¬ zc = 0) (w_IDENTIFIER w_VARIABLE w_IRI w_PREFIXED_NAME w_STRING w_LANGUAGE_TAG w_DATATYPE_MARK w_INTEGER w_LABEL w_DIRECTIVE w_LEFT_PARENTHESIS w_RIGHT_PARENTHESIS w_COMMA w_DOT w_IMPLIES w_QUESTION_MARK w_EXCLAMATION_MARK w_BAR w_END : Addr) (S_IDENTIFIER : Sta Z Z.heap "com/example/qrew/qrew/dlgp/TokenKind" "IDENTIFIER" "Lcom/example/qrew/qrew/dlgp/TokenKind;" (.ref w_IDENTIFIER)) (E_IDENTIFIER : Exa Z Z.heap w_IDENTIFIER "com/example/qrew/qrew/dlgp/TokenKind") (S_VARIABLE : Sta Z Z.heap "com/example/qrew/qrew/dlgp/TokenKind" "VARIABLE" "Lcom/example/qrew/qrew/dlgp/TokenKind;" (.ref w_VARIABLE)) (E_VARIABLE : Exa Z Z.heap w_VARIABLE "com/example/qrew/qrew/dlgp/TokenKind") (S_IRI : Sta Z Z.heap "com/example/qrew/qrew/dlgp/TokenKind" "IRI" "Lcom/example/qrew/qrew/dlgp/TokenKind;" (.ref w_IRI)) (E_IRI : Exa Z Z.heap w_IRI "com/example/qrew/qrew/dlgp/TokenKind") (S_PREFIXED_NAME : Sta Z Z.heap "com/example/qrew/qrew/dlgp/TokenKind" "PREFIXED_NAME" "Lcom/example/qrew/qrew/dlgp/TokenKind;" (.ref w_PREFIXED_NAME)) (E_PREFIXED_NAME : Exa Z Z.heap w_PREFIXED_NAME "com/example/qrew/qrew/dlgp/TokenKind") (S_STRING : Sta Z Z.heap "com/example/qrew/qrew/dlgp/TokenKind" "STRING" "Lcom/example/qrew/qrew/dlgp/TokenKind;" (.ref w_STRING)) (E_STRING : Exa Z Z.heap w_STRING "com/example/qrew/qrew/dlgp/TokenKind") (S_LANGUAGE_TAG : Sta Z Z.heap "com/example/qrew/qrew/dlgp/TokenKind" "LANGUAGE_TAG" "Lcom/example/qrew/qrew/dlgp/TokenKind;" (.ref w_LANGUAGE_TAG)) (E_LANGUAGE_TAG : Exa Z Z.heap w_LANGUAGE_TAG "com/example/qrew/qrew/dlgp/TokenKind") (S_DATATYPE_MARK : Sta Z Z.heap "com/example/qrew/qrew/dlgp/TokenKind" "DATATYPE_MARK" "Lcom/example/qrew/qrew/dlgp/TokenKind;" (.ref w_DATATYPE_MARK)) (E_DATATYPE_MARK : Exa Z Z.heap w_DATATYPE_MARK "com/example/qrew/qrew/dlgp/TokenKind") (S_INTEGER : Sta Z Z.heap "com/example/qrew/qrew/dlgp/TokenKind" "INTEGER" "Lcom/example/qrew/qrew/dlgp/TokenKind;" (.ref w_INTEGER)) (E_INTEGER : Exa Z Z.heap w_INTEGER "com/example/qrew/qrew/dlgp/TokenKind") (S_LABEL : Sta Z Z.heap "com/example/qrew/qrew/dlgp/TokenKind" "LABEL" "Lcom/example/qrew/qrew/dlgp/TokenKind;" (.ref w_LABEL)) (E_LABEL : Exa Z Z.heap w_LABEL "com/example/qrew/qrew/dlgp/TokenKind") (S_DIRECTIVE : Sta Z Z.heap "com/example/qrew/qrew/dlgp/TokenKind" "DIRECTIVE" "Lcom/example/qrew/qrew/dlgp/TokenKind;" (.ref w_DIRECTIVE)) (E_DIRECTIVE : Exa Z Z.heap w_DIRECTIVE "com/example/qrew/qrew/dlgp/TokenKind") (S_LEFT_PARENTHESIS : Sta Z Z.heap "com/example/qrew/qrew/dlgp/TokenKind" "LEFT_PARENTHESIS" "Lcom/example/qrew/qrew/dlgp/TokenKind;" (.ref w_LEFT_PARENTHESIS)) (E_LEFT_PARENTHESIS : Exa Z Z.heap w_LEFT_PARENTHESIS "com/example/qrew/qrew/dlgp/TokenKind") (S_RIGHT_PARENTHESIS : Sta Z Z.heap "com/example/qrew/qrew/dlgp/TokenKind" "RIGHT_PARENTHESIS" "Lcom/example/qrew/qrew/dlgp/TokenKind;" (.ref w_RIGHT_PARENTHESIS)) (E_RIGHT_PARENTHESIS : Exa Z Z.heap w_RIGHT_PARENTHESIS "com/example/qrew/qrew/dlgp/TokenKind") (S_COMMA : Sta Z Z.heap "com/example/qrew/qrew/dlgp/TokenKind" "COMMA" "Lcom/example/qrew/qrew/dlgp/TokenKind;" (.ref w_COMMA)) (E_COMMA : Exa Z Z.heap w_COMMA "com/example/qrew/qrew/dlgp/TokenKind") (S_DOT : Sta Z Z.heap "com/example/qrew/qrew/dlgp/TokenKind" "DOT" "Lcom/example/qrew/qrew/dlgp/TokenKind;" (.ref w_DOT)) (E_DOT : Exa Z Z.heap w_DOT "com/example/qrew/qrew/dlgp/TokenKind") (S_IMPLIES : Sta Z Z.heap "com/example/qrew/qrew/dlgp/TokenKind" "IMPLIES" "Lcom/example/qrew/qrew/dlgp/TokenKind;" (.ref w_IMPLIES)) (E_IMPLIES : Exa Z Z.heap w_IMPLIES "com/example/qrew/qrew/dlgp/TokenKind") (S_QUESTION_MARK : Sta Z Z.heap "com/example/qrew/qrew/dlgp/TokenKind" "QUESTION_MARK" "Lcom/example/qrew/qrew/dlgp/TokenKind;" (.ref w_QUESTION_MARK)) (E_QUESTION_MARK : Exa Z Z.heap w_QUESTION_MARK "com/example/qrew/qrew/dlgp/TokenKind") (S_EXCLAMATION_MARK : Sta Z Z.heap "com/example/qrew/qrew/dlgp/TokenKind" "EXCLAMATION_MARK" "Lcom/example/qrew/qrew/dlgp/TokenKind;" (.ref w_EXCLAMATION_MARK)) (E_EXCLAMATION_MARK : Exa Z Z.heap w_EXCLAMATION_MARK "com/example/qrew/qrew/dlgp/TokenKind") (S_BAR : Sta Z Z.heap "com/example/qrew/qrew/dlgp/TokenKind" "BAR" "Lcom/example/qrew/qrew/dlgp/TokenKind;" (.ref w_BAR)) (E_BAR : Exa Z Z.heap w_BAR "com/example/qrew/qrew/dlgp/TokenKind") (S_END : Sta Z Z.heap "com/example/qrew/qrew/dlgp/TokenKind" "END" "Lcom/example/qrew/qrew/dlgp/TokenKind;" (.ref w_END)) (E_END : Exa Z Z.heap w_END "com/example/qrew/qrew/dlgp/TokenKind") (o : Addr) (wv : Value) (hwv : wv.isRef = true) (h0 : Heap) (hO : Ext Z.heap h0) (F : Fld Z h0 o "com/example/qrew/qrew/dlgp/Token" "text" "Ljava/lang/String;" wv) :
    Con l Z EL0 [] (⟨"com/example/qrew/qrew/dlgp/Token", "getText", "()Ljava/lang/String;"⟩ : MethodName) prog_7_method_3_code 1 (some (.object "java/lang/String")) R_m_text #[(.ref o)] h0 [] (Q_m_text Z wv h0) := by
  refine Con.of (y := (⟨"com/example/qrew/qrew/dlgp/Token", "getText", "()Ljava/lang/String;"⟩ : MethodName)) (f0 := fun m => mkF m 0 #[.val (.ref o)] []) (plainFor_of_name pn_3) hEL hO (fun m => by skip <;> first | (simp [entryFrame, mkF, argsToLocals, Value.category, maxLocals]; done) | rfl) ?_
  intro p e s m below meth c s₁ P0
  show Go p e below _ (s₁.setTop (mkF m 0 #[.val (.ref o)] []))
  refine P0.xs (fun hA hx hy t k => XS.aloadN hA hx rfl (hb hy d12_0) rfl rfl  k) ?_
  show Go p e below _ (s₁.setTop (mkF m 1 #[.val (.ref o)] [(.ref o)]))
  refine P0.getF (host := "") (Or.inl (hw _ (List.mem_of_getElem? (i := 99) rfl))) Via.refl F d12_1 fun T168 P168 => ?_
  show Go p e below _ (T168.setTop (mkF m 4 #[.val (.ref o)] [wv]))
  exact P168.retR rfl rfl hwv d12_4 (by decide) (by decide) ⟨rfl, rfl⟩

def R_eqN : Room := { frames := 0, cells := 0, slots := 0, locals := 0 }
def Q_eqN (Z : State)  (h0 : Heap) (v : Option Value) (h : Heap) : Prop := v = some (.int (0 : Int32)) ∧ h = h0
set_option maxRecDepth 65536 in
set_option maxHeartbeats 40000000 in
theorem eqN (l : Launch) (Z : State) (a0 : Array Value) (hw : ∀ d ∈ tables_1, d.before a0 Z = true) (hEL : EW Z a0 EL0) (zc : Int32) (S0 : Sta Z Z.heap "java/lang/String" "COMPACT_STRINGS" "Z" (.int zc)) (Pz : ¬ zc = 0) (w_IDENTIFIER w_VARIABLE w_IRI w_PREFIXED_NAME w_STRING w_LANGUAGE_TAG w_DATATYPE_MARK w_INTEGER w_LABEL w_DIRECTIVE w_LEFT_PARENTHESIS w_RIGHT_PARENTHESIS w_COMMA w_DOT w_IMPLIES w_QUESTION_MARK w_EXCLAMATION_MARK w_BAR w_END : Addr) (S_IDENTIFIER : Sta Z Z.heap "com/example/qrew/qrew/dlgp/TokenKind" "IDENTIFIER" "Lcom/example/qrew/qrew/dlgp/TokenKind;" (.ref w_IDENTIFIER)) (E_IDENTIFIER : Exa Z Z.heap w_IDENTIFIER "com/example/qrew/qrew/dlgp/TokenKind") (S_VARIABLE : Sta Z Z.heap "com/example/qrew/qrew/dlgp/TokenKind" "VARIABLE" "Lcom/example/qrew/qrew/dlgp/TokenKind;" (.ref w_VARIABLE)) (E_VARIABLE : Exa Z Z.heap w_VARIABLE "com/example/qrew/qrew/dlgp/TokenKind") (S_IRI : Sta Z Z.heap "com/example/qrew/qrew/dlgp/TokenKind" "IRI" "Lcom/example/qrew/qrew/dlgp/TokenKind;" (.ref w_IRI)) (E_IRI : Exa Z Z.heap w_IRI "com/example/qrew/qrew/dlgp/TokenKind") (S_PREFIXED_NAME : Sta Z Z.heap "com/example/qrew/qrew/dlgp/TokenKind" "PREFIXED_NAME" "Lcom/example/qrew/qrew/dlgp/TokenKind;" (.ref w_PREFIXED_NAME)) (E_PREFIXED_NAME : Exa Z Z.heap w_PREFIXED_NAME "com/example/qrew/qrew/dlgp/TokenKind") (S_STRING : Sta Z Z.heap "com/example/qrew/qrew/dlgp/TokenKind" "STRING" "Lcom/example/qrew/qrew/dlgp/TokenKind;" (.ref w_STRING)) (E_STRING : Exa Z Z.heap w_STRING "com/example/qrew/qrew/dlgp/TokenKind") (S_LANGUAGE_TAG : Sta Z Z.heap "com/example/qrew/qrew/dlgp/TokenKind" "LANGUAGE_TAG" "Lcom/example/qrew/qrew/dlgp/TokenKind;" (.ref w_LANGUAGE_TAG)) (E_LANGUAGE_TAG : Exa Z Z.heap w_LANGUAGE_TAG "com/example/qrew/qrew/dlgp/TokenKind") (S_DATATYPE_MARK : Sta Z Z.heap "com/example/qrew/qrew/dlgp/TokenKind" "DATATYPE_MARK" "Lcom/example/qrew/qrew/dlgp/TokenKind;" (.ref w_DATATYPE_MARK)) (E_DATATYPE_MARK : Exa Z Z.heap w_DATATYPE_MARK "com/example/qrew/qrew/dlgp/TokenKind") (S_INTEGER : Sta Z Z.heap "com/example/qrew/qrew/dlgp/TokenKind" "INTEGER" "Lcom/example/qrew/qrew/dlgp/TokenKind;" (.ref w_INTEGER)) (E_INTEGER : Exa Z Z.heap w_INTEGER "com/example/qrew/qrew/dlgp/TokenKind") (S_LABEL : Sta Z Z.heap "com/example/qrew/qrew/dlgp/TokenKind" "LABEL" "Lcom/example/qrew/qrew/dlgp/TokenKind;" (.ref w_LABEL)) (E_LABEL : Exa Z Z.heap w_LABEL "com/example/qrew/qrew/dlgp/TokenKind") (S_DIRECTIVE : Sta Z Z.heap "com/example/qrew/qrew/dlgp/TokenKind" "DIRECTIVE" "Lcom/example/qrew/qrew/dlgp/TokenKind;" (.ref w_DIRECTIVE)) (E_DIRECTIVE : Exa Z Z.heap w_DIRECTIVE "com/example/qrew/qrew/dlgp/TokenKind") (S_LEFT_PARENTHESIS : Sta Z Z.heap "com/example/qrew/qrew/dlgp/TokenKind" "LEFT_PARENTHESIS" "Lcom/example/qrew/qrew/dlgp/TokenKind;" (.ref w_LEFT_PARENTHESIS)) (E_LEFT_PARENTHESIS : Exa Z Z.heap w_LEFT_PARENTHESIS "com/example/qrew/qrew/dlgp/TokenKind") (S_RIGHT_PARENTHESIS : Sta Z Z.heap "com/example/qrew/qrew/dlgp/TokenKind" "RIGHT_PARENTHESIS" "Lcom/example/qrew/qrew/dlgp/TokenKind;" (.ref w_RIGHT_PARENTHESIS)) (E_RIGHT_PARENTHESIS : Exa Z Z.heap w_RIGHT_PARENTHESIS "com/example/qrew/qrew/dlgp/TokenKind") (S_COMMA : Sta Z Z.heap "com/example/qrew/qrew/dlgp/TokenKind" "COMMA" "Lcom/example/qrew/qrew/dlgp/TokenKind;" (.ref w_COMMA)) (E_COMMA : Exa Z Z.heap w_COMMA "com/example/qrew/qrew/dlgp/TokenKind") (S_DOT : Sta Z Z.heap "com/example/qrew/qrew/dlgp/TokenKind" "DOT" "Lcom/example/qrew/qrew/dlgp/TokenKind;" (.ref w_DOT)) (E_DOT : Exa Z Z.heap w_DOT "com/example/qrew/qrew/dlgp/TokenKind") (S_IMPLIES : Sta Z Z.heap "com/example/qrew/qrew/dlgp/TokenKind" "IMPLIES" "Lcom/example/qrew/qrew/dlgp/TokenKind;" (.ref w_IMPLIES)) (E_IMPLIES : Exa Z Z.heap w_IMPLIES "com/example/qrew/qrew/dlgp/TokenKind") (S_QUESTION_MARK : Sta Z Z.heap "com/example/qrew/qrew/dlgp/TokenKind" "QUESTION_MARK" "Lcom/example/qrew/qrew/dlgp/TokenKind;" (.ref w_QUESTION_MARK)) (E_QUESTION_MARK : Exa Z Z.heap w_QUESTION_MARK "com/example/qrew/qrew/dlgp/TokenKind") (S_EXCLAMATION_MARK : Sta Z Z.heap "com/example/qrew/qrew/dlgp/TokenKind" "EXCLAMATION_MARK" "Lcom/example/qrew/qrew/dlgp/TokenKind;" (.ref w_EXCLAMATION_MARK)) (E_EXCLAMATION_MARK : Exa Z Z.heap w_EXCLAMATION_MARK "com/example/qrew/qrew/dlgp/TokenKind") (S_BAR : Sta Z Z.heap "com/example/qrew/qrew/dlgp/TokenKind" "BAR" "Lcom/example/qrew/qrew/dlgp/TokenKind;" (.ref w_BAR)) (E_BAR : Exa Z Z.heap w_BAR "com/example/qrew/qrew/dlgp/TokenKind") (S_END : Sta Z Z.heap "com/example/qrew/qrew/dlgp/TokenKind" "END" "Lcom/example/qrew/qrew/dlgp/TokenKind;" (.ref w_END)) (E_END : Exa Z Z.heap w_END "com/example/qrew/qrew/dlgp/TokenKind") (o : Addr) (h0 : Heap) (hO : Ext Z.heap h0)  :
    Con l Z EL0 [] (⟨"com/example/qrew/qrew/dlgp/Token", "equals", "(Ljava/lang/Object;)Z"⟩ : MethodName) prog_7_method_5_code 3 (some .boolean) R_eqN #[(.ref o), .null] h0 [] (Q_eqN Z  h0) := by
  refine Con.of (y := (⟨"com/example/qrew/qrew/dlgp/Token", "equals", "(Ljava/lang/Object;)Z"⟩ : MethodName)) (f0 := fun m => mkF m 0 #[.val (.ref o), .val .null, .unset] []) (plainFor_of_name pn_3) hEL hO (fun m => by skip <;> first | (simp [entryFrame, mkF, argsToLocals, Value.category, maxLocals]; done) | rfl) ?_
  intro p e s m below meth c s₁ P0
  show Go p e below _ (s₁.setTop (mkF m 0 #[.val (.ref o), .val .null, .unset] []))
  refine P0.xs (fun hA hx hy t k => XS.aloadN hA hx rfl (hb hy d11_0) rfl rfl  k) ?_
  show Go p e below _ (s₁.setTop (mkF m 1 #[.val (.ref o), .val .null, .unset] [.null]))
  refine P0.inst0 d11_1 ?_
  show Go p e below _ (s₁.setTop (mkF m 4 #[.val (.ref o), .val .null, .unset] [(.int (0 : Int32))]))
  refine P0.xs (fun hA hx hy t k => XS.ifYes hA hx rfl (pc0 := 4) (pc' := 52) rfl (hb hy d11_4) rfl ((if0 _ _).trans (teq rfl).1) (by decide) (by decide) k) ?_
  show Go p e below _ (s₁.setTop (mkF m 52 #[.val (.ref o), .val .null, .unset] []))
  refine P0.xs (fun hA hx hy t k => XS.iconst hA hx rfl (hb hy d11_52) k) ?_
  show Go p e below _ (s₁.setTop (mkF m 53 #[.val (.ref o), .val .null, .unset] [(.int (0 : Int32))]))
  exact P0.retN (t := .boolean) rfl (by simp) d11_53 (by decide) (by decide) ⟨rfl, rfl⟩

def R_eqS : Room := { frames := 0, cells := 0, slots := 0, locals := 0 }
def Q_eqS (Z : State)  (h0 : Heap) (v : Option Value) (h : Heap) : Prop := v = some (.int (0 : Int32)) ∧ h = h0
set_option maxRecDepth 65536 in
set_option maxHeartbeats 40000000 in
theorem eqS (l : Launch) (Z : State) (a0 : Array Value) (hw : ∀ d ∈ tables_1, d.before a0 Z = true) (hEL : EW Z a0 EL0) (zc : Int32) (S0 : Sta Z Z.heap "java/lang/String" "COMPACT_STRINGS" "Z" (.int zc)) (Pz : ¬ zc = 0) (w_IDENTIFIER w_VARIABLE w_IRI w_PREFIXED_NAME w_STRING w_LANGUAGE_TAG w_DATATYPE_MARK w_INTEGER w_LABEL w_DIRECTIVE w_LEFT_PARENTHESIS w_RIGHT_PARENTHESIS w_COMMA w_DOT w_IMPLIES w_QUESTION_MARK w_EXCLAMATION_MARK w_BAR w_END : Addr) (S_IDENTIFIER : Sta Z Z.heap "com/example/qrew/qrew/dlgp/TokenKind" "IDENTIFIER" "Lcom/example/qrew/qrew/dlgp/TokenKind;" (.ref w_IDENTIFIER)) (E_IDENTIFIER : Exa Z Z.heap w_IDENTIFIER "com/example/qrew/qrew/dlgp/TokenKind") (S_VARIABLE : Sta Z Z.heap "com/example/qrew/qrew/dlgp/TokenKind" "VARIABLE" "Lcom/example/qrew/qrew/dlgp/TokenKind;" (.ref w_VARIABLE)) (E_VARIABLE : Exa Z Z.heap w_VARIABLE "com/example/qrew/qrew/dlgp/TokenKind") (S_IRI : Sta Z Z.heap "com/example/qrew/qrew/dlgp/TokenKind" "IRI" "Lcom/example/qrew/qrew/dlgp/TokenKind;" (.ref w_IRI)) (E_IRI : Exa Z Z.heap w_IRI "com/example/qrew/qrew/dlgp/TokenKind") (S_PREFIXED_NAME : Sta Z Z.heap "com/example/qrew/qrew/dlgp/TokenKind" "PREFIXED_NAME" "Lcom/example/qrew/qrew/dlgp/TokenKind;" (.ref w_PREFIXED_NAME)) (E_PREFIXED_NAME : Exa Z Z.heap w_PREFIXED_NAME "com/example/qrew/qrew/dlgp/TokenKind") (S_STRING : Sta Z Z.heap "com/example/qrew/qrew/dlgp/TokenKind" "STRING" "Lcom/example/qrew/qrew/dlgp/TokenKind;" (.ref w_STRING)) (E_STRING : Exa Z Z.heap w_STRING "com/example/qrew/qrew/dlgp/TokenKind") (S_LANGUAGE_TAG : Sta Z Z.heap "com/example/qrew/qrew/dlgp/TokenKind" "LANGUAGE_TAG" "Lcom/example/qrew/qrew/dlgp/TokenKind;" (.ref w_LANGUAGE_TAG)) (E_LANGUAGE_TAG : Exa Z Z.heap w_LANGUAGE_TAG "com/example/qrew/qrew/dlgp/TokenKind") (S_DATATYPE_MARK : Sta Z Z.heap "com/example/qrew/qrew/dlgp/TokenKind" "DATATYPE_MARK" "Lcom/example/qrew/qrew/dlgp/TokenKind;" (.ref w_DATATYPE_MARK)) (E_DATATYPE_MARK : Exa Z Z.heap w_DATATYPE_MARK "com/example/qrew/qrew/dlgp/TokenKind") (S_INTEGER : Sta Z Z.heap "com/example/qrew/qrew/dlgp/TokenKind" "INTEGER" "Lcom/example/qrew/qrew/dlgp/TokenKind;" (.ref w_INTEGER)) (E_INTEGER : Exa Z Z.heap w_INTEGER "com/example/qrew/qrew/dlgp/TokenKind") (S_LABEL : Sta Z Z.heap "com/example/qrew/qrew/dlgp/TokenKind" "LABEL" "Lcom/example/qrew/qrew/dlgp/TokenKind;" (.ref w_LABEL)) (E_LABEL : Exa Z Z.heap w_LABEL "com/example/qrew/qrew/dlgp/TokenKind") (S_DIRECTIVE : Sta Z Z.heap "com/example/qrew/qrew/dlgp/TokenKind" "DIRECTIVE" "Lcom/example/qrew/qrew/dlgp/TokenKind;" (.ref w_DIRECTIVE)) (E_DIRECTIVE : Exa Z Z.heap w_DIRECTIVE "com/example/qrew/qrew/dlgp/TokenKind") (S_LEFT_PARENTHESIS : Sta Z Z.heap "com/example/qrew/qrew/dlgp/TokenKind" "LEFT_PARENTHESIS" "Lcom/example/qrew/qrew/dlgp/TokenKind;" (.ref w_LEFT_PARENTHESIS)) (E_LEFT_PARENTHESIS : Exa Z Z.heap w_LEFT_PARENTHESIS "com/example/qrew/qrew/dlgp/TokenKind") (S_RIGHT_PARENTHESIS : Sta Z Z.heap "com/example/qrew/qrew/dlgp/TokenKind" "RIGHT_PARENTHESIS" "Lcom/example/qrew/qrew/dlgp/TokenKind;" (.ref w_RIGHT_PARENTHESIS)) (E_RIGHT_PARENTHESIS : Exa Z Z.heap w_RIGHT_PARENTHESIS "com/example/qrew/qrew/dlgp/TokenKind") (S_COMMA : Sta Z Z.heap "com/example/qrew/qrew/dlgp/TokenKind" "COMMA" "Lcom/example/qrew/qrew/dlgp/TokenKind;" (.ref w_COMMA)) (E_COMMA : Exa Z Z.heap w_COMMA "com/example/qrew/qrew/dlgp/TokenKind") (S_DOT : Sta Z Z.heap "com/example/qrew/qrew/dlgp/TokenKind" "DOT" "Lcom/example/qrew/qrew/dlgp/TokenKind;" (.ref w_DOT)) (E_DOT : Exa Z Z.heap w_DOT "com/example/qrew/qrew/dlgp/TokenKind") (S_IMPLIES : Sta Z Z.heap "com/example/qrew/qrew/dlgp/TokenKind" "IMPLIES" "Lcom/example/qrew/qrew/dlgp/TokenKind;" (.ref w_IMPLIES)) (E_IMPLIES : Exa Z Z.heap w_IMPLIES "com/example/qrew/qrew/dlgp/TokenKind") (S_QUESTION_MARK : Sta Z Z.heap "com/example/qrew/qrew/dlgp/TokenKind" "QUESTION_MARK" "Lcom/example/qrew/qrew/dlgp/TokenKind;" (.ref w_QUESTION_MARK)) (E_QUESTION_MARK : Exa Z Z.heap w_QUESTION_MARK "com/example/qrew/qrew/dlgp/TokenKind") (S_EXCLAMATION_MARK : Sta Z Z.heap "com/example/qrew/qrew/dlgp/TokenKind" "EXCLAMATION_MARK" "Lcom/example/qrew/qrew/dlgp/TokenKind;" (.ref w_EXCLAMATION_MARK)) (E_EXCLAMATION_MARK : Exa Z Z.heap w_EXCLAMATION_MARK "com/example/qrew/qrew/dlgp/TokenKind") (S_BAR : Sta Z Z.heap "com/example/qrew/qrew/dlgp/TokenKind" "BAR" "Lcom/example/qrew/qrew/dlgp/TokenKind;" (.ref w_BAR)) (E_BAR : Exa Z Z.heap w_BAR "com/example/qrew/qrew/dlgp/TokenKind") (S_END : Sta Z Z.heap "com/example/qrew/qrew/dlgp/TokenKind" "END" "Lcom/example/qrew/qrew/dlgp/TokenKind;" (.ref w_END)) (E_END : Exa Z Z.heap w_END "com/example/qrew/qrew/dlgp/TokenKind") (o y : Addr) (h0 : Heap) (hO : Ext Z.heap h0) (Ey : Exa Z h0 y "java/lang/String") :
    Con l Z EL0 [] (⟨"com/example/qrew/qrew/dlgp/Token", "equals", "(Ljava/lang/Object;)Z"⟩ : MethodName) prog_7_method_5_code 3 (some .boolean) R_eqS #[(.ref o), (.ref y)] h0 [] (Q_eqS Z  h0) := by
  refine Con.of (y := (⟨"com/example/qrew/qrew/dlgp/Token", "equals", "(Ljava/lang/Object;)Z"⟩ : MethodName)) (f0 := fun m => mkF m 0 #[.val (.ref o), .val (.ref y), .unset] []) (plainFor_of_name pn_3) hEL hO (fun m => by skip <;> first | (simp [entryFrame, mkF, argsToLocals, Value.category, maxLocals]; done) | rfl) ?_
  intro p e s m below meth c s₁ P0
  show Go p e below _ (s₁.setTop (mkF m 0 #[.val (.ref o), .val (.ref y), .unset] []))
  refine P0.xs (fun hA hx hy t k => XS.aloadN hA hx rfl (hb hy d11_0) rfl rfl  k) ?_
  show Go p e below _ (s₁.setTop (mkF m 1 #[.val (.ref o), .val (.ref y), .unset] [(.ref y)]))
  refine P0.instN (hw _ (List.mem_of_getElem? (i := 108) rfl)) Ey (noAsg (hw _ (List.mem_of_getElem? (i := 116) rfl)) (hw _ (List.mem_of_getElem? (i := 117) rfl)) (hw _ (List.mem_of_getElem? (i := 48) rfl)) (by decide) (by decide)) d11_1 fun T170 P170 => ?_
  show Go p e below _ (T170.setTop (mkF m 4 #[.val (.ref o), .val (.ref y), .unset] [(.int (0 : Int32))]))
  refine P170.xs (fun hA hx hy t k => XS.ifYes hA hx rfl (pc0 := 4) (pc' := 52) rfl (hb hy d11_4) rfl ((if0 _ _).trans (teq rfl).1) (by decide) (by decide) k) ?_
  show Go p e below _ (T170.setTop (mkF m 52 #[.val (.ref o), .val (.ref y), .unset] []))
  refine P170.xs (fun hA hx hy t k => XS.iconst hA hx rfl (hb hy d11_52) k) ?_
  show Go p e below _ (T170.setTop (mkF m 53 #[.val (.ref o), .val (.ref y), .unset] [(.int (0 : Int32))]))
  exact P170.retN (t := .boolean) rfl (by simp) d11_53 (by decide) (by decide) ⟨rfl, rfl⟩

def R_eqC : Room := { frames := 2, cells := 0, slots := 0, locals := 28 }
def Q_eqC (Z : State) (k1 k2 : Addr) (l1 l2 : Int32) (cs ds : List Int32) (h0 : Heap) (v : Option Value) (h : Heap) : Prop := ((v = some (.int 1) ∧ (k1 = k2 ∧ cs = ds ∧ l1 = l2)) ∨ (v = some (.int 0) ∧ ¬ (k1 = k2 ∧ cs = ds ∧ l1 = l2))) ∧ h = h0
set_option maxRecDepth 65536 in
set_option maxHeartbeats 40000000 in
theorem eqC (l : Launch) (Z : State) (a0 : Array Value) (hw : ∀ d ∈ tables_1, d.before a0 Z = true) (hEL : EW Z a0 EL0) (zc : Int32) (S0 : Sta Z Z.heap "java/lang/String" "COMPACT_STRINGS" "Z" (.int zc)) (Pz : ¬ zc = 0) (w_IDENTIFIER w_VARIABLE w_IRI w_PREFIXED_NAME w_STRING w_LANGUAGE_TAG w_DATATYPE_MARK w_INTEGER w_LABEL w_DIRECTIVE w_LEFT_PARENTHESIS w_RIGHT_PARENTHESIS w_COMMA w_DOT w_IMPLIES w_QUESTION_MARK w_EXCLAMATION_MARK w_BAR w_END : Addr) (S_IDENTIFIER : Sta Z Z.heap "com/example/qrew/qrew/dlgp/TokenKind" "IDENTIFIER" "Lcom/example/qrew/qrew/dlgp/TokenKind;" (.ref w_IDENTIFIER)) (E_IDENTIFIER : Exa Z Z.heap w_IDENTIFIER "com/example/qrew/qrew/dlgp/TokenKind") (S_VARIABLE : Sta Z Z.heap "com/example/qrew/qrew/dlgp/TokenKind" "VARIABLE" "Lcom/example/qrew/qrew/dlgp/TokenKind;" (.ref w_VARIABLE)) (E_VARIABLE : Exa Z Z.heap w_VARIABLE "com/example/qrew/qrew/dlgp/TokenKind") (S_IRI : Sta Z Z.heap "com/example/qrew/qrew/dlgp/TokenKind" "IRI" "Lcom/example/qrew/qrew/dlgp/TokenKind;" (.ref w_IRI)) (E_IRI : Exa Z Z.heap w_IRI "com/example/qrew/qrew/dlgp/TokenKind") (S_PREFIXED_NAME : Sta Z Z.heap "com/example/qrew/qrew/dlgp/TokenKind" "PREFIXED_NAME" "Lcom/example/qrew/qrew/dlgp/TokenKind;" (.ref w_PREFIXED_NAME)) (E_PREFIXED_NAME : Exa Z Z.heap w_PREFIXED_NAME "com/example/qrew/qrew/dlgp/TokenKind") (S_STRING : Sta Z Z.heap "com/example/qrew/qrew/dlgp/TokenKind" "STRING" "Lcom/example/qrew/qrew/dlgp/TokenKind;" (.ref w_STRING)) (E_STRING : Exa Z Z.heap w_STRING "com/example/qrew/qrew/dlgp/TokenKind") (S_LANGUAGE_TAG : Sta Z Z.heap "com/example/qrew/qrew/dlgp/TokenKind" "LANGUAGE_TAG" "Lcom/example/qrew/qrew/dlgp/TokenKind;" (.ref w_LANGUAGE_TAG)) (E_LANGUAGE_TAG : Exa Z Z.heap w_LANGUAGE_TAG "com/example/qrew/qrew/dlgp/TokenKind") (S_DATATYPE_MARK : Sta Z Z.heap "com/example/qrew/qrew/dlgp/TokenKind" "DATATYPE_MARK" "Lcom/example/qrew/qrew/dlgp/TokenKind;" (.ref w_DATATYPE_MARK)) (E_DATATYPE_MARK : Exa Z Z.heap w_DATATYPE_MARK "com/example/qrew/qrew/dlgp/TokenKind") (S_INTEGER : Sta Z Z.heap "com/example/qrew/qrew/dlgp/TokenKind" "INTEGER" "Lcom/example/qrew/qrew/dlgp/TokenKind;" (.ref w_INTEGER)) (E_INTEGER : Exa Z Z.heap w_INTEGER "com/example/qrew/qrew/dlgp/TokenKind") (S_LABEL : Sta Z Z.heap "com/example/qrew/qrew/dlgp/TokenKind" "LABEL" "Lcom/example/qrew/qrew/dlgp/TokenKind;" (.ref w_LABEL)) (E_LABEL : Exa Z Z.heap w_LABEL "com/example/qrew/qrew/dlgp/TokenKind") (S_DIRECTIVE : Sta Z Z.heap "com/example/qrew/qrew/dlgp/TokenKind" "DIRECTIVE" "Lcom/example/qrew/qrew/dlgp/TokenKind;" (.ref w_DIRECTIVE)) (E_DIRECTIVE : Exa Z Z.heap w_DIRECTIVE "com/example/qrew/qrew/dlgp/TokenKind") (S_LEFT_PARENTHESIS : Sta Z Z.heap "com/example/qrew/qrew/dlgp/TokenKind" "LEFT_PARENTHESIS" "Lcom/example/qrew/qrew/dlgp/TokenKind;" (.ref w_LEFT_PARENTHESIS)) (E_LEFT_PARENTHESIS : Exa Z Z.heap w_LEFT_PARENTHESIS "com/example/qrew/qrew/dlgp/TokenKind") (S_RIGHT_PARENTHESIS : Sta Z Z.heap "com/example/qrew/qrew/dlgp/TokenKind" "RIGHT_PARENTHESIS" "Lcom/example/qrew/qrew/dlgp/TokenKind;" (.ref w_RIGHT_PARENTHESIS)) (E_RIGHT_PARENTHESIS : Exa Z Z.heap w_RIGHT_PARENTHESIS "com/example/qrew/qrew/dlgp/TokenKind") (S_COMMA : Sta Z Z.heap "com/example/qrew/qrew/dlgp/TokenKind" "COMMA" "Lcom/example/qrew/qrew/dlgp/TokenKind;" (.ref w_COMMA)) (E_COMMA : Exa Z Z.heap w_COMMA "com/example/qrew/qrew/dlgp/TokenKind") (S_DOT : Sta Z Z.heap "com/example/qrew/qrew/dlgp/TokenKind" "DOT" "Lcom/example/qrew/qrew/dlgp/TokenKind;" (.ref w_DOT)) (E_DOT : Exa Z Z.heap w_DOT "com/example/qrew/qrew/dlgp/TokenKind") (S_IMPLIES : Sta Z Z.heap "com/example/qrew/qrew/dlgp/TokenKind" "IMPLIES" "Lcom/example/qrew/qrew/dlgp/TokenKind;" (.ref w_IMPLIES)) (E_IMPLIES : Exa Z Z.heap w_IMPLIES "com/example/qrew/qrew/dlgp/TokenKind") (S_QUESTION_MARK : Sta Z Z.heap "com/example/qrew/qrew/dlgp/TokenKind" "QUESTION_MARK" "Lcom/example/qrew/qrew/dlgp/TokenKind;" (.ref w_QUESTION_MARK)) (E_QUESTION_MARK : Exa Z Z.heap w_QUESTION_MARK "com/example/qrew/qrew/dlgp/TokenKind") (S_EXCLAMATION_MARK : Sta Z Z.heap "com/example/qrew/qrew/dlgp/TokenKind" "EXCLAMATION_MARK" "Lcom/example/qrew/qrew/dlgp/TokenKind;" (.ref w_EXCLAMATION_MARK)) (E_EXCLAMATION_MARK : Exa Z Z.heap w_EXCLAMATION_MARK "com/example/qrew/qrew/dlgp/TokenKind") (S_BAR : Sta Z Z.heap "com/example/qrew/qrew/dlgp/TokenKind" "BAR" "Lcom/example/qrew/qrew/dlgp/TokenKind;" (.ref w_BAR)) (E_BAR : Exa Z Z.heap w_BAR "com/example/qrew/qrew/dlgp/TokenKind") (S_END : Sta Z Z.heap "com/example/qrew/qrew/dlgp/TokenKind" "END" "Lcom/example/qrew/qrew/dlgp/TokenKind;" (.ref w_END)) (E_END : Exa Z Z.heap w_END "com/example/qrew/qrew/dlgp/TokenKind") (o y k1 k2 sx t : Addr) (l1 l2 : Int32) (cs ds : List Int32) (h0 : Heap) (hO : Ext Z.heap h0) (Ey : Exa Z h0 y "com/example/qrew/qrew/dlgp/Token") (Fko : Fld Z h0 o "com/example/qrew/qrew/dlgp/Token" "kind" "Lcom/example/qrew/qrew/dlgp/TokenKind;" (.ref k1)) (Fto : Fld Z h0 o "com/example/qrew/qrew/dlgp/Token" "text" "Ljava/lang/String;" (.ref sx)) (Flo : Fld Z h0 o "com/example/qrew/qrew/dlgp/Token" "line" "I" (.int l1)) (Fky : Fld Z h0 y "com/example/qrew/qrew/dlgp/Token" "kind" "Lcom/example/qrew/qrew/dlgp/TokenKind;" (.ref k2)) (Fty : Fld Z h0 y "com/example/qrew/qrew/dlgp/Token" "text" "Ljava/lang/String;" (.ref t)) (Fly : Fld Z h0 y "com/example/qrew/qrew/dlgp/Token" "line" "I" (.int l2)) (Ss : Str Z h0 sx cs) (St : Str Z h0 t ds) :
    Con l Z EL0 [] (⟨"com/example/qrew/qrew/dlgp/Token", "equals", "(Ljava/lang/Object;)Z"⟩ : MethodName) prog_7_method_5_code 3 (some .boolean) R_eqC #[(.ref o), (.ref y)] h0 [] (Q_eqC Z k1 k2 l1 l2 cs ds h0) := by
  refine Con.of (y := (⟨"com/example/qrew/qrew/dlgp/Token", "equals", "(Ljava/lang/Object;)Z"⟩ : MethodName)) (f0 := fun m => mkF m 0 #[.val (.ref o), .val (.ref y), .unset] []) (plainFor_of_name pn_3) hEL hO (fun m => by skip <;> first | (simp [entryFrame, mkF, argsToLocals, Value.category, maxLocals]; done) | rfl) ?_
  intro p e s m below meth c s₁ P0
  show Go p e below _ (s₁.setTop (mkF m 0 #[.val (.ref o), .val (.ref y), .unset] []))
  refine P0.xs (fun hA hx hy t k => XS.aloadN hA hx rfl (hb hy d11_0) rfl rfl  k) ?_
  show Go p e below _ (s₁.setTop (mkF m 1 #[.val (.ref o), .val (.ref y), .unset] [(.ref y)]))
  refine P0.inst (hw _ (List.mem_of_getElem? (i := 108) rfl)) (Ins.self Ey) d11_1 fun T171 P171 => ?_
  show Go p e below _ (T171.setTop (mkF m 4 #[.val (.ref o), .val (.ref y), .unset] [(.int (1 : Int32))]))
  refine P171.xs (fun hA hx hy t k => XS.ifNo hA hx rfl (hb hy d11_4) rfl ((if0 _ _).trans (feq (by decide)).1) k) ?_
  show Go p e below _ (T171.setTop (mkF m 7 #[.val (.ref o), .val (.ref y), .unset] []))
  refine P171.xs (fun hA hx hy t k => XS.aloadN hA hx rfl (hb hy d11_7) rfl rfl  k) ?_
  show Go p e below _ (T171.setTop (mkF m 8 #[.val (.ref o), .val (.ref y), .unset] [(.ref y)]))
  refine P171.cast (hw _ (List.mem_of_getElem? (i := 108) rfl)) (Ins.self Ey) d11_8 fun T172 P172 => ?_
  show Go p e below _ (T172.setTop (mkF m 11 #[.val (.ref o), .val (.ref y), .unset] [(.ref y)]))
  refine P172.xs (fun hA hx hy t k => XS.astoreN hA hx rfl (hb hy d11_11) rfl rfl (l' := #[.val (.ref o), .val (.ref y), .val (.ref y)]) rfl k) ?_
  show Go p e below _ (T172.setTop (mkF m 12 #[.val (.ref o), .val (.ref y), .val (.ref y)] []))
  refine P172.xs (fun hA hx hy t k => XS.aloadN hA hx rfl (hb hy d11_12) rfl rfl  k) ?_
  show Go p e below _ (T172.setTop (mkF m 13 #[.val (.ref o), .val (.ref y), .val (.ref y)] [(.ref o)]))
  refine P172.getF (host := "") (Or.inl (hw _ (List.mem_of_getElem? (i := 95) rfl))) Via.refl Fko d11_13 fun T173 P173 => ?_
  show Go p e below _ (T173.setTop (mkF m 16 #[.val (.ref o), .val (.ref y), .val (.ref y)] [(.ref k1)]))
  refine P173.xs (fun hA hx hy t k => XS.aloadN hA hx rfl (hb hy d11_16) rfl rfl  k) ?_
  show Go p e below _ (T173.setTop (mkF m 17 #[.val (.ref o), .val (.ref y), .val (.ref y)] [(.ref y), (.ref k1)]))
  refine P173.getF (host := "") (Or.inl (hw _ (List.mem_of_getElem? (i := 95) rfl))) Via.refl Fky d11_17 fun T174 P174 => ?_
  show Go p e below _ (T174.setTop (mkF m 20 #[.val (.ref o), .val (.ref y), .val (.ref y)] [(.ref k2), (.ref k1)]))
  by_cases hk : k1 = k2
  · refine P174.st (fun vm0 locs X hx hy t k => Jvm.RoadKit.acmp (g := (mkF m 20 #[.val (.ref o), .val (.ref y), .val (.ref y)] [(.ref k2), (.ref k1)])) X hx rfl rfl rfl (pc0 := 20) (pc' := 23) (same := true) rfl (hb hy d11_20) rfl (decide_eq_true (congrArg Value.ref hk)) (by decide) (by decide) k) ?_
    show Go p e below _ (T174.setTop (mkF m 23 #[.val (.ref o), .val (.ref y), .val (.ref y)] []))
    refine P174.xs (fun hA hx hy t k => XS.aloadN hA hx rfl (hb hy d11_23) rfl rfl  k) ?_
    show Go p e below _ (T174.setTop (mkF m 24 #[.val (.ref o), .val (.ref y), .val (.ref y)] [(.ref o)]))
    refine P174.getF (host := "") (Or.inl (hw _ (List.mem_of_getElem? (i := 99) rfl))) Via.refl Fto d11_24 fun T175 P175 => ?_
    show Go p e below _ (T175.setTop (mkF m 27 #[.val (.ref o), .val (.ref y), .val (.ref y)] [(.ref sx)]))
    refine P175.xs (fun hA hx hy t k => XS.aloadN hA hx rfl (hb hy d11_27) rfl rfl  k) ?_
    show Go p e below _ (T175.setTop (mkF m 28 #[.val (.ref o), .val (.ref y), .val (.ref y)] [(.ref y), (.ref sx)]))
    refine P175.getF (host := "") (Or.inl (hw _ (List.mem_of_getElem? (i := 99) rfl))) Via.refl Fty d11_28 fun T176 P176 => ?_
    show Go p e below _ (T176.setTop (mkF m 31 #[.val (.ref o), .val (.ref y), .val (.ref y)] [(.ref t), (.ref sx)]))
    have Ec177 : Exa Z h0 sx "java/lang/String" := Ss.1
    have Ec178 : Exa Z h0 t "java/lang/String" := St.1
    refine P176.strEq (W := 0) (hw _ (List.mem_of_getElem? (i := 118) rfl)) (hw _ (List.mem_of_getElem? (i := 119) rfl)) (hw _ (List.mem_of_getElem? (i := 121) rfl)) (nfOf (hw _ (List.mem_of_getElem? (i := 121) rfl))) (hw _ (List.mem_of_getElem? (i := 120) rfl)) (by decide) (wEq hw) (hw _ (List.mem_of_getElem? (i := 54) rfl)) S0 Pz Ss St (by decide) (by decide) (by decide) (by decide) pd_3 rfl rfl (Nat.le_of_eq rfl) d11_31 (fun T179 P179 hq => ?_) (fun T180 P180 hq => ?_)
    · show Go p e below _ (T179.setTop (mkF m 34 #[.val (.ref o), .val (.ref y), .val (.ref y)] [(.int (1 : Int32))]))
      refine P179.xs (fun hA hx hy t k => XS.ifNo hA hx rfl (hb hy d11_34) rfl ((if0 _ _).trans (feq (by decide)).1) k) ?_
      show Go p e below _ (T179.setTop (mkF m 37 #[.val (.ref o), .val (.ref y), .val (.ref y)] []))
      refine P179.xs (fun hA hx hy t k => XS.aloadN hA hx rfl (hb hy d11_37) rfl rfl  k) ?_
      show Go p e below _ (T179.setTop (mkF m 38 #[.val (.ref o), .val (.ref y), .val (.ref y)] [(.ref o)]))
      refine P179.getF (host := "") (Or.inl (hw _ (List.mem_of_getElem? (i := 101) rfl))) Via.refl Flo d11_38 fun T181 P181 => ?_
      show Go p e below _ (T181.setTop (mkF m 41 #[.val (.ref o), .val (.ref y), .val (.ref y)] [(.int l1)]))
      refine P181.xs (fun hA hx hy t k => XS.aloadN hA hx rfl (hb hy d11_41) rfl rfl  k) ?_
      show Go p e below _ (T181.setTop (mkF m 42 #[.val (.ref o), .val (.ref y), .val (.ref y)] [(.ref y), (.int l1)]))
      refine P181.getF (host := "") (Or.inl (hw _ (List.mem_of_getElem? (i := 101) rfl))) Via.refl Fly d11_42 fun T182 P182 => ?_
      show Go p e below _ (T182.setTop (mkF m 45 #[.val (.ref o), .val (.ref y), .val (.ref y)] [(.int l2), (.int l1)]))
      by_cases hl : l1 = l2
      · refine P182.xs (fun hA hx hy t k => XS.icmpNo hA hx rfl (hb hy d11_45) rfl (teq hl).2 k) ?_
        show Go p e below _ (T182.setTop (mkF m 48 #[.val (.ref o), .val (.ref y), .val (.ref y)] []))
        refine P182.xs (fun hA hx hy t k => XS.iconst hA hx rfl (hb hy d11_48) k) ?_
        show Go p e below _ (T182.setTop (mkF m 49 #[.val (.ref o), .val (.ref y), .val (.ref y)] [(.int (1 : Int32))]))
        refine P182.xs (fun hA hx hy t k => XS.goto hA hx rfl (pc0 := 49) (pc' := 53) rfl (hb hy d11_49) (by decide) (by decide) k) ?_
        show Go p e below _ (T182.setTop (mkF m 53 #[.val (.ref o), .val (.ref y), .val (.ref y)] [(.int (1 : Int32))]))
        exact P182.retN (t := .boolean) rfl (by simp) d11_53 (by decide) (by decide) ⟨Or.inl ⟨rfl, hk, hq, hl⟩, rfl⟩
      · refine P182.xs (fun hA hx hy t k => XS.icmpYes hA hx rfl (pc0 := 45) (pc' := 52) rfl (hb hy d11_45) rfl (feq hl).2 (by decide) (by decide) k) ?_
        show Go p e below _ (T182.setTop (mkF m 52 #[.val (.ref o), .val (.ref y), .val (.ref y)] []))
        refine P182.xs (fun hA hx hy t k => XS.iconst hA hx rfl (hb hy d11_52) k) ?_
        show Go p e below _ (T182.setTop (mkF m 53 #[.val (.ref o), .val (.ref y), .val (.ref y)] [(.int (0 : Int32))]))
        exact P182.retN (t := .boolean) rfl (by simp) d11_53 (by decide) (by decide) ⟨Or.inr ⟨rfl, fun g => hl g.2.2⟩, rfl⟩
    · show Go p e below _ (T180.setTop (mkF m 34 #[.val (.ref o), .val (.ref y), .val (.ref y)] [(.int (0 : Int32))]))
      refine P180.xs (fun hA hx hy t k => XS.ifYes hA hx rfl (pc0 := 34) (pc' := 52) rfl (hb hy d11_34) rfl ((if0 _ _).trans (teq rfl).1) (by decide) (by decide) k) ?_
      show Go p e below _ (T180.setTop (mkF m 52 #[.val (.ref o), .val (.ref y), .val (.ref y)] []))
      refine P180.xs (fun hA hx hy t k => XS.iconst hA hx rfl (hb hy d11_52) k) ?_
      show Go p e below _ (T180.setTop (mkF m 53 #[.val (.ref o), .val (.ref y), .val (.ref y)] [(.int (0 : Int32))]))
      exact P180.retN (t := .boolean) rfl (by simp) d11_53 (by decide) (by decide) ⟨Or.inr ⟨rfl, fun g => hq g.2.1⟩, rfl⟩
  · refine P174.st (fun vm0 locs X hx hy t k => Jvm.RoadKit.acmp (g := (mkF m 20 #[.val (.ref o), .val (.ref y), .val (.ref y)] [(.ref k2), (.ref k1)])) X hx rfl rfl rfl (pc0 := 20) (pc' := 52) (same := false) rfl (hb hy d11_20) rfl (decide_eq_false (fun g => hk (Value.ref.inj g))) (by decide) (by decide) k) ?_
    show Go p e below _ (T174.setTop (mkF m 52 #[.val (.ref o), .val (.ref y), .val (.ref y)] []))
    refine P174.xs (fun hA hx hy t k => XS.iconst hA hx rfl (hb hy d11_52) k) ?_
    show Go p e below _ (T174.setTop (mkF m 53 #[.val (.ref o), .val (.ref y), .val (.ref y)] [(.int (0 : Int32))]))
    exact P174.retN (t := .boolean) rfl (by simp) d11_53 (by decide) (by decide) ⟨Or.inr ⟨rfl, fun g => hk g.1⟩, rfl⟩

def Q_mLaw (Z : State)  (h0 : Heap) (v : Option Value) (h : Heap) : Prop := v = some (.int 1)
set_option maxRecDepth 65536 in
set_option maxHeartbeats 40000000 in
theorem mLaw (l : Launch) (Z : State) (a0 : Array Value) (hw : ∀ d ∈ tables_1, d.before a0 Z = true) (hEL : EW Z a0 EL0) (zc : Int32) (S0 : Sta Z Z.heap "java/lang/String" "COMPACT_STRINGS" "Z" (.int zc)) (Pz : ¬ zc = 0) (w_IDENTIFIER w_VARIABLE w_IRI w_PREFIXED_NAME w_STRING w_LANGUAGE_TAG w_DATATYPE_MARK w_INTEGER w_LABEL w_DIRECTIVE w_LEFT_PARENTHESIS w_RIGHT_PARENTHESIS w_COMMA w_DOT w_IMPLIES w_QUESTION_MARK w_EXCLAMATION_MARK w_BAR w_END : Addr) (S_IDENTIFIER : Sta Z Z.heap "com/example/qrew/qrew/dlgp/TokenKind" "IDENTIFIER" "Lcom/example/qrew/qrew/dlgp/TokenKind;" (.ref w_IDENTIFIER)) (E_IDENTIFIER : Exa Z Z.heap w_IDENTIFIER "com/example/qrew/qrew/dlgp/TokenKind") (S_VARIABLE : Sta Z Z.heap "com/example/qrew/qrew/dlgp/TokenKind" "VARIABLE" "Lcom/example/qrew/qrew/dlgp/TokenKind;" (.ref w_VARIABLE)) (E_VARIABLE : Exa Z Z.heap w_VARIABLE "com/example/qrew/qrew/dlgp/TokenKind") (S_IRI : Sta Z Z.heap "com/example/qrew/qrew/dlgp/TokenKind" "IRI" "Lcom/example/qrew/qrew/dlgp/TokenKind;" (.ref w_IRI)) (E_IRI : Exa Z Z.heap w_IRI "com/example/qrew/qrew/dlgp/TokenKind") (S_PREFIXED_NAME : Sta Z Z.heap "com/example/qrew/qrew/dlgp/TokenKind" "PREFIXED_NAME" "Lcom/example/qrew/qrew/dlgp/TokenKind;" (.ref w_PREFIXED_NAME)) (E_PREFIXED_NAME : Exa Z Z.heap w_PREFIXED_NAME "com/example/qrew/qrew/dlgp/TokenKind") (S_STRING : Sta Z Z.heap "com/example/qrew/qrew/dlgp/TokenKind" "STRING" "Lcom/example/qrew/qrew/dlgp/TokenKind;" (.ref w_STRING)) (E_STRING : Exa Z Z.heap w_STRING "com/example/qrew/qrew/dlgp/TokenKind") (S_LANGUAGE_TAG : Sta Z Z.heap "com/example/qrew/qrew/dlgp/TokenKind" "LANGUAGE_TAG" "Lcom/example/qrew/qrew/dlgp/TokenKind;" (.ref w_LANGUAGE_TAG)) (E_LANGUAGE_TAG : Exa Z Z.heap w_LANGUAGE_TAG "com/example/qrew/qrew/dlgp/TokenKind") (S_DATATYPE_MARK : Sta Z Z.heap "com/example/qrew/qrew/dlgp/TokenKind" "DATATYPE_MARK" "Lcom/example/qrew/qrew/dlgp/TokenKind;" (.ref w_DATATYPE_MARK)) (E_DATATYPE_MARK : Exa Z Z.heap w_DATATYPE_MARK "com/example/qrew/qrew/dlgp/TokenKind") (S_INTEGER : Sta Z Z.heap "com/example/qrew/qrew/dlgp/TokenKind" "INTEGER" "Lcom/example/qrew/qrew/dlgp/TokenKind;" (.ref w_INTEGER)) (E_INTEGER : Exa Z Z.heap w_INTEGER "com/example/qrew/qrew/dlgp/TokenKind") (S_LABEL : Sta Z Z.heap "com/example/qrew/qrew/dlgp/TokenKind" "LABEL" "Lcom/example/qrew/qrew/dlgp/TokenKind;" (.ref w_LABEL)) (E_LABEL : Exa Z Z.heap w_LABEL "com/example/qrew/qrew/dlgp/TokenKind") (S_DIRECTIVE : Sta Z Z.heap "com/example/qrew/qrew/dlgp/TokenKind" "DIRECTIVE" "Lcom/example/qrew/qrew/dlgp/TokenKind;" (.ref w_DIRECTIVE)) (E_DIRECTIVE : Exa Z Z.heap w_DIRECTIVE "com/example/qrew/qrew/dlgp/TokenKind") (S_LEFT_PARENTHESIS : Sta Z Z.heap "com/example/qrew/qrew/dlgp/TokenKind" "LEFT_PARENTHESIS" "Lcom/example/qrew/qrew/dlgp/TokenKind;" (.ref w_LEFT_PARENTHESIS)) (E_LEFT_PARENTHESIS : Exa Z Z.heap w_LEFT_PARENTHESIS "com/example/qrew/qrew/dlgp/TokenKind") (S_RIGHT_PARENTHESIS : Sta Z Z.heap "com/example/qrew/qrew/dlgp/TokenKind" "RIGHT_PARENTHESIS" "Lcom/example/qrew/qrew/dlgp/TokenKind;" (.ref w_RIGHT_PARENTHESIS)) (E_RIGHT_PARENTHESIS : Exa Z Z.heap w_RIGHT_PARENTHESIS "com/example/qrew/qrew/dlgp/TokenKind") (S_COMMA : Sta Z Z.heap "com/example/qrew/qrew/dlgp/TokenKind" "COMMA" "Lcom/example/qrew/qrew/dlgp/TokenKind;" (.ref w_COMMA)) (E_COMMA : Exa Z Z.heap w_COMMA "com/example/qrew/qrew/dlgp/TokenKind") (S_DOT : Sta Z Z.heap "com/example/qrew/qrew/dlgp/TokenKind" "DOT" "Lcom/example/qrew/qrew/dlgp/TokenKind;" (.ref w_DOT)) (E_DOT : Exa Z Z.heap w_DOT "com/example/qrew/qrew/dlgp/TokenKind") (S_IMPLIES : Sta Z Z.heap "com/example/qrew/qrew/dlgp/TokenKind" "IMPLIES" "Lcom/example/qrew/qrew/dlgp/TokenKind;" (.ref w_IMPLIES)) (E_IMPLIES : Exa Z Z.heap w_IMPLIES "com/example/qrew/qrew/dlgp/TokenKind") (S_QUESTION_MARK : Sta Z Z.heap "com/example/qrew/qrew/dlgp/TokenKind" "QUESTION_MARK" "Lcom/example/qrew/qrew/dlgp/TokenKind;" (.ref w_QUESTION_MARK)) (E_QUESTION_MARK : Exa Z Z.heap w_QUESTION_MARK "com/example/qrew/qrew/dlgp/TokenKind") (S_EXCLAMATION_MARK : Sta Z Z.heap "com/example/qrew/qrew/dlgp/TokenKind" "EXCLAMATION_MARK" "Lcom/example/qrew/qrew/dlgp/TokenKind;" (.ref w_EXCLAMATION_MARK)) (E_EXCLAMATION_MARK : Exa Z Z.heap w_EXCLAMATION_MARK "com/example/qrew/qrew/dlgp/TokenKind") (S_BAR : Sta Z Z.heap "com/example/qrew/qrew/dlgp/TokenKind" "BAR" "Lcom/example/qrew/qrew/dlgp/TokenKind;" (.ref w_BAR)) (E_BAR : Exa Z Z.heap w_BAR "com/example/qrew/qrew/dlgp/TokenKind") (S_END : Sta Z Z.heap "com/example/qrew/qrew/dlgp/TokenKind" "END" "Lcom/example/qrew/qrew/dlgp/TokenKind;" (.ref w_END)) (E_END : Exa Z Z.heap w_END "com/example/qrew/qrew/dlgp/TokenKind") (p0 p1 p2 p3 p4 p5 : Int32) (h0 : Heap) (hO : Ext Z.heap h0)  :
    Con l Z EL0 tables_1 x code maxLocals ret room_1 #[(.int p0), (.int p1), (.int p2), (.int p3), (.int p4), (.int p5)] h0 [] (Q_mLaw Z  h0) := by
  refine Con.of (y := (⟨"com/example/qrew/qrew/dlgp/TokenEqualsPinLaw", "law", "(IIIIII)Z"⟩ : MethodName)) (f0 := fun m => mkF m 0 #[.val (.int p0), .val (.int p1), .val (.int p2), .val (.int p3), .val (.int p4), .val (.int p5), .unset, .unset, .unset, .unset, .unset, .unset, .unset, .unset, .unset, .unset, .unset, .unset, .unset, .unset, .unset, .unset] []) (plainFor_of_name pn_2) hEL hO (fun m => by skip <;> first | (simp [entryFrame, mkF, argsToLocals, Value.category, maxLocals]; done) | rfl) ?_
  intro p e s m below meth c s₁ P0
  show Go p e below _ (s₁.setTop (mkF m 0 #[.val (.int p0), .val (.int p1), .val (.int p2), .val (.int p3), .val (.int p4), .val (.int p5), .unset, .unset, .unset, .unset, .unset, .unset, .unset, .unset, .unset, .unset, .unset, .unset, .unset, .unset, .unset, .unset] []))
  refine P0.xs (fun hA hx hy t k => XS.iloadN hA hx rfl (hb hy at_0) rfl  k) ?_
  show Go p e below _ (s₁.setTop (mkF m 1 #[.val (.int p0), .val (.int p1), .val (.int p2), .val (.int p3), .val (.int p4), .val (.int p5), .unset, .unset, .unset, .unset, .unset, .unset, .unset, .unset, .unset, .unset, .unset, .unset, .unset, .unset, .unset, .unset] [(.int p0)]))
  refine P0.ldcI (hw _ (List.mem_of_getElem? (i := 0) rfl)) at_1 ?_
  show Go p e below _ (s₁.setTop (mkF m 3 #[.val (.int p0), .val (.int p1), .val (.int p2), .val (.int p3), .val (.int p4), .val (.int p5), .unset, .unset, .unset, .unset, .unset, .unset, .unset, .unset, .unset, .unset, .unset, .unset, .unset, .unset, .unset, .unset] [(.int (2147483647 : Int32)), (.int p0)]))
  refine P0.xs (fun hA hx hy t k => XS.iand hA hx rfl (hb hy at_3) rfl k) ?_
  show Go p e below _ (s₁.setTop (mkF m 4 #[.val (.int p0), .val (.int p1), .val (.int p2), .val (.int p3), .val (.int p4), .val (.int p5), .unset, .unset, .unset, .unset, .unset, .unset, .unset, .unset, .unset, .unset, .unset, .unset, .unset, .unset, .unset, .unset] [(.int (p0 &&& (2147483647 : Int32)))]))
  refine P0.xs (fun hA hx hy t k => XS.bipush hA hx rfl (hb hy at_4) k) ?_
  show Go p e below _ (s₁.setTop (mkF m 6 #[.val (.int p0), .val (.int p1), .val (.int p2), .val (.int p3), .val (.int p4), .val (.int p5), .unset, .unset, .unset, .unset, .unset, .unset, .unset, .unset, .unset, .unset, .unset, .unset, .unset, .unset, .unset, .unset] [(.int (19 : Int32)), (.int (p0 &&& (2147483647 : Int32)))]))
  refine P0.st (fun vm0 locs X hx hy t k => Jvm.RoadKit.iremM X hx rfl (hb hy at_6) rfl (by decide) k) ?_
  show Go p e below _ (s₁.setTop (mkF m 7 #[.val (.int p0), .val (.int p1), .val (.int p2), .val (.int p3), .val (.int p4), .val (.int p5), .unset, .unset, .unset, .unset, .unset, .unset, .unset, .unset, .unset, .unset, .unset, .unset, .unset, .unset, .unset, .unset] [(.int ((p0 &&& (2147483647 : Int32)) % (19 : Int32)))]))
  refine P0.callS (hw _ (List.mem_of_getElem? (i := 1) rfl)) (hw _ (List.mem_of_getElem? (i := 2) rfl)) (hw _ (List.mem_of_getElem? (i := 3) rfl)) (hw _ (List.mem_of_getElem? (i := 4) rfl)) (by decide) (mKind l Z a0 hw hEL zc S0 Pz w_IDENTIFIER w_VARIABLE w_IRI w_PREFIXED_NAME w_STRING w_LANGUAGE_TAG w_DATATYPE_MARK w_INTEGER w_LABEL w_DIRECTIVE w_LEFT_PARENTHESIS w_RIGHT_PARENTHESIS w_COMMA w_DOT w_IMPLIES w_QUESTION_MARK w_EXCLAMATION_MARK w_BAR w_END S_IDENTIFIER E_IDENTIFIER S_VARIABLE E_VARIABLE S_IRI E_IRI S_PREFIXED_NAME E_PREFIXED_NAME S_STRING E_STRING S_LANGUAGE_TAG E_LANGUAGE_TAG S_DATATYPE_MARK E_DATATYPE_MARK S_INTEGER E_INTEGER S_LABEL E_LABEL S_DIRECTIVE E_DIRECTIVE S_LEFT_PARENTHESIS E_LEFT_PARENTHESIS S_RIGHT_PARENTHESIS E_RIGHT_PARENTHESIS S_COMMA E_COMMA S_DOT E_DOT S_IMPLIES E_IMPLIES S_QUESTION_MARK E_QUESTION_MARK S_EXCLAMATION_MARK E_EXCLAMATION_MARK S_BAR E_BAR S_END E_END ((p0 &&& (2147483647 : Int32)) % (19 : Int32)) h0 P0.old (rem_lt (n := 19) (mask31 _) rfl (by decide))) (W := 0) (by decide) (by decide) (by decide) (by decide) all0 pd_4 (argsL := [(.int ((p0 &&& (2147483647 : Int32)) % (19 : Int32)))]) rfl rfl rfl (Nat.le_of_eq rfl) at_7 fun v183 T183 h183 P183 K183 Q183 => ?_
  obtain ⟨kk183, rfl, hE_kk183⟩ := Q183
  show Go p e below _ (T183.setTop (mkF m 10 #[.val (.int p0), .val (.int p1), .val (.int p2), .val (.int p3), .val (.int p4), .val (.int p5), .unset, .unset, .unset, .unset, .unset, .unset, .unset, .unset, .unset, .unset, .unset, .unset, .unset, .unset, .unset, .unset] [(.ref kk183)]))
  refine P183.xs (fun hA hx hy t k => XS.astore hA hx rfl (hb hy at_10) rfl rfl (l' := #[.val (.int p0), .val (.int p1), .val (.int p2), .val (.int p3), .val (.int p4), .val (.int p5), .val (.ref kk183), .unset, .unset, .unset, .unset, .unset, .unset, .unset, .unset, .unset, .unset, .unset, .unset, .unset, .unset, .unset]) rfl k) ?_
  show Go p e below _ (T183.setTop (mkF m 12 #[.val (.int p0), .val (.int p1), .val (.int p2), .val (.int p3), .val (.int p4), .val (.int p5), .val (.ref kk183), .unset, .unset, .unset, .unset, .unset, .unset, .unset, .unset, .unset, .unset, .unset, .unset, .unset, .unset, .unset] []))
  refine P183.xs (fun hA hx hy t k => XS.iloadN hA hx rfl (hb hy at_12) rfl  k) ?_
  show Go p e below _ (T183.setTop (mkF m 13 #[.val (.int p0), .val (.int p1), .val (.int p2), .val (.int p3), .val (.int p4), .val (.int p5), .val (.ref kk183), .unset, .unset, .unset, .unset, .unset, .unset, .unset, .unset, .unset, .unset, .unset, .unset, .unset, .unset, .unset] [(.int p1)]))
  refine P183.xs (fun hA hx hy t k => XS.iconst hA hx rfl (hb hy at_13) k) ?_
  show Go p e below _ (T183.setTop (mkF m 14 #[.val (.int p0), .val (.int p1), .val (.int p2), .val (.int p3), .val (.int p4), .val (.int p5), .val (.ref kk183), .unset, .unset, .unset, .unset, .unset, .unset, .unset, .unset, .unset, .unset, .unset, .unset, .unset, .unset, .unset] [(.int (1 : Int32)), (.int p1)]))
  refine P183.xs (fun hA hx hy t k => XS.iand hA hx rfl (hb hy at_14) rfl k) ?_
  show Go p e below _ (T183.setTop (mkF m 15 #[.val (.int p0), .val (.int p1), .val (.int p2), .val (.int p3), .val (.int p4), .val (.int p5), .val (.ref kk183), .unset, .unset, .unset, .unset, .unset, .unset, .unset, .unset, .unset, .unset, .unset, .unset, .unset, .unset, .unset] [(.int (p1 &&& (1 : Int32)))]))
  suffices j1 : ∀ (T184 : State) (h184 : Heap) (kk2 : Addr), (Exa Z Z.heap kk2 "com/example/qrew/qrew/dlgp/TokenKind") → Pos p l e room_1 s m #[(.int p0), (.int p1), (.int p2), (.int p3), (.int p4), (.int p5)] below meth c "com/example/qrew/qrew/dlgp/TokenEqualsPinLaw" "law" code maxLocals ret Z a0 EL0 h0 [] T184 h184 2 38 → Go p e below (Fini Z EL0 h0 [] room_1 (Q_mLaw Z  h0) s) (T184.setTop (mkF m 32 #[.val (.int p0), .val (.int p1), .val (.int p2), .val (.int p3), .val (.int p4), .val (.int p5), .val (.ref kk183), .unset, .unset, .unset, .unset, .unset, .unset, .unset, .unset, .unset, .unset, .unset, .unset, .unset, .unset, .unset] [(.ref kk2)])) by
    by_cases hk : (p1 &&& (1 : Int32)) = 0
    · refine P183.xs (fun hA hx hy t k => XS.ifNo hA hx rfl (hb hy at_15) rfl ((if0 _ _).trans (teq hk).2) k) ?_
      show Go p e below _ (T183.setTop (mkF m 18 #[.val (.int p0), .val (.int p1), .val (.int p2), .val (.int p3), .val (.int p4), .val (.int p5), .val (.ref kk183), .unset, .unset, .unset, .unset, .unset, .unset, .unset, .unset, .unset, .unset, .unset, .unset, .unset, .unset, .unset] []))
      refine P183.xs (fun hA hx hy t k => XS.aload hA hx rfl (hb hy at_18) rfl rfl  k) ?_
      show Go p e below _ (T183.setTop (mkF m 20 #[.val (.int p0), .val (.int p1), .val (.int p2), .val (.int p3), .val (.int p4), .val (.int p5), .val (.ref kk183), .unset, .unset, .unset, .unset, .unset, .unset, .unset, .unset, .unset, .unset, .unset, .unset, .unset, .unset, .unset] [(.ref kk183)]))
      refine P183.xs (fun hA hx hy t k => XS.goto hA hx rfl (pc0 := 20) (pc' := 32) rfl (hb hy at_20) (by decide) (by decide) k) ?_
      show Go p e below _ (T183.setTop (mkF m 32 #[.val (.int p0), .val (.int p1), .val (.int p2), .val (.int p3), .val (.int p4), .val (.int p5), .val (.ref kk183), .unset, .unset, .unset, .unset, .unset, .unset, .unset, .unset, .unset, .unset, .unset, .unset, .unset, .unset, .unset] [(.ref kk183)]))
      exact j1 _ _ _ hE_kk183 (P183.wider (by decide) (by decide)) 
    · refine P183.xs (fun hA hx hy t k => XS.ifYes hA hx rfl (pc0 := 15) (pc' := 23) rfl (hb hy at_15) rfl ((if0 _ _).trans (feq hk).2) (by decide) (by decide) k) ?_
      show Go p e below _ (T183.setTop (mkF m 23 #[.val (.int p0), .val (.int p1), .val (.int p2), .val (.int p3), .val (.int p4), .val (.int p5), .val (.ref kk183), .unset, .unset, .unset, .unset, .unset, .unset, .unset, .unset, .unset, .unset, .unset, .unset, .unset, .unset, .unset] []))
      refine P183.xs (fun hA hx hy t k => XS.iloadN hA hx rfl (hb hy at_23) rfl  k) ?_
      show Go p e below _ (T183.setTop (mkF m 24 #[.val (.int p0), .val (.int p1), .val (.int p2), .val (.int p3), .val (.int p4), .val (.int p5), .val (.ref kk183), .unset, .unset, .unset, .unset, .unset, .unset, .unset, .unset, .unset, .unset, .unset, .unset, .unset, .unset, .unset] [(.int p1)]))
      refine P183.xs (fun hA hx hy t k => XS.iconst hA hx rfl (hb hy at_24) k) ?_
      show Go p e below _ (T183.setTop (mkF m 25 #[.val (.int p0), .val (.int p1), .val (.int p2), .val (.int p3), .val (.int p4), .val (.int p5), .val (.ref kk183), .unset, .unset, .unset, .unset, .unset, .unset, .unset, .unset, .unset, .unset, .unset, .unset, .unset, .unset, .unset] [(.int (2 : Int32)), (.int p1)]))
      refine P183.xs (fun hA hx hy t k => XS.iushr hA hx rfl (hb hy at_25) rfl k) ?_
      show Go p e below _ (T183.setTop (mkF m 26 #[.val (.int p0), .val (.int p1), .val (.int p2), .val (.int p3), .val (.int p4), .val (.int p5), .val (.ref kk183), .unset, .unset, .unset, .unset, .unset, .unset, .unset, .unset, .unset, .unset, .unset, .unset, .unset, .unset, .unset] [(.int ((p1.toUInt32 >>> ((2 : Int32) &&& 31).toUInt32).toInt32))]))
      refine P183.xs (fun hA hx hy t k => XS.bipush hA hx rfl (hb hy at_26) k) ?_
      show Go p e below _ (T183.setTop (mkF m 28 #[.val (.int p0), .val (.int p1), .val (.int p2), .val (.int p3), .val (.int p4), .val (.int p5), .val (.ref kk183), .unset, .unset, .unset, .unset, .unset, .unset, .unset, .unset, .unset, .unset, .unset, .unset, .unset, .unset, .unset] [(.int (19 : Int32)), (.int ((p1.toUInt32 >>> ((2 : Int32) &&& 31).toUInt32).toInt32))]))
      refine P183.st (fun vm0 locs X hx hy t k => Jvm.RoadKit.iremM X hx rfl (hb hy at_28) rfl (by decide) k) ?_
      show Go p e below _ (T183.setTop (mkF m 29 #[.val (.int p0), .val (.int p1), .val (.int p2), .val (.int p3), .val (.int p4), .val (.int p5), .val (.ref kk183), .unset, .unset, .unset, .unset, .unset, .unset, .unset, .unset, .unset, .unset, .unset, .unset, .unset, .unset, .unset] [(.int (((p1.toUInt32 >>> ((2 : Int32) &&& 31).toUInt32).toInt32) % (19 : Int32)))]))
      refine P183.callS (hw _ (List.mem_of_getElem? (i := 1) rfl)) (hw _ (List.mem_of_getElem? (i := 2) rfl)) (hw _ (List.mem_of_getElem? (i := 3) rfl)) (hw _ (List.mem_of_getElem? (i := 4) rfl)) (by decide) (mKind l Z a0 hw hEL zc S0 Pz w_IDENTIFIER w_VARIABLE w_IRI w_PREFIXED_NAME w_STRING w_LANGUAGE_TAG w_DATATYPE_MARK w_INTEGER w_LABEL w_DIRECTIVE w_LEFT_PARENTHESIS w_RIGHT_PARENTHESIS w_COMMA w_DOT w_IMPLIES w_QUESTION_MARK w_EXCLAMATION_MARK w_BAR w_END S_IDENTIFIER E_IDENTIFIER S_VARIABLE E_VARIABLE S_IRI E_IRI S_PREFIXED_NAME E_PREFIXED_NAME S_STRING E_STRING S_LANGUAGE_TAG E_LANGUAGE_TAG S_DATATYPE_MARK E_DATATYPE_MARK S_INTEGER E_INTEGER S_LABEL E_LABEL S_DIRECTIVE E_DIRECTIVE S_LEFT_PARENTHESIS E_LEFT_PARENTHESIS S_RIGHT_PARENTHESIS E_RIGHT_PARENTHESIS S_COMMA E_COMMA S_DOT E_DOT S_IMPLIES E_IMPLIES S_QUESTION_MARK E_QUESTION_MARK S_EXCLAMATION_MARK E_EXCLAMATION_MARK S_BAR E_BAR S_END E_END (((p1.toUInt32 >>> ((2 : Int32) &&& 31).toUInt32).toInt32) % (19 : Int32)) h183 P183.old (rem_lt (n := 19) (ushr_nn _ 2 (by decide) (by decide) rfl) rfl (by decide))) (W := 0) (by decide) (by decide) (by decide) (by decide) all0 pd_4 (argsL := [(.int (((p1.toUInt32 >>> ((2 : Int32) &&& 31).toUInt32).toInt32) % (19 : Int32)))]) rfl rfl rfl (Nat.le_of_eq rfl) at_29 fun v185 T185 h185 P185 K185 Q185 => ?_
      obtain ⟨kk185, rfl, hE_kk185⟩ := Q185
      show Go p e below _ (T185.setTop (mkF m 32 #[.val (.int p0), .val (.int p1), .val (.int p2), .val (.int p3), .val (.int p4), .val (.int p5), .val (.ref kk183), .unset, .unset, .unset, .unset, .unset, .unset, .unset, .unset, .unset, .unset, .unset, .unset, .unset, .unset, .unset] [(.ref kk185)]))
      exact j1 _ _ _ hE_kk185 (P185.wider (by decide) (by decide)) 
  intro T184 h184 kk2 hE_kk2 P184 
  show Go p e below _ (T184.setTop (mkF m 32 #[.val (.int p0), .val (.int p1), .val (.int p2), .val (.int p3), .val (.int p4), .val (.int p5), .val (.ref kk183), .unset, .unset, .unset, .unset, .unset, .unset, .unset, .unset, .unset, .unset, .unset, .unset, .unset, .unset, .unset] [(.ref kk2)]))
  refine P184.xs (fun hA hx hy t k => XS.astore hA hx rfl (hb hy at_32) rfl rfl (l' := #[.val (.int p0), .val (.int p1), .val (.int p2), .val (.int p3), .val (.int p4), .val (.int p5), .val (.ref kk183), .val (.ref kk2), .unset, .unset, .unset, .unset, .unset, .unset, .unset, .unset, .unset, .unset, .unset, .unset, .unset, .unset]) rfl k) ?_
  show Go p e below _ (T184.setTop (mkF m 34 #[.val (.int p0), .val (.int p1), .val (.int p2), .val (.int p3), .val (.int p4), .val (.int p5), .val (.ref kk183), .val (.ref kk2), .unset, .unset, .unset, .unset, .unset, .unset, .unset, .unset, .unset, .unset, .unset, .unset, .unset, .unset] []))
  refine P184.xs (fun hA hx hy t k => XS.iloadN hA hx rfl (hb hy at_34) rfl  k) ?_
  show Go p e below _ (T184.setTop (mkF m 35 #[.val (.int p0), .val (.int p1), .val (.int p2), .val (.int p3), .val (.int p4), .val (.int p5), .val (.ref kk183), .val (.ref kk2), .unset, .unset, .unset, .unset, .unset, .unset, .unset, .unset, .unset, .unset, .unset, .unset, .unset, .unset] [(.int p2)]))
  refine P184.xs (fun hA hx hy t k => XS.iconst hA hx rfl (hb hy at_35) k) ?_
  show Go p e below _ (T184.setTop (mkF m 36 #[.val (.int p0), .val (.int p1), .val (.int p2), .val (.int p3), .val (.int p4), .val (.int p5), .val (.ref kk183), .val (.ref kk2), .unset, .unset, .unset, .unset, .unset, .unset, .unset, .unset, .unset, .unset, .unset, .unset, .unset, .unset] [(.int (3 : Int32)), (.int p2)]))
  refine P184.xs (fun hA hx hy t k => XS.iand hA hx rfl (hb hy at_36) rfl k) ?_
  show Go p e below _ (T184.setTop (mkF m 37 #[.val (.int p0), .val (.int p1), .val (.int p2), .val (.int p3), .val (.int p4), .val (.int p5), .val (.ref kk183), .val (.ref kk2), .unset, .unset, .unset, .unset, .unset, .unset, .unset, .unset, .unset, .unset, .unset, .unset, .unset, .unset] [(.int (p2 &&& (3 : Int32)))]))
  have hla := mask3 p2
  generalize hgla : (p2 &&& (3 : Int32)) = la at hla ⊢
  show Go p e below _ (T184.setTop (mkF m 37 #[.val (.int p0), .val (.int p1), .val (.int p2), .val (.int p3), .val (.int p4), .val (.int p5), .val (.ref kk183), .val (.ref kk2), .unset, .unset, .unset, .unset, .unset, .unset, .unset, .unset, .unset, .unset, .unset, .unset, .unset, .unset] [(.int la)]))
  refine P184.xs (fun hA hx hy t k => XS.istore hA hx rfl (hb hy at_37) rfl (l' := #[.val (.int p0), .val (.int p1), .val (.int p2), .val (.int p3), .val (.int p4), .val (.int p5), .val (.ref kk183), .val (.ref kk2), .val (.int la), .unset, .unset, .unset, .unset, .unset, .unset, .unset, .unset, .unset, .unset, .unset, .unset, .unset]) rfl k) ?_
  show Go p e below _ (T184.setTop (mkF m 39 #[.val (.int p0), .val (.int p1), .val (.int p2), .val (.int p3), .val (.int p4), .val (.int p5), .val (.ref kk183), .val (.ref kk2), .val (.int la), .unset, .unset, .unset, .unset, .unset, .unset, .unset, .unset, .unset, .unset, .unset, .unset, .unset] []))
  refine P184.xs (fun hA hx hy t k => XS.iloadN hA hx rfl (hb hy at_39) rfl  k) ?_
  show Go p e below _ (T184.setTop (mkF m 40 #[.val (.int p0), .val (.int p1), .val (.int p2), .val (.int p3), .val (.int p4), .val (.int p5), .val (.ref kk183), .val (.ref kk2), .val (.int la), .unset, .unset, .unset, .unset, .unset, .unset, .unset, .unset, .unset, .unset, .unset, .unset, .unset] [(.int p2)]))
  refine P184.xs (fun hA hx hy t k => XS.iconst hA hx rfl (hb hy at_40) k) ?_
  show Go p e below _ (T184.setTop (mkF m 41 #[.val (.int p0), .val (.int p1), .val (.int p2), .val (.int p3), .val (.int p4), .val (.int p5), .val (.ref kk183), .val (.ref kk2), .val (.int la), .unset, .unset, .unset, .unset, .unset, .unset, .unset, .unset, .unset, .unset, .unset, .unset, .unset] [(.int (2 : Int32)), (.int p2)]))
  refine P184.xs (fun hA hx hy t k => XS.iushr hA hx rfl (hb hy at_41) rfl k) ?_
  show Go p e below _ (T184.setTop (mkF m 42 #[.val (.int p0), .val (.int p1), .val (.int p2), .val (.int p3), .val (.int p4), .val (.int p5), .val (.ref kk183), .val (.ref kk2), .val (.int la), .unset, .unset, .unset, .unset, .unset, .unset, .unset, .unset, .unset, .unset, .unset, .unset, .unset] [(.int ((p2.toUInt32 >>> ((2 : Int32) &&& 31).toUInt32).toInt32))]))
  refine P184.xs (fun hA hx hy t k => XS.sipush hA hx rfl (hb hy at_42) k) ?_
  show Go p e below _ (T184.setTop (mkF m 45 #[.val (.int p0), .val (.int p1), .val (.int p2), .val (.int p3), .val (.int p4), .val (.int p5), .val (.ref kk183), .val (.ref kk2), .val (.int la), .unset, .unset, .unset, .unset, .unset, .unset, .unset, .unset, .unset, .unset, .unset, .unset, .unset] [(.int (255 : Int32)), (.int ((p2.toUInt32 >>> ((2 : Int32) &&& 31).toUInt32).toInt32))]))
  refine P184.xs (fun hA hx hy t k => XS.iand hA hx rfl (hb hy at_45) rfl k) ?_
  show Go p e below _ (T184.setTop (mkF m 46 #[.val (.int p0), .val (.int p1), .val (.int p2), .val (.int p3), .val (.int p4), .val (.int p5), .val (.ref kk183), .val (.ref kk2), .val (.int la), .unset, .unset, .unset, .unset, .unset, .unset, .unset, .unset, .unset, .unset, .unset, .unset, .unset] [(.int (((p2.toUInt32 >>> ((2 : Int32) &&& 31).toUInt32).toInt32) &&& (255 : Int32)))]))
  refine P184.xs (fun hA hx hy t k => XS.i2c hA hx rfl (hb hy at_46) rfl k) ?_
  show Go p e below _ (T184.setTop (mkF m 47 #[.val (.int p0), .val (.int p1), .val (.int p2), .val (.int p3), .val (.int p4), .val (.int p5), .val (.ref kk183), .val (.ref kk2), .val (.int la), .unset, .unset, .unset, .unset, .unset, .unset, .unset, .unset, .unset, .unset, .unset, .unset, .unset] [(.int ((((p2.toUInt32 >>> ((2 : Int32) &&& 31).toUInt32).toInt32) &&& (255 : Int32)).toUInt32.toUInt16.toUInt32.toInt32))]))
  generalize hch186 : ((((p2.toUInt32 >>> ((2 : Int32) &&& 31).toUInt32).toInt32) &&& (255 : Int32)).toUInt32.toUInt16.toUInt32.toInt32) = ch186
  obtain ⟨lch186, nch186⟩ := chr255 hch186
  show Go p e below _ (T184.setTop (mkF m 47 #[.val (.int p0), .val (.int p1), .val (.int p2), .val (.int p3), .val (.int p4), .val (.int p5), .val (.ref kk183), .val (.ref kk2), .val (.int la), .unset, .unset, .unset, .unset, .unset, .unset, .unset, .unset, .unset, .unset, .unset, .unset, .unset] [(.int ch186)]))
  refine P184.xs (fun hA hx hy t k => XS.istore hA hx rfl (hb hy at_47) rfl (l' := #[.val (.int p0), .val (.int p1), .val (.int p2), .val (.int p3), .val (.int p4), .val (.int p5), .val (.ref kk183), .val (.ref kk2), .val (.int la), .val (.int ch186), .unset, .unset, .unset, .unset, .unset, .unset, .unset, .unset, .unset, .unset, .unset, .unset]) rfl k) ?_
  show Go p e below _ (T184.setTop (mkF m 49 #[.val (.int p0), .val (.int p1), .val (.int p2), .val (.int p3), .val (.int p4), .val (.int p5), .val (.ref kk183), .val (.ref kk2), .val (.int la), .val (.int ch186), .unset, .unset, .unset, .unset, .unset, .unset, .unset, .unset, .unset, .unset, .unset, .unset] []))
  refine P184.xs (fun hA hx hy t k => XS.iloadN hA hx rfl (hb hy at_49) rfl  k) ?_
  show Go p e below _ (T184.setTop (mkF m 50 #[.val (.int p0), .val (.int p1), .val (.int p2), .val (.int p3), .val (.int p4), .val (.int p5), .val (.ref kk183), .val (.ref kk2), .val (.int la), .val (.int ch186), .unset, .unset, .unset, .unset, .unset, .unset, .unset, .unset, .unset, .unset, .unset, .unset] [(.int p2)]))
  refine P184.xs (fun hA hx hy t k => XS.bipush hA hx rfl (hb hy at_50) k) ?_
  show Go p e below _ (T184.setTop (mkF m 52 #[.val (.int p0), .val (.int p1), .val (.int p2), .val (.int p3), .val (.int p4), .val (.int p5), .val (.ref kk183), .val (.ref kk2), .val (.int la), .val (.int ch186), .unset, .unset, .unset, .unset, .unset, .unset, .unset, .unset, .unset, .unset, .unset, .unset] [(.int (10 : Int32)), (.int p2)]))
  refine P184.xs (fun hA hx hy t k => XS.iushr hA hx rfl (hb hy at_52) rfl k) ?_
  show Go p e below _ (T184.setTop (mkF m 53 #[.val (.int p0), .val (.int p1), .val (.int p2), .val (.int p3), .val (.int p4), .val (.int p5), .val (.ref kk183), .val (.ref kk2), .val (.int la), .val (.int ch186), .unset, .unset, .unset, .unset, .unset, .unset, .unset, .unset, .unset, .unset, .unset, .unset] [(.int ((p2.toUInt32 >>> ((10 : Int32) &&& 31).toUInt32).toInt32))]))
  refine P184.xs (fun hA hx hy t k => XS.sipush hA hx rfl (hb hy at_53) k) ?_
  show Go p e below _ (T184.setTop (mkF m 56 #[.val (.int p0), .val (.int p1), .val (.int p2), .val (.int p3), .val (.int p4), .val (.int p5), .val (.ref kk183), .val (.ref kk2), .val (.int la), .val (.int ch186), .unset, .unset, .unset, .unset, .unset, .unset, .unset, .unset, .unset, .unset, .unset, .unset] [(.int (255 : Int32)), (.int ((p2.toUInt32 >>> ((10 : Int32) &&& 31).toUInt32).toInt32))]))
  refine P184.xs (fun hA hx hy t k => XS.iand hA hx rfl (hb hy at_56) rfl k) ?_
  show Go p e below _ (T184.setTop (mkF m 57 #[.val (.int p0), .val (.int p1), .val (.int p2), .val (.int p3), .val (.int p4), .val (.int p5), .val (.ref kk183), .val (.ref kk2), .val (.int la), .val (.int ch186), .unset, .unset, .unset, .unset, .unset, .unset, .unset, .unset, .unset, .unset, .unset, .unset] [(.int (((p2.toUInt32 >>> ((10 : Int32) &&& 31).toUInt32).toInt32) &&& (255 : Int32)))]))
  refine P184.xs (fun hA hx hy t k => XS.i2c hA hx rfl (hb hy at_57) rfl k) ?_
  show Go p e below _ (T184.setTop (mkF m 58 #[.val (.int p0), .val (.int p1), .val (.int p2), .val (.int p3), .val (.int p4), .val (.int p5), .val (.ref kk183), .val (.ref kk2), .val (.int la), .val (.int ch186), .unset, .unset, .unset, .unset, .unset, .unset, .unset, .unset, .unset, .unset, .unset, .unset] [(.int ((((p2.toUInt32 >>> ((10 : Int32) &&& 31).toUInt32).toInt32) &&& (255 : Int32)).toUInt32.toUInt16.toUInt32.toInt32))]))
  generalize hch187 : ((((p2.toUInt32 >>> ((10 : Int32) &&& 31).toUInt32).toInt32) &&& (255 : Int32)).toUInt32.toUInt16.toUInt32.toInt32) = ch187
  obtain ⟨lch187, nch187⟩ := chr255 hch187
  show Go p e below _ (T184.setTop (mkF m 58 #[.val (.int p0), .val (.int p1), .val (.int p2), .val (.int p3), .val (.int p4), .val (.int p5), .val (.ref kk183), .val (.ref kk2), .val (.int la), .val (.int ch186), .unset, .unset, .unset, .unset, .unset, .unset, .unset, .unset, .unset, .unset, .unset, .unset] [(.int ch187)]))
  refine P184.xs (fun hA hx hy t k => XS.istore hA hx rfl (hb hy at_58) rfl (l' := #[.val (.int p0), .val (.int p1), .val (.int p2), .val (.int p3), .val (.int p4), .val (.int p5), .val (.ref kk183), .val (.ref kk2), .val (.int la), .val (.int ch186), .val (.int ch187), .unset, .unset, .unset, .unset, .unset, .unset, .unset, .unset, .unset, .unset, .unset]) rfl k) ?_
  show Go p e below _ (T184.setTop (mkF m 60 #[.val (.int p0), .val (.int p1), .val (.int p2), .val (.int p3), .val (.int p4), .val (.int p5), .val (.ref kk183), .val (.ref kk2), .val (.int la), .val (.int ch186), .val (.int ch187), .unset, .unset, .unset, .unset, .unset, .unset, .unset, .unset, .unset, .unset, .unset] []))
  refine P184.xs (fun hA hx hy t k => XS.iloadN hA hx rfl (hb hy at_60) rfl  k) ?_
  show Go p e below _ (T184.setTop (mkF m 61 #[.val (.int p0), .val (.int p1), .val (.int p2), .val (.int p3), .val (.int p4), .val (.int p5), .val (.ref kk183), .val (.ref kk2), .val (.int la), .val (.int ch186), .val (.int ch187), .unset, .unset, .unset, .unset, .unset, .unset, .unset, .unset, .unset, .unset, .unset] [(.int p2)]))
  refine P184.xs (fun hA hx hy t k => XS.bipush hA hx rfl (hb hy at_61) k) ?_
  show Go p e below _ (T184.setTop (mkF m 63 #[.val (.int p0), .val (.int p1), .val (.int p2), .val (.int p3), .val (.int p4), .val (.int p5), .val (.ref kk183), .val (.ref kk2), .val (.int la), .val (.int ch186), .val (.int ch187), .unset, .unset, .unset, .unset, .unset, .unset, .unset, .unset, .unset, .unset, .unset] [(.int (18 : Int32)), (.int p2)]))
  refine P184.xs (fun hA hx hy t k => XS.iushr hA hx rfl (hb hy at_63) rfl k) ?_
  show Go p e below _ (T184.setTop (mkF m 64 #[.val (.int p0), .val (.int p1), .val (.int p2), .val (.int p3), .val (.int p4), .val (.int p5), .val (.ref kk183), .val (.ref kk2), .val (.int la), .val (.int ch186), .val (.int ch187), .unset, .unset, .unset, .unset, .unset, .unset, .unset, .unset, .unset, .unset, .unset] [(.int ((p2.toUInt32 >>> ((18 : Int32) &&& 31).toUInt32).toInt32))]))
  refine P184.xs (fun hA hx hy t k => XS.sipush hA hx rfl (hb hy at_64) k) ?_
  show Go p e below _ (T184.setTop (mkF m 67 #[.val (.int p0), .val (.int p1), .val (.int p2), .val (.int p3), .val (.int p4), .val (.int p5), .val (.ref kk183), .val (.ref kk2), .val (.int la), .val (.int ch186), .val (.int ch187), .unset, .unset, .unset, .unset, .unset, .unset, .unset, .unset, .unset, .unset, .unset] [(.int (255 : Int32)), (.int ((p2.toUInt32 >>> ((18 : Int32) &&& 31).toUInt32).toInt32))]))
  refine P184.xs (fun hA hx hy t k => XS.iand hA hx rfl (hb hy at_67) rfl k) ?_
  show Go p e below _ (T184.setTop (mkF m 68 #[.val (.int p0), .val (.int p1), .val (.int p2), .val (.int p3), .val (.int p4), .val (.int p5), .val (.ref kk183), .val (.ref kk2), .val (.int la), .val (.int ch186), .val (.int ch187), .unset, .unset, .unset, .unset, .unset, .unset, .unset, .unset, .unset, .unset, .unset] [(.int (((p2.toUInt32 >>> ((18 : Int32) &&& 31).toUInt32).toInt32) &&& (255 : Int32)))]))
  refine P184.xs (fun hA hx hy t k => XS.i2c hA hx rfl (hb hy at_68) rfl k) ?_
  show Go p e below _ (T184.setTop (mkF m 69 #[.val (.int p0), .val (.int p1), .val (.int p2), .val (.int p3), .val (.int p4), .val (.int p5), .val (.ref kk183), .val (.ref kk2), .val (.int la), .val (.int ch186), .val (.int ch187), .unset, .unset, .unset, .unset, .unset, .unset, .unset, .unset, .unset, .unset, .unset] [(.int ((((p2.toUInt32 >>> ((18 : Int32) &&& 31).toUInt32).toInt32) &&& (255 : Int32)).toUInt32.toUInt16.toUInt32.toInt32))]))
  generalize hch188 : ((((p2.toUInt32 >>> ((18 : Int32) &&& 31).toUInt32).toInt32) &&& (255 : Int32)).toUInt32.toUInt16.toUInt32.toInt32) = ch188
  obtain ⟨lch188, nch188⟩ := chr255 hch188
  show Go p e below _ (T184.setTop (mkF m 69 #[.val (.int p0), .val (.int p1), .val (.int p2), .val (.int p3), .val (.int p4), .val (.int p5), .val (.ref kk183), .val (.ref kk2), .val (.int la), .val (.int ch186), .val (.int ch187), .unset, .unset, .unset, .unset, .unset, .unset, .unset, .unset, .unset, .unset, .unset] [(.int ch188)]))
  refine P184.xs (fun hA hx hy t k => XS.istore hA hx rfl (hb hy at_69) rfl (l' := #[.val (.int p0), .val (.int p1), .val (.int p2), .val (.int p3), .val (.int p4), .val (.int p5), .val (.ref kk183), .val (.ref kk2), .val (.int la), .val (.int ch186), .val (.int ch187), .val (.int ch188), .unset, .unset, .unset, .unset, .unset, .unset, .unset, .unset, .unset, .unset]) rfl k) ?_
  show Go p e below _ (T184.setTop (mkF m 71 #[.val (.int p0), .val (.int p1), .val (.int p2), .val (.int p3), .val (.int p4), .val (.int p5), .val (.ref kk183), .val (.ref kk2), .val (.int la), .val (.int ch186), .val (.int ch187), .val (.int ch188), .unset, .unset, .unset, .unset, .unset, .unset, .unset, .unset, .unset, .unset] []))
  refine P184.xs (fun hA hx hy t k => XS.iloadN hA hx rfl (hb hy at_71) rfl  k) ?_
  show Go p e below _ (T184.setTop (mkF m 72 #[.val (.int p0), .val (.int p1), .val (.int p2), .val (.int p3), .val (.int p4), .val (.int p5), .val (.ref kk183), .val (.ref kk2), .val (.int la), .val (.int ch186), .val (.int ch187), .val (.int ch188), .unset, .unset, .unset, .unset, .unset, .unset, .unset, .unset, .unset, .unset] [(.int p3)]))
  refine P184.xs (fun hA hx hy t k => XS.iconst hA hx rfl (hb hy at_72) k) ?_
  show Go p e below _ (T184.setTop (mkF m 73 #[.val (.int p0), .val (.int p1), .val (.int p2), .val (.int p3), .val (.int p4), .val (.int p5), .val (.ref kk183), .val (.ref kk2), .val (.int la), .val (.int ch186), .val (.int ch187), .val (.int ch188), .unset, .unset, .unset, .unset, .unset, .unset, .unset, .unset, .unset, .unset] [(.int (1 : Int32)), (.int p3)]))
  refine P184.xs (fun hA hx hy t k => XS.iand hA hx rfl (hb hy at_73) rfl k) ?_
  show Go p e below _ (T184.setTop (mkF m 74 #[.val (.int p0), .val (.int p1), .val (.int p2), .val (.int p3), .val (.int p4), .val (.int p5), .val (.ref kk183), .val (.ref kk2), .val (.int la), .val (.int ch186), .val (.int ch187), .val (.int ch188), .unset, .unset, .unset, .unset, .unset, .unset, .unset, .unset, .unset, .unset] [(.int (p3 &&& (1 : Int32)))]))
  suffices j2 : ∀ (T189 : State) (h189 : Heap) (lb : Int32), (lb = 0 ∨ lb = 1 ∨ lb = 2 ∨ lb = 3) → Pos p l e room_1 s m #[(.int p0), (.int p1), (.int p2), (.int p3), (.int p4), (.int p5)] below meth c "com/example/qrew/qrew/dlgp/TokenEqualsPinLaw" "law" code maxLocals ret Z a0 EL0 h0 [] T189 h189 2 38 → Go p e below (Fini Z EL0 h0 [] room_1 (Q_mLaw Z  h0) s) (T189.setTop (mkF m 87 #[.val (.int p0), .val (.int p1), .val (.int p2), .val (.int p3), .val (.int p4), .val (.int p5), .val (.ref kk183), .val (.ref kk2), .val (.int la), .val (.int ch186), .val (.int ch187), .val (.int ch188), .unset, .unset, .unset, .unset, .unset, .unset, .unset, .unset, .unset, .unset] [(.int lb)])) by
    by_cases hk : (p3 &&& (1 : Int32)) = 0
    · refine P184.xs (fun hA hx hy t k => XS.ifNo hA hx rfl (hb hy at_74) rfl ((if0 _ _).trans (teq hk).2) k) ?_
      show Go p e below _ (T184.setTop (mkF m 77 #[.val (.int p0), .val (.int p1), .val (.int p2), .val (.int p3), .val (.int p4), .val (.int p5), .val (.ref kk183), .val (.ref kk2), .val (.int la), .val (.int ch186), .val (.int ch187), .val (.int ch188), .unset, .unset, .unset, .unset, .unset, .unset, .unset, .unset, .unset, .unset] []))
      refine P184.xs (fun hA hx hy t k => XS.iload hA hx rfl (hb hy at_77) rfl  k) ?_
      show Go p e below _ (T184.setTop (mkF m 79 #[.val (.int p0), .val (.int p1), .val (.int p2), .val (.int p3), .val (.int p4), .val (.int p5), .val (.ref kk183), .val (.ref kk2), .val (.int la), .val (.int ch186), .val (.int ch187), .val (.int ch188), .unset, .unset, .unset, .unset, .unset, .unset, .unset, .unset, .unset, .unset] [(.int la)]))
      refine P184.xs (fun hA hx hy t k => XS.goto hA hx rfl (pc0 := 79) (pc' := 87) rfl (hb hy at_79) (by decide) (by decide) k) ?_
      show Go p e below _ (T184.setTop (mkF m 87 #[.val (.int p0), .val (.int p1), .val (.int p2), .val (.int p3), .val (.int p4), .val (.int p5), .val (.ref kk183), .val (.ref kk2), .val (.int la), .val (.int ch186), .val (.int ch187), .val (.int ch188), .unset, .unset, .unset, .unset, .unset, .unset, .unset, .unset, .unset, .unset] [(.int la)]))
      exact j2 _ _ _ hla (P184.wider (by decide) (by decide)) 
    · refine P184.xs (fun hA hx hy t k => XS.ifYes hA hx rfl (pc0 := 74) (pc' := 82) rfl (hb hy at_74) rfl ((if0 _ _).trans (feq hk).2) (by decide) (by decide) k) ?_
      show Go p e below _ (T184.setTop (mkF m 82 #[.val (.int p0), .val (.int p1), .val (.int p2), .val (.int p3), .val (.int p4), .val (.int p5), .val (.ref kk183), .val (.ref kk2), .val (.int la), .val (.int ch186), .val (.int ch187), .val (.int ch188), .unset, .unset, .unset, .unset, .unset, .unset, .unset, .unset, .unset, .unset] []))
      refine P184.xs (fun hA hx hy t k => XS.iloadN hA hx rfl (hb hy at_82) rfl  k) ?_
      show Go p e below _ (T184.setTop (mkF m 83 #[.val (.int p0), .val (.int p1), .val (.int p2), .val (.int p3), .val (.int p4), .val (.int p5), .val (.ref kk183), .val (.ref kk2), .val (.int la), .val (.int ch186), .val (.int ch187), .val (.int ch188), .unset, .unset, .unset, .unset, .unset, .unset, .unset, .unset, .unset, .unset] [(.int p3)]))
      refine P184.xs (fun hA hx hy t k => XS.iconst hA hx rfl (hb hy at_83) k) ?_
      show Go p e below _ (T184.setTop (mkF m 84 #[.val (.int p0), .val (.int p1), .val (.int p2), .val (.int p3), .val (.int p4), .val (.int p5), .val (.ref kk183), .val (.ref kk2), .val (.int la), .val (.int ch186), .val (.int ch187), .val (.int ch188), .unset, .unset, .unset, .unset, .unset, .unset, .unset, .unset, .unset, .unset] [(.int (1 : Int32)), (.int p3)]))
      refine P184.xs (fun hA hx hy t k => XS.iushr hA hx rfl (hb hy at_84) rfl k) ?_
      show Go p e below _ (T184.setTop (mkF m 85 #[.val (.int p0), .val (.int p1), .val (.int p2), .val (.int p3), .val (.int p4), .val (.int p5), .val (.ref kk183), .val (.ref kk2), .val (.int la), .val (.int ch186), .val (.int ch187), .val (.int ch188), .unset, .unset, .unset, .unset, .unset, .unset, .unset, .unset, .unset, .unset] [(.int ((p3.toUInt32 >>> ((1 : Int32) &&& 31).toUInt32).toInt32))]))
      refine P184.xs (fun hA hx hy t k => XS.iconst hA hx rfl (hb hy at_85) k) ?_
      show Go p e below _ (T184.setTop (mkF m 86 #[.val (.int p0), .val (.int p1), .val (.int p2), .val (.int p3), .val (.int p4), .val (.int p5), .val (.ref kk183), .val (.ref kk2), .val (.int la), .val (.int ch186), .val (.int ch187), .val (.int ch188), .unset, .unset, .unset, .unset, .unset, .unset, .unset, .unset, .unset, .unset] [(.int (3 : Int32)), (.int ((p3.toUInt32 >>> ((1 : Int32) &&& 31).toUInt32).toInt32))]))
      refine P184.xs (fun hA hx hy t k => XS.iand hA hx rfl (hb hy at_86) rfl k) ?_
      show Go p e below _ (T184.setTop (mkF m 87 #[.val (.int p0), .val (.int p1), .val (.int p2), .val (.int p3), .val (.int p4), .val (.int p5), .val (.ref kk183), .val (.ref kk2), .val (.int la), .val (.int ch186), .val (.int ch187), .val (.int ch188), .unset, .unset, .unset, .unset, .unset, .unset, .unset, .unset, .unset, .unset] [(.int (((p3.toUInt32 >>> ((1 : Int32) &&& 31).toUInt32).toInt32) &&& (3 : Int32)))]))
      exact j2 _ _ _ (mask3 _) (P184.wider (by decide) (by decide)) 
  intro T189 h189 lb hlb P189 
  show Go p e below _ (T189.setTop (mkF m 87 #[.val (.int p0), .val (.int p1), .val (.int p2), .val (.int p3), .val (.int p4), .val (.int p5), .val (.ref kk183), .val (.ref kk2), .val (.int la), .val (.int ch186), .val (.int ch187), .val (.int ch188), .unset, .unset, .unset, .unset, .unset, .unset, .unset, .unset, .unset, .unset] [(.int lb)]))
  refine P189.xs (fun hA hx hy t k => XS.istore hA hx rfl (hb hy at_87) rfl (l' := #[.val (.int p0), .val (.int p1), .val (.int p2), .val (.int p3), .val (.int p4), .val (.int p5), .val (.ref kk183), .val (.ref kk2), .val (.int la), .val (.int ch186), .val (.int ch187), .val (.int ch188), .val (.int lb), .unset, .unset, .unset, .unset, .unset, .unset, .unset, .unset, .unset]) rfl k) ?_
  show Go p e below _ (T189.setTop (mkF m 89 #[.val (.int p0), .val (.int p1), .val (.int p2), .val (.int p3), .val (.int p4), .val (.int p5), .val (.ref kk183), .val (.ref kk2), .val (.int la), .val (.int ch186), .val (.int ch187), .val (.int ch188), .val (.int lb), .unset, .unset, .unset, .unset, .unset, .unset, .unset, .unset, .unset] []))
  refine P189.xs (fun hA hx hy t k => XS.iloadN hA hx rfl (hb hy at_89) rfl  k) ?_
  show Go p e below _ (T189.setTop (mkF m 90 #[.val (.int p0), .val (.int p1), .val (.int p2), .val (.int p3), .val (.int p4), .val (.int p5), .val (.ref kk183), .val (.ref kk2), .val (.int la), .val (.int ch186), .val (.int ch187), .val (.int ch188), .val (.int lb), .unset, .unset, .unset, .unset, .unset, .unset, .unset, .unset, .unset] [(.int p3)]))
  refine P189.xs (fun hA hx hy t k => XS.bipush hA hx rfl (hb hy at_90) k) ?_
  show Go p e below _ (T189.setTop (mkF m 92 #[.val (.int p0), .val (.int p1), .val (.int p2), .val (.int p3), .val (.int p4), .val (.int p5), .val (.ref kk183), .val (.ref kk2), .val (.int la), .val (.int ch186), .val (.int ch187), .val (.int ch188), .val (.int lb), .unset, .unset, .unset, .unset, .unset, .unset, .unset, .unset, .unset] [(.int (8 : Int32)), (.int p3)]))
  refine P189.xs (fun hA hx hy t k => XS.iand hA hx rfl (hb hy at_92) rfl k) ?_
  show Go p e below _ (T189.setTop (mkF m 93 #[.val (.int p0), .val (.int p1), .val (.int p2), .val (.int p3), .val (.int p4), .val (.int p5), .val (.ref kk183), .val (.ref kk2), .val (.int la), .val (.int ch186), .val (.int ch187), .val (.int ch188), .val (.int lb), .unset, .unset, .unset, .unset, .unset, .unset, .unset, .unset, .unset] [(.int (p3 &&& (8 : Int32)))]))
  suffices j3 : ∀ (T190 : State) (h190 : Heap) (pert : Int32), Pos p l e room_1 s m #[(.int p0), (.int p1), (.int p2), (.int p3), (.int p4), (.int p5)] below meth c "com/example/qrew/qrew/dlgp/TokenEqualsPinLaw" "law" code maxLocals ret Z a0 EL0 h0 [] T190 h190 2 38 → Go p e below (Fini Z EL0 h0 [] room_1 (Q_mLaw Z  h0) s) (T190.setTop (mkF m 101 #[.val (.int p0), .val (.int p1), .val (.int p2), .val (.int p3), .val (.int p4), .val (.int p5), .val (.ref kk183), .val (.ref kk2), .val (.int la), .val (.int ch186), .val (.int ch187), .val (.int ch188), .val (.int lb), .unset, .unset, .unset, .unset, .unset, .unset, .unset, .unset, .unset] [(.int pert)])) by
    by_cases hk : (p3 &&& (8 : Int32)) = 0
    · refine P189.xs (fun hA hx hy t k => XS.ifYes hA hx rfl (pc0 := 93) (pc' := 100) rfl (hb hy at_93) rfl ((if0 _ _).trans (teq hk).1) (by decide) (by decide) k) ?_
      show Go p e below _ (T189.setTop (mkF m 100 #[.val (.int p0), .val (.int p1), .val (.int p2), .val (.int p3), .val (.int p4), .val (.int p5), .val (.ref kk183), .val (.ref kk2), .val (.int la), .val (.int ch186), .val (.int ch187), .val (.int ch188), .val (.int lb), .unset, .unset, .unset, .unset, .unset, .unset, .unset, .unset, .unset] []))
      refine P189.xs (fun hA hx hy t k => XS.iconst hA hx rfl (hb hy at_100) k) ?_
      show Go p e below _ (T189.setTop (mkF m 101 #[.val (.int p0), .val (.int p1), .val (.int p2), .val (.int p3), .val (.int p4), .val (.int p5), .val (.ref kk183), .val (.ref kk2), .val (.int la), .val (.int ch186), .val (.int ch187), .val (.int ch188), .val (.int lb), .unset, .unset, .unset, .unset, .unset, .unset, .unset, .unset, .unset] [(.int (0 : Int32))]))
      exact j3 _ _ _  (P189.wider (by decide) (by decide)) 
    · refine P189.xs (fun hA hx hy t k => XS.ifNo hA hx rfl (hb hy at_93) rfl ((if0 _ _).trans (feq hk).1) k) ?_
      show Go p e below _ (T189.setTop (mkF m 96 #[.val (.int p0), .val (.int p1), .val (.int p2), .val (.int p3), .val (.int p4), .val (.int p5), .val (.ref kk183), .val (.ref kk2), .val (.int la), .val (.int ch186), .val (.int ch187), .val (.int ch188), .val (.int lb), .unset, .unset, .unset, .unset, .unset, .unset, .unset, .unset, .unset] []))
      refine P189.xs (fun hA hx hy t k => XS.iconst hA hx rfl (hb hy at_96) k) ?_
      show Go p e below _ (T189.setTop (mkF m 97 #[.val (.int p0), .val (.int p1), .val (.int p2), .val (.int p3), .val (.int p4), .val (.int p5), .val (.ref kk183), .val (.ref kk2), .val (.int la), .val (.int ch186), .val (.int ch187), .val (.int ch188), .val (.int lb), .unset, .unset, .unset, .unset, .unset, .unset, .unset, .unset, .unset] [(.int (1 : Int32))]))
      refine P189.xs (fun hA hx hy t k => XS.goto hA hx rfl (pc0 := 97) (pc' := 101) rfl (hb hy at_97) (by decide) (by decide) k) ?_
      show Go p e below _ (T189.setTop (mkF m 101 #[.val (.int p0), .val (.int p1), .val (.int p2), .val (.int p3), .val (.int p4), .val (.int p5), .val (.ref kk183), .val (.ref kk2), .val (.int la), .val (.int ch186), .val (.int ch187), .val (.int ch188), .val (.int lb), .unset, .unset, .unset, .unset, .unset, .unset, .unset, .unset, .unset] [(.int (1 : Int32))]))
      exact j3 _ _ _  (P189.wider (by decide) (by decide)) 
  intro T190 h190 pert  P190 
  show Go p e below _ (T190.setTop (mkF m 101 #[.val (.int p0), .val (.int p1), .val (.int p2), .val (.int p3), .val (.int p4), .val (.int p5), .val (.ref kk183), .val (.ref kk2), .val (.int la), .val (.int ch186), .val (.int ch187), .val (.int ch188), .val (.int lb), .unset, .unset, .unset, .unset, .unset, .unset, .unset, .unset, .unset] [(.int pert)]))
  refine P190.xs (fun hA hx hy t k => XS.istore hA hx rfl (hb hy at_101) rfl (l' := #[.val (.int p0), .val (.int p1), .val (.int p2), .val (.int p3), .val (.int p4), .val (.int p5), .val (.ref kk183), .val (.ref kk2), .val (.int la), .val (.int ch186), .val (.int ch187), .val (.int ch188), .val (.int lb), .val (.int pert), .unset, .unset, .unset, .unset, .unset, .unset, .unset, .unset]) rfl k) ?_
  show Go p e below _ (T190.setTop (mkF m 103 #[.val (.int p0), .val (.int p1), .val (.int p2), .val (.int p3), .val (.int p4), .val (.int p5), .val (.ref kk183), .val (.ref kk2), .val (.int la), .val (.int ch186), .val (.int ch187), .val (.int ch188), .val (.int lb), .val (.int pert), .unset, .unset, .unset, .unset, .unset, .unset, .unset, .unset] []))
  refine P190.xs (fun hA hx hy t k => XS.iload hA hx rfl (hb hy at_103) rfl  k) ?_
  show Go p e below _ (T190.setTop (mkF m 105 #[.val (.int p0), .val (.int p1), .val (.int p2), .val (.int p3), .val (.int p4), .val (.int p5), .val (.ref kk183), .val (.ref kk2), .val (.int la), .val (.int ch186), .val (.int ch187), .val (.int ch188), .val (.int lb), .val (.int pert), .unset, .unset, .unset, .unset, .unset, .unset, .unset, .unset] [(.int ch186)]))
  refine P190.xs (fun hA hx hy t k => XS.iload hA hx rfl (hb hy at_105) rfl  k) ?_
  show Go p e below _ (T190.setTop (mkF m 107 #[.val (.int p0), .val (.int p1), .val (.int p2), .val (.int p3), .val (.int p4), .val (.int p5), .val (.ref kk183), .val (.ref kk2), .val (.int la), .val (.int ch186), .val (.int ch187), .val (.int ch188), .val (.int lb), .val (.int pert), .unset, .unset, .unset, .unset, .unset, .unset, .unset, .unset] [(.int pert), (.int ch186)]))
  suffices j14 : ∀ (T191 : State) (h191 : Heap) (mm14 : Int32), (¬ mm14 < 0 ∧ ¬ (255 : Int32) < mm14) → Pos p l e room_1 s m #[(.int p0), (.int p1), (.int p2), (.int p3), (.int p4), (.int p5)] below meth c "com/example/qrew/qrew/dlgp/TokenEqualsPinLaw" "law" code maxLocals ret Z a0 EL0 h0 [] T191 h191 2 38 → Go p e below (Fini Z EL0 h0 [] room_1 (Q_mLaw Z  h0) s) (T191.setTop (mkF m 122 #[.val (.int p0), .val (.int p1), .val (.int p2), .val (.int p3), .val (.int p4), .val (.int p5), .val (.ref kk183), .val (.ref kk2), .val (.int la), .val (.int ch186), .val (.int ch187), .val (.int ch188), .val (.int lb), .val (.int pert), .unset, .unset, .unset, .unset, .unset, .unset, .unset, .unset] [(.int mm14), (.int ch186)])) by
    by_cases hk : pert = 0
    · refine P190.xs (fun hA hx hy t k => XS.ifYes hA hx rfl (pc0 := 107) (pc' := 121) rfl (hb hy at_107) rfl ((if0 _ _).trans (teq hk).1) (by decide) (by decide) k) ?_
      show Go p e below _ (T190.setTop (mkF m 121 #[.val (.int p0), .val (.int p1), .val (.int p2), .val (.int p3), .val (.int p4), .val (.int p5), .val (.ref kk183), .val (.ref kk2), .val (.int la), .val (.int ch186), .val (.int ch187), .val (.int ch188), .val (.int lb), .val (.int pert), .unset, .unset, .unset, .unset, .unset, .unset, .unset, .unset] [(.int ch186)]))
      refine P190.xs (fun hA hx hy t k => XS.iconst hA hx rfl (hb hy at_121) k) ?_
      show Go p e below _ (T190.setTop (mkF m 122 #[.val (.int p0), .val (.int p1), .val (.int p2), .val (.int p3), .val (.int p4), .val (.int p5), .val (.ref kk183), .val (.ref kk2), .val (.int la), .val (.int ch186), .val (.int ch187), .val (.int ch188), .val (.int lb), .val (.int pert), .unset, .unset, .unset, .unset, .unset, .unset, .unset, .unset] [(.int (0 : Int32)), (.int ch186)]))
      exact j14 _ _ _ (by decide) (P190.wider (by decide) (by decide)) 
    · refine P190.xs (fun hA hx hy t k => XS.ifNo hA hx rfl (hb hy at_107) rfl ((if0 _ _).trans (feq hk).1) k) ?_
      show Go p e below _ (T190.setTop (mkF m 110 #[.val (.int p0), .val (.int p1), .val (.int p2), .val (.int p3), .val (.int p4), .val (.int p5), .val (.ref kk183), .val (.ref kk2), .val (.int la), .val (.int ch186), .val (.int ch187), .val (.int ch188), .val (.int lb), .val (.int pert), .unset, .unset, .unset, .unset, .unset, .unset, .unset, .unset] [(.int ch186)]))
      refine P190.xs (fun hA hx hy t k => XS.iloadN hA hx rfl (hb hy at_110) rfl  k) ?_
      show Go p e below _ (T190.setTop (mkF m 111 #[.val (.int p0), .val (.int p1), .val (.int p2), .val (.int p3), .val (.int p4), .val (.int p5), .val (.ref kk183), .val (.ref kk2), .val (.int la), .val (.int ch186), .val (.int ch187), .val (.int ch188), .val (.int lb), .val (.int pert), .unset, .unset, .unset, .unset, .unset, .unset, .unset, .unset] [(.int p3), (.int ch186)]))
      refine P190.xs (fun hA hx hy t k => XS.bipush hA hx rfl (hb hy at_111) k) ?_
      show Go p e below _ (T190.setTop (mkF m 113 #[.val (.int p0), .val (.int p1), .val (.int p2), .val (.int p3), .val (.int p4), .val (.int p5), .val (.ref kk183), .val (.ref kk2), .val (.int la), .val (.int ch186), .val (.int ch187), .val (.int ch188), .val (.int lb), .val (.int pert), .unset, .unset, .unset, .unset, .unset, .unset, .unset, .unset] [(.int (8 : Int32)), (.int p3), (.int ch186)]))
      refine P190.xs (fun hA hx hy t k => XS.iushr hA hx rfl (hb hy at_113) rfl k) ?_
      show Go p e below _ (T190.setTop (mkF m 114 #[.val (.int p0), .val (.int p1), .val (.int p2), .val (.int p3), .val (.int p4), .val (.int p5), .val (.ref kk183), .val (.ref kk2), .val (.int la), .val (.int ch186), .val (.int ch187), .val (.int ch188), .val (.int lb), .val (.int pert), .unset, .unset, .unset, .unset, .unset, .unset, .unset, .unset] [(.int ((p3.toUInt32 >>> ((8 : Int32) &&& 31).toUInt32).toInt32)), (.int ch186)]))
      refine P190.xs (fun hA hx hy t k => XS.sipush hA hx rfl (hb hy at_114) k) ?_
      show Go p e below _ (T190.setTop (mkF m 117 #[.val (.int p0), .val (.int p1), .val (.int p2), .val (.int p3), .val (.int p4), .val (.int p5), .val (.ref kk183), .val (.ref kk2), .val (.int la), .val (.int ch186), .val (.int ch187), .val (.int ch188), .val (.int lb), .val (.int pert), .unset, .unset, .unset, .unset, .unset, .unset, .unset, .unset] [(.int (255 : Int32)), (.int ((p3.toUInt32 >>> ((8 : Int32) &&& 31).toUInt32).toInt32)), (.int ch186)]))
      refine P190.xs (fun hA hx hy t k => XS.iand hA hx rfl (hb hy at_117) rfl k) ?_
      show Go p e below _ (T190.setTop (mkF m 118 #[.val (.int p0), .val (.int p1), .val (.int p2), .val (.int p3), .val (.int p4), .val (.int p5), .val (.ref kk183), .val (.ref kk2), .val (.int la), .val (.int ch186), .val (.int ch187), .val (.int ch188), .val (.int lb), .val (.int pert), .unset, .unset, .unset, .unset, .unset, .unset, .unset, .unset] [(.int (((p3.toUInt32 >>> ((8 : Int32) &&& 31).toUInt32).toInt32) &&& (255 : Int32))), (.int ch186)]))
      refine P190.xs (fun hA hx hy t k => XS.goto hA hx rfl (pc0 := 118) (pc' := 122) rfl (hb hy at_118) (by decide) (by decide) k) ?_
      show Go p e below _ (T190.setTop (mkF m 122 #[.val (.int p0), .val (.int p1), .val (.int p2), .val (.int p3), .val (.int p4), .val (.int p5), .val (.ref kk183), .val (.ref kk2), .val (.int la), .val (.int ch186), .val (.int ch187), .val (.int ch188), .val (.int lb), .val (.int pert), .unset, .unset, .unset, .unset, .unset, .unset, .unset, .unset] [(.int (((p3.toUInt32 >>> ((8 : Int32) &&& 31).toUInt32).toInt32) &&& (255 : Int32))), (.int ch186)]))
      exact j14 _ _ _ (lat255 _) (P190.wider (by decide) (by decide)) 
  intro T191 h191 mm14 lmm14 P191 
  show Go p e below _ (T191.setTop (mkF m 122 #[.val (.int p0), .val (.int p1), .val (.int p2), .val (.int p3), .val (.int p4), .val (.int p5), .val (.ref kk183), .val (.ref kk2), .val (.int la), .val (.int ch186), .val (.int ch187), .val (.int ch188), .val (.int lb), .val (.int pert), .unset, .unset, .unset, .unset, .unset, .unset, .unset, .unset] [(.int mm14), (.int ch186)]))
  refine P191.xs (fun hA hx hy t k => XS.ixor hA hx rfl (hb hy at_122) rfl k) ?_
  show Go p e below _ (T191.setTop (mkF m 123 #[.val (.int p0), .val (.int p1), .val (.int p2), .val (.int p3), .val (.int p4), .val (.int p5), .val (.ref kk183), .val (.ref kk2), .val (.int la), .val (.int ch186), .val (.int ch187), .val (.int ch188), .val (.int lb), .val (.int pert), .unset, .unset, .unset, .unset, .unset, .unset, .unset, .unset] [(.int (ch186 ^^^ mm14))]))
  refine P191.xs (fun hA hx hy t k => XS.i2c hA hx rfl (hb hy at_123) rfl k) ?_
  show Go p e below _ (T191.setTop (mkF m 124 #[.val (.int p0), .val (.int p1), .val (.int p2), .val (.int p3), .val (.int p4), .val (.int p5), .val (.ref kk183), .val (.ref kk2), .val (.int la), .val (.int ch186), .val (.int ch187), .val (.int ch188), .val (.int lb), .val (.int pert), .unset, .unset, .unset, .unset, .unset, .unset, .unset, .unset] [(.int ((ch186 ^^^ mm14).toUInt32.toUInt16.toUInt32.toInt32))]))
  generalize hdd14 : ((ch186 ^^^ mm14).toUInt32.toUInt16.toUInt32.toInt32) = dd14
  obtain ⟨ldd14, ndd14⟩ := xorChr lch186 lmm14 hdd14
  show Go p e below _ (T191.setTop (mkF m 124 #[.val (.int p0), .val (.int p1), .val (.int p2), .val (.int p3), .val (.int p4), .val (.int p5), .val (.ref kk183), .val (.ref kk2), .val (.int la), .val (.int ch186), .val (.int ch187), .val (.int ch188), .val (.int lb), .val (.int pert), .unset, .unset, .unset, .unset, .unset, .unset, .unset, .unset] [(.int dd14)]))
  refine P191.xs (fun hA hx hy t k => XS.istore hA hx rfl (hb hy at_124) rfl (l' := #[.val (.int p0), .val (.int p1), .val (.int p2), .val (.int p3), .val (.int p4), .val (.int p5), .val (.ref kk183), .val (.ref kk2), .val (.int la), .val (.int ch186), .val (.int ch187), .val (.int ch188), .val (.int lb), .val (.int pert), .val (.int dd14), .unset, .unset, .unset, .unset, .unset, .unset, .unset]) rfl k) ?_
  show Go p e below _ (T191.setTop (mkF m 126 #[.val (.int p0), .val (.int p1), .val (.int p2), .val (.int p3), .val (.int p4), .val (.int p5), .val (.ref kk183), .val (.ref kk2), .val (.int la), .val (.int ch186), .val (.int ch187), .val (.int ch188), .val (.int lb), .val (.int pert), .val (.int dd14), .unset, .unset, .unset, .unset, .unset, .unset, .unset] []))
  refine P191.xs (fun hA hx hy t k => XS.iload hA hx rfl (hb hy at_126) rfl  k) ?_
  show Go p e below _ (T191.setTop (mkF m 128 #[.val (.int p0), .val (.int p1), .val (.int p2), .val (.int p3), .val (.int p4), .val (.int p5), .val (.ref kk183), .val (.ref kk2), .val (.int la), .val (.int ch186), .val (.int ch187), .val (.int ch188), .val (.int lb), .val (.int pert), .val (.int dd14), .unset, .unset, .unset, .unset, .unset, .unset, .unset] [(.int ch187)]))
  refine P191.xs (fun hA hx hy t k => XS.iload hA hx rfl (hb hy at_128) rfl  k) ?_
  show Go p e below _ (T191.setTop (mkF m 130 #[.val (.int p0), .val (.int p1), .val (.int p2), .val (.int p3), .val (.int p4), .val (.int p5), .val (.ref kk183), .val (.ref kk2), .val (.int la), .val (.int ch186), .val (.int ch187), .val (.int ch188), .val (.int lb), .val (.int pert), .val (.int dd14), .unset, .unset, .unset, .unset, .unset, .unset, .unset] [(.int pert), (.int ch187)]))
  suffices j15 : ∀ (T192 : State) (h192 : Heap) (mm15 : Int32), (¬ mm15 < 0 ∧ ¬ (255 : Int32) < mm15) → Pos p l e room_1 s m #[(.int p0), (.int p1), (.int p2), (.int p3), (.int p4), (.int p5)] below meth c "com/example/qrew/qrew/dlgp/TokenEqualsPinLaw" "law" code maxLocals ret Z a0 EL0 h0 [] T192 h192 2 38 → Go p e below (Fini Z EL0 h0 [] room_1 (Q_mLaw Z  h0) s) (T192.setTop (mkF m 145 #[.val (.int p0), .val (.int p1), .val (.int p2), .val (.int p3), .val (.int p4), .val (.int p5), .val (.ref kk183), .val (.ref kk2), .val (.int la), .val (.int ch186), .val (.int ch187), .val (.int ch188), .val (.int lb), .val (.int pert), .val (.int dd14), .unset, .unset, .unset, .unset, .unset, .unset, .unset] [(.int mm15), (.int ch187)])) by
    by_cases hk : pert = 0
    · refine P191.xs (fun hA hx hy t k => XS.ifYes hA hx rfl (pc0 := 130) (pc' := 144) rfl (hb hy at_130) rfl ((if0 _ _).trans (teq hk).1) (by decide) (by decide) k) ?_
      show Go p e below _ (T191.setTop (mkF m 144 #[.val (.int p0), .val (.int p1), .val (.int p2), .val (.int p3), .val (.int p4), .val (.int p5), .val (.ref kk183), .val (.ref kk2), .val (.int la), .val (.int ch186), .val (.int ch187), .val (.int ch188), .val (.int lb), .val (.int pert), .val (.int dd14), .unset, .unset, .unset, .unset, .unset, .unset, .unset] [(.int ch187)]))
      refine P191.xs (fun hA hx hy t k => XS.iconst hA hx rfl (hb hy at_144) k) ?_
      show Go p e below _ (T191.setTop (mkF m 145 #[.val (.int p0), .val (.int p1), .val (.int p2), .val (.int p3), .val (.int p4), .val (.int p5), .val (.ref kk183), .val (.ref kk2), .val (.int la), .val (.int ch186), .val (.int ch187), .val (.int ch188), .val (.int lb), .val (.int pert), .val (.int dd14), .unset, .unset, .unset, .unset, .unset, .unset, .unset] [(.int (0 : Int32)), (.int ch187)]))
      exact j15 _ _ _ (by decide) (P191.wider (by decide) (by decide)) 
    · refine P191.xs (fun hA hx hy t k => XS.ifNo hA hx rfl (hb hy at_130) rfl ((if0 _ _).trans (feq hk).1) k) ?_
      show Go p e below _ (T191.setTop (mkF m 133 #[.val (.int p0), .val (.int p1), .val (.int p2), .val (.int p3), .val (.int p4), .val (.int p5), .val (.ref kk183), .val (.ref kk2), .val (.int la), .val (.int ch186), .val (.int ch187), .val (.int ch188), .val (.int lb), .val (.int pert), .val (.int dd14), .unset, .unset, .unset, .unset, .unset, .unset, .unset] [(.int ch187)]))
      refine P191.xs (fun hA hx hy t k => XS.iloadN hA hx rfl (hb hy at_133) rfl  k) ?_
      show Go p e below _ (T191.setTop (mkF m 134 #[.val (.int p0), .val (.int p1), .val (.int p2), .val (.int p3), .val (.int p4), .val (.int p5), .val (.ref kk183), .val (.ref kk2), .val (.int la), .val (.int ch186), .val (.int ch187), .val (.int ch188), .val (.int lb), .val (.int pert), .val (.int dd14), .unset, .unset, .unset, .unset, .unset, .unset, .unset] [(.int p3), (.int ch187)]))
      refine P191.xs (fun hA hx hy t k => XS.bipush hA hx rfl (hb hy at_134) k) ?_
      show Go p e below _ (T191.setTop (mkF m 136 #[.val (.int p0), .val (.int p1), .val (.int p2), .val (.int p3), .val (.int p4), .val (.int p5), .val (.ref kk183), .val (.ref kk2), .val (.int la), .val (.int ch186), .val (.int ch187), .val (.int ch188), .val (.int lb), .val (.int pert), .val (.int dd14), .unset, .unset, .unset, .unset, .unset, .unset, .unset] [(.int (16 : Int32)), (.int p3), (.int ch187)]))
      refine P191.xs (fun hA hx hy t k => XS.iushr hA hx rfl (hb hy at_136) rfl k) ?_
      show Go p e below _ (T191.setTop (mkF m 137 #[.val (.int p0), .val (.int p1), .val (.int p2), .val (.int p3), .val (.int p4), .val (.int p5), .val (.ref kk183), .val (.ref kk2), .val (.int la), .val (.int ch186), .val (.int ch187), .val (.int ch188), .val (.int lb), .val (.int pert), .val (.int dd14), .unset, .unset, .unset, .unset, .unset, .unset, .unset] [(.int ((p3.toUInt32 >>> ((16 : Int32) &&& 31).toUInt32).toInt32)), (.int ch187)]))
      refine P191.xs (fun hA hx hy t k => XS.sipush hA hx rfl (hb hy at_137) k) ?_
      show Go p e below _ (T191.setTop (mkF m 140 #[.val (.int p0), .val (.int p1), .val (.int p2), .val (.int p3), .val (.int p4), .val (.int p5), .val (.ref kk183), .val (.ref kk2), .val (.int la), .val (.int ch186), .val (.int ch187), .val (.int ch188), .val (.int lb), .val (.int pert), .val (.int dd14), .unset, .unset, .unset, .unset, .unset, .unset, .unset] [(.int (255 : Int32)), (.int ((p3.toUInt32 >>> ((16 : Int32) &&& 31).toUInt32).toInt32)), (.int ch187)]))
      refine P191.xs (fun hA hx hy t k => XS.iand hA hx rfl (hb hy at_140) rfl k) ?_
      show Go p e below _ (T191.setTop (mkF m 141 #[.val (.int p0), .val (.int p1), .val (.int p2), .val (.int p3), .val (.int p4), .val (.int p5), .val (.ref kk183), .val (.ref kk2), .val (.int la), .val (.int ch186), .val (.int ch187), .val (.int ch188), .val (.int lb), .val (.int pert), .val (.int dd14), .unset, .unset, .unset, .unset, .unset, .unset, .unset] [(.int (((p3.toUInt32 >>> ((16 : Int32) &&& 31).toUInt32).toInt32) &&& (255 : Int32))), (.int ch187)]))
      refine P191.xs (fun hA hx hy t k => XS.goto hA hx rfl (pc0 := 141) (pc' := 145) rfl (hb hy at_141) (by decide) (by decide) k) ?_
      show Go p e below _ (T191.setTop (mkF m 145 #[.val (.int p0), .val (.int p1), .val (.int p2), .val (.int p3), .val (.int p4), .val (.int p5), .val (.ref kk183), .val (.ref kk2), .val (.int la), .val (.int ch186), .val (.int ch187), .val (.int ch188), .val (.int lb), .val (.int pert), .val (.int dd14), .unset, .unset, .unset, .unset, .unset, .unset, .unset] [(.int (((p3.toUInt32 >>> ((16 : Int32) &&& 31).toUInt32).toInt32) &&& (255 : Int32))), (.int ch187)]))
      exact j15 _ _ _ (lat255 _) (P191.wider (by decide) (by decide)) 
  intro T192 h192 mm15 lmm15 P192 
  show Go p e below _ (T192.setTop (mkF m 145 #[.val (.int p0), .val (.int p1), .val (.int p2), .val (.int p3), .val (.int p4), .val (.int p5), .val (.ref kk183), .val (.ref kk2), .val (.int la), .val (.int ch186), .val (.int ch187), .val (.int ch188), .val (.int lb), .val (.int pert), .val (.int dd14), .unset, .unset, .unset, .unset, .unset, .unset, .unset] [(.int mm15), (.int ch187)]))
  refine P192.xs (fun hA hx hy t k => XS.ixor hA hx rfl (hb hy at_145) rfl k) ?_
  show Go p e below _ (T192.setTop (mkF m 146 #[.val (.int p0), .val (.int p1), .val (.int p2), .val (.int p3), .val (.int p4), .val (.int p5), .val (.ref kk183), .val (.ref kk2), .val (.int la), .val (.int ch186), .val (.int ch187), .val (.int ch188), .val (.int lb), .val (.int pert), .val (.int dd14), .unset, .unset, .unset, .unset, .unset, .unset, .unset] [(.int (ch187 ^^^ mm15))]))
  refine P192.xs (fun hA hx hy t k => XS.i2c hA hx rfl (hb hy at_146) rfl k) ?_
  show Go p e below _ (T192.setTop (mkF m 147 #[.val (.int p0), .val (.int p1), .val (.int p2), .val (.int p3), .val (.int p4), .val (.int p5), .val (.ref kk183), .val (.ref kk2), .val (.int la), .val (.int ch186), .val (.int ch187), .val (.int ch188), .val (.int lb), .val (.int pert), .val (.int dd14), .unset, .unset, .unset, .unset, .unset, .unset, .unset] [(.int ((ch187 ^^^ mm15).toUInt32.toUInt16.toUInt32.toInt32))]))
  generalize hdd15 : ((ch187 ^^^ mm15).toUInt32.toUInt16.toUInt32.toInt32) = dd15
  obtain ⟨ldd15, ndd15⟩ := xorChr lch187 lmm15 hdd15
  show Go p e below _ (T192.setTop (mkF m 147 #[.val (.int p0), .val (.int p1), .val (.int p2), .val (.int p3), .val (.int p4), .val (.int p5), .val (.ref kk183), .val (.ref kk2), .val (.int la), .val (.int ch186), .val (.int ch187), .val (.int ch188), .val (.int lb), .val (.int pert), .val (.int dd14), .unset, .unset, .unset, .unset, .unset, .unset, .unset] [(.int dd15)]))
  refine P192.xs (fun hA hx hy t k => XS.istore hA hx rfl (hb hy at_147) rfl (l' := #[.val (.int p0), .val (.int p1), .val (.int p2), .val (.int p3), .val (.int p4), .val (.int p5), .val (.ref kk183), .val (.ref kk2), .val (.int la), .val (.int ch186), .val (.int ch187), .val (.int ch188), .val (.int lb), .val (.int pert), .val (.int dd14), .val (.int dd15), .unset, .unset, .unset, .unset, .unset, .unset]) rfl k) ?_
  show Go p e below _ (T192.setTop (mkF m 149 #[.val (.int p0), .val (.int p1), .val (.int p2), .val (.int p3), .val (.int p4), .val (.int p5), .val (.ref kk183), .val (.ref kk2), .val (.int la), .val (.int ch186), .val (.int ch187), .val (.int ch188), .val (.int lb), .val (.int pert), .val (.int dd14), .val (.int dd15), .unset, .unset, .unset, .unset, .unset, .unset] []))
  refine P192.xs (fun hA hx hy t k => XS.iload hA hx rfl (hb hy at_149) rfl  k) ?_
  show Go p e below _ (T192.setTop (mkF m 151 #[.val (.int p0), .val (.int p1), .val (.int p2), .val (.int p3), .val (.int p4), .val (.int p5), .val (.ref kk183), .val (.ref kk2), .val (.int la), .val (.int ch186), .val (.int ch187), .val (.int ch188), .val (.int lb), .val (.int pert), .val (.int dd14), .val (.int dd15), .unset, .unset, .unset, .unset, .unset, .unset] [(.int ch188)]))
  refine P192.xs (fun hA hx hy t k => XS.iload hA hx rfl (hb hy at_151) rfl  k) ?_
  show Go p e below _ (T192.setTop (mkF m 153 #[.val (.int p0), .val (.int p1), .val (.int p2), .val (.int p3), .val (.int p4), .val (.int p5), .val (.ref kk183), .val (.ref kk2), .val (.int la), .val (.int ch186), .val (.int ch187), .val (.int ch188), .val (.int lb), .val (.int pert), .val (.int dd14), .val (.int dd15), .unset, .unset, .unset, .unset, .unset, .unset] [(.int pert), (.int ch188)]))
  suffices j16 : ∀ (T193 : State) (h193 : Heap) (mm16 : Int32), (¬ mm16 < 0 ∧ ¬ (255 : Int32) < mm16) → Pos p l e room_1 s m #[(.int p0), (.int p1), (.int p2), (.int p3), (.int p4), (.int p5)] below meth c "com/example/qrew/qrew/dlgp/TokenEqualsPinLaw" "law" code maxLocals ret Z a0 EL0 h0 [] T193 h193 2 38 → Go p e below (Fini Z EL0 h0 [] room_1 (Q_mLaw Z  h0) s) (T193.setTop (mkF m 168 #[.val (.int p0), .val (.int p1), .val (.int p2), .val (.int p3), .val (.int p4), .val (.int p5), .val (.ref kk183), .val (.ref kk2), .val (.int la), .val (.int ch186), .val (.int ch187), .val (.int ch188), .val (.int lb), .val (.int pert), .val (.int dd14), .val (.int dd15), .unset, .unset, .unset, .unset, .unset, .unset] [(.int mm16), (.int ch188)])) by
    by_cases hk : pert = 0
    · refine P192.xs (fun hA hx hy t k => XS.ifYes hA hx rfl (pc0 := 153) (pc' := 167) rfl (hb hy at_153) rfl ((if0 _ _).trans (teq hk).1) (by decide) (by decide) k) ?_
      show Go p e below _ (T192.setTop (mkF m 167 #[.val (.int p0), .val (.int p1), .val (.int p2), .val (.int p3), .val (.int p4), .val (.int p5), .val (.ref kk183), .val (.ref kk2), .val (.int la), .val (.int ch186), .val (.int ch187), .val (.int ch188), .val (.int lb), .val (.int pert), .val (.int dd14), .val (.int dd15), .unset, .unset, .unset, .unset, .unset, .unset] [(.int ch188)]))
      refine P192.xs (fun hA hx hy t k => XS.iconst hA hx rfl (hb hy at_167) k) ?_
      show Go p e below _ (T192.setTop (mkF m 168 #[.val (.int p0), .val (.int p1), .val (.int p2), .val (.int p3), .val (.int p4), .val (.int p5), .val (.ref kk183), .val (.ref kk2), .val (.int la), .val (.int ch186), .val (.int ch187), .val (.int ch188), .val (.int lb), .val (.int pert), .val (.int dd14), .val (.int dd15), .unset, .unset, .unset, .unset, .unset, .unset] [(.int (0 : Int32)), (.int ch188)]))
      exact j16 _ _ _ (by decide) (P192.wider (by decide) (by decide)) 
    · refine P192.xs (fun hA hx hy t k => XS.ifNo hA hx rfl (hb hy at_153) rfl ((if0 _ _).trans (feq hk).1) k) ?_
      show Go p e below _ (T192.setTop (mkF m 156 #[.val (.int p0), .val (.int p1), .val (.int p2), .val (.int p3), .val (.int p4), .val (.int p5), .val (.ref kk183), .val (.ref kk2), .val (.int la), .val (.int ch186), .val (.int ch187), .val (.int ch188), .val (.int lb), .val (.int pert), .val (.int dd14), .val (.int dd15), .unset, .unset, .unset, .unset, .unset, .unset] [(.int ch188)]))
      refine P192.xs (fun hA hx hy t k => XS.iloadN hA hx rfl (hb hy at_156) rfl  k) ?_
      show Go p e below _ (T192.setTop (mkF m 157 #[.val (.int p0), .val (.int p1), .val (.int p2), .val (.int p3), .val (.int p4), .val (.int p5), .val (.ref kk183), .val (.ref kk2), .val (.int la), .val (.int ch186), .val (.int ch187), .val (.int ch188), .val (.int lb), .val (.int pert), .val (.int dd14), .val (.int dd15), .unset, .unset, .unset, .unset, .unset, .unset] [(.int p3), (.int ch188)]))
      refine P192.xs (fun hA hx hy t k => XS.bipush hA hx rfl (hb hy at_157) k) ?_
      show Go p e below _ (T192.setTop (mkF m 159 #[.val (.int p0), .val (.int p1), .val (.int p2), .val (.int p3), .val (.int p4), .val (.int p5), .val (.ref kk183), .val (.ref kk2), .val (.int la), .val (.int ch186), .val (.int ch187), .val (.int ch188), .val (.int lb), .val (.int pert), .val (.int dd14), .val (.int dd15), .unset, .unset, .unset, .unset, .unset, .unset] [(.int (24 : Int32)), (.int p3), (.int ch188)]))
      refine P192.xs (fun hA hx hy t k => XS.iushr hA hx rfl (hb hy at_159) rfl k) ?_
      show Go p e below _ (T192.setTop (mkF m 160 #[.val (.int p0), .val (.int p1), .val (.int p2), .val (.int p3), .val (.int p4), .val (.int p5), .val (.ref kk183), .val (.ref kk2), .val (.int la), .val (.int ch186), .val (.int ch187), .val (.int ch188), .val (.int lb), .val (.int pert), .val (.int dd14), .val (.int dd15), .unset, .unset, .unset, .unset, .unset, .unset] [(.int ((p3.toUInt32 >>> ((24 : Int32) &&& 31).toUInt32).toInt32)), (.int ch188)]))
      refine P192.xs (fun hA hx hy t k => XS.sipush hA hx rfl (hb hy at_160) k) ?_
      show Go p e below _ (T192.setTop (mkF m 163 #[.val (.int p0), .val (.int p1), .val (.int p2), .val (.int p3), .val (.int p4), .val (.int p5), .val (.ref kk183), .val (.ref kk2), .val (.int la), .val (.int ch186), .val (.int ch187), .val (.int ch188), .val (.int lb), .val (.int pert), .val (.int dd14), .val (.int dd15), .unset, .unset, .unset, .unset, .unset, .unset] [(.int (255 : Int32)), (.int ((p3.toUInt32 >>> ((24 : Int32) &&& 31).toUInt32).toInt32)), (.int ch188)]))
      refine P192.xs (fun hA hx hy t k => XS.iand hA hx rfl (hb hy at_163) rfl k) ?_
      show Go p e below _ (T192.setTop (mkF m 164 #[.val (.int p0), .val (.int p1), .val (.int p2), .val (.int p3), .val (.int p4), .val (.int p5), .val (.ref kk183), .val (.ref kk2), .val (.int la), .val (.int ch186), .val (.int ch187), .val (.int ch188), .val (.int lb), .val (.int pert), .val (.int dd14), .val (.int dd15), .unset, .unset, .unset, .unset, .unset, .unset] [(.int (((p3.toUInt32 >>> ((24 : Int32) &&& 31).toUInt32).toInt32) &&& (255 : Int32))), (.int ch188)]))
      refine P192.xs (fun hA hx hy t k => XS.goto hA hx rfl (pc0 := 164) (pc' := 168) rfl (hb hy at_164) (by decide) (by decide) k) ?_
      show Go p e below _ (T192.setTop (mkF m 168 #[.val (.int p0), .val (.int p1), .val (.int p2), .val (.int p3), .val (.int p4), .val (.int p5), .val (.ref kk183), .val (.ref kk2), .val (.int la), .val (.int ch186), .val (.int ch187), .val (.int ch188), .val (.int lb), .val (.int pert), .val (.int dd14), .val (.int dd15), .unset, .unset, .unset, .unset, .unset, .unset] [(.int (((p3.toUInt32 >>> ((24 : Int32) &&& 31).toUInt32).toInt32) &&& (255 : Int32))), (.int ch188)]))
      exact j16 _ _ _ (lat255 _) (P192.wider (by decide) (by decide)) 
  intro T193 h193 mm16 lmm16 P193 
  show Go p e below _ (T193.setTop (mkF m 168 #[.val (.int p0), .val (.int p1), .val (.int p2), .val (.int p3), .val (.int p4), .val (.int p5), .val (.ref kk183), .val (.ref kk2), .val (.int la), .val (.int ch186), .val (.int ch187), .val (.int ch188), .val (.int lb), .val (.int pert), .val (.int dd14), .val (.int dd15), .unset, .unset, .unset, .unset, .unset, .unset] [(.int mm16), (.int ch188)]))
  refine P193.xs (fun hA hx hy t k => XS.ixor hA hx rfl (hb hy at_168) rfl k) ?_
  show Go p e below _ (T193.setTop (mkF m 169 #[.val (.int p0), .val (.int p1), .val (.int p2), .val (.int p3), .val (.int p4), .val (.int p5), .val (.ref kk183), .val (.ref kk2), .val (.int la), .val (.int ch186), .val (.int ch187), .val (.int ch188), .val (.int lb), .val (.int pert), .val (.int dd14), .val (.int dd15), .unset, .unset, .unset, .unset, .unset, .unset] [(.int (ch188 ^^^ mm16))]))
  refine P193.xs (fun hA hx hy t k => XS.i2c hA hx rfl (hb hy at_169) rfl k) ?_
  show Go p e below _ (T193.setTop (mkF m 170 #[.val (.int p0), .val (.int p1), .val (.int p2), .val (.int p3), .val (.int p4), .val (.int p5), .val (.ref kk183), .val (.ref kk2), .val (.int la), .val (.int ch186), .val (.int ch187), .val (.int ch188), .val (.int lb), .val (.int pert), .val (.int dd14), .val (.int dd15), .unset, .unset, .unset, .unset, .unset, .unset] [(.int ((ch188 ^^^ mm16).toUInt32.toUInt16.toUInt32.toInt32))]))
  generalize hdd16 : ((ch188 ^^^ mm16).toUInt32.toUInt16.toUInt32.toInt32) = dd16
  obtain ⟨ldd16, ndd16⟩ := xorChr lch188 lmm16 hdd16
  show Go p e below _ (T193.setTop (mkF m 170 #[.val (.int p0), .val (.int p1), .val (.int p2), .val (.int p3), .val (.int p4), .val (.int p5), .val (.ref kk183), .val (.ref kk2), .val (.int la), .val (.int ch186), .val (.int ch187), .val (.int ch188), .val (.int lb), .val (.int pert), .val (.int dd14), .val (.int dd15), .unset, .unset, .unset, .unset, .unset, .unset] [(.int dd16)]))
  refine P193.xs (fun hA hx hy t k => XS.istore hA hx rfl (hb hy at_170) rfl (l' := #[.val (.int p0), .val (.int p1), .val (.int p2), .val (.int p3), .val (.int p4), .val (.int p5), .val (.ref kk183), .val (.ref kk2), .val (.int la), .val (.int ch186), .val (.int ch187), .val (.int ch188), .val (.int lb), .val (.int pert), .val (.int dd14), .val (.int dd15), .val (.int dd16), .unset, .unset, .unset, .unset, .unset]) rfl k) ?_
  show Go p e below _ (T193.setTop (mkF m 172 #[.val (.int p0), .val (.int p1), .val (.int p2), .val (.int p3), .val (.int p4), .val (.int p5), .val (.ref kk183), .val (.ref kk2), .val (.int la), .val (.int ch186), .val (.int ch187), .val (.int ch188), .val (.int lb), .val (.int pert), .val (.int dd14), .val (.int dd15), .val (.int dd16), .unset, .unset, .unset, .unset, .unset] []))
  refine P193.xs (fun hA hx hy t k => XS.iloadN hA hx rfl (hb hy at_172) rfl  k) ?_
  show Go p e below _ (T193.setTop (mkF m 173 #[.val (.int p0), .val (.int p1), .val (.int p2), .val (.int p3), .val (.int p4), .val (.int p5), .val (.ref kk183), .val (.ref kk2), .val (.int la), .val (.int ch186), .val (.int ch187), .val (.int ch188), .val (.int lb), .val (.int pert), .val (.int dd14), .val (.int dd15), .val (.int dd16), .unset, .unset, .unset, .unset, .unset] [(.int p1)]))
  refine P193.xs (fun hA hx hy t k => XS.iconst hA hx rfl (hb hy at_173) k) ?_
  show Go p e below _ (T193.setTop (mkF m 174 #[.val (.int p0), .val (.int p1), .val (.int p2), .val (.int p3), .val (.int p4), .val (.int p5), .val (.ref kk183), .val (.ref kk2), .val (.int la), .val (.int ch186), .val (.int ch187), .val (.int ch188), .val (.int lb), .val (.int pert), .val (.int dd14), .val (.int dd15), .val (.int dd16), .unset, .unset, .unset, .unset, .unset] [(.int (2 : Int32)), (.int p1)]))
  refine P193.xs (fun hA hx hy t k => XS.iand hA hx rfl (hb hy at_174) rfl k) ?_
  show Go p e below _ (T193.setTop (mkF m 175 #[.val (.int p0), .val (.int p1), .val (.int p2), .val (.int p3), .val (.int p4), .val (.int p5), .val (.ref kk183), .val (.ref kk2), .val (.int la), .val (.int ch186), .val (.int ch187), .val (.int ch188), .val (.int lb), .val (.int pert), .val (.int dd14), .val (.int dd15), .val (.int dd16), .unset, .unset, .unset, .unset, .unset] [(.int (p1 &&& (2 : Int32)))]))
  suffices j5 : ∀ (T194 : State) (h194 : Heap) (lnb : Int32), Pos p l e room_1 s m #[(.int p0), (.int p1), (.int p2), (.int p3), (.int p4), (.int p5)] below meth c "com/example/qrew/qrew/dlgp/TokenEqualsPinLaw" "law" code maxLocals ret Z a0 EL0 h0 [] T194 h194 2 38 → Go p e below (Fini Z EL0 h0 [] room_1 (Q_mLaw Z  h0) s) (T194.setTop (mkF m 185 #[.val (.int p0), .val (.int p1), .val (.int p2), .val (.int p3), .val (.int p4), .val (.int p5), .val (.ref kk183), .val (.ref kk2), .val (.int la), .val (.int ch186), .val (.int ch187), .val (.int ch188), .val (.int lb), .val (.int pert), .val (.int dd14), .val (.int dd15), .val (.int dd16), .unset, .unset, .unset, .unset, .unset] [(.int lnb)])) by
    by_cases hk : (p1 &&& (2 : Int32)) = 0
    · refine P193.xs (fun hA hx hy t k => XS.ifNo hA hx rfl (hb hy at_175) rfl ((if0 _ _).trans (teq hk).2) k) ?_
      show Go p e below _ (T193.setTop (mkF m 178 #[.val (.int p0), .val (.int p1), .val (.int p2), .val (.int p3), .val (.int p4), .val (.int p5), .val (.ref kk183), .val (.ref kk2), .val (.int la), .val (.int ch186), .val (.int ch187), .val (.int ch188), .val (.int lb), .val (.int pert), .val (.int dd14), .val (.int dd15), .val (.int dd16), .unset, .unset, .unset, .unset, .unset] []))
      refine P193.xs (fun hA hx hy t k => XS.iload hA hx rfl (hb hy at_178) rfl  k) ?_
      show Go p e below _ (T193.setTop (mkF m 180 #[.val (.int p0), .val (.int p1), .val (.int p2), .val (.int p3), .val (.int p4), .val (.int p5), .val (.ref kk183), .val (.ref kk2), .val (.int la), .val (.int ch186), .val (.int ch187), .val (.int ch188), .val (.int lb), .val (.int pert), .val (.int dd14), .val (.int dd15), .val (.int dd16), .unset, .unset, .unset, .unset, .unset] [(.int p4)]))
      refine P193.xs (fun hA hx hy t k => XS.goto hA hx rfl (pc0 := 180) (pc' := 185) rfl (hb hy at_180) (by decide) (by decide) k) ?_
      show Go p e below _ (T193.setTop (mkF m 185 #[.val (.int p0), .val (.int p1), .val (.int p2), .val (.int p3), .val (.int p4), .val (.int p5), .val (.ref kk183), .val (.ref kk2), .val (.int la), .val (.int ch186), .val (.int ch187), .val (.int ch188), .val (.int lb), .val (.int pert), .val (.int dd14), .val (.int dd15), .val (.int dd16), .unset, .unset, .unset, .unset, .unset] [(.int p4)]))
      exact j5 _ _ _  (P193.wider (by decide) (by decide)) 
    · refine P193.xs (fun hA hx hy t k => XS.ifYes hA hx rfl (pc0 := 175) (pc' := 183) rfl (hb hy at_175) rfl ((if0 _ _).trans (feq hk).2) (by decide) (by decide) k) ?_
      show Go p e below _ (T193.setTop (mkF m 183 #[.val (.int p0), .val (.int p1), .val (.int p2), .val (.int p3), .val (.int p4), .val (.int p5), .val (.ref kk183), .val (.ref kk2), .val (.int la), .val (.int ch186), .val (.int ch187), .val (.int ch188), .val (.int lb), .val (.int pert), .val (.int dd14), .val (.int dd15), .val (.int dd16), .unset, .unset, .unset, .unset, .unset] []))
      refine P193.xs (fun hA hx hy t k => XS.iload hA hx rfl (hb hy at_183) rfl  k) ?_
      show Go p e below _ (T193.setTop (mkF m 185 #[.val (.int p0), .val (.int p1), .val (.int p2), .val (.int p3), .val (.int p4), .val (.int p5), .val (.ref kk183), .val (.ref kk2), .val (.int la), .val (.int ch186), .val (.int ch187), .val (.int ch188), .val (.int lb), .val (.int pert), .val (.int dd14), .val (.int dd15), .val (.int dd16), .unset, .unset, .unset, .unset, .unset] [(.int p5)]))
      exact j5 _ _ _  (P193.wider (by decide) (by decide)) 
  intro T194 h194 lnb  P194 
  show Go p e below _ (T194.setTop (mkF m 185 #[.val (.int p0), .val (.int p1), .val (.int p2), .val (.int p3), .val (.int p4), .val (.int p5), .val (.ref kk183), .val (.ref kk2), .val (.int la), .val (.int ch186), .val (.int ch187), .val (.int ch188), .val (.int lb), .val (.int pert), .val (.int dd14), .val (.int dd15), .val (.int dd16), .unset, .unset, .unset, .unset, .unset] [(.int lnb)]))
  refine P194.xs (fun hA hx hy t k => XS.istore hA hx rfl (hb hy at_185) rfl (l' := #[.val (.int p0), .val (.int p1), .val (.int p2), .val (.int p3), .val (.int p4), .val (.int p5), .val (.ref kk183), .val (.ref kk2), .val (.int la), .val (.int ch186), .val (.int ch187), .val (.int ch188), .val (.int lb), .val (.int pert), .val (.int dd14), .val (.int dd15), .val (.int dd16), .val (.int lnb), .unset, .unset, .unset, .unset]) rfl k) ?_
  show Go p e below _ (T194.setTop (mkF m 187 #[.val (.int p0), .val (.int p1), .val (.int p2), .val (.int p3), .val (.int p4), .val (.int p5), .val (.ref kk183), .val (.ref kk2), .val (.int la), .val (.int ch186), .val (.int ch187), .val (.int ch188), .val (.int lb), .val (.int pert), .val (.int dd14), .val (.int dd15), .val (.int dd16), .val (.int lnb), .unset, .unset, .unset, .unset] []))
  refine P194.newO (hw _ (List.mem_of_getElem? (i := 47) rfl)) (hw _ (List.mem_of_getElem? (i := 48) rfl)) (hw _ (List.mem_of_getElem? (i := 49) rfl)) at_187 (by decide) (by decide) fun T195 h195 o195 g195 P195 E195 A195 D195 => ?_
  have gz_o195 : Z.heap.size ≤ o195 := Nat.le_trans P194.old.1 (Nat.le_of_eq g195.symm)
  have gw_o195 : h0.size ≤ o195 := Nat.le_trans P194.kept.1 (Nat.le_of_eq g195.symm)
  have F195_kind : Fld Z h195 o195 "com/example/qrew/qrew/dlgp/Token" "kind" "Lcom/example/qrew/qrew/dlgp/TokenKind;" .null := D195 (Or.inr (hw _ (List.mem_of_getElem? (i := 96) rfl))) (ty := (.object "com/example/qrew/qrew/dlgp/TokenKind")) (by decide)
  have F195_text : Fld Z h195 o195 "com/example/qrew/qrew/dlgp/Token" "text" "Ljava/lang/String;" .null := D195 (Or.inr (hw _ (List.mem_of_getElem? (i := 100) rfl))) (ty := (.object "java/lang/String")) (by decide)
  have F195_line : Fld Z h195 o195 "com/example/qrew/qrew/dlgp/Token" "line" "I" (.int (0 : Int32)) := D195 (Or.inr (hw _ (List.mem_of_getElem? (i := 102) rfl))) (ty := .int) (by decide)
  show Go p e below _ (T195.setTop (mkF m 190 #[.val (.int p0), .val (.int p1), .val (.int p2), .val (.int p3), .val (.int p4), .val (.int p5), .val (.ref kk183), .val (.ref kk2), .val (.int la), .val (.int ch186), .val (.int ch187), .val (.int ch188), .val (.int lb), .val (.int pert), .val (.int dd14), .val (.int dd15), .val (.int dd16), .val (.int lnb), .unset, .unset, .unset, .unset] [(.ref o195)]))
  refine P195.xs (fun hA hx hy t k => XS.dup hA hx rfl (hb hy at_190) rfl rfl k) ?_
  show Go p e below _ (T195.setTop (mkF m 191 #[.val (.int p0), .val (.int p1), .val (.int p2), .val (.int p3), .val (.int p4), .val (.int p5), .val (.ref kk183), .val (.ref kk2), .val (.int la), .val (.int ch186), .val (.int ch187), .val (.int ch188), .val (.int lb), .val (.int pert), .val (.int dd14), .val (.int dd15), .val (.int dd16), .val (.int lnb), .unset, .unset, .unset, .unset] [(.ref o195), (.ref o195)]))
  refine P195.xs (fun hA hx hy t k => XS.aload hA hx rfl (hb hy at_191) rfl rfl  k) ?_
  show Go p e below _ (T195.setTop (mkF m 193 #[.val (.int p0), .val (.int p1), .val (.int p2), .val (.int p3), .val (.int p4), .val (.int p5), .val (.ref kk183), .val (.ref kk2), .val (.int la), .val (.int ch186), .val (.int ch187), .val (.int ch188), .val (.int lb), .val (.int pert), .val (.int dd14), .val (.int dd15), .val (.int dd16), .val (.int lnb), .unset, .unset, .unset, .unset] [(.ref kk183), (.ref o195), (.ref o195)]))
  refine P195.xs (fun hA hx hy t k => XS.iload hA hx rfl (hb hy at_193) rfl  k) ?_
  show Go p e below _ (T195.setTop (mkF m 195 #[.val (.int p0), .val (.int p1), .val (.int p2), .val (.int p3), .val (.int p4), .val (.int p5), .val (.ref kk183), .val (.ref kk2), .val (.int la), .val (.int ch186), .val (.int ch187), .val (.int ch188), .val (.int lb), .val (.int pert), .val (.int dd14), .val (.int dd15), .val (.int dd16), .val (.int lnb), .unset, .unset, .unset, .unset] [(.int la), (.ref kk183), (.ref o195), (.ref o195)]))
  refine P195.xs (fun hA hx hy t k => XS.iload hA hx rfl (hb hy at_195) rfl  k) ?_
  show Go p e below _ (T195.setTop (mkF m 197 #[.val (.int p0), .val (.int p1), .val (.int p2), .val (.int p3), .val (.int p4), .val (.int p5), .val (.ref kk183), .val (.ref kk2), .val (.int la), .val (.int ch186), .val (.int ch187), .val (.int ch188), .val (.int lb), .val (.int pert), .val (.int dd14), .val (.int dd15), .val (.int dd16), .val (.int lnb), .unset, .unset, .unset, .unset] [(.int ch186), (.int la), (.ref kk183), (.ref o195), (.ref o195)]))
  refine P195.xs (fun hA hx hy t k => XS.iload hA hx rfl (hb hy at_197) rfl  k) ?_
  show Go p e below _ (T195.setTop (mkF m 199 #[.val (.int p0), .val (.int p1), .val (.int p2), .val (.int p3), .val (.int p4), .val (.int p5), .val (.ref kk183), .val (.ref kk2), .val (.int la), .val (.int ch186), .val (.int ch187), .val (.int ch188), .val (.int lb), .val (.int pert), .val (.int dd14), .val (.int dd15), .val (.int dd16), .val (.int lnb), .unset, .unset, .unset, .unset] [(.int ch187), (.int ch186), (.int la), (.ref kk183), (.ref o195), (.ref o195)]))
  refine P195.xs (fun hA hx hy t k => XS.iload hA hx rfl (hb hy at_199) rfl  k) ?_
  show Go p e below _ (T195.setTop (mkF m 201 #[.val (.int p0), .val (.int p1), .val (.int p2), .val (.int p3), .val (.int p4), .val (.int p5), .val (.ref kk183), .val (.ref kk2), .val (.int la), .val (.int ch186), .val (.int ch187), .val (.int ch188), .val (.int lb), .val (.int pert), .val (.int dd14), .val (.int dd15), .val (.int dd16), .val (.int lnb), .unset, .unset, .unset, .unset] [(.int ch188), (.int ch187), (.int ch186), (.int la), (.ref kk183), (.ref o195), (.ref o195)]))
  refine P195.callS (hw _ (List.mem_of_getElem? (i := 50) rfl)) (hw _ (List.mem_of_getElem? (i := 51) rfl)) (hw _ (List.mem_of_getElem? (i := 3) rfl)) (hw _ (List.mem_of_getElem? (i := 52) rfl)) (by decide) (mMk l Z a0 hw hEL zc S0 Pz w_IDENTIFIER w_VARIABLE w_IRI w_PREFIXED_NAME w_STRING w_LANGUAGE_TAG w_DATATYPE_MARK w_INTEGER w_LABEL w_DIRECTIVE w_LEFT_PARENTHESIS w_RIGHT_PARENTHESIS w_COMMA w_DOT w_IMPLIES w_QUESTION_MARK w_EXCLAMATION_MARK w_BAR w_END S_IDENTIFIER E_IDENTIFIER S_VARIABLE E_VARIABLE S_IRI E_IRI S_PREFIXED_NAME E_PREFIXED_NAME S_STRING E_STRING S_LANGUAGE_TAG E_LANGUAGE_TAG S_DATATYPE_MARK E_DATATYPE_MARK S_INTEGER E_INTEGER S_LABEL E_LABEL S_DIRECTIVE E_DIRECTIVE S_LEFT_PARENTHESIS E_LEFT_PARENTHESIS S_RIGHT_PARENTHESIS E_RIGHT_PARENTHESIS S_COMMA E_COMMA S_DOT E_DOT S_IMPLIES E_IMPLIES S_QUESTION_MARK E_QUESTION_MARK S_EXCLAMATION_MARK E_EXCLAMATION_MARK S_BAR E_BAR S_END E_END la ch186 ch187 ch188 h195 P195.old lch186 nch186 lch187 nch187 lch188 nch188) (W := 3) (by decide) (by decide) (by decide) (by decide) all0 pd_5 (argsL := [(.int la), (.int ch186), (.int ch187), (.int ch188)]) rfl rfl rfl (Nat.le_of_eq rfl) at_201 fun v196 T196 h196 P196 K196 Q196 => ?_
  obtain ⟨o196, rfl, g196, E196⟩ := Q196
  have ne_o195_o196 : o195 ≠ o196 := Nat.ne_of_lt (Nat.lt_of_lt_of_le A195.lt g196)
  have gz_o196 : Z.heap.size ≤ o196 := Nat.le_trans P195.old.1 g196
  have gw_o196 : h0.size ≤ o196 := Nat.le_trans P195.kept.1 g196
  show Go p e below _ (T196.setTop (mkF m 204 #[.val (.int p0), .val (.int p1), .val (.int p2), .val (.int p3), .val (.int p4), .val (.int p5), .val (.ref kk183), .val (.ref kk2), .val (.int la), .val (.int ch186), .val (.int ch187), .val (.int ch188), .val (.int lb), .val (.int pert), .val (.int dd14), .val (.int dd15), .val (.int dd16), .val (.int lnb), .unset, .unset, .unset, .unset] [(.ref o196), (.ref kk183), (.ref o195), (.ref o195)]))
  refine P196.xs (fun hA hx hy t k => XS.iload hA hx rfl (hb hy at_204) rfl  k) ?_
  show Go p e below _ (T196.setTop (mkF m 206 #[.val (.int p0), .val (.int p1), .val (.int p2), .val (.int p3), .val (.int p4), .val (.int p5), .val (.ref kk183), .val (.ref kk2), .val (.int la), .val (.int ch186), .val (.int ch187), .val (.int ch188), .val (.int lb), .val (.int pert), .val (.int dd14), .val (.int dd15), .val (.int dd16), .val (.int lnb), .unset, .unset, .unset, .unset] [(.int p4), (.ref o196), (.ref kk183), (.ref o195), (.ref o195)]))
  have Ec198 : Exa Z h196 o195 "com/example/qrew/qrew/dlgp/Token" := (A195.keep K196)
  have Ec199 : Exa Z h196 o196 "java/lang/String" := E196.1
  have Fc200 : Fld Z h196 o195 "com/example/qrew/qrew/dlgp/Token" "kind" "Lcom/example/qrew/qrew/dlgp/TokenKind;" .null := (F195_kind.keep K196 nin0)
  have Fc201 : Fld Z h196 o195 "com/example/qrew/qrew/dlgp/Token" "text" "Ljava/lang/String;" .null := (F195_text.keep K196 nin0)
  have Fc202 : Fld Z h196 o195 "com/example/qrew/qrew/dlgp/Token" "line" "I" (.int (0 : Int32)) := (F195_line.keep K196 nin0)
  refine P196.callI rfl (hw _ (List.mem_of_getElem? (i := 83) rfl)) (hw _ (List.mem_of_getElem? (i := 84) rfl)) (hw _ (List.mem_of_getElem? (i := 49) rfl)) (hw _ (List.mem_of_getElem? (i := 85) rfl)) (by decide) (mTok l Z a0 hw hEL zc S0 Pz w_IDENTIFIER w_VARIABLE w_IRI w_PREFIXED_NAME w_STRING w_LANGUAGE_TAG w_DATATYPE_MARK w_INTEGER w_LABEL w_DIRECTIVE w_LEFT_PARENTHESIS w_RIGHT_PARENTHESIS w_COMMA w_DOT w_IMPLIES w_QUESTION_MARK w_EXCLAMATION_MARK w_BAR w_END S_IDENTIFIER E_IDENTIFIER S_VARIABLE E_VARIABLE S_IRI E_IRI S_PREFIXED_NAME E_PREFIXED_NAME S_STRING E_STRING S_LANGUAGE_TAG E_LANGUAGE_TAG S_DATATYPE_MARK E_DATATYPE_MARK S_INTEGER E_INTEGER S_LABEL E_LABEL S_DIRECTIVE E_DIRECTIVE S_LEFT_PARENTHESIS E_LEFT_PARENTHESIS S_RIGHT_PARENTHESIS E_RIGHT_PARENTHESIS S_COMMA E_COMMA S_DOT E_DOT S_IMPLIES E_IMPLIES S_QUESTION_MARK E_QUESTION_MARK S_EXCLAMATION_MARK E_EXCLAMATION_MARK S_BAR E_BAR S_END E_END o195 kk183 o196 p4 h196 P196.old Ec198 Fc200 Fc201 Fc202 gz_o195 (hE_kk183.ext P196.old) Ec199) (W := 1) (by decide) (by decide) (by decide) (by decide) (allS (Or.inr gw_o195) all0) pd_6 (argsL := [(.ref kk183), (.ref o196), (.int p4)]) rfl rfl rfl (Nat.le_of_eq rfl) at_206 fun v197 T197 h197 P197 K197 Q197 => ?_
  obtain ⟨rfl, E197, F197_kind, F197_text, F197_line⟩ := Q197
  show Go p e below _ (T197.setTop (mkF m 209 #[.val (.int p0), .val (.int p1), .val (.int p2), .val (.int p3), .val (.int p4), .val (.int p5), .val (.ref kk183), .val (.ref kk2), .val (.int la), .val (.int ch186), .val (.int ch187), .val (.int ch188), .val (.int lb), .val (.int pert), .val (.int dd14), .val (.int dd15), .val (.int dd16), .val (.int lnb), .unset, .unset, .unset, .unset] [(.ref o195)]))
  refine P197.xs (fun hA hx hy t k => XS.astore hA hx rfl (hb hy at_209) rfl rfl (l' := #[.val (.int p0), .val (.int p1), .val (.int p2), .val (.int p3), .val (.int p4), .val (.int p5), .val (.ref kk183), .val (.ref kk2), .val (.int la), .val (.int ch186), .val (.int ch187), .val (.int ch188), .val (.int lb), .val (.int pert), .val (.int dd14), .val (.int dd15), .val (.int dd16), .val (.int lnb), .val (.ref o195), .unset, .unset, .unset]) rfl k) ?_
  show Go p e below _ (T197.setTop (mkF m 211 #[.val (.int p0), .val (.int p1), .val (.int p2), .val (.int p3), .val (.int p4), .val (.int p5), .val (.ref kk183), .val (.ref kk2), .val (.int la), .val (.int ch186), .val (.int ch187), .val (.int ch188), .val (.int lb), .val (.int pert), .val (.int dd14), .val (.int dd15), .val (.int dd16), .val (.int lnb), .val (.ref o195), .unset, .unset, .unset] []))
  refine P197.xs (fun hA hx hy t k => XS.iloadN hA hx rfl (hb hy at_211) rfl  k) ?_
  show Go p e below _ (T197.setTop (mkF m 212 #[.val (.int p0), .val (.int p1), .val (.int p2), .val (.int p3), .val (.int p4), .val (.int p5), .val (.ref kk183), .val (.ref kk2), .val (.int la), .val (.int ch186), .val (.int ch187), .val (.int ch188), .val (.int lb), .val (.int pert), .val (.int dd14), .val (.int dd15), .val (.int dd16), .val (.int lnb), .val (.ref o195), .unset, .unset, .unset] [(.int p3)]))
  refine P197.xs (fun hA hx hy t k => XS.iconst hA hx rfl (hb hy at_212) k) ?_
  show Go p e below _ (T197.setTop (mkF m 213 #[.val (.int p0), .val (.int p1), .val (.int p2), .val (.int p3), .val (.int p4), .val (.int p5), .val (.ref kk183), .val (.ref kk2), .val (.int la), .val (.int ch186), .val (.int ch187), .val (.int ch188), .val (.int lb), .val (.int pert), .val (.int dd14), .val (.int dd15), .val (.int dd16), .val (.int lnb), .val (.ref o195), .unset, .unset, .unset] [(.int (4 : Int32)), (.int p3)]))
  refine P197.xs (fun hA hx hy t k => XS.iushr hA hx rfl (hb hy at_213) rfl k) ?_
  show Go p e below _ (T197.setTop (mkF m 214 #[.val (.int p0), .val (.int p1), .val (.int p2), .val (.int p3), .val (.int p4), .val (.int p5), .val (.ref kk183), .val (.ref kk2), .val (.int la), .val (.int ch186), .val (.int ch187), .val (.int ch188), .val (.int lb), .val (.int pert), .val (.int dd14), .val (.int dd15), .val (.int dd16), .val (.int lnb), .val (.ref o195), .unset, .unset, .unset] [(.int ((p3.toUInt32 >>> ((4 : Int32) &&& 31).toUInt32).toInt32))]))
  refine P197.xs (fun hA hx hy t k => XS.iconst hA hx rfl (hb hy at_214) k) ?_
  show Go p e below _ (T197.setTop (mkF m 215 #[.val (.int p0), .val (.int p1), .val (.int p2), .val (.int p3), .val (.int p4), .val (.int p5), .val (.ref kk183), .val (.ref kk2), .val (.int la), .val (.int ch186), .val (.int ch187), .val (.int ch188), .val (.int lb), .val (.int pert), .val (.int dd14), .val (.int dd15), .val (.int dd16), .val (.int lnb), .val (.ref o195), .unset, .unset, .unset] [(.int (3 : Int32)), (.int ((p3.toUInt32 >>> ((4 : Int32) &&& 31).toUInt32).toInt32))]))
  refine P197.xs (fun hA hx hy t k => XS.iand hA hx rfl (hb hy at_215) rfl k) ?_
  show Go p e below _ (T197.setTop (mkF m 216 #[.val (.int p0), .val (.int p1), .val (.int p2), .val (.int p3), .val (.int p4), .val (.int p5), .val (.ref kk183), .val (.ref kk2), .val (.int la), .val (.int ch186), .val (.int ch187), .val (.int ch188), .val (.int lb), .val (.int pert), .val (.int dd14), .val (.int dd15), .val (.int dd16), .val (.int lnb), .val (.ref o195), .unset, .unset, .unset] [(.int (((p3.toUInt32 >>> ((4 : Int32) &&& 31).toUInt32).toInt32) &&& (3 : Int32)))]))
  generalize hmode : (((p3.toUInt32 >>> ((4 : Int32) &&& 31).toUInt32).toInt32) &&& (3 : Int32)) = mode
  refine P197.xs (fun hA hx hy t k => XS.istore hA hx rfl (hb hy at_216) rfl (l' := #[.val (.int p0), .val (.int p1), .val (.int p2), .val (.int p3), .val (.int p4), .val (.int p5), .val (.ref kk183), .val (.ref kk2), .val (.int la), .val (.int ch186), .val (.int ch187), .val (.int ch188), .val (.int lb), .val (.int pert), .val (.int dd14), .val (.int dd15), .val (.int dd16), .val (.int lnb), .val (.ref o195), .val (.int mode), .unset, .unset]) rfl k) ?_
  show Go p e below _ (T197.setTop (mkF m 218 #[.val (.int p0), .val (.int p1), .val (.int p2), .val (.int p3), .val (.int p4), .val (.int p5), .val (.ref kk183), .val (.ref kk2), .val (.int la), .val (.int ch186), .val (.int ch187), .val (.int ch188), .val (.int lb), .val (.int pert), .val (.int dd14), .val (.int dd15), .val (.int dd16), .val (.int lnb), .val (.ref o195), .val (.int mode), .unset, .unset] []))
  refine P197.xs (fun hA hx hy t k => XS.iload hA hx rfl (hb hy at_218) rfl  k) ?_
  show Go p e below _ (T197.setTop (mkF m 220 #[.val (.int p0), .val (.int p1), .val (.int p2), .val (.int p3), .val (.int p4), .val (.int p5), .val (.ref kk183), .val (.ref kk2), .val (.int la), .val (.int ch186), .val (.int ch187), .val (.int ch188), .val (.int lb), .val (.int pert), .val (.int dd14), .val (.int dd15), .val (.int dd16), .val (.int lnb), .val (.ref o195), .val (.int mode), .unset, .unset] [(.int mode)]))
  by_cases hm0 : mode = 0
  · refine P197.xs (fun hA hx hy t k => XS.ifNo hA hx rfl (hb hy at_220) rfl ((if0 _ _).trans (teq hm0).2) k) ?_
    show Go p e below _ (T197.setTop (mkF m 223 #[.val (.int p0), .val (.int p1), .val (.int p2), .val (.int p3), .val (.int p4), .val (.int p5), .val (.ref kk183), .val (.ref kk2), .val (.int la), .val (.int ch186), .val (.int ch187), .val (.int ch188), .val (.int lb), .val (.int pert), .val (.int dd14), .val (.int dd15), .val (.int dd16), .val (.int lnb), .val (.ref o195), .val (.int mode), .unset, .unset] []))
    refine P197.xs (fun hA hx hy t k => XS.aload hA hx rfl (hb hy at_223) rfl rfl  k) ?_
    show Go p e below _ (T197.setTop (mkF m 225 #[.val (.int p0), .val (.int p1), .val (.int p2), .val (.int p3), .val (.int p4), .val (.int p5), .val (.ref kk183), .val (.ref kk2), .val (.int la), .val (.int ch186), .val (.int ch187), .val (.int ch188), .val (.int lb), .val (.int pert), .val (.int dd14), .val (.int dd15), .val (.int dd16), .val (.int lnb), .val (.ref o195), .val (.int mode), .unset, .unset] [(.ref o195)]))
    refine P197.xs (fun hA hx hy t k => XS.aconstNull hA hx rfl (hb hy at_225) k) ?_
    show Go p e below _ (T197.setTop (mkF m 226 #[.val (.int p0), .val (.int p1), .val (.int p2), .val (.int p3), .val (.int p4), .val (.int p5), .val (.ref kk183), .val (.ref kk2), .val (.int la), .val (.int ch186), .val (.int ch187), .val (.int ch188), .val (.int lb), .val (.int pert), .val (.int dd14), .val (.int dd15), .val (.int dd16), .val (.int lnb), .val (.ref o195), .val (.int mode), .unset, .unset] [.null, (.ref o195)]))
    have Ec204 : Exa Z h197 o196 "java/lang/String" := (Ec199.keep K197)
    have Sc205 : Str Z h197 o196 (cs3 la ch186 ch187 ch188) := (E196.keep K197 (allS ⟨(Ne.symm ne_o195_o196), (nbE Ec198 (hw _ (List.mem_of_getElem? (i := 48) rfl)))⟩ all0))
    refine P197.callV (hw _ (List.mem_of_getElem? (i := 103) rfl)) (hw _ (List.mem_of_getElem? (i := 104) rfl)) (hw _ (List.mem_of_getElem? (i := 106) rfl)) (nfOf (hw _ (List.mem_of_getElem? (i := 106) rfl))) (hw _ (List.mem_of_getElem? (i := 105) rfl)) (hw _ (List.mem_of_getElem? (i := 49) rfl)) (hw _ (List.mem_of_getElem? (i := 107) rfl)) (by decide) E197 (eqN l Z a0 hw hEL zc S0 Pz w_IDENTIFIER w_VARIABLE w_IRI w_PREFIXED_NAME w_STRING w_LANGUAGE_TAG w_DATATYPE_MARK w_INTEGER w_LABEL w_DIRECTIVE w_LEFT_PARENTHESIS w_RIGHT_PARENTHESIS w_COMMA w_DOT w_IMPLIES w_QUESTION_MARK w_EXCLAMATION_MARK w_BAR w_END S_IDENTIFIER E_IDENTIFIER S_VARIABLE E_VARIABLE S_IRI E_IRI S_PREFIXED_NAME E_PREFIXED_NAME S_STRING E_STRING S_LANGUAGE_TAG E_LANGUAGE_TAG S_DATATYPE_MARK E_DATATYPE_MARK S_INTEGER E_INTEGER S_LABEL E_LABEL S_DIRECTIVE E_DIRECTIVE S_LEFT_PARENTHESIS E_LEFT_PARENTHESIS S_RIGHT_PARENTHESIS E_RIGHT_PARENTHESIS S_COMMA E_COMMA S_DOT E_DOT S_IMPLIES E_IMPLIES S_QUESTION_MARK E_QUESTION_MARK S_EXCLAMATION_MARK E_EXCLAMATION_MARK S_BAR E_BAR S_END E_END o195 h197 P197.old) (W := 0) (by decide) (by decide) (by decide) (by decide) all0 pd_3 (argsL := [.null]) rfl rfl rfl (Nat.le_of_eq rfl) at_226 fun v203 T203 h203 P203 K203 Q203 => ?_
    obtain ⟨hv203, hh203⟩ := Q203
    subst hv203
    rw [hh203] at P203
    show Go p e below _ (T203.setTop (mkF m 229 #[.val (.int p0), .val (.int p1), .val (.int p2), .val (.int p3), .val (.int p4), .val (.int p5), .val (.ref kk183), .val (.ref kk2), .val (.int la), .val (.int ch186), .val (.int ch187), .val (.int ch188), .val (.int lb), .val (.int pert), .val (.int dd14), .val (.int dd15), .val (.int dd16), .val (.int lnb), .val (.ref o195), .val (.int mode), .unset, .unset] [(.int (0 : Int32))]))
    refine P203.xs (fun hA hx hy t k => XS.ifNo hA hx rfl (hb hy at_229) rfl ((if0 _ _).trans (teq rfl).2) k) ?_
    show Go p e below _ (T203.setTop (mkF m 232 #[.val (.int p0), .val (.int p1), .val (.int p2), .val (.int p3), .val (.int p4), .val (.int p5), .val (.ref kk183), .val (.ref kk2), .val (.int la), .val (.int ch186), .val (.int ch187), .val (.int ch188), .val (.int lb), .val (.int pert), .val (.int dd14), .val (.int dd15), .val (.int dd16), .val (.int lnb), .val (.ref o195), .val (.int mode), .unset, .unset] []))
    refine P203.xs (fun hA hx hy t k => XS.iconst hA hx rfl (hb hy at_232) k) ?_
    show Go p e below _ (T203.setTop (mkF m 233 #[.val (.int p0), .val (.int p1), .val (.int p2), .val (.int p3), .val (.int p4), .val (.int p5), .val (.ref kk183), .val (.ref kk2), .val (.int la), .val (.int ch186), .val (.int ch187), .val (.int ch188), .val (.int lb), .val (.int pert), .val (.int dd14), .val (.int dd15), .val (.int dd16), .val (.int lnb), .val (.ref o195), .val (.int mode), .unset, .unset] [(.int (1 : Int32))]))
    refine P203.xs (fun hA hx hy t k => XS.goto hA hx rfl (pc0 := 233) (pc' := 237) rfl (hb hy at_233) (by decide) (by decide) k) ?_
    show Go p e below _ (T203.setTop (mkF m 237 #[.val (.int p0), .val (.int p1), .val (.int p2), .val (.int p3), .val (.int p4), .val (.int p5), .val (.ref kk183), .val (.ref kk2), .val (.int la), .val (.int ch186), .val (.int ch187), .val (.int ch188), .val (.int lb), .val (.int pert), .val (.int dd14), .val (.int dd15), .val (.int dd16), .val (.int lnb), .val (.ref o195), .val (.int mode), .unset, .unset] [(.int (1 : Int32))]))
    exact P203.retN (t := .boolean) rfl (by simp) at_237 (by decide) (by decide) rfl
  · refine P197.xs (fun hA hx hy t k => XS.ifYes hA hx rfl (pc0 := 220) (pc' := 238) rfl (hb hy at_220) rfl ((if0 _ _).trans (feq hm0).2) (by decide) (by decide) k) ?_
    show Go p e below _ (T197.setTop (mkF m 238 #[.val (.int p0), .val (.int p1), .val (.int p2), .val (.int p3), .val (.int p4), .val (.int p5), .val (.ref kk183), .val (.ref kk2), .val (.int la), .val (.int ch186), .val (.int ch187), .val (.int ch188), .val (.int lb), .val (.int pert), .val (.int dd14), .val (.int dd15), .val (.int dd16), .val (.int lnb), .val (.ref o195), .val (.int mode), .unset, .unset] []))
    refine P197.xs (fun hA hx hy t k => XS.iload hA hx rfl (hb hy at_238) rfl  k) ?_
    show Go p e below _ (T197.setTop (mkF m 240 #[.val (.int p0), .val (.int p1), .val (.int p2), .val (.int p3), .val (.int p4), .val (.int p5), .val (.ref kk183), .val (.ref kk2), .val (.int la), .val (.int ch186), .val (.int ch187), .val (.int ch188), .val (.int lb), .val (.int pert), .val (.int dd14), .val (.int dd15), .val (.int dd16), .val (.int lnb), .val (.ref o195), .val (.int mode), .unset, .unset] [(.int mode)]))
    refine P197.xs (fun hA hx hy t k => XS.iconst hA hx rfl (hb hy at_240) k) ?_
    show Go p e below _ (T197.setTop (mkF m 241 #[.val (.int p0), .val (.int p1), .val (.int p2), .val (.int p3), .val (.int p4), .val (.int p5), .val (.ref kk183), .val (.ref kk2), .val (.int la), .val (.int ch186), .val (.int ch187), .val (.int ch188), .val (.int lb), .val (.int pert), .val (.int dd14), .val (.int dd15), .val (.int dd16), .val (.int lnb), .val (.ref o195), .val (.int mode), .unset, .unset] [(.int (1 : Int32)), (.int mode)]))
    by_cases hm1 : mode = 1
    · refine P197.xs (fun hA hx hy t k => XS.icmpNo hA hx rfl (hb hy at_241) rfl (teq hm1).2 k) ?_
      show Go p e below _ (T197.setTop (mkF m 244 #[.val (.int p0), .val (.int p1), .val (.int p2), .val (.int p3), .val (.int p4), .val (.int p5), .val (.ref kk183), .val (.ref kk2), .val (.int la), .val (.int ch186), .val (.int ch187), .val (.int ch188), .val (.int lb), .val (.int pert), .val (.int dd14), .val (.int dd15), .val (.int dd16), .val (.int lnb), .val (.ref o195), .val (.int mode), .unset, .unset] []))
      refine P197.xs (fun hA hx hy t k => XS.aload hA hx rfl (hb hy at_244) rfl rfl  k) ?_
      show Go p e below _ (T197.setTop (mkF m 246 #[.val (.int p0), .val (.int p1), .val (.int p2), .val (.int p3), .val (.int p4), .val (.int p5), .val (.ref kk183), .val (.ref kk2), .val (.int la), .val (.int ch186), .val (.int ch187), .val (.int ch188), .val (.int lb), .val (.int pert), .val (.int dd14), .val (.int dd15), .val (.int dd16), .val (.int lnb), .val (.ref o195), .val (.int mode), .unset, .unset] [(.ref o195)]))
      refine P197.xs (fun hA hx hy t k => XS.aload hA hx rfl (hb hy at_246) rfl rfl  k) ?_
      show Go p e below _ (T197.setTop (mkF m 248 #[.val (.int p0), .val (.int p1), .val (.int p2), .val (.int p3), .val (.int p4), .val (.int p5), .val (.ref kk183), .val (.ref kk2), .val (.int la), .val (.int ch186), .val (.int ch187), .val (.int ch188), .val (.int lb), .val (.int pert), .val (.int dd14), .val (.int dd15), .val (.int dd16), .val (.int lnb), .val (.ref o195), .val (.int mode), .unset, .unset] [(.ref o195), (.ref o195)]))
      have Ec207 : Exa Z h197 o196 "java/lang/String" := (Ec199.keep K197)
      have Sc208 : Str Z h197 o196 (cs3 la ch186 ch187 ch188) := (E196.keep K197 (allS ⟨(Ne.symm ne_o195_o196), (nbE Ec198 (hw _ (List.mem_of_getElem? (i := 48) rfl)))⟩ all0))
      refine P197.callV (hw _ (List.mem_of_getElem? (i := 111) rfl)) (hw _ (List.mem_of_getElem? (i := 112) rfl)) (hw _ (List.mem_of_getElem? (i := 114) rfl)) (nfOf (hw _ (List.mem_of_getElem? (i := 114) rfl))) (hw _ (List.mem_of_getElem? (i := 113) rfl)) (hw _ (List.mem_of_getElem? (i := 49) rfl)) (hw _ (List.mem_of_getElem? (i := 115) rfl)) (by decide) E197 (m_text l Z a0 hw hEL zc S0 Pz w_IDENTIFIER w_VARIABLE w_IRI w_PREFIXED_NAME w_STRING w_LANGUAGE_TAG w_DATATYPE_MARK w_INTEGER w_LABEL w_DIRECTIVE w_LEFT_PARENTHESIS w_RIGHT_PARENTHESIS w_COMMA w_DOT w_IMPLIES w_QUESTION_MARK w_EXCLAMATION_MARK w_BAR w_END S_IDENTIFIER E_IDENTIFIER S_VARIABLE E_VARIABLE S_IRI E_IRI S_PREFIXED_NAME E_PREFIXED_NAME S_STRING E_STRING S_LANGUAGE_TAG E_LANGUAGE_TAG S_DATATYPE_MARK E_DATATYPE_MARK S_INTEGER E_INTEGER S_LABEL E_LABEL S_DIRECTIVE E_DIRECTIVE S_LEFT_PARENTHESIS E_LEFT_PARENTHESIS S_RIGHT_PARENTHESIS E_RIGHT_PARENTHESIS S_COMMA E_COMMA S_DOT E_DOT S_IMPLIES E_IMPLIES S_QUESTION_MARK E_QUESTION_MARK S_EXCLAMATION_MARK E_EXCLAMATION_MARK S_BAR E_BAR S_END E_END o195 (.ref o196) rfl h197 P197.old F197_text) (W := 1) (by decide) (by decide) (by decide) (by decide) all0 pd_7 (argsL := []) rfl rfl rfl (Nat.le_of_eq rfl) at_248 fun v206 T206 h206 P206 K206 Q206 => ?_
      obtain ⟨hv206, hh206⟩ := Q206
      subst hv206
      rw [hh206] at P206
      show Go p e below _ (T206.setTop (mkF m 251 #[.val (.int p0), .val (.int p1), .val (.int p2), .val (.int p3), .val (.int p4), .val (.int p5), .val (.ref kk183), .val (.ref kk2), .val (.int la), .val (.int ch186), .val (.int ch187), .val (.int ch188), .val (.int lb), .val (.int pert), .val (.int dd14), .val (.int dd15), .val (.int dd16), .val (.int lnb), .val (.ref o195), .val (.int mode), .unset, .unset] [(.ref o196), (.ref o195)]))
      refine P206.callV (hw _ (List.mem_of_getElem? (i := 103) rfl)) (hw _ (List.mem_of_getElem? (i := 104) rfl)) (hw _ (List.mem_of_getElem? (i := 106) rfl)) (nfOf (hw _ (List.mem_of_getElem? (i := 106) rfl))) (hw _ (List.mem_of_getElem? (i := 105) rfl)) (hw _ (List.mem_of_getElem? (i := 49) rfl)) (hw _ (List.mem_of_getElem? (i := 107) rfl)) (by decide) E197 (eqS l Z a0 hw hEL zc S0 Pz w_IDENTIFIER w_VARIABLE w_IRI w_PREFIXED_NAME w_STRING w_LANGUAGE_TAG w_DATATYPE_MARK w_INTEGER w_LABEL w_DIRECTIVE w_LEFT_PARENTHESIS w_RIGHT_PARENTHESIS w_COMMA w_DOT w_IMPLIES w_QUESTION_MARK w_EXCLAMATION_MARK w_BAR w_END S_IDENTIFIER E_IDENTIFIER S_VARIABLE E_VARIABLE S_IRI E_IRI S_PREFIXED_NAME E_PREFIXED_NAME S_STRING E_STRING S_LANGUAGE_TAG E_LANGUAGE_TAG S_DATATYPE_MARK E_DATATYPE_MARK S_INTEGER E_INTEGER S_LABEL E_LABEL S_DIRECTIVE E_DIRECTIVE S_LEFT_PARENTHESIS E_LEFT_PARENTHESIS S_RIGHT_PARENTHESIS E_RIGHT_PARENTHESIS S_COMMA E_COMMA S_DOT E_DOT S_IMPLIES E_IMPLIES S_QUESTION_MARK E_QUESTION_MARK S_EXCLAMATION_MARK E_EXCLAMATION_MARK S_BAR E_BAR S_END E_END o195 o196 h197 P206.old Ec207) (W := 0) (by decide) (by decide) (by decide) (by decide) all0 pd_3 (argsL := [(.ref o196)]) rfl rfl rfl (Nat.le_of_eq rfl) at_251 fun v209 T209 h209 P209 K209 Q209 => ?_
      obtain ⟨hv209, hh209⟩ := Q209
      subst hv209
      rw [hh209] at P209
      show Go p e below _ (T209.setTop (mkF m 254 #[.val (.int p0), .val (.int p1), .val (.int p2), .val (.int p3), .val (.int p4), .val (.int p5), .val (.ref kk183), .val (.ref kk2), .val (.int la), .val (.int ch186), .val (.int ch187), .val (.int ch188), .val (.int lb), .val (.int pert), .val (.int dd14), .val (.int dd15), .val (.int dd16), .val (.int lnb), .val (.ref o195), .val (.int mode), .unset, .unset] [(.int (0 : Int32))]))
      refine P209.xs (fun hA hx hy t k => XS.ifNo hA hx rfl (hb hy at_254) rfl ((if0 _ _).trans (teq rfl).2) k) ?_
      show Go p e below _ (T209.setTop (mkF m 257 #[.val (.int p0), .val (.int p1), .val (.int p2), .val (.int p3), .val (.int p4), .val (.int p5), .val (.ref kk183), .val (.ref kk2), .val (.int la), .val (.int ch186), .val (.int ch187), .val (.int ch188), .val (.int lb), .val (.int pert), .val (.int dd14), .val (.int dd15), .val (.int dd16), .val (.int lnb), .val (.ref o195), .val (.int mode), .unset, .unset] []))
      refine P209.xs (fun hA hx hy t k => XS.iconst hA hx rfl (hb hy at_257) k) ?_
      show Go p e below _ (T209.setTop (mkF m 258 #[.val (.int p0), .val (.int p1), .val (.int p2), .val (.int p3), .val (.int p4), .val (.int p5), .val (.ref kk183), .val (.ref kk2), .val (.int la), .val (.int ch186), .val (.int ch187), .val (.int ch188), .val (.int lb), .val (.int pert), .val (.int dd14), .val (.int dd15), .val (.int dd16), .val (.int lnb), .val (.ref o195), .val (.int mode), .unset, .unset] [(.int (1 : Int32))]))
      refine P209.xs (fun hA hx hy t k => XS.goto hA hx rfl (pc0 := 258) (pc' := 262) rfl (hb hy at_258) (by decide) (by decide) k) ?_
      show Go p e below _ (T209.setTop (mkF m 262 #[.val (.int p0), .val (.int p1), .val (.int p2), .val (.int p3), .val (.int p4), .val (.int p5), .val (.ref kk183), .val (.ref kk2), .val (.int la), .val (.int ch186), .val (.int ch187), .val (.int ch188), .val (.int lb), .val (.int pert), .val (.int dd14), .val (.int dd15), .val (.int dd16), .val (.int lnb), .val (.ref o195), .val (.int mode), .unset, .unset] [(.int (1 : Int32))]))
      exact P209.retN (t := .boolean) rfl (by simp) at_262 (by decide) (by decide) rfl
    · refine P197.xs (fun hA hx hy t k => XS.icmpYes hA hx rfl (pc0 := 241) (pc' := 263) rfl (hb hy at_241) rfl (feq hm1).2 (by decide) (by decide) k) ?_
      show Go p e below _ (T197.setTop (mkF m 263 #[.val (.int p0), .val (.int p1), .val (.int p2), .val (.int p3), .val (.int p4), .val (.int p5), .val (.ref kk183), .val (.ref kk2), .val (.int la), .val (.int ch186), .val (.int ch187), .val (.int ch188), .val (.int lb), .val (.int pert), .val (.int dd14), .val (.int dd15), .val (.int dd16), .val (.int lnb), .val (.ref o195), .val (.int mode), .unset, .unset] []))
      refine P197.newO (hw _ (List.mem_of_getElem? (i := 47) rfl)) (hw _ (List.mem_of_getElem? (i := 48) rfl)) (hw _ (List.mem_of_getElem? (i := 49) rfl)) at_263 (by decide) (by decide) fun T210 h210 o210 g210 P210 E210 A210 D210 => ?_
      have ne_o195_o210 : o195 ≠ o210 := Nat.ne_of_lt (Nat.lt_of_lt_of_le E197.lt (Nat.le_of_eq g210.symm))
      have ne_o196_o210 : o196 ≠ o210 := Nat.ne_of_lt (Nat.lt_of_lt_of_le (Ec199.keep K197).lt (Nat.le_of_eq g210.symm))
      have gz_o210 : Z.heap.size ≤ o210 := Nat.le_trans P197.old.1 (Nat.le_of_eq g210.symm)
      have gw_o210 : h0.size ≤ o210 := Nat.le_trans P197.kept.1 (Nat.le_of_eq g210.symm)
      have F210_kind : Fld Z h210 o210 "com/example/qrew/qrew/dlgp/Token" "kind" "Lcom/example/qrew/qrew/dlgp/TokenKind;" .null := D210 (Or.inr (hw _ (List.mem_of_getElem? (i := 96) rfl))) (ty := (.object "com/example/qrew/qrew/dlgp/TokenKind")) (by decide)
      have F210_text : Fld Z h210 o210 "com/example/qrew/qrew/dlgp/Token" "text" "Ljava/lang/String;" .null := D210 (Or.inr (hw _ (List.mem_of_getElem? (i := 100) rfl))) (ty := (.object "java/lang/String")) (by decide)
      have F210_line : Fld Z h210 o210 "com/example/qrew/qrew/dlgp/Token" "line" "I" (.int (0 : Int32)) := D210 (Or.inr (hw _ (List.mem_of_getElem? (i := 102) rfl))) (ty := .int) (by decide)
      show Go p e below _ (T210.setTop (mkF m 266 #[.val (.int p0), .val (.int p1), .val (.int p2), .val (.int p3), .val (.int p4), .val (.int p5), .val (.ref kk183), .val (.ref kk2), .val (.int la), .val (.int ch186), .val (.int ch187), .val (.int ch188), .val (.int lb), .val (.int pert), .val (.int dd14), .val (.int dd15), .val (.int dd16), .val (.int lnb), .val (.ref o195), .val (.int mode), .unset, .unset] [(.ref o210)]))
      refine P210.xs (fun hA hx hy t k => XS.dup hA hx rfl (hb hy at_266) rfl rfl k) ?_
      show Go p e below _ (T210.setTop (mkF m 267 #[.val (.int p0), .val (.int p1), .val (.int p2), .val (.int p3), .val (.int p4), .val (.int p5), .val (.ref kk183), .val (.ref kk2), .val (.int la), .val (.int ch186), .val (.int ch187), .val (.int ch188), .val (.int lb), .val (.int pert), .val (.int dd14), .val (.int dd15), .val (.int dd16), .val (.int lnb), .val (.ref o195), .val (.int mode), .unset, .unset] [(.ref o210), (.ref o210)]))
      refine P210.xs (fun hA hx hy t k => XS.aload hA hx rfl (hb hy at_267) rfl rfl  k) ?_
      show Go p e below _ (T210.setTop (mkF m 269 #[.val (.int p0), .val (.int p1), .val (.int p2), .val (.int p3), .val (.int p4), .val (.int p5), .val (.ref kk183), .val (.ref kk2), .val (.int la), .val (.int ch186), .val (.int ch187), .val (.int ch188), .val (.int lb), .val (.int pert), .val (.int dd14), .val (.int dd15), .val (.int dd16), .val (.int lnb), .val (.ref o195), .val (.int mode), .unset, .unset] [(.ref kk2), (.ref o210), (.ref o210)]))
      refine P210.xs (fun hA hx hy t k => XS.iload hA hx rfl (hb hy at_269) rfl  k) ?_
      show Go p e below _ (T210.setTop (mkF m 271 #[.val (.int p0), .val (.int p1), .val (.int p2), .val (.int p3), .val (.int p4), .val (.int p5), .val (.ref kk183), .val (.ref kk2), .val (.int la), .val (.int ch186), .val (.int ch187), .val (.int ch188), .val (.int lb), .val (.int pert), .val (.int dd14), .val (.int dd15), .val (.int dd16), .val (.int lnb), .val (.ref o195), .val (.int mode), .unset, .unset] [(.int lb), (.ref kk2), (.ref o210), (.ref o210)]))
      refine P210.xs (fun hA hx hy t k => XS.iload hA hx rfl (hb hy at_271) rfl  k) ?_
      show Go p e below _ (T210.setTop (mkF m 273 #[.val (.int p0), .val (.int p1), .val (.int p2), .val (.int p3), .val (.int p4), .val (.int p5), .val (.ref kk183), .val (.ref kk2), .val (.int la), .val (.int ch186), .val (.int ch187), .val (.int ch188), .val (.int lb), .val (.int pert), .val (.int dd14), .val (.int dd15), .val (.int dd16), .val (.int lnb), .val (.ref o195), .val (.int mode), .unset, .unset] [(.int dd14), (.int lb), (.ref kk2), (.ref o210), (.ref o210)]))
      refine P210.xs (fun hA hx hy t k => XS.iload hA hx rfl (hb hy at_273) rfl  k) ?_
      show Go p e below _ (T210.setTop (mkF m 275 #[.val (.int p0), .val (.int p1), .val (.int p2), .val (.int p3), .val (.int p4), .val (.int p5), .val (.ref kk183), .val (.ref kk2), .val (.int la), .val (.int ch186), .val (.int ch187), .val (.int ch188), .val (.int lb), .val (.int pert), .val (.int dd14), .val (.int dd15), .val (.int dd16), .val (.int lnb), .val (.ref o195), .val (.int mode), .unset, .unset] [(.int dd15), (.int dd14), (.int lb), (.ref kk2), (.ref o210), (.ref o210)]))
      refine P210.xs (fun hA hx hy t k => XS.iload hA hx rfl (hb hy at_275) rfl  k) ?_
      show Go p e below _ (T210.setTop (mkF m 277 #[.val (.int p0), .val (.int p1), .val (.int p2), .val (.int p3), .val (.int p4), .val (.int p5), .val (.ref kk183), .val (.ref kk2), .val (.int la), .val (.int ch186), .val (.int ch187), .val (.int ch188), .val (.int lb), .val (.int pert), .val (.int dd14), .val (.int dd15), .val (.int dd16), .val (.int lnb), .val (.ref o195), .val (.int mode), .unset, .unset] [(.int dd16), (.int dd15), (.int dd14), (.int lb), (.ref kk2), (.ref o210), (.ref o210)]))
      have Ec212 : Exa Z h210 o195 "com/example/qrew/qrew/dlgp/Token" := (E197.ext E210)
      have Ec213 : Exa Z h210 o196 "java/lang/String" := ((Ec199.keep K197).ext E210)
      have Fc214 : Fld Z h210 o195 "com/example/qrew/qrew/dlgp/Token" "kind" "Lcom/example/qrew/qrew/dlgp/TokenKind;" (.ref kk183) := (F197_kind.ext E210)
      have Fc215 : Fld Z h210 o195 "com/example/qrew/qrew/dlgp/Token" "text" "Ljava/lang/String;" (.ref o196) := (F197_text.ext E210)
      have Fc216 : Fld Z h210 o195 "com/example/qrew/qrew/dlgp/Token" "line" "I" (.int p4) := (F197_line.ext E210)
      have Sc217 : Str Z h210 o196 (cs3 la ch186 ch187 ch188) := ((E196.keep K197 (allS ⟨(Ne.symm ne_o195_o196), (nbE Ec198 (hw _ (List.mem_of_getElem? (i := 48) rfl)))⟩ all0)).ext E210)
      refine P210.callS (hw _ (List.mem_of_getElem? (i := 50) rfl)) (hw _ (List.mem_of_getElem? (i := 51) rfl)) (hw _ (List.mem_of_getElem? (i := 3) rfl)) (hw _ (List.mem_of_getElem? (i := 52) rfl)) (by decide) (mMk l Z a0 hw hEL zc S0 Pz w_IDENTIFIER w_VARIABLE w_IRI w_PREFIXED_NAME w_STRING w_LANGUAGE_TAG w_DATATYPE_MARK w_INTEGER w_LABEL w_DIRECTIVE w_LEFT_PARENTHESIS w_RIGHT_PARENTHESIS w_COMMA w_DOT w_IMPLIES w_QUESTION_MARK w_EXCLAMATION_MARK w_BAR w_END S_IDENTIFIER E_IDENTIFIER S_VARIABLE E_VARIABLE S_IRI E_IRI S_PREFIXED_NAME E_PREFIXED_NAME S_STRING E_STRING S_LANGUAGE_TAG E_LANGUAGE_TAG S_DATATYPE_MARK E_DATATYPE_MARK S_INTEGER E_INTEGER S_LABEL E_LABEL S_DIRECTIVE E_DIRECTIVE S_LEFT_PARENTHESIS E_LEFT_PARENTHESIS S_RIGHT_PARENTHESIS E_RIGHT_PARENTHESIS S_COMMA E_COMMA S_DOT E_DOT S_IMPLIES E_IMPLIES S_QUESTION_MARK E_QUESTION_MARK S_EXCLAMATION_MARK E_EXCLAMATION_MARK S_BAR E_BAR S_END E_END lb dd14 dd15 dd16 h210 P210.old ldd14 ndd14 ldd15 ndd15 ldd16 ndd16) (W := 3) (by decide) (by decide) (by decide) (by decide) all0 pd_5 (argsL := [(.int lb), (.int dd14), (.int dd15), (.int dd16)]) rfl rfl rfl (Nat.le_of_eq rfl) at_277 fun v211 T211 h211 P211 K211 Q211 => ?_
      obtain ⟨o211, rfl, g211, E211⟩ := Q211
      have ne_o195_o211 : o195 ≠ o211 := Nat.ne_of_lt (Nat.lt_of_lt_of_le Ec212.lt g211)
      have ne_o196_o211 : o196 ≠ o211 := Nat.ne_of_lt (Nat.lt_of_lt_of_le Ec213.lt g211)
      have ne_o210_o211 : o210 ≠ o211 := Nat.ne_of_lt (Nat.lt_of_lt_of_le A210.lt g211)
      have gz_o211 : Z.heap.size ≤ o211 := Nat.le_trans P210.old.1 g211
      have gw_o211 : h0.size ≤ o211 := Nat.le_trans P210.kept.1 g211
      show Go p e below _ (T211.setTop (mkF m 280 #[.val (.int p0), .val (.int p1), .val (.int p2), .val (.int p3), .val (.int p4), .val (.int p5), .val (.ref kk183), .val (.ref kk2), .val (.int la), .val (.int ch186), .val (.int ch187), .val (.int ch188), .val (.int lb), .val (.int pert), .val (.int dd14), .val (.int dd15), .val (.int dd16), .val (.int lnb), .val (.ref o195), .val (.int mode), .unset, .unset] [(.ref o211), (.ref kk2), (.ref o210), (.ref o210)]))
      refine P211.xs (fun hA hx hy t k => XS.iload hA hx rfl (hb hy at_280) rfl  k) ?_
      show Go p e below _ (T211.setTop (mkF m 282 #[.val (.int p0), .val (.int p1), .val (.int p2), .val (.int p3), .val (.int p4), .val (.int p5), .val (.ref kk183), .val (.ref kk2), .val (.int la), .val (.int ch186), .val (.int ch187), .val (.int ch188), .val (.int lb), .val (.int pert), .val (.int dd14), .val (.int dd15), .val (.int dd16), .val (.int lnb), .val (.ref o195), .val (.int mode), .unset, .unset] [(.int lnb), (.ref o211), (.ref kk2), (.ref o210), (.ref o210)]))
      have Ec219 : Exa Z h211 o195 "com/example/qrew/qrew/dlgp/Token" := (Ec212.keep K211)
      have Ec220 : Exa Z h211 o196 "java/lang/String" := (Ec213.keep K211)
      have Ec221 : Exa Z h211 o210 "com/example/qrew/qrew/dlgp/Token" := (A210.keep K211)
      have Ec222 : Exa Z h211 o211 "java/lang/String" := E211.1
      have Fc223 : Fld Z h211 o195 "com/example/qrew/qrew/dlgp/Token" "kind" "Lcom/example/qrew/qrew/dlgp/TokenKind;" (.ref kk183) := (Fc214.keep K211 nin0)
      have Fc224 : Fld Z h211 o195 "com/example/qrew/qrew/dlgp/Token" "text" "Ljava/lang/String;" (.ref o196) := (Fc215.keep K211 nin0)
      have Fc225 : Fld Z h211 o195 "com/example/qrew/qrew/dlgp/Token" "line" "I" (.int p4) := (Fc216.keep K211 nin0)
      have Fc226 : Fld Z h211 o210 "com/example/qrew/qrew/dlgp/Token" "kind" "Lcom/example/qrew/qrew/dlgp/TokenKind;" .null := (F210_kind.keep K211 nin0)
      have Fc227 : Fld Z h211 o210 "com/example/qrew/qrew/dlgp/Token" "text" "Ljava/lang/String;" .null := (F210_text.keep K211 nin0)
      have Fc228 : Fld Z h211 o210 "com/example/qrew/qrew/dlgp/Token" "line" "I" (.int (0 : Int32)) := (F210_line.keep K211 nin0)
      have Sc229 : Str Z h211 o196 (cs3 la ch186 ch187 ch188) := (Sc217.keep K211 all0)
      refine P211.callI rfl (hw _ (List.mem_of_getElem? (i := 83) rfl)) (hw _ (List.mem_of_getElem? (i := 84) rfl)) (hw _ (List.mem_of_getElem? (i := 49) rfl)) (hw _ (List.mem_of_getElem? (i := 85) rfl)) (by decide) (mTok l Z a0 hw hEL zc S0 Pz w_IDENTIFIER w_VARIABLE w_IRI w_PREFIXED_NAME w_STRING w_LANGUAGE_TAG w_DATATYPE_MARK w_INTEGER w_LABEL w_DIRECTIVE w_LEFT_PARENTHESIS w_RIGHT_PARENTHESIS w_COMMA w_DOT w_IMPLIES w_QUESTION_MARK w_EXCLAMATION_MARK w_BAR w_END S_IDENTIFIER E_IDENTIFIER S_VARIABLE E_VARIABLE S_IRI E_IRI S_PREFIXED_NAME E_PREFIXED_NAME S_STRING E_STRING S_LANGUAGE_TAG E_LANGUAGE_TAG S_DATATYPE_MARK E_DATATYPE_MARK S_INTEGER E_INTEGER S_LABEL E_LABEL S_DIRECTIVE E_DIRECTIVE S_LEFT_PARENTHESIS E_LEFT_PARENTHESIS S_RIGHT_PARENTHESIS E_RIGHT_PARENTHESIS S_COMMA E_COMMA S_DOT E_DOT S_IMPLIES E_IMPLIES S_QUESTION_MARK E_QUESTION_MARK S_EXCLAMATION_MARK E_EXCLAMATION_MARK S_BAR E_BAR S_END E_END o210 kk2 o211 lnb h211 P211.old Ec221 Fc226 Fc227 Fc228 gz_o210 (hE_kk2.ext P211.old) Ec222) (W := 1) (by decide) (by decide) (by decide) (by decide) (allS (Or.inr gw_o210) all0) pd_6 (argsL := [(.ref kk2), (.ref o211), (.int lnb)]) rfl rfl rfl (Nat.le_of_eq rfl) at_282 fun v218 T218 h218 P218 K218 Q218 => ?_
      obtain ⟨rfl, E218, F218_kind, F218_text, F218_line⟩ := Q218
      show Go p e below _ (T218.setTop (mkF m 285 #[.val (.int p0), .val (.int p1), .val (.int p2), .val (.int p3), .val (.int p4), .val (.int p5), .val (.ref kk183), .val (.ref kk2), .val (.int la), .val (.int ch186), .val (.int ch187), .val (.int ch188), .val (.int lb), .val (.int pert), .val (.int dd14), .val (.int dd15), .val (.int dd16), .val (.int lnb), .val (.ref o195), .val (.int mode), .unset, .unset] [(.ref o210)]))
      refine P218.xs (fun hA hx hy t k => XS.astore hA hx rfl (hb hy at_285) rfl rfl (l' := #[.val (.int p0), .val (.int p1), .val (.int p2), .val (.int p3), .val (.int p4), .val (.int p5), .val (.ref kk183), .val (.ref kk2), .val (.int la), .val (.int ch186), .val (.int ch187), .val (.int ch188), .val (.int lb), .val (.int pert), .val (.int dd14), .val (.int dd15), .val (.int dd16), .val (.int lnb), .val (.ref o195), .val (.int mode), .val (.ref o210), .unset]) rfl k) ?_
      show Go p e below _ (T218.setTop (mkF m 287 #[.val (.int p0), .val (.int p1), .val (.int p2), .val (.int p3), .val (.int p4), .val (.int p5), .val (.ref kk183), .val (.ref kk2), .val (.int la), .val (.int ch186), .val (.int ch187), .val (.int ch188), .val (.int lb), .val (.int pert), .val (.int dd14), .val (.int dd15), .val (.int dd16), .val (.int lnb), .val (.ref o195), .val (.int mode), .val (.ref o210), .unset] []))
      refine P218.xs (fun hA hx hy t k => XS.aload hA hx rfl (hb hy at_287) rfl rfl  k) ?_
      show Go p e below _ (T218.setTop (mkF m 289 #[.val (.int p0), .val (.int p1), .val (.int p2), .val (.int p3), .val (.int p4), .val (.int p5), .val (.ref kk183), .val (.ref kk2), .val (.int la), .val (.int ch186), .val (.int ch187), .val (.int ch188), .val (.int lb), .val (.int pert), .val (.int dd14), .val (.int dd15), .val (.int dd16), .val (.int lnb), .val (.ref o195), .val (.int mode), .val (.ref o210), .unset] [(.ref kk183)]))
      refine P218.xs (fun hA hx hy t k => XS.aload hA hx rfl (hb hy at_289) rfl rfl  k) ?_
      show Go p e below _ (T218.setTop (mkF m 291 #[.val (.int p0), .val (.int p1), .val (.int p2), .val (.int p3), .val (.int p4), .val (.int p5), .val (.ref kk183), .val (.ref kk2), .val (.int la), .val (.int ch186), .val (.int ch187), .val (.int ch188), .val (.int lb), .val (.int pert), .val (.int dd14), .val (.int dd15), .val (.int dd16), .val (.int lnb), .val (.ref o195), .val (.int mode), .val (.ref o210), .unset] [(.ref kk2), (.ref kk183)]))
      suffices j6 : ∀ (T230 : State) (h230 : Heap) (ex : Int32), ((ex = 1 ∧ (kk183 = kk2 ∧ (cs3 la ch186 ch187 ch188) = (cs3 lb dd14 dd15 dd16) ∧ p4 = lnb)) ∨ (ex = 0 ∧ ¬ (kk183 = kk2 ∧ (cs3 la ch186 ch187 ch188) = (cs3 lb dd14 dd15 dd16) ∧ p4 = lnb))) → Pos p l e room_1 s m #[(.int p0), (.int p1), (.int p2), (.int p3), (.int p4), (.int p5)] below meth c "com/example/qrew/qrew/dlgp/TokenEqualsPinLaw" "law" code maxLocals ret Z a0 EL0 h0 [] T230 h230 24 148 → Exa Z h230 o195 "com/example/qrew/qrew/dlgp/Token" → Exa Z h230 o210 "com/example/qrew/qrew/dlgp/Token" → Str Z h230 o196 (cs3 la ch186 ch187 ch188) → Str Z h230 o211 (cs3 lb dd14 dd15 dd16) → Exa Z h230 o196 "java/lang/String" → Exa Z h230 o211 "java/lang/String" → Fld Z h230 o195 "com/example/qrew/qrew/dlgp/Token" "kind" "Lcom/example/qrew/qrew/dlgp/TokenKind;" (.ref kk183) → Fld Z h230 o195 "com/example/qrew/qrew/dlgp/Token" "text" "Ljava/lang/String;" (.ref o196) → Fld Z h230 o195 "com/example/qrew/qrew/dlgp/Token" "line" "I" (.int p4) → Fld Z h230 o210 "com/example/qrew/qrew/dlgp/Token" "kind" "Lcom/example/qrew/qrew/dlgp/TokenKind;" (.ref kk2) → Fld Z h230 o210 "com/example/qrew/qrew/dlgp/Token" "text" "Ljava/lang/String;" (.ref o211) → Fld Z h230 o210 "com/example/qrew/qrew/dlgp/Token" "line" "I" (.int lnb) → Go p e below (Fini Z EL0 h0 [] room_1 (Q_mLaw Z  h0) s) (T230.setTop (mkF m 352 #[.val (.int p0), .val (.int p1), .val (.int p2), .val (.int p3), .val (.int p4), .val (.int p5), .val (.ref kk183), .val (.ref kk2), .val (.int la), .val (.int ch186), .val (.int ch187), .val (.int ch188), .val (.int lb), .val (.int pert), .val (.int dd14), .val (.int dd15), .val (.int dd16), .val (.int lnb), .val (.ref o195), .val (.int mode), .val (.ref o210), .unset] [(.int ex)])) by
        by_cases hk : kk183 = kk2
        · refine P218.st (fun vm0 locs X hx hy t k => Jvm.RoadKit.acmp (g := (mkF m 291 #[.val (.int p0), .val (.int p1), .val (.int p2), .val (.int p3), .val (.int p4), .val (.int p5), .val (.ref kk183), .val (.ref kk2), .val (.int la), .val (.int ch186), .val (.int ch187), .val (.int ch188), .val (.int lb), .val (.int pert), .val (.int dd14), .val (.int dd15), .val (.int dd16), .val (.int lnb), .val (.ref o195), .val (.int mode), .val (.ref o210), .unset] [(.ref kk2), (.ref kk183)])) X hx rfl rfl rfl (pc0 := 291) (pc' := 294) (same := true) rfl (hb hy at_291) rfl (decide_eq_true (congrArg Value.ref hk)) (by decide) (by decide) k) ?_
          show Go p e below _ (T218.setTop (mkF m 294 #[.val (.int p0), .val (.int p1), .val (.int p2), .val (.int p3), .val (.int p4), .val (.int p5), .val (.ref kk183), .val (.ref kk2), .val (.int la), .val (.int ch186), .val (.int ch187), .val (.int ch188), .val (.int lb), .val (.int pert), .val (.int dd14), .val (.int dd15), .val (.int dd16), .val (.int lnb), .val (.ref o195), .val (.int mode), .val (.ref o210), .unset] []))
          refine P218.xs (fun hA hx hy t k => XS.iload hA hx rfl (hb hy at_294) rfl  k) ?_
          show Go p e below _ (T218.setTop (mkF m 296 #[.val (.int p0), .val (.int p1), .val (.int p2), .val (.int p3), .val (.int p4), .val (.int p5), .val (.ref kk183), .val (.ref kk2), .val (.int la), .val (.int ch186), .val (.int ch187), .val (.int ch188), .val (.int lb), .val (.int pert), .val (.int dd14), .val (.int dd15), .val (.int dd16), .val (.int lnb), .val (.ref o195), .val (.int mode), .val (.ref o210), .unset] [(.int la)]))
          refine P218.xs (fun hA hx hy t k => XS.iload hA hx rfl (hb hy at_296) rfl  k) ?_
          show Go p e below _ (T218.setTop (mkF m 298 #[.val (.int p0), .val (.int p1), .val (.int p2), .val (.int p3), .val (.int p4), .val (.int p5), .val (.ref kk183), .val (.ref kk2), .val (.int la), .val (.int ch186), .val (.int ch187), .val (.int ch188), .val (.int lb), .val (.int pert), .val (.int dd14), .val (.int dd15), .val (.int dd16), .val (.int lnb), .val (.ref o195), .val (.int mode), .val (.ref o210), .unset] [(.int lb), (.int la)]))
          by_cases hl : la = lb
          · refine P218.xs (fun hA hx hy t k => XS.icmpNo hA hx rfl (hb hy at_298) rfl (teq hl).2 k) ?_
            show Go p e below _ (T218.setTop (mkF m 301 #[.val (.int p0), .val (.int p1), .val (.int p2), .val (.int p3), .val (.int p4), .val (.int p5), .val (.ref kk183), .val (.ref kk2), .val (.int la), .val (.int ch186), .val (.int ch187), .val (.int ch188), .val (.int lb), .val (.int pert), .val (.int dd14), .val (.int dd15), .val (.int dd16), .val (.int lnb), .val (.ref o195), .val (.int mode), .val (.ref o210), .unset] []))
            subst hl
            rcases hla with rfl | rfl | rfl | rfl
            · show Go p e below _ (T218.setTop (mkF m 301 #[.val (.int p0), .val (.int p1), .val (.int p2), .val (.int p3), .val (.int p4), .val (.int p5), .val (.ref kk183), .val (.ref kk2), .val (.int (0 : Int32)), .val (.int ch186), .val (.int ch187), .val (.int ch188), .val (.int (0 : Int32)), .val (.int pert), .val (.int dd14), .val (.int dd15), .val (.int dd16), .val (.int lnb), .val (.ref o195), .val (.int mode), .val (.ref o210), .unset] []))
              refine P218.xs (fun hA hx hy t k => XS.iload hA hx rfl (hb hy at_301) rfl  k) ?_
              show Go p e below _ (T218.setTop (mkF m 303 #[.val (.int p0), .val (.int p1), .val (.int p2), .val (.int p3), .val (.int p4), .val (.int p5), .val (.ref kk183), .val (.ref kk2), .val (.int (0 : Int32)), .val (.int ch186), .val (.int ch187), .val (.int ch188), .val (.int (0 : Int32)), .val (.int pert), .val (.int dd14), .val (.int dd15), .val (.int dd16), .val (.int lnb), .val (.ref o195), .val (.int mode), .val (.ref o210), .unset] [(.int (0 : Int32))]))
              refine P218.xs (fun hA hx hy t k => XS.iconst hA hx rfl (hb hy at_303) k) ?_
              show Go p e below _ (T218.setTop (mkF m 304 #[.val (.int p0), .val (.int p1), .val (.int p2), .val (.int p3), .val (.int p4), .val (.int p5), .val (.ref kk183), .val (.ref kk2), .val (.int (0 : Int32)), .val (.int ch186), .val (.int ch187), .val (.int ch188), .val (.int (0 : Int32)), .val (.int pert), .val (.int dd14), .val (.int dd15), .val (.int dd16), .val (.int lnb), .val (.ref o195), .val (.int mode), .val (.ref o210), .unset] [(.int (1 : Int32)), (.int (0 : Int32))]))
              refine P218.xs (fun hA hx hy t k => XS.icmpYes hA hx rfl (pc0 := 304) (pc' := 314) rfl (hb hy at_304) rfl (tlt (by decide)).1 (by decide) (by decide) k) ?_
              show Go p e below _ (T218.setTop (mkF m 314 #[.val (.int p0), .val (.int p1), .val (.int p2), .val (.int p3), .val (.int p4), .val (.int p5), .val (.ref kk183), .val (.ref kk2), .val (.int (0 : Int32)), .val (.int ch186), .val (.int ch187), .val (.int ch188), .val (.int (0 : Int32)), .val (.int pert), .val (.int dd14), .val (.int dd15), .val (.int dd16), .val (.int lnb), .val (.ref o195), .val (.int mode), .val (.ref o210), .unset] []))
              refine P218.xs (fun hA hx hy t k => XS.iload hA hx rfl (hb hy at_314) rfl  k) ?_
              show Go p e below _ (T218.setTop (mkF m 316 #[.val (.int p0), .val (.int p1), .val (.int p2), .val (.int p3), .val (.int p4), .val (.int p5), .val (.ref kk183), .val (.ref kk2), .val (.int (0 : Int32)), .val (.int ch186), .val (.int ch187), .val (.int ch188), .val (.int (0 : Int32)), .val (.int pert), .val (.int dd14), .val (.int dd15), .val (.int dd16), .val (.int lnb), .val (.ref o195), .val (.int mode), .val (.ref o210), .unset] [(.int (0 : Int32))]))
              refine P218.xs (fun hA hx hy t k => XS.iconst hA hx rfl (hb hy at_316) k) ?_
              show Go p e below _ (T218.setTop (mkF m 317 #[.val (.int p0), .val (.int p1), .val (.int p2), .val (.int p3), .val (.int p4), .val (.int p5), .val (.ref kk183), .val (.ref kk2), .val (.int (0 : Int32)), .val (.int ch186), .val (.int ch187), .val (.int ch188), .val (.int (0 : Int32)), .val (.int pert), .val (.int dd14), .val (.int dd15), .val (.int dd16), .val (.int lnb), .val (.ref o195), .val (.int mode), .val (.ref o210), .unset] [(.int (2 : Int32)), (.int (0 : Int32))]))
              refine P218.xs (fun hA hx hy t k => XS.icmpYes hA hx rfl (pc0 := 317) (pc' := 327) rfl (hb hy at_317) rfl (tlt (by decide)).1 (by decide) (by decide) k) ?_
              show Go p e below _ (T218.setTop (mkF m 327 #[.val (.int p0), .val (.int p1), .val (.int p2), .val (.int p3), .val (.int p4), .val (.int p5), .val (.ref kk183), .val (.ref kk2), .val (.int (0 : Int32)), .val (.int ch186), .val (.int ch187), .val (.int ch188), .val (.int (0 : Int32)), .val (.int pert), .val (.int dd14), .val (.int dd15), .val (.int dd16), .val (.int lnb), .val (.ref o195), .val (.int mode), .val (.ref o210), .unset] []))
              refine P218.xs (fun hA hx hy t k => XS.iload hA hx rfl (hb hy at_327) rfl  k) ?_
              show Go p e below _ (T218.setTop (mkF m 329 #[.val (.int p0), .val (.int p1), .val (.int p2), .val (.int p3), .val (.int p4), .val (.int p5), .val (.ref kk183), .val (.ref kk2), .val (.int (0 : Int32)), .val (.int ch186), .val (.int ch187), .val (.int ch188), .val (.int (0 : Int32)), .val (.int pert), .val (.int dd14), .val (.int dd15), .val (.int dd16), .val (.int lnb), .val (.ref o195), .val (.int mode), .val (.ref o210), .unset] [(.int (0 : Int32))]))
              refine P218.xs (fun hA hx hy t k => XS.iconst hA hx rfl (hb hy at_329) k) ?_
              show Go p e below _ (T218.setTop (mkF m 330 #[.val (.int p0), .val (.int p1), .val (.int p2), .val (.int p3), .val (.int p4), .val (.int p5), .val (.ref kk183), .val (.ref kk2), .val (.int (0 : Int32)), .val (.int ch186), .val (.int ch187), .val (.int ch188), .val (.int (0 : Int32)), .val (.int pert), .val (.int dd14), .val (.int dd15), .val (.int dd16), .val (.int lnb), .val (.ref o195), .val (.int mode), .val (.ref o210), .unset] [(.int (3 : Int32)), (.int (0 : Int32))]))
              refine P218.xs (fun hA hx hy t k => XS.icmpYes hA hx rfl (pc0 := 330) (pc' := 340) rfl (hb hy at_330) rfl (tlt (by decide)).1 (by decide) (by decide) k) ?_
              show Go p e below _ (T218.setTop (mkF m 340 #[.val (.int p0), .val (.int p1), .val (.int p2), .val (.int p3), .val (.int p4), .val (.int p5), .val (.ref kk183), .val (.ref kk2), .val (.int (0 : Int32)), .val (.int ch186), .val (.int ch187), .val (.int ch188), .val (.int (0 : Int32)), .val (.int pert), .val (.int dd14), .val (.int dd15), .val (.int dd16), .val (.int lnb), .val (.ref o195), .val (.int mode), .val (.ref o210), .unset] []))
              refine P218.xs (fun hA hx hy t k => XS.iload hA hx rfl (hb hy at_340) rfl  k) ?_
              show Go p e below _ (T218.setTop (mkF m 342 #[.val (.int p0), .val (.int p1), .val (.int p2), .val (.int p3), .val (.int p4), .val (.int p5), .val (.ref kk183), .val (.ref kk2), .val (.int (0 : Int32)), .val (.int ch186), .val (.int ch187), .val (.int ch188), .val (.int (0 : Int32)), .val (.int pert), .val (.int dd14), .val (.int dd15), .val (.int dd16), .val (.int lnb), .val (.ref o195), .val (.int mode), .val (.ref o210), .unset] [(.int p4)]))
              refine P218.xs (fun hA hx hy t k => XS.iload hA hx rfl (hb hy at_342) rfl  k) ?_
              show Go p e below _ (T218.setTop (mkF m 344 #[.val (.int p0), .val (.int p1), .val (.int p2), .val (.int p3), .val (.int p4), .val (.int p5), .val (.ref kk183), .val (.ref kk2), .val (.int (0 : Int32)), .val (.int ch186), .val (.int ch187), .val (.int ch188), .val (.int (0 : Int32)), .val (.int pert), .val (.int dd14), .val (.int dd15), .val (.int dd16), .val (.int lnb), .val (.ref o195), .val (.int mode), .val (.ref o210), .unset] [(.int lnb), (.int p4)]))
              by_cases hln : p4 = lnb
              · refine P218.xs (fun hA hx hy t k => XS.icmpNo hA hx rfl (hb hy at_344) rfl (teq hln).2 k) ?_
                show Go p e below _ (T218.setTop (mkF m 347 #[.val (.int p0), .val (.int p1), .val (.int p2), .val (.int p3), .val (.int p4), .val (.int p5), .val (.ref kk183), .val (.ref kk2), .val (.int (0 : Int32)), .val (.int ch186), .val (.int ch187), .val (.int ch188), .val (.int (0 : Int32)), .val (.int pert), .val (.int dd14), .val (.int dd15), .val (.int dd16), .val (.int lnb), .val (.ref o195), .val (.int mode), .val (.ref o210), .unset] []))
                refine P218.xs (fun hA hx hy t k => XS.iconst hA hx rfl (hb hy at_347) k) ?_
                show Go p e below _ (T218.setTop (mkF m 348 #[.val (.int p0), .val (.int p1), .val (.int p2), .val (.int p3), .val (.int p4), .val (.int p5), .val (.ref kk183), .val (.ref kk2), .val (.int (0 : Int32)), .val (.int ch186), .val (.int ch187), .val (.int ch188), .val (.int (0 : Int32)), .val (.int pert), .val (.int dd14), .val (.int dd15), .val (.int dd16), .val (.int lnb), .val (.ref o195), .val (.int mode), .val (.ref o210), .unset] [(.int (1 : Int32))]))
                refine P218.xs (fun hA hx hy t k => XS.goto hA hx rfl (pc0 := 348) (pc' := 352) rfl (hb hy at_348) (by decide) (by decide) k) ?_
                show Go p e below _ (T218.setTop (mkF m 352 #[.val (.int p0), .val (.int p1), .val (.int p2), .val (.int p3), .val (.int p4), .val (.int p5), .val (.ref kk183), .val (.ref kk2), .val (.int (0 : Int32)), .val (.int ch186), .val (.int ch187), .val (.int ch188), .val (.int (0 : Int32)), .val (.int pert), .val (.int dd14), .val (.int dd15), .val (.int dd16), .val (.int lnb), .val (.ref o195), .val (.int mode), .val (.ref o210), .unset] [(.int (1 : Int32))]))
                exact j6 _ _ _ (Or.inl ⟨rfl, hk, rfl, hln⟩) (P218.wider (by decide) (by decide)) (Ec219.keep K218) E218 (Sc229.keep K218 (allS ⟨ne_o196_o210, (nbE Ec221 (hw _ (List.mem_of_getElem? (i := 48) rfl)))⟩ all0)) (E211.keep K218 (allS ⟨(Ne.symm ne_o210_o211), (nbE Ec221 (hw _ (List.mem_of_getElem? (i := 48) rfl)))⟩ all0)) (Ec220.keep K218) (Ec222.keep K218) (Fc223.keep K218 (ninS ne_o195_o210 nin0)) (Fc224.keep K218 (ninS ne_o195_o210 nin0)) (Fc225.keep K218 (ninS ne_o195_o210 nin0)) F218_kind F218_text F218_line
              · refine P218.xs (fun hA hx hy t k => XS.icmpYes hA hx rfl (pc0 := 344) (pc' := 351) rfl (hb hy at_344) rfl (feq hln).2 (by decide) (by decide) k) ?_
                show Go p e below _ (T218.setTop (mkF m 351 #[.val (.int p0), .val (.int p1), .val (.int p2), .val (.int p3), .val (.int p4), .val (.int p5), .val (.ref kk183), .val (.ref kk2), .val (.int (0 : Int32)), .val (.int ch186), .val (.int ch187), .val (.int ch188), .val (.int (0 : Int32)), .val (.int pert), .val (.int dd14), .val (.int dd15), .val (.int dd16), .val (.int lnb), .val (.ref o195), .val (.int mode), .val (.ref o210), .unset] []))
                refine P218.xs (fun hA hx hy t k => XS.iconst hA hx rfl (hb hy at_351) k) ?_
                show Go p e below _ (T218.setTop (mkF m 352 #[.val (.int p0), .val (.int p1), .val (.int p2), .val (.int p3), .val (.int p4), .val (.int p5), .val (.ref kk183), .val (.ref kk2), .val (.int (0 : Int32)), .val (.int ch186), .val (.int ch187), .val (.int ch188), .val (.int (0 : Int32)), .val (.int pert), .val (.int dd14), .val (.int dd15), .val (.int dd16), .val (.int lnb), .val (.ref o195), .val (.int mode), .val (.ref o210), .unset] [(.int (0 : Int32))]))
                exact j6 _ _ _ (Or.inr ⟨rfl, fun g => hln g.2.2⟩) (P218.wider (by decide) (by decide)) (Ec219.keep K218) E218 (Sc229.keep K218 (allS ⟨ne_o196_o210, (nbE Ec221 (hw _ (List.mem_of_getElem? (i := 48) rfl)))⟩ all0)) (E211.keep K218 (allS ⟨(Ne.symm ne_o210_o211), (nbE Ec221 (hw _ (List.mem_of_getElem? (i := 48) rfl)))⟩ all0)) (Ec220.keep K218) (Ec222.keep K218) (Fc223.keep K218 (ninS ne_o195_o210 nin0)) (Fc224.keep K218 (ninS ne_o195_o210 nin0)) (Fc225.keep K218 (ninS ne_o195_o210 nin0)) F218_kind F218_text F218_line
            · show Go p e below _ (T218.setTop (mkF m 301 #[.val (.int p0), .val (.int p1), .val (.int p2), .val (.int p3), .val (.int p4), .val (.int p5), .val (.ref kk183), .val (.ref kk2), .val (.int (1 : Int32)), .val (.int ch186), .val (.int ch187), .val (.int ch188), .val (.int (1 : Int32)), .val (.int pert), .val (.int dd14), .val (.int dd15), .val (.int dd16), .val (.int lnb), .val (.ref o195), .val (.int mode), .val (.ref o210), .unset] []))
              refine P218.xs (fun hA hx hy t k => XS.iload hA hx rfl (hb hy at_301) rfl  k) ?_
              show Go p e below _ (T218.setTop (mkF m 303 #[.val (.int p0), .val (.int p1), .val (.int p2), .val (.int p3), .val (.int p4), .val (.int p5), .val (.ref kk183), .val (.ref kk2), .val (.int (1 : Int32)), .val (.int ch186), .val (.int ch187), .val (.int ch188), .val (.int (1 : Int32)), .val (.int pert), .val (.int dd14), .val (.int dd15), .val (.int dd16), .val (.int lnb), .val (.ref o195), .val (.int mode), .val (.ref o210), .unset] [(.int (1 : Int32))]))
              refine P218.xs (fun hA hx hy t k => XS.iconst hA hx rfl (hb hy at_303) k) ?_
              show Go p e below _ (T218.setTop (mkF m 304 #[.val (.int p0), .val (.int p1), .val (.int p2), .val (.int p3), .val (.int p4), .val (.int p5), .val (.ref kk183), .val (.ref kk2), .val (.int (1 : Int32)), .val (.int ch186), .val (.int ch187), .val (.int ch188), .val (.int (1 : Int32)), .val (.int pert), .val (.int dd14), .val (.int dd15), .val (.int dd16), .val (.int lnb), .val (.ref o195), .val (.int mode), .val (.ref o210), .unset] [(.int (1 : Int32)), (.int (1 : Int32))]))
              refine P218.xs (fun hA hx hy t k => XS.icmpNo hA hx rfl (hb hy at_304) rfl (flt (by decide)).1 k) ?_
              show Go p e below _ (T218.setTop (mkF m 307 #[.val (.int p0), .val (.int p1), .val (.int p2), .val (.int p3), .val (.int p4), .val (.int p5), .val (.ref kk183), .val (.ref kk2), .val (.int (1 : Int32)), .val (.int ch186), .val (.int ch187), .val (.int ch188), .val (.int (1 : Int32)), .val (.int pert), .val (.int dd14), .val (.int dd15), .val (.int dd16), .val (.int lnb), .val (.ref o195), .val (.int mode), .val (.ref o210), .unset] []))
              refine P218.xs (fun hA hx hy t k => XS.iload hA hx rfl (hb hy at_307) rfl  k) ?_
              show Go p e below _ (T218.setTop (mkF m 309 #[.val (.int p0), .val (.int p1), .val (.int p2), .val (.int p3), .val (.int p4), .val (.int p5), .val (.ref kk183), .val (.ref kk2), .val (.int (1 : Int32)), .val (.int ch186), .val (.int ch187), .val (.int ch188), .val (.int (1 : Int32)), .val (.int pert), .val (.int dd14), .val (.int dd15), .val (.int dd16), .val (.int lnb), .val (.ref o195), .val (.int mode), .val (.ref o210), .unset] [(.int ch186)]))
              refine P218.xs (fun hA hx hy t k => XS.iload hA hx rfl (hb hy at_309) rfl  k) ?_
              show Go p e below _ (T218.setTop (mkF m 311 #[.val (.int p0), .val (.int p1), .val (.int p2), .val (.int p3), .val (.int p4), .val (.int p5), .val (.ref kk183), .val (.ref kk2), .val (.int (1 : Int32)), .val (.int ch186), .val (.int ch187), .val (.int ch188), .val (.int (1 : Int32)), .val (.int pert), .val (.int dd14), .val (.int dd15), .val (.int dd16), .val (.int lnb), .val (.ref o195), .val (.int mode), .val (.ref o210), .unset] [(.int dd14), (.int ch186)]))
              by_cases he0 : ch186 = dd14
              · refine P218.xs (fun hA hx hy t k => XS.icmpNo hA hx rfl (hb hy at_311) rfl (teq he0).2 k) ?_
                show Go p e below _ (T218.setTop (mkF m 314 #[.val (.int p0), .val (.int p1), .val (.int p2), .val (.int p3), .val (.int p4), .val (.int p5), .val (.ref kk183), .val (.ref kk2), .val (.int (1 : Int32)), .val (.int ch186), .val (.int ch187), .val (.int ch188), .val (.int (1 : Int32)), .val (.int pert), .val (.int dd14), .val (.int dd15), .val (.int dd16), .val (.int lnb), .val (.ref o195), .val (.int mode), .val (.ref o210), .unset] []))
                refine P218.xs (fun hA hx hy t k => XS.iload hA hx rfl (hb hy at_314) rfl  k) ?_
                show Go p e below _ (T218.setTop (mkF m 316 #[.val (.int p0), .val (.int p1), .val (.int p2), .val (.int p3), .val (.int p4), .val (.int p5), .val (.ref kk183), .val (.ref kk2), .val (.int (1 : Int32)), .val (.int ch186), .val (.int ch187), .val (.int ch188), .val (.int (1 : Int32)), .val (.int pert), .val (.int dd14), .val (.int dd15), .val (.int dd16), .val (.int lnb), .val (.ref o195), .val (.int mode), .val (.ref o210), .unset] [(.int (1 : Int32))]))
                refine P218.xs (fun hA hx hy t k => XS.iconst hA hx rfl (hb hy at_316) k) ?_
                show Go p e below _ (T218.setTop (mkF m 317 #[.val (.int p0), .val (.int p1), .val (.int p2), .val (.int p3), .val (.int p4), .val (.int p5), .val (.ref kk183), .val (.ref kk2), .val (.int (1 : Int32)), .val (.int ch186), .val (.int ch187), .val (.int ch188), .val (.int (1 : Int32)), .val (.int pert), .val (.int dd14), .val (.int dd15), .val (.int dd16), .val (.int lnb), .val (.ref o195), .val (.int mode), .val (.ref o210), .unset] [(.int (2 : Int32)), (.int (1 : Int32))]))
                refine P218.xs (fun hA hx hy t k => XS.icmpYes hA hx rfl (pc0 := 317) (pc' := 327) rfl (hb hy at_317) rfl (tlt (by decide)).1 (by decide) (by decide) k) ?_
                show Go p e below _ (T218.setTop (mkF m 327 #[.val (.int p0), .val (.int p1), .val (.int p2), .val (.int p3), .val (.int p4), .val (.int p5), .val (.ref kk183), .val (.ref kk2), .val (.int (1 : Int32)), .val (.int ch186), .val (.int ch187), .val (.int ch188), .val (.int (1 : Int32)), .val (.int pert), .val (.int dd14), .val (.int dd15), .val (.int dd16), .val (.int lnb), .val (.ref o195), .val (.int mode), .val (.ref o210), .unset] []))
                refine P218.xs (fun hA hx hy t k => XS.iload hA hx rfl (hb hy at_327) rfl  k) ?_
                show Go p e below _ (T218.setTop (mkF m 329 #[.val (.int p0), .val (.int p1), .val (.int p2), .val (.int p3), .val (.int p4), .val (.int p5), .val (.ref kk183), .val (.ref kk2), .val (.int (1 : Int32)), .val (.int ch186), .val (.int ch187), .val (.int ch188), .val (.int (1 : Int32)), .val (.int pert), .val (.int dd14), .val (.int dd15), .val (.int dd16), .val (.int lnb), .val (.ref o195), .val (.int mode), .val (.ref o210), .unset] [(.int (1 : Int32))]))
                refine P218.xs (fun hA hx hy t k => XS.iconst hA hx rfl (hb hy at_329) k) ?_
                show Go p e below _ (T218.setTop (mkF m 330 #[.val (.int p0), .val (.int p1), .val (.int p2), .val (.int p3), .val (.int p4), .val (.int p5), .val (.ref kk183), .val (.ref kk2), .val (.int (1 : Int32)), .val (.int ch186), .val (.int ch187), .val (.int ch188), .val (.int (1 : Int32)), .val (.int pert), .val (.int dd14), .val (.int dd15), .val (.int dd16), .val (.int lnb), .val (.ref o195), .val (.int mode), .val (.ref o210), .unset] [(.int (3 : Int32)), (.int (1 : Int32))]))
                refine P218.xs (fun hA hx hy t k => XS.icmpYes hA hx rfl (pc0 := 330) (pc' := 340) rfl (hb hy at_330) rfl (tlt (by decide)).1 (by decide) (by decide) k) ?_
                show Go p e below _ (T218.setTop (mkF m 340 #[.val (.int p0), .val (.int p1), .val (.int p2), .val (.int p3), .val (.int p4), .val (.int p5), .val (.ref kk183), .val (.ref kk2), .val (.int (1 : Int32)), .val (.int ch186), .val (.int ch187), .val (.int ch188), .val (.int (1 : Int32)), .val (.int pert), .val (.int dd14), .val (.int dd15), .val (.int dd16), .val (.int lnb), .val (.ref o195), .val (.int mode), .val (.ref o210), .unset] []))
                refine P218.xs (fun hA hx hy t k => XS.iload hA hx rfl (hb hy at_340) rfl  k) ?_
                show Go p e below _ (T218.setTop (mkF m 342 #[.val (.int p0), .val (.int p1), .val (.int p2), .val (.int p3), .val (.int p4), .val (.int p5), .val (.ref kk183), .val (.ref kk2), .val (.int (1 : Int32)), .val (.int ch186), .val (.int ch187), .val (.int ch188), .val (.int (1 : Int32)), .val (.int pert), .val (.int dd14), .val (.int dd15), .val (.int dd16), .val (.int lnb), .val (.ref o195), .val (.int mode), .val (.ref o210), .unset] [(.int p4)]))
                refine P218.xs (fun hA hx hy t k => XS.iload hA hx rfl (hb hy at_342) rfl  k) ?_
                show Go p e below _ (T218.setTop (mkF m 344 #[.val (.int p0), .val (.int p1), .val (.int p2), .val (.int p3), .val (.int p4), .val (.int p5), .val (.ref kk183), .val (.ref kk2), .val (.int (1 : Int32)), .val (.int ch186), .val (.int ch187), .val (.int ch188), .val (.int (1 : Int32)), .val (.int pert), .val (.int dd14), .val (.int dd15), .val (.int dd16), .val (.int lnb), .val (.ref o195), .val (.int mode), .val (.ref o210), .unset] [(.int lnb), (.int p4)]))
                by_cases hln : p4 = lnb
                · refine P218.xs (fun hA hx hy t k => XS.icmpNo hA hx rfl (hb hy at_344) rfl (teq hln).2 k) ?_
                  show Go p e below _ (T218.setTop (mkF m 347 #[.val (.int p0), .val (.int p1), .val (.int p2), .val (.int p3), .val (.int p4), .val (.int p5), .val (.ref kk183), .val (.ref kk2), .val (.int (1 : Int32)), .val (.int ch186), .val (.int ch187), .val (.int ch188), .val (.int (1 : Int32)), .val (.int pert), .val (.int dd14), .val (.int dd15), .val (.int dd16), .val (.int lnb), .val (.ref o195), .val (.int mode), .val (.ref o210), .unset] []))
                  refine P218.xs (fun hA hx hy t k => XS.iconst hA hx rfl (hb hy at_347) k) ?_
                  show Go p e below _ (T218.setTop (mkF m 348 #[.val (.int p0), .val (.int p1), .val (.int p2), .val (.int p3), .val (.int p4), .val (.int p5), .val (.ref kk183), .val (.ref kk2), .val (.int (1 : Int32)), .val (.int ch186), .val (.int ch187), .val (.int ch188), .val (.int (1 : Int32)), .val (.int pert), .val (.int dd14), .val (.int dd15), .val (.int dd16), .val (.int lnb), .val (.ref o195), .val (.int mode), .val (.ref o210), .unset] [(.int (1 : Int32))]))
                  refine P218.xs (fun hA hx hy t k => XS.goto hA hx rfl (pc0 := 348) (pc' := 352) rfl (hb hy at_348) (by decide) (by decide) k) ?_
                  show Go p e below _ (T218.setTop (mkF m 352 #[.val (.int p0), .val (.int p1), .val (.int p2), .val (.int p3), .val (.int p4), .val (.int p5), .val (.ref kk183), .val (.ref kk2), .val (.int (1 : Int32)), .val (.int ch186), .val (.int ch187), .val (.int ch188), .val (.int (1 : Int32)), .val (.int pert), .val (.int dd14), .val (.int dd15), .val (.int dd16), .val (.int lnb), .val (.ref o195), .val (.int mode), .val (.ref o210), .unset] [(.int (1 : Int32))]))
                  exact j6 _ _ _ (Or.inl ⟨rfl, hk, cs3_e1.mpr he0, hln⟩) (P218.wider (by decide) (by decide)) (Ec219.keep K218) E218 (Sc229.keep K218 (allS ⟨ne_o196_o210, (nbE Ec221 (hw _ (List.mem_of_getElem? (i := 48) rfl)))⟩ all0)) (E211.keep K218 (allS ⟨(Ne.symm ne_o210_o211), (nbE Ec221 (hw _ (List.mem_of_getElem? (i := 48) rfl)))⟩ all0)) (Ec220.keep K218) (Ec222.keep K218) (Fc223.keep K218 (ninS ne_o195_o210 nin0)) (Fc224.keep K218 (ninS ne_o195_o210 nin0)) (Fc225.keep K218 (ninS ne_o195_o210 nin0)) F218_kind F218_text F218_line
                · refine P218.xs (fun hA hx hy t k => XS.icmpYes hA hx rfl (pc0 := 344) (pc' := 351) rfl (hb hy at_344) rfl (feq hln).2 (by decide) (by decide) k) ?_
                  show Go p e below _ (T218.setTop (mkF m 351 #[.val (.int p0), .val (.int p1), .val (.int p2), .val (.int p3), .val (.int p4), .val (.int p5), .val (.ref kk183), .val (.ref kk2), .val (.int (1 : Int32)), .val (.int ch186), .val (.int ch187), .val (.int ch188), .val (.int (1 : Int32)), .val (.int pert), .val (.int dd14), .val (.int dd15), .val (.int dd16), .val (.int lnb), .val (.ref o195), .val (.int mode), .val (.ref o210), .unset] []))
                  refine P218.xs (fun hA hx hy t k => XS.iconst hA hx rfl (hb hy at_351) k) ?_
                  show Go p e below _ (T218.setTop (mkF m 352 #[.val (.int p0), .val (.int p1), .val (.int p2), .val (.int p3), .val (.int p4), .val (.int p5), .val (.ref kk183), .val (.ref kk2), .val (.int (1 : Int32)), .val (.int ch186), .val (.int ch187), .val (.int ch188), .val (.int (1 : Int32)), .val (.int pert), .val (.int dd14), .val (.int dd15), .val (.int dd16), .val (.int lnb), .val (.ref o195), .val (.int mode), .val (.ref o210), .unset] [(.int (0 : Int32))]))
                  exact j6 _ _ _ (Or.inr ⟨rfl, fun g => hln g.2.2⟩) (P218.wider (by decide) (by decide)) (Ec219.keep K218) E218 (Sc229.keep K218 (allS ⟨ne_o196_o210, (nbE Ec221 (hw _ (List.mem_of_getElem? (i := 48) rfl)))⟩ all0)) (E211.keep K218 (allS ⟨(Ne.symm ne_o210_o211), (nbE Ec221 (hw _ (List.mem_of_getElem? (i := 48) rfl)))⟩ all0)) (Ec220.keep K218) (Ec222.keep K218) (Fc223.keep K218 (ninS ne_o195_o210 nin0)) (Fc224.keep K218 (ninS ne_o195_o210 nin0)) (Fc225.keep K218 (ninS ne_o195_o210 nin0)) F218_kind F218_text F218_line
              · refine P218.xs (fun hA hx hy t k => XS.icmpYes hA hx rfl (pc0 := 311) (pc' := 351) rfl (hb hy at_311) rfl (feq he0).2 (by decide) (by decide) k) ?_
                show Go p e below _ (T218.setTop (mkF m 351 #[.val (.int p0), .val (.int p1), .val (.int p2), .val (.int p3), .val (.int p4), .val (.int p5), .val (.ref kk183), .val (.ref kk2), .val (.int (1 : Int32)), .val (.int ch186), .val (.int ch187), .val (.int ch188), .val (.int (1 : Int32)), .val (.int pert), .val (.int dd14), .val (.int dd15), .val (.int dd16), .val (.int lnb), .val (.ref o195), .val (.int mode), .val (.ref o210), .unset] []))
                refine P218.xs (fun hA hx hy t k => XS.iconst hA hx rfl (hb hy at_351) k) ?_
                show Go p e below _ (T218.setTop (mkF m 352 #[.val (.int p0), .val (.int p1), .val (.int p2), .val (.int p3), .val (.int p4), .val (.int p5), .val (.ref kk183), .val (.ref kk2), .val (.int (1 : Int32)), .val (.int ch186), .val (.int ch187), .val (.int ch188), .val (.int (1 : Int32)), .val (.int pert), .val (.int dd14), .val (.int dd15), .val (.int dd16), .val (.int lnb), .val (.ref o195), .val (.int mode), .val (.ref o210), .unset] [(.int (0 : Int32))]))
                exact j6 _ _ _ (Or.inr ⟨rfl, fun g => he0 ((cs3_e1.mp g.2.1))⟩) (P218.wider (by decide) (by decide)) (Ec219.keep K218) E218 (Sc229.keep K218 (allS ⟨ne_o196_o210, (nbE Ec221 (hw _ (List.mem_of_getElem? (i := 48) rfl)))⟩ all0)) (E211.keep K218 (allS ⟨(Ne.symm ne_o210_o211), (nbE Ec221 (hw _ (List.mem_of_getElem? (i := 48) rfl)))⟩ all0)) (Ec220.keep K218) (Ec222.keep K218) (Fc223.keep K218 (ninS ne_o195_o210 nin0)) (Fc224.keep K218 (ninS ne_o195_o210 nin0)) (Fc225.keep K218 (ninS ne_o195_o210 nin0)) F218_kind F218_text F218_line
            · show Go p e below _ (T218.setTop (mkF m 301 #[.val (.int p0), .val (.int p1), .val (.int p2), .val (.int p3), .val (.int p4), .val (.int p5), .val (.ref kk183), .val (.ref kk2), .val (.int (2 : Int32)), .val (.int ch186), .val (.int ch187), .val (.int ch188), .val (.int (2 : Int32)), .val (.int pert), .val (.int dd14), .val (.int dd15), .val (.int dd16), .val (.int lnb), .val (.ref o195), .val (.int mode), .val (.ref o210), .unset] []))
              refine P218.xs (fun hA hx hy t k => XS.iload hA hx rfl (hb hy at_301) rfl  k) ?_
              show Go p e below _ (T218.setTop (mkF m 303 #[.val (.int p0), .val (.int p1), .val (.int p2), .val (.int p3), .val (.int p4), .val (.int p5), .val (.ref kk183), .val (.ref kk2), .val (.int (2 : Int32)), .val (.int ch186), .val (.int ch187), .val (.int ch188), .val (.int (2 : Int32)), .val (.int pert), .val (.int dd14), .val (.int dd15), .val (.int dd16), .val (.int lnb), .val (.ref o195), .val (.int mode), .val (.ref o210), .unset] [(.int (2 : Int32))]))
              refine P218.xs (fun hA hx hy t k => XS.iconst hA hx rfl (hb hy at_303) k) ?_
              show Go p e below _ (T218.setTop (mkF m 304 #[.val (.int p0), .val (.int p1), .val (.int p2), .val (.int p3), .val (.int p4), .val (.int p5), .val (.ref kk183), .val (.ref kk2), .val (.int (2 : Int32)), .val (.int ch186), .val (.int ch187), .val (.int ch188), .val (.int (2 : Int32)), .val (.int pert), .val (.int dd14), .val (.int dd15), .val (.int dd16), .val (.int lnb), .val (.ref o195), .val (.int mode), .val (.ref o210), .unset] [(.int (1 : Int32)), (.int (2 : Int32))]))
              refine P218.xs (fun hA hx hy t k => XS.icmpNo hA hx rfl (hb hy at_304) rfl (flt (by decide)).1 k) ?_
              show Go p e below _ (T218.setTop (mkF m 307 #[.val (.int p0), .val (.int p1), .val (.int p2), .val (.int p3), .val (.int p4), .val (.int p5), .val (.ref kk183), .val (.ref kk2), .val (.int (2 : Int32)), .val (.int ch186), .val (.int ch187), .val (.int ch188), .val (.int (2 : Int32)), .val (.int pert), .val (.int dd14), .val (.int dd15), .val (.int dd16), .val (.int lnb), .val (.ref o195), .val (.int mode), .val (.ref o210), .unset] []))
              refine P218.xs (fun hA hx hy t k => XS.iload hA hx rfl (hb hy at_307) rfl  k) ?_
              show Go p e below _ (T218.setTop (mkF m 309 #[.val (.int p0), .val (.int p1), .val (.int p2), .val (.int p3), .val (.int p4), .val (.int p5), .val (.ref kk183), .val (.ref kk2), .val (.int (2 : Int32)), .val (.int ch186), .val (.int ch187), .val (.int ch188), .val (.int (2 : Int32)), .val (.int pert), .val (.int dd14), .val (.int dd15), .val (.int dd16), .val (.int lnb), .val (.ref o195), .val (.int mode), .val (.ref o210), .unset] [(.int ch186)]))
              refine P218.xs (fun hA hx hy t k => XS.iload hA hx rfl (hb hy at_309) rfl  k) ?_
              show Go p e below _ (T218.setTop (mkF m 311 #[.val (.int p0), .val (.int p1), .val (.int p2), .val (.int p3), .val (.int p4), .val (.int p5), .val (.ref kk183), .val (.ref kk2), .val (.int (2 : Int32)), .val (.int ch186), .val (.int ch187), .val (.int ch188), .val (.int (2 : Int32)), .val (.int pert), .val (.int dd14), .val (.int dd15), .val (.int dd16), .val (.int lnb), .val (.ref o195), .val (.int mode), .val (.ref o210), .unset] [(.int dd14), (.int ch186)]))
              by_cases he0 : ch186 = dd14
              · refine P218.xs (fun hA hx hy t k => XS.icmpNo hA hx rfl (hb hy at_311) rfl (teq he0).2 k) ?_
                show Go p e below _ (T218.setTop (mkF m 314 #[.val (.int p0), .val (.int p1), .val (.int p2), .val (.int p3), .val (.int p4), .val (.int p5), .val (.ref kk183), .val (.ref kk2), .val (.int (2 : Int32)), .val (.int ch186), .val (.int ch187), .val (.int ch188), .val (.int (2 : Int32)), .val (.int pert), .val (.int dd14), .val (.int dd15), .val (.int dd16), .val (.int lnb), .val (.ref o195), .val (.int mode), .val (.ref o210), .unset] []))
                refine P218.xs (fun hA hx hy t k => XS.iload hA hx rfl (hb hy at_314) rfl  k) ?_
                show Go p e below _ (T218.setTop (mkF m 316 #[.val (.int p0), .val (.int p1), .val (.int p2), .val (.int p3), .val (.int p4), .val (.int p5), .val (.ref kk183), .val (.ref kk2), .val (.int (2 : Int32)), .val (.int ch186), .val (.int ch187), .val (.int ch188), .val (.int (2 : Int32)), .val (.int pert), .val (.int dd14), .val (.int dd15), .val (.int dd16), .val (.int lnb), .val (.ref o195), .val (.int mode), .val (.ref o210), .unset] [(.int (2 : Int32))]))
                refine P218.xs (fun hA hx hy t k => XS.iconst hA hx rfl (hb hy at_316) k) ?_
                show Go p e below _ (T218.setTop (mkF m 317 #[.val (.int p0), .val (.int p1), .val (.int p2), .val (.int p3), .val (.int p4), .val (.int p5), .val (.ref kk183), .val (.ref kk2), .val (.int (2 : Int32)), .val (.int ch186), .val (.int ch187), .val (.int ch188), .val (.int (2 : Int32)), .val (.int pert), .val (.int dd14), .val (.int dd15), .val (.int dd16), .val (.int lnb), .val (.ref o195), .val (.int mode), .val (.ref o210), .unset] [(.int (2 : Int32)), (.int (2 : Int32))]))
                refine P218.xs (fun hA hx hy t k => XS.icmpNo hA hx rfl (hb hy at_317) rfl (flt (by decide)).1 k) ?_
                show Go p e below _ (T218.setTop (mkF m 320 #[.val (.int p0), .val (.int p1), .val (.int p2), .val (.int p3), .val (.int p4), .val (.int p5), .val (.ref kk183), .val (.ref kk2), .val (.int (2 : Int32)), .val (.int ch186), .val (.int ch187), .val (.int ch188), .val (.int (2 : Int32)), .val (.int pert), .val (.int dd14), .val (.int dd15), .val (.int dd16), .val (.int lnb), .val (.ref o195), .val (.int mode), .val (.ref o210), .unset] []))
                refine P218.xs (fun hA hx hy t k => XS.iload hA hx rfl (hb hy at_320) rfl  k) ?_
                show Go p e below _ (T218.setTop (mkF m 322 #[.val (.int p0), .val (.int p1), .val (.int p2), .val (.int p3), .val (.int p4), .val (.int p5), .val (.ref kk183), .val (.ref kk2), .val (.int (2 : Int32)), .val (.int ch186), .val (.int ch187), .val (.int ch188), .val (.int (2 : Int32)), .val (.int pert), .val (.int dd14), .val (.int dd15), .val (.int dd16), .val (.int lnb), .val (.ref o195), .val (.int mode), .val (.ref o210), .unset] [(.int ch187)]))
                refine P218.xs (fun hA hx hy t k => XS.iload hA hx rfl (hb hy at_322) rfl  k) ?_
                show Go p e below _ (T218.setTop (mkF m 324 #[.val (.int p0), .val (.int p1), .val (.int p2), .val (.int p3), .val (.int p4), .val (.int p5), .val (.ref kk183), .val (.ref kk2), .val (.int (2 : Int32)), .val (.int ch186), .val (.int ch187), .val (.int ch188), .val (.int (2 : Int32)), .val (.int pert), .val (.int dd14), .val (.int dd15), .val (.int dd16), .val (.int lnb), .val (.ref o195), .val (.int mode), .val (.ref o210), .unset] [(.int dd15), (.int ch187)]))
                by_cases he1 : ch187 = dd15
                · refine P218.xs (fun hA hx hy t k => XS.icmpNo hA hx rfl (hb hy at_324) rfl (teq he1).2 k) ?_
                  show Go p e below _ (T218.setTop (mkF m 327 #[.val (.int p0), .val (.int p1), .val (.int p2), .val (.int p3), .val (.int p4), .val (.int p5), .val (.ref kk183), .val (.ref kk2), .val (.int (2 : Int32)), .val (.int ch186), .val (.int ch187), .val (.int ch188), .val (.int (2 : Int32)), .val (.int pert), .val (.int dd14), .val (.int dd15), .val (.int dd16), .val (.int lnb), .val (.ref o195), .val (.int mode), .val (.ref o210), .unset] []))
                  refine P218.xs (fun hA hx hy t k => XS.iload hA hx rfl (hb hy at_327) rfl  k) ?_
                  show Go p e below _ (T218.setTop (mkF m 329 #[.val (.int p0), .val (.int p1), .val (.int p2), .val (.int p3), .val (.int p4), .val (.int p5), .val (.ref kk183), .val (.ref kk2), .val (.int (2 : Int32)), .val (.int ch186), .val (.int ch187), .val (.int ch188), .val (.int (2 : Int32)), .val (.int pert), .val (.int dd14), .val (.int dd15), .val (.int dd16), .val (.int lnb), .val (.ref o195), .val (.int mode), .val (.ref o210), .unset] [(.int (2 : Int32))]))
                  refine P218.xs (fun hA hx hy t k => XS.iconst hA hx rfl (hb hy at_329) k) ?_
                  show Go p e below _ (T218.setTop (mkF m 330 #[.val (.int p0), .val (.int p1), .val (.int p2), .val (.int p3), .val (.int p4), .val (.int p5), .val (.ref kk183), .val (.ref kk2), .val (.int (2 : Int32)), .val (.int ch186), .val (.int ch187), .val (.int ch188), .val (.int (2 : Int32)), .val (.int pert), .val (.int dd14), .val (.int dd15), .val (.int dd16), .val (.int lnb), .val (.ref o195), .val (.int mode), .val (.ref o210), .unset] [(.int (3 : Int32)), (.int (2 : Int32))]))
                  refine P218.xs (fun hA hx hy t k => XS.icmpYes hA hx rfl (pc0 := 330) (pc' := 340) rfl (hb hy at_330) rfl (tlt (by decide)).1 (by decide) (by decide) k) ?_
                  show Go p e below _ (T218.setTop (mkF m 340 #[.val (.int p0), .val (.int p1), .val (.int p2), .val (.int p3), .val (.int p4), .val (.int p5), .val (.ref kk183), .val (.ref kk2), .val (.int (2 : Int32)), .val (.int ch186), .val (.int ch187), .val (.int ch188), .val (.int (2 : Int32)), .val (.int pert), .val (.int dd14), .val (.int dd15), .val (.int dd16), .val (.int lnb), .val (.ref o195), .val (.int mode), .val (.ref o210), .unset] []))
                  refine P218.xs (fun hA hx hy t k => XS.iload hA hx rfl (hb hy at_340) rfl  k) ?_
                  show Go p e below _ (T218.setTop (mkF m 342 #[.val (.int p0), .val (.int p1), .val (.int p2), .val (.int p3), .val (.int p4), .val (.int p5), .val (.ref kk183), .val (.ref kk2), .val (.int (2 : Int32)), .val (.int ch186), .val (.int ch187), .val (.int ch188), .val (.int (2 : Int32)), .val (.int pert), .val (.int dd14), .val (.int dd15), .val (.int dd16), .val (.int lnb), .val (.ref o195), .val (.int mode), .val (.ref o210), .unset] [(.int p4)]))
                  refine P218.xs (fun hA hx hy t k => XS.iload hA hx rfl (hb hy at_342) rfl  k) ?_
                  show Go p e below _ (T218.setTop (mkF m 344 #[.val (.int p0), .val (.int p1), .val (.int p2), .val (.int p3), .val (.int p4), .val (.int p5), .val (.ref kk183), .val (.ref kk2), .val (.int (2 : Int32)), .val (.int ch186), .val (.int ch187), .val (.int ch188), .val (.int (2 : Int32)), .val (.int pert), .val (.int dd14), .val (.int dd15), .val (.int dd16), .val (.int lnb), .val (.ref o195), .val (.int mode), .val (.ref o210), .unset] [(.int lnb), (.int p4)]))
                  by_cases hln : p4 = lnb
                  · refine P218.xs (fun hA hx hy t k => XS.icmpNo hA hx rfl (hb hy at_344) rfl (teq hln).2 k) ?_
                    show Go p e below _ (T218.setTop (mkF m 347 #[.val (.int p0), .val (.int p1), .val (.int p2), .val (.int p3), .val (.int p4), .val (.int p5), .val (.ref kk183), .val (.ref kk2), .val (.int (2 : Int32)), .val (.int ch186), .val (.int ch187), .val (.int ch188), .val (.int (2 : Int32)), .val (.int pert), .val (.int dd14), .val (.int dd15), .val (.int dd16), .val (.int lnb), .val (.ref o195), .val (.int mode), .val (.ref o210), .unset] []))
                    refine P218.xs (fun hA hx hy t k => XS.iconst hA hx rfl (hb hy at_347) k) ?_
                    show Go p e below _ (T218.setTop (mkF m 348 #[.val (.int p0), .val (.int p1), .val (.int p2), .val (.int p3), .val (.int p4), .val (.int p5), .val (.ref kk183), .val (.ref kk2), .val (.int (2 : Int32)), .val (.int ch186), .val (.int ch187), .val (.int ch188), .val (.int (2 : Int32)), .val (.int pert), .val (.int dd14), .val (.int dd15), .val (.int dd16), .val (.int lnb), .val (.ref o195), .val (.int mode), .val (.ref o210), .unset] [(.int (1 : Int32))]))
                    refine P218.xs (fun hA hx hy t k => XS.goto hA hx rfl (pc0 := 348) (pc' := 352) rfl (hb hy at_348) (by decide) (by decide) k) ?_
                    show Go p e below _ (T218.setTop (mkF m 352 #[.val (.int p0), .val (.int p1), .val (.int p2), .val (.int p3), .val (.int p4), .val (.int p5), .val (.ref kk183), .val (.ref kk2), .val (.int (2 : Int32)), .val (.int ch186), .val (.int ch187), .val (.int ch188), .val (.int (2 : Int32)), .val (.int pert), .val (.int dd14), .val (.int dd15), .val (.int dd16), .val (.int lnb), .val (.ref o195), .val (.int mode), .val (.ref o210), .unset] [(.int (1 : Int32))]))
                    exact j6 _ _ _ (Or.inl ⟨rfl, hk, cs3_e2.mpr ⟨he0, he1⟩, hln⟩) (P218.wider (by decide) (by decide)) (Ec219.keep K218) E218 (Sc229.keep K218 (allS ⟨ne_o196_o210, (nbE Ec221 (hw _ (List.mem_of_getElem? (i := 48) rfl)))⟩ all0)) (E211.keep K218 (allS ⟨(Ne.symm ne_o210_o211), (nbE Ec221 (hw _ (List.mem_of_getElem? (i := 48) rfl)))⟩ all0)) (Ec220.keep K218) (Ec222.keep K218) (Fc223.keep K218 (ninS ne_o195_o210 nin0)) (Fc224.keep K218 (ninS ne_o195_o210 nin0)) (Fc225.keep K218 (ninS ne_o195_o210 nin0)) F218_kind F218_text F218_line
                  · refine P218.xs (fun hA hx hy t k => XS.icmpYes hA hx rfl (pc0 := 344) (pc' := 351) rfl (hb hy at_344) rfl (feq hln).2 (by decide) (by decide) k) ?_
                    show Go p e below _ (T218.setTop (mkF m 351 #[.val (.int p0), .val (.int p1), .val (.int p2), .val (.int p3), .val (.int p4), .val (.int p5), .val (.ref kk183), .val (.ref kk2), .val (.int (2 : Int32)), .val (.int ch186), .val (.int ch187), .val (.int ch188), .val (.int (2 : Int32)), .val (.int pert), .val (.int dd14), .val (.int dd15), .val (.int dd16), .val (.int lnb), .val (.ref o195), .val (.int mode), .val (.ref o210), .unset] []))
                    refine P218.xs (fun hA hx hy t k => XS.iconst hA hx rfl (hb hy at_351) k) ?_
                    show Go p e below _ (T218.setTop (mkF m 352 #[.val (.int p0), .val (.int p1), .val (.int p2), .val (.int p3), .val (.int p4), .val (.int p5), .val (.ref kk183), .val (.ref kk2), .val (.int (2 : Int32)), .val (.int ch186), .val (.int ch187), .val (.int ch188), .val (.int (2 : Int32)), .val (.int pert), .val (.int dd14), .val (.int dd15), .val (.int dd16), .val (.int lnb), .val (.ref o195), .val (.int mode), .val (.ref o210), .unset] [(.int (0 : Int32))]))
                    exact j6 _ _ _ (Or.inr ⟨rfl, fun g => hln g.2.2⟩) (P218.wider (by decide) (by decide)) (Ec219.keep K218) E218 (Sc229.keep K218 (allS ⟨ne_o196_o210, (nbE Ec221 (hw _ (List.mem_of_getElem? (i := 48) rfl)))⟩ all0)) (E211.keep K218 (allS ⟨(Ne.symm ne_o210_o211), (nbE Ec221 (hw _ (List.mem_of_getElem? (i := 48) rfl)))⟩ all0)) (Ec220.keep K218) (Ec222.keep K218) (Fc223.keep K218 (ninS ne_o195_o210 nin0)) (Fc224.keep K218 (ninS ne_o195_o210 nin0)) (Fc225.keep K218 (ninS ne_o195_o210 nin0)) F218_kind F218_text F218_line
                · refine P218.xs (fun hA hx hy t k => XS.icmpYes hA hx rfl (pc0 := 324) (pc' := 351) rfl (hb hy at_324) rfl (feq he1).2 (by decide) (by decide) k) ?_
                  show Go p e below _ (T218.setTop (mkF m 351 #[.val (.int p0), .val (.int p1), .val (.int p2), .val (.int p3), .val (.int p4), .val (.int p5), .val (.ref kk183), .val (.ref kk2), .val (.int (2 : Int32)), .val (.int ch186), .val (.int ch187), .val (.int ch188), .val (.int (2 : Int32)), .val (.int pert), .val (.int dd14), .val (.int dd15), .val (.int dd16), .val (.int lnb), .val (.ref o195), .val (.int mode), .val (.ref o210), .unset] []))
                  refine P218.xs (fun hA hx hy t k => XS.iconst hA hx rfl (hb hy at_351) k) ?_
                  show Go p e below _ (T218.setTop (mkF m 352 #[.val (.int p0), .val (.int p1), .val (.int p2), .val (.int p3), .val (.int p4), .val (.int p5), .val (.ref kk183), .val (.ref kk2), .val (.int (2 : Int32)), .val (.int ch186), .val (.int ch187), .val (.int ch188), .val (.int (2 : Int32)), .val (.int pert), .val (.int dd14), .val (.int dd15), .val (.int dd16), .val (.int lnb), .val (.ref o195), .val (.int mode), .val (.ref o210), .unset] [(.int (0 : Int32))]))
                  exact j6 _ _ _ (Or.inr ⟨rfl, fun g => he1 ((cs3_e2.mp g.2.1).2)⟩) (P218.wider (by decide) (by decide)) (Ec219.keep K218) E218 (Sc229.keep K218 (allS ⟨ne_o196_o210, (nbE Ec221 (hw _ (List.mem_of_getElem? (i := 48) rfl)))⟩ all0)) (E211.keep K218 (allS ⟨(Ne.symm ne_o210_o211), (nbE Ec221 (hw _ (List.mem_of_getElem? (i := 48) rfl)))⟩ all0)) (Ec220.keep K218) (Ec222.keep K218) (Fc223.keep K218 (ninS ne_o195_o210 nin0)) (Fc224.keep K218 (ninS ne_o195_o210 nin0)) (Fc225.keep K218 (ninS ne_o195_o210 nin0)) F218_kind F218_text F218_line
              · refine P218.xs (fun hA hx hy t k => XS.icmpYes hA hx rfl (pc0 := 311) (pc' := 351) rfl (hb hy at_311) rfl (feq he0).2 (by decide) (by decide) k) ?_
                show Go p e below _ (T218.setTop (mkF m 351 #[.val (.int p0), .val (.int p1), .val (.int p2), .val (.int p3), .val (.int p4), .val (.int p5), .val (.ref kk183), .val (.ref kk2), .val (.int (2 : Int32)), .val (.int ch186), .val (.int ch187), .val (.int ch188), .val (.int (2 : Int32)), .val (.int pert), .val (.int dd14), .val (.int dd15), .val (.int dd16), .val (.int lnb), .val (.ref o195), .val (.int mode), .val (.ref o210), .unset] []))
                refine P218.xs (fun hA hx hy t k => XS.iconst hA hx rfl (hb hy at_351) k) ?_
                show Go p e below _ (T218.setTop (mkF m 352 #[.val (.int p0), .val (.int p1), .val (.int p2), .val (.int p3), .val (.int p4), .val (.int p5), .val (.ref kk183), .val (.ref kk2), .val (.int (2 : Int32)), .val (.int ch186), .val (.int ch187), .val (.int ch188), .val (.int (2 : Int32)), .val (.int pert), .val (.int dd14), .val (.int dd15), .val (.int dd16), .val (.int lnb), .val (.ref o195), .val (.int mode), .val (.ref o210), .unset] [(.int (0 : Int32))]))
                exact j6 _ _ _ (Or.inr ⟨rfl, fun g => he0 ((cs3_e2.mp g.2.1).1)⟩) (P218.wider (by decide) (by decide)) (Ec219.keep K218) E218 (Sc229.keep K218 (allS ⟨ne_o196_o210, (nbE Ec221 (hw _ (List.mem_of_getElem? (i := 48) rfl)))⟩ all0)) (E211.keep K218 (allS ⟨(Ne.symm ne_o210_o211), (nbE Ec221 (hw _ (List.mem_of_getElem? (i := 48) rfl)))⟩ all0)) (Ec220.keep K218) (Ec222.keep K218) (Fc223.keep K218 (ninS ne_o195_o210 nin0)) (Fc224.keep K218 (ninS ne_o195_o210 nin0)) (Fc225.keep K218 (ninS ne_o195_o210 nin0)) F218_kind F218_text F218_line
            · show Go p e below _ (T218.setTop (mkF m 301 #[.val (.int p0), .val (.int p1), .val (.int p2), .val (.int p3), .val (.int p4), .val (.int p5), .val (.ref kk183), .val (.ref kk2), .val (.int (3 : Int32)), .val (.int ch186), .val (.int ch187), .val (.int ch188), .val (.int (3 : Int32)), .val (.int pert), .val (.int dd14), .val (.int dd15), .val (.int dd16), .val (.int lnb), .val (.ref o195), .val (.int mode), .val (.ref o210), .unset] []))
              refine P218.xs (fun hA hx hy t k => XS.iload hA hx rfl (hb hy at_301) rfl  k) ?_
              show Go p e below _ (T218.setTop (mkF m 303 #[.val (.int p0), .val (.int p1), .val (.int p2), .val (.int p3), .val (.int p4), .val (.int p5), .val (.ref kk183), .val (.ref kk2), .val (.int (3 : Int32)), .val (.int ch186), .val (.int ch187), .val (.int ch188), .val (.int (3 : Int32)), .val (.int pert), .val (.int dd14), .val (.int dd15), .val (.int dd16), .val (.int lnb), .val (.ref o195), .val (.int mode), .val (.ref o210), .unset] [(.int (3 : Int32))]))
              refine P218.xs (fun hA hx hy t k => XS.iconst hA hx rfl (hb hy at_303) k) ?_
              show Go p e below _ (T218.setTop (mkF m 304 #[.val (.int p0), .val (.int p1), .val (.int p2), .val (.int p3), .val (.int p4), .val (.int p5), .val (.ref kk183), .val (.ref kk2), .val (.int (3 : Int32)), .val (.int ch186), .val (.int ch187), .val (.int ch188), .val (.int (3 : Int32)), .val (.int pert), .val (.int dd14), .val (.int dd15), .val (.int dd16), .val (.int lnb), .val (.ref o195), .val (.int mode), .val (.ref o210), .unset] [(.int (1 : Int32)), (.int (3 : Int32))]))
              refine P218.xs (fun hA hx hy t k => XS.icmpNo hA hx rfl (hb hy at_304) rfl (flt (by decide)).1 k) ?_
              show Go p e below _ (T218.setTop (mkF m 307 #[.val (.int p0), .val (.int p1), .val (.int p2), .val (.int p3), .val (.int p4), .val (.int p5), .val (.ref kk183), .val (.ref kk2), .val (.int (3 : Int32)), .val (.int ch186), .val (.int ch187), .val (.int ch188), .val (.int (3 : Int32)), .val (.int pert), .val (.int dd14), .val (.int dd15), .val (.int dd16), .val (.int lnb), .val (.ref o195), .val (.int mode), .val (.ref o210), .unset] []))
              refine P218.xs (fun hA hx hy t k => XS.iload hA hx rfl (hb hy at_307) rfl  k) ?_
              show Go p e below _ (T218.setTop (mkF m 309 #[.val (.int p0), .val (.int p1), .val (.int p2), .val (.int p3), .val (.int p4), .val (.int p5), .val (.ref kk183), .val (.ref kk2), .val (.int (3 : Int32)), .val (.int ch186), .val (.int ch187), .val (.int ch188), .val (.int (3 : Int32)), .val (.int pert), .val (.int dd14), .val (.int dd15), .val (.int dd16), .val (.int lnb), .val (.ref o195), .val (.int mode), .val (.ref o210), .unset] [(.int ch186)]))
              refine P218.xs (fun hA hx hy t k => XS.iload hA hx rfl (hb hy at_309) rfl  k) ?_
              show Go p e below _ (T218.setTop (mkF m 311 #[.val (.int p0), .val (.int p1), .val (.int p2), .val (.int p3), .val (.int p4), .val (.int p5), .val (.ref kk183), .val (.ref kk2), .val (.int (3 : Int32)), .val (.int ch186), .val (.int ch187), .val (.int ch188), .val (.int (3 : Int32)), .val (.int pert), .val (.int dd14), .val (.int dd15), .val (.int dd16), .val (.int lnb), .val (.ref o195), .val (.int mode), .val (.ref o210), .unset] [(.int dd14), (.int ch186)]))
              by_cases he0 : ch186 = dd14
              · refine P218.xs (fun hA hx hy t k => XS.icmpNo hA hx rfl (hb hy at_311) rfl (teq he0).2 k) ?_
                show Go p e below _ (T218.setTop (mkF m 314 #[.val (.int p0), .val (.int p1), .val (.int p2), .val (.int p3), .val (.int p4), .val (.int p5), .val (.ref kk183), .val (.ref kk2), .val (.int (3 : Int32)), .val (.int ch186), .val (.int ch187), .val (.int ch188), .val (.int (3 : Int32)), .val (.int pert), .val (.int dd14), .val (.int dd15), .val (.int dd16), .val (.int lnb), .val (.ref o195), .val (.int mode), .val (.ref o210), .unset] []))
                refine P218.xs (fun hA hx hy t k => XS.iload hA hx rfl (hb hy at_314) rfl  k) ?_
                show Go p e below _ (T218.setTop (mkF m 316 #[.val (.int p0), .val (.int p1), .val (.int p2), .val (.int p3), .val (.int p4), .val (.int p5), .val (.ref kk183), .val (.ref kk2), .val (.int (3 : Int32)), .val (.int ch186), .val (.int ch187), .val (.int ch188), .val (.int (3 : Int32)), .val (.int pert), .val (.int dd14), .val (.int dd15), .val (.int dd16), .val (.int lnb), .val (.ref o195), .val (.int mode), .val (.ref o210), .unset] [(.int (3 : Int32))]))
                refine P218.xs (fun hA hx hy t k => XS.iconst hA hx rfl (hb hy at_316) k) ?_
                show Go p e below _ (T218.setTop (mkF m 317 #[.val (.int p0), .val (.int p1), .val (.int p2), .val (.int p3), .val (.int p4), .val (.int p5), .val (.ref kk183), .val (.ref kk2), .val (.int (3 : Int32)), .val (.int ch186), .val (.int ch187), .val (.int ch188), .val (.int (3 : Int32)), .val (.int pert), .val (.int dd14), .val (.int dd15), .val (.int dd16), .val (.int lnb), .val (.ref o195), .val (.int mode), .val (.ref o210), .unset] [(.int (2 : Int32)), (.int (3 : Int32))]))
                refine P218.xs (fun hA hx hy t k => XS.icmpNo hA hx rfl (hb hy at_317) rfl (flt (by decide)).1 k) ?_
                show Go p e below _ (T218.setTop (mkF m 320 #[.val (.int p0), .val (.int p1), .val (.int p2), .val (.int p3), .val (.int p4), .val (.int p5), .val (.ref kk183), .val (.ref kk2), .val (.int (3 : Int32)), .val (.int ch186), .val (.int ch187), .val (.int ch188), .val (.int (3 : Int32)), .val (.int pert), .val (.int dd14), .val (.int dd15), .val (.int dd16), .val (.int lnb), .val (.ref o195), .val (.int mode), .val (.ref o210), .unset] []))
                refine P218.xs (fun hA hx hy t k => XS.iload hA hx rfl (hb hy at_320) rfl  k) ?_
                show Go p e below _ (T218.setTop (mkF m 322 #[.val (.int p0), .val (.int p1), .val (.int p2), .val (.int p3), .val (.int p4), .val (.int p5), .val (.ref kk183), .val (.ref kk2), .val (.int (3 : Int32)), .val (.int ch186), .val (.int ch187), .val (.int ch188), .val (.int (3 : Int32)), .val (.int pert), .val (.int dd14), .val (.int dd15), .val (.int dd16), .val (.int lnb), .val (.ref o195), .val (.int mode), .val (.ref o210), .unset] [(.int ch187)]))
                refine P218.xs (fun hA hx hy t k => XS.iload hA hx rfl (hb hy at_322) rfl  k) ?_
                show Go p e below _ (T218.setTop (mkF m 324 #[.val (.int p0), .val (.int p1), .val (.int p2), .val (.int p3), .val (.int p4), .val (.int p5), .val (.ref kk183), .val (.ref kk2), .val (.int (3 : Int32)), .val (.int ch186), .val (.int ch187), .val (.int ch188), .val (.int (3 : Int32)), .val (.int pert), .val (.int dd14), .val (.int dd15), .val (.int dd16), .val (.int lnb), .val (.ref o195), .val (.int mode), .val (.ref o210), .unset] [(.int dd15), (.int ch187)]))
                by_cases he1 : ch187 = dd15
                · refine P218.xs (fun hA hx hy t k => XS.icmpNo hA hx rfl (hb hy at_324) rfl (teq he1).2 k) ?_
                  show Go p e below _ (T218.setTop (mkF m 327 #[.val (.int p0), .val (.int p1), .val (.int p2), .val (.int p3), .val (.int p4), .val (.int p5), .val (.ref kk183), .val (.ref kk2), .val (.int (3 : Int32)), .val (.int ch186), .val (.int ch187), .val (.int ch188), .val (.int (3 : Int32)), .val (.int pert), .val (.int dd14), .val (.int dd15), .val (.int dd16), .val (.int lnb), .val (.ref o195), .val (.int mode), .val (.ref o210), .unset] []))
                  refine P218.xs (fun hA hx hy t k => XS.iload hA hx rfl (hb hy at_327) rfl  k) ?_
                  show Go p e below _ (T218.setTop (mkF m 329 #[.val (.int p0), .val (.int p1), .val (.int p2), .val (.int p3), .val (.int p4), .val (.int p5), .val (.ref kk183), .val (.ref kk2), .val (.int (3 : Int32)), .val (.int ch186), .val (.int ch187), .val (.int ch188), .val (.int (3 : Int32)), .val (.int pert), .val (.int dd14), .val (.int dd15), .val (.int dd16), .val (.int lnb), .val (.ref o195), .val (.int mode), .val (.ref o210), .unset] [(.int (3 : Int32))]))
                  refine P218.xs (fun hA hx hy t k => XS.iconst hA hx rfl (hb hy at_329) k) ?_
                  show Go p e below _ (T218.setTop (mkF m 330 #[.val (.int p0), .val (.int p1), .val (.int p2), .val (.int p3), .val (.int p4), .val (.int p5), .val (.ref kk183), .val (.ref kk2), .val (.int (3 : Int32)), .val (.int ch186), .val (.int ch187), .val (.int ch188), .val (.int (3 : Int32)), .val (.int pert), .val (.int dd14), .val (.int dd15), .val (.int dd16), .val (.int lnb), .val (.ref o195), .val (.int mode), .val (.ref o210), .unset] [(.int (3 : Int32)), (.int (3 : Int32))]))
                  refine P218.xs (fun hA hx hy t k => XS.icmpNo hA hx rfl (hb hy at_330) rfl (flt (by decide)).1 k) ?_
                  show Go p e below _ (T218.setTop (mkF m 333 #[.val (.int p0), .val (.int p1), .val (.int p2), .val (.int p3), .val (.int p4), .val (.int p5), .val (.ref kk183), .val (.ref kk2), .val (.int (3 : Int32)), .val (.int ch186), .val (.int ch187), .val (.int ch188), .val (.int (3 : Int32)), .val (.int pert), .val (.int dd14), .val (.int dd15), .val (.int dd16), .val (.int lnb), .val (.ref o195), .val (.int mode), .val (.ref o210), .unset] []))
                  refine P218.xs (fun hA hx hy t k => XS.iload hA hx rfl (hb hy at_333) rfl  k) ?_
                  show Go p e below _ (T218.setTop (mkF m 335 #[.val (.int p0), .val (.int p1), .val (.int p2), .val (.int p3), .val (.int p4), .val (.int p5), .val (.ref kk183), .val (.ref kk2), .val (.int (3 : Int32)), .val (.int ch186), .val (.int ch187), .val (.int ch188), .val (.int (3 : Int32)), .val (.int pert), .val (.int dd14), .val (.int dd15), .val (.int dd16), .val (.int lnb), .val (.ref o195), .val (.int mode), .val (.ref o210), .unset] [(.int ch188)]))
                  refine P218.xs (fun hA hx hy t k => XS.iload hA hx rfl (hb hy at_335) rfl  k) ?_
                  show Go p e below _ (T218.setTop (mkF m 337 #[.val (.int p0), .val (.int p1), .val (.int p2), .val (.int p3), .val (.int p4), .val (.int p5), .val (.ref kk183), .val (.ref kk2), .val (.int (3 : Int32)), .val (.int ch186), .val (.int ch187), .val (.int ch188), .val (.int (3 : Int32)), .val (.int pert), .val (.int dd14), .val (.int dd15), .val (.int dd16), .val (.int lnb), .val (.ref o195), .val (.int mode), .val (.ref o210), .unset] [(.int dd16), (.int ch188)]))
                  by_cases he2 : ch188 = dd16
                  · refine P218.xs (fun hA hx hy t k => XS.icmpNo hA hx rfl (hb hy at_337) rfl (teq he2).2 k) ?_
                    show Go p e below _ (T218.setTop (mkF m 340 #[.val (.int p0), .val (.int p1), .val (.int p2), .val (.int p3), .val (.int p4), .val (.int p5), .val (.ref kk183), .val (.ref kk2), .val (.int (3 : Int32)), .val (.int ch186), .val (.int ch187), .val (.int ch188), .val (.int (3 : Int32)), .val (.int pert), .val (.int dd14), .val (.int dd15), .val (.int dd16), .val (.int lnb), .val (.ref o195), .val (.int mode), .val (.ref o210), .unset] []))
                    refine P218.xs (fun hA hx hy t k => XS.iload hA hx rfl (hb hy at_340) rfl  k) ?_
                    show Go p e below _ (T218.setTop (mkF m 342 #[.val (.int p0), .val (.int p1), .val (.int p2), .val (.int p3), .val (.int p4), .val (.int p5), .val (.ref kk183), .val (.ref kk2), .val (.int (3 : Int32)), .val (.int ch186), .val (.int ch187), .val (.int ch188), .val (.int (3 : Int32)), .val (.int pert), .val (.int dd14), .val (.int dd15), .val (.int dd16), .val (.int lnb), .val (.ref o195), .val (.int mode), .val (.ref o210), .unset] [(.int p4)]))
                    refine P218.xs (fun hA hx hy t k => XS.iload hA hx rfl (hb hy at_342) rfl  k) ?_
                    show Go p e below _ (T218.setTop (mkF m 344 #[.val (.int p0), .val (.int p1), .val (.int p2), .val (.int p3), .val (.int p4), .val (.int p5), .val (.ref kk183), .val (.ref kk2), .val (.int (3 : Int32)), .val (.int ch186), .val (.int ch187), .val (.int ch188), .val (.int (3 : Int32)), .val (.int pert), .val (.int dd14), .val (.int dd15), .val (.int dd16), .val (.int lnb), .val (.ref o195), .val (.int mode), .val (.ref o210), .unset] [(.int lnb), (.int p4)]))
                    by_cases hln : p4 = lnb
                    · refine P218.xs (fun hA hx hy t k => XS.icmpNo hA hx rfl (hb hy at_344) rfl (teq hln).2 k) ?_
                      show Go p e below _ (T218.setTop (mkF m 347 #[.val (.int p0), .val (.int p1), .val (.int p2), .val (.int p3), .val (.int p4), .val (.int p5), .val (.ref kk183), .val (.ref kk2), .val (.int (3 : Int32)), .val (.int ch186), .val (.int ch187), .val (.int ch188), .val (.int (3 : Int32)), .val (.int pert), .val (.int dd14), .val (.int dd15), .val (.int dd16), .val (.int lnb), .val (.ref o195), .val (.int mode), .val (.ref o210), .unset] []))
                      refine P218.xs (fun hA hx hy t k => XS.iconst hA hx rfl (hb hy at_347) k) ?_
                      show Go p e below _ (T218.setTop (mkF m 348 #[.val (.int p0), .val (.int p1), .val (.int p2), .val (.int p3), .val (.int p4), .val (.int p5), .val (.ref kk183), .val (.ref kk2), .val (.int (3 : Int32)), .val (.int ch186), .val (.int ch187), .val (.int ch188), .val (.int (3 : Int32)), .val (.int pert), .val (.int dd14), .val (.int dd15), .val (.int dd16), .val (.int lnb), .val (.ref o195), .val (.int mode), .val (.ref o210), .unset] [(.int (1 : Int32))]))
                      refine P218.xs (fun hA hx hy t k => XS.goto hA hx rfl (pc0 := 348) (pc' := 352) rfl (hb hy at_348) (by decide) (by decide) k) ?_
                      show Go p e below _ (T218.setTop (mkF m 352 #[.val (.int p0), .val (.int p1), .val (.int p2), .val (.int p3), .val (.int p4), .val (.int p5), .val (.ref kk183), .val (.ref kk2), .val (.int (3 : Int32)), .val (.int ch186), .val (.int ch187), .val (.int ch188), .val (.int (3 : Int32)), .val (.int pert), .val (.int dd14), .val (.int dd15), .val (.int dd16), .val (.int lnb), .val (.ref o195), .val (.int mode), .val (.ref o210), .unset] [(.int (1 : Int32))]))
                      exact j6 _ _ _ (Or.inl ⟨rfl, hk, cs3_e3.mpr ⟨he0, he1, he2⟩, hln⟩) (P218.wider (by decide) (by decide)) (Ec219.keep K218) E218 (Sc229.keep K218 (allS ⟨ne_o196_o210, (nbE Ec221 (hw _ (List.mem_of_getElem? (i := 48) rfl)))⟩ all0)) (E211.keep K218 (allS ⟨(Ne.symm ne_o210_o211), (nbE Ec221 (hw _ (List.mem_of_getElem? (i := 48) rfl)))⟩ all0)) (Ec220.keep K218) (Ec222.keep K218) (Fc223.keep K218 (ninS ne_o195_o210 nin0)) (Fc224.keep K218 (ninS ne_o195_o210 nin0)) (Fc225.keep K218 (ninS ne_o195_o210 nin0)) F218_kind F218_text F218_line
                    · refine P218.xs (fun hA hx hy t k => XS.icmpYes hA hx rfl (pc0 := 344) (pc' := 351) rfl (hb hy at_344) rfl (feq hln).2 (by decide) (by decide) k) ?_
                      show Go p e below _ (T218.setTop (mkF m 351 #[.val (.int p0), .val (.int p1), .val (.int p2), .val (.int p3), .val (.int p4), .val (.int p5), .val (.ref kk183), .val (.ref kk2), .val (.int (3 : Int32)), .val (.int ch186), .val (.int ch187), .val (.int ch188), .val (.int (3 : Int32)), .val (.int pert), .val (.int dd14), .val (.int dd15), .val (.int dd16), .val (.int lnb), .val (.ref o195), .val (.int mode), .val (.ref o210), .unset] []))
                      refine P218.xs (fun hA hx hy t k => XS.iconst hA hx rfl (hb hy at_351) k) ?_
                      show Go p e below _ (T218.setTop (mkF m 352 #[.val (.int p0), .val (.int p1), .val (.int p2), .val (.int p3), .val (.int p4), .val (.int p5), .val (.ref kk183), .val (.ref kk2), .val (.int (3 : Int32)), .val (.int ch186), .val (.int ch187), .val (.int ch188), .val (.int (3 : Int32)), .val (.int pert), .val (.int dd14), .val (.int dd15), .val (.int dd16), .val (.int lnb), .val (.ref o195), .val (.int mode), .val (.ref o210), .unset] [(.int (0 : Int32))]))
                      exact j6 _ _ _ (Or.inr ⟨rfl, fun g => hln g.2.2⟩) (P218.wider (by decide) (by decide)) (Ec219.keep K218) E218 (Sc229.keep K218 (allS ⟨ne_o196_o210, (nbE Ec221 (hw _ (List.mem_of_getElem? (i := 48) rfl)))⟩ all0)) (E211.keep K218 (allS ⟨(Ne.symm ne_o210_o211), (nbE Ec221 (hw _ (List.mem_of_getElem? (i := 48) rfl)))⟩ all0)) (Ec220.keep K218) (Ec222.keep K218) (Fc223.keep K218 (ninS ne_o195_o210 nin0)) (Fc224.keep K218 (ninS ne_o195_o210 nin0)) (Fc225.keep K218 (ninS ne_o195_o210 nin0)) F218_kind F218_text F218_line
                  · refine P218.xs (fun hA hx hy t k => XS.icmpYes hA hx rfl (pc0 := 337) (pc' := 351) rfl (hb hy at_337) rfl (feq he2).2 (by decide) (by decide) k) ?_
                    show Go p e below _ (T218.setTop (mkF m 351 #[.val (.int p0), .val (.int p1), .val (.int p2), .val (.int p3), .val (.int p4), .val (.int p5), .val (.ref kk183), .val (.ref kk2), .val (.int (3 : Int32)), .val (.int ch186), .val (.int ch187), .val (.int ch188), .val (.int (3 : Int32)), .val (.int pert), .val (.int dd14), .val (.int dd15), .val (.int dd16), .val (.int lnb), .val (.ref o195), .val (.int mode), .val (.ref o210), .unset] []))
                    refine P218.xs (fun hA hx hy t k => XS.iconst hA hx rfl (hb hy at_351) k) ?_
                    show Go p e below _ (T218.setTop (mkF m 352 #[.val (.int p0), .val (.int p1), .val (.int p2), .val (.int p3), .val (.int p4), .val (.int p5), .val (.ref kk183), .val (.ref kk2), .val (.int (3 : Int32)), .val (.int ch186), .val (.int ch187), .val (.int ch188), .val (.int (3 : Int32)), .val (.int pert), .val (.int dd14), .val (.int dd15), .val (.int dd16), .val (.int lnb), .val (.ref o195), .val (.int mode), .val (.ref o210), .unset] [(.int (0 : Int32))]))
                    exact j6 _ _ _ (Or.inr ⟨rfl, fun g => he2 ((cs3_e3.mp g.2.1).2.2)⟩) (P218.wider (by decide) (by decide)) (Ec219.keep K218) E218 (Sc229.keep K218 (allS ⟨ne_o196_o210, (nbE Ec221 (hw _ (List.mem_of_getElem? (i := 48) rfl)))⟩ all0)) (E211.keep K218 (allS ⟨(Ne.symm ne_o210_o211), (nbE Ec221 (hw _ (List.mem_of_getElem? (i := 48) rfl)))⟩ all0)) (Ec220.keep K218) (Ec222.keep K218) (Fc223.keep K218 (ninS ne_o195_o210 nin0)) (Fc224.keep K218 (ninS ne_o195_o210 nin0)) (Fc225.keep K218 (ninS ne_o195_o210 nin0)) F218_kind F218_text F218_line
                · refine P218.xs (fun hA hx hy t k => XS.icmpYes hA hx rfl (pc0 := 324) (pc' := 351) rfl (hb hy at_324) rfl (feq he1).2 (by decide) (by decide) k) ?_
                  show Go p e below _ (T218.setTop (mkF m 351 #[.val (.int p0), .val (.int p1), .val (.int p2), .val (.int p3), .val (.int p4), .val (.int p5), .val (.ref kk183), .val (.ref kk2), .val (.int (3 : Int32)), .val (.int ch186), .val (.int ch187), .val (.int ch188), .val (.int (3 : Int32)), .val (.int pert), .val (.int dd14), .val (.int dd15), .val (.int dd16), .val (.int lnb), .val (.ref o195), .val (.int mode), .val (.ref o210), .unset] []))
                  refine P218.xs (fun hA hx hy t k => XS.iconst hA hx rfl (hb hy at_351) k) ?_
                  show Go p e below _ (T218.setTop (mkF m 352 #[.val (.int p0), .val (.int p1), .val (.int p2), .val (.int p3), .val (.int p4), .val (.int p5), .val (.ref kk183), .val (.ref kk2), .val (.int (3 : Int32)), .val (.int ch186), .val (.int ch187), .val (.int ch188), .val (.int (3 : Int32)), .val (.int pert), .val (.int dd14), .val (.int dd15), .val (.int dd16), .val (.int lnb), .val (.ref o195), .val (.int mode), .val (.ref o210), .unset] [(.int (0 : Int32))]))
                  exact j6 _ _ _ (Or.inr ⟨rfl, fun g => he1 ((cs3_e3.mp g.2.1).2.1)⟩) (P218.wider (by decide) (by decide)) (Ec219.keep K218) E218 (Sc229.keep K218 (allS ⟨ne_o196_o210, (nbE Ec221 (hw _ (List.mem_of_getElem? (i := 48) rfl)))⟩ all0)) (E211.keep K218 (allS ⟨(Ne.symm ne_o210_o211), (nbE Ec221 (hw _ (List.mem_of_getElem? (i := 48) rfl)))⟩ all0)) (Ec220.keep K218) (Ec222.keep K218) (Fc223.keep K218 (ninS ne_o195_o210 nin0)) (Fc224.keep K218 (ninS ne_o195_o210 nin0)) (Fc225.keep K218 (ninS ne_o195_o210 nin0)) F218_kind F218_text F218_line
              · refine P218.xs (fun hA hx hy t k => XS.icmpYes hA hx rfl (pc0 := 311) (pc' := 351) rfl (hb hy at_311) rfl (feq he0).2 (by decide) (by decide) k) ?_
                show Go p e below _ (T218.setTop (mkF m 351 #[.val (.int p0), .val (.int p1), .val (.int p2), .val (.int p3), .val (.int p4), .val (.int p5), .val (.ref kk183), .val (.ref kk2), .val (.int (3 : Int32)), .val (.int ch186), .val (.int ch187), .val (.int ch188), .val (.int (3 : Int32)), .val (.int pert), .val (.int dd14), .val (.int dd15), .val (.int dd16), .val (.int lnb), .val (.ref o195), .val (.int mode), .val (.ref o210), .unset] []))
                refine P218.xs (fun hA hx hy t k => XS.iconst hA hx rfl (hb hy at_351) k) ?_
                show Go p e below _ (T218.setTop (mkF m 352 #[.val (.int p0), .val (.int p1), .val (.int p2), .val (.int p3), .val (.int p4), .val (.int p5), .val (.ref kk183), .val (.ref kk2), .val (.int (3 : Int32)), .val (.int ch186), .val (.int ch187), .val (.int ch188), .val (.int (3 : Int32)), .val (.int pert), .val (.int dd14), .val (.int dd15), .val (.int dd16), .val (.int lnb), .val (.ref o195), .val (.int mode), .val (.ref o210), .unset] [(.int (0 : Int32))]))
                exact j6 _ _ _ (Or.inr ⟨rfl, fun g => he0 ((cs3_e3.mp g.2.1).1)⟩) (P218.wider (by decide) (by decide)) (Ec219.keep K218) E218 (Sc229.keep K218 (allS ⟨ne_o196_o210, (nbE Ec221 (hw _ (List.mem_of_getElem? (i := 48) rfl)))⟩ all0)) (E211.keep K218 (allS ⟨(Ne.symm ne_o210_o211), (nbE Ec221 (hw _ (List.mem_of_getElem? (i := 48) rfl)))⟩ all0)) (Ec220.keep K218) (Ec222.keep K218) (Fc223.keep K218 (ninS ne_o195_o210 nin0)) (Fc224.keep K218 (ninS ne_o195_o210 nin0)) (Fc225.keep K218 (ninS ne_o195_o210 nin0)) F218_kind F218_text F218_line
          · refine P218.xs (fun hA hx hy t k => XS.icmpYes hA hx rfl (pc0 := 298) (pc' := 351) rfl (hb hy at_298) rfl (feq hl).2 (by decide) (by decide) k) ?_
            show Go p e below _ (T218.setTop (mkF m 351 #[.val (.int p0), .val (.int p1), .val (.int p2), .val (.int p3), .val (.int p4), .val (.int p5), .val (.ref kk183), .val (.ref kk2), .val (.int la), .val (.int ch186), .val (.int ch187), .val (.int ch188), .val (.int lb), .val (.int pert), .val (.int dd14), .val (.int dd15), .val (.int dd16), .val (.int lnb), .val (.ref o195), .val (.int mode), .val (.ref o210), .unset] []))
            refine P218.xs (fun hA hx hy t k => XS.iconst hA hx rfl (hb hy at_351) k) ?_
            show Go p e below _ (T218.setTop (mkF m 352 #[.val (.int p0), .val (.int p1), .val (.int p2), .val (.int p3), .val (.int p4), .val (.int p5), .val (.ref kk183), .val (.ref kk2), .val (.int la), .val (.int ch186), .val (.int ch187), .val (.int ch188), .val (.int lb), .val (.int pert), .val (.int dd14), .val (.int dd15), .val (.int dd16), .val (.int lnb), .val (.ref o195), .val (.int mode), .val (.ref o210), .unset] [(.int (0 : Int32))]))
            exact j6 _ _ _ (Or.inr ⟨rfl, fun g => cs3_ne hla hlb hl g.2.1⟩) (P218.wider (by decide) (by decide)) (Ec219.keep K218) E218 (Sc229.keep K218 (allS ⟨ne_o196_o210, (nbE Ec221 (hw _ (List.mem_of_getElem? (i := 48) rfl)))⟩ all0)) (E211.keep K218 (allS ⟨(Ne.symm ne_o210_o211), (nbE Ec221 (hw _ (List.mem_of_getElem? (i := 48) rfl)))⟩ all0)) (Ec220.keep K218) (Ec222.keep K218) (Fc223.keep K218 (ninS ne_o195_o210 nin0)) (Fc224.keep K218 (ninS ne_o195_o210 nin0)) (Fc225.keep K218 (ninS ne_o195_o210 nin0)) F218_kind F218_text F218_line
        · refine P218.st (fun vm0 locs X hx hy t k => Jvm.RoadKit.acmp (g := (mkF m 291 #[.val (.int p0), .val (.int p1), .val (.int p2), .val (.int p3), .val (.int p4), .val (.int p5), .val (.ref kk183), .val (.ref kk2), .val (.int la), .val (.int ch186), .val (.int ch187), .val (.int ch188), .val (.int lb), .val (.int pert), .val (.int dd14), .val (.int dd15), .val (.int dd16), .val (.int lnb), .val (.ref o195), .val (.int mode), .val (.ref o210), .unset] [(.ref kk2), (.ref kk183)])) X hx rfl rfl rfl (pc0 := 291) (pc' := 351) (same := false) rfl (hb hy at_291) rfl (decide_eq_false (fun g => hk (Value.ref.inj g))) (by decide) (by decide) k) ?_
          show Go p e below _ (T218.setTop (mkF m 351 #[.val (.int p0), .val (.int p1), .val (.int p2), .val (.int p3), .val (.int p4), .val (.int p5), .val (.ref kk183), .val (.ref kk2), .val (.int la), .val (.int ch186), .val (.int ch187), .val (.int ch188), .val (.int lb), .val (.int pert), .val (.int dd14), .val (.int dd15), .val (.int dd16), .val (.int lnb), .val (.ref o195), .val (.int mode), .val (.ref o210), .unset] []))
          refine P218.xs (fun hA hx hy t k => XS.iconst hA hx rfl (hb hy at_351) k) ?_
          show Go p e below _ (T218.setTop (mkF m 352 #[.val (.int p0), .val (.int p1), .val (.int p2), .val (.int p3), .val (.int p4), .val (.int p5), .val (.ref kk183), .val (.ref kk2), .val (.int la), .val (.int ch186), .val (.int ch187), .val (.int ch188), .val (.int lb), .val (.int pert), .val (.int dd14), .val (.int dd15), .val (.int dd16), .val (.int lnb), .val (.ref o195), .val (.int mode), .val (.ref o210), .unset] [(.int (0 : Int32))]))
          exact j6 _ _ _ (Or.inr ⟨rfl, fun g => hk g.1⟩) (P218.wider (by decide) (by decide)) (Ec219.keep K218) E218 (Sc229.keep K218 (allS ⟨ne_o196_o210, (nbE Ec221 (hw _ (List.mem_of_getElem? (i := 48) rfl)))⟩ all0)) (E211.keep K218 (allS ⟨(Ne.symm ne_o210_o211), (nbE Ec221 (hw _ (List.mem_of_getElem? (i := 48) rfl)))⟩ all0)) (Ec220.keep K218) (Ec222.keep K218) (Fc223.keep K218 (ninS ne_o195_o210 nin0)) (Fc224.keep K218 (ninS ne_o195_o210 nin0)) (Fc225.keep K218 (ninS ne_o195_o210 nin0)) F218_kind F218_text F218_line
      intro T230 h230 ex hex P230 f230_0 f230_1 f230_2 f230_3 f230_4 f230_5 f230_6 f230_7 f230_8 f230_9 f230_10 f230_11
      show Go p e below _ (T230.setTop (mkF m 352 #[.val (.int p0), .val (.int p1), .val (.int p2), .val (.int p3), .val (.int p4), .val (.int p5), .val (.ref kk183), .val (.ref kk2), .val (.int la), .val (.int ch186), .val (.int ch187), .val (.int ch188), .val (.int lb), .val (.int pert), .val (.int dd14), .val (.int dd15), .val (.int dd16), .val (.int lnb), .val (.ref o195), .val (.int mode), .val (.ref o210), .unset] [(.int ex)]))
      rcases hex with ⟨rfl, hsm⟩ | ⟨rfl, hsm⟩
      · show Go p e below _ (T230.setTop (mkF m 352 #[.val (.int p0), .val (.int p1), .val (.int p2), .val (.int p3), .val (.int p4), .val (.int p5), .val (.ref kk183), .val (.ref kk2), .val (.int la), .val (.int ch186), .val (.int ch187), .val (.int ch188), .val (.int lb), .val (.int pert), .val (.int dd14), .val (.int dd15), .val (.int dd16), .val (.int lnb), .val (.ref o195), .val (.int mode), .val (.ref o210), .unset] [(.int (1 : Int32))]))
        refine P230.xs (fun hA hx hy t k => XS.istore hA hx rfl (hb hy at_352) rfl (l' := #[.val (.int p0), .val (.int p1), .val (.int p2), .val (.int p3), .val (.int p4), .val (.int p5), .val (.ref kk183), .val (.ref kk2), .val (.int la), .val (.int ch186), .val (.int ch187), .val (.int ch188), .val (.int lb), .val (.int pert), .val (.int dd14), .val (.int dd15), .val (.int dd16), .val (.int lnb), .val (.ref o195), .val (.int mode), .val (.ref o210), .val (.int (1 : Int32))]) rfl k) ?_
        show Go p e below _ (T230.setTop (mkF m 354 #[.val (.int p0), .val (.int p1), .val (.int p2), .val (.int p3), .val (.int p4), .val (.int p5), .val (.ref kk183), .val (.ref kk2), .val (.int la), .val (.int ch186), .val (.int ch187), .val (.int ch188), .val (.int lb), .val (.int pert), .val (.int dd14), .val (.int dd15), .val (.int dd16), .val (.int lnb), .val (.ref o195), .val (.int mode), .val (.ref o210), .val (.int (1 : Int32))] []))
        refine P230.xs (fun hA hx hy t k => XS.aload hA hx rfl (hb hy at_354) rfl rfl  k) ?_
        show Go p e below _ (T230.setTop (mkF m 356 #[.val (.int p0), .val (.int p1), .val (.int p2), .val (.int p3), .val (.int p4), .val (.int p5), .val (.ref kk183), .val (.ref kk2), .val (.int la), .val (.int ch186), .val (.int ch187), .val (.int ch188), .val (.int lb), .val (.int pert), .val (.int dd14), .val (.int dd15), .val (.int dd16), .val (.int lnb), .val (.ref o195), .val (.int mode), .val (.ref o210), .val (.int (1 : Int32))] [(.ref o195)]))
        refine P230.xs (fun hA hx hy t k => XS.aload hA hx rfl (hb hy at_356) rfl rfl  k) ?_
        show Go p e below _ (T230.setTop (mkF m 358 #[.val (.int p0), .val (.int p1), .val (.int p2), .val (.int p3), .val (.int p4), .val (.int p5), .val (.ref kk183), .val (.ref kk2), .val (.int la), .val (.int ch186), .val (.int ch187), .val (.int ch188), .val (.int lb), .val (.int pert), .val (.int dd14), .val (.int dd15), .val (.int dd16), .val (.int lnb), .val (.ref o195), .val (.int mode), .val (.ref o210), .val (.int (1 : Int32))] [(.ref o210), (.ref o195)]))
        refine P230.callV (hw _ (List.mem_of_getElem? (i := 103) rfl)) (hw _ (List.mem_of_getElem? (i := 104) rfl)) (hw _ (List.mem_of_getElem? (i := 106) rfl)) (nfOf (hw _ (List.mem_of_getElem? (i := 106) rfl))) (hw _ (List.mem_of_getElem? (i := 105) rfl)) (hw _ (List.mem_of_getElem? (i := 49) rfl)) (hw _ (List.mem_of_getElem? (i := 107) rfl)) (by decide) f230_0 (eqC l Z a0 hw hEL zc S0 Pz w_IDENTIFIER w_VARIABLE w_IRI w_PREFIXED_NAME w_STRING w_LANGUAGE_TAG w_DATATYPE_MARK w_INTEGER w_LABEL w_DIRECTIVE w_LEFT_PARENTHESIS w_RIGHT_PARENTHESIS w_COMMA w_DOT w_IMPLIES w_QUESTION_MARK w_EXCLAMATION_MARK w_BAR w_END S_IDENTIFIER E_IDENTIFIER S_VARIABLE E_VARIABLE S_IRI E_IRI S_PREFIXED_NAME E_PREFIXED_NAME S_STRING E_STRING S_LANGUAGE_TAG E_LANGUAGE_TAG S_DATATYPE_MARK E_DATATYPE_MARK S_INTEGER E_INTEGER S_LABEL E_LABEL S_DIRECTIVE E_DIRECTIVE S_LEFT_PARENTHESIS E_LEFT_PARENTHESIS S_RIGHT_PARENTHESIS E_RIGHT_PARENTHESIS S_COMMA E_COMMA S_DOT E_DOT S_IMPLIES E_IMPLIES S_QUESTION_MARK E_QUESTION_MARK S_EXCLAMATION_MARK E_EXCLAMATION_MARK S_BAR E_BAR S_END E_END o195 o210 kk183 kk2 o196 o211 p4 lnb (cs3 la ch186 ch187 ch188) (cs3 lb dd14 dd15 dd16) h230 P230.old f230_1 f230_6 f230_7 f230_8 f230_9 f230_10 f230_11 f230_2 f230_3) (W := 0) (by decide) (by decide) (by decide) (by decide) all0 pd_3 (argsL := [(.ref o210)]) rfl rfl rfl (Nat.le_of_eq rfl) at_358 fun v231 T231 h231 P231 K231 Q231 => ?_
        obtain ⟨hd231, hh231⟩ := Q231
        rw [hh231] at P231
        rcases hd231 with ⟨rfl, hc⟩ | ⟨rfl, hc⟩
        · show Go p e below _ (T231.setTop (mkF m 361 #[.val (.int p0), .val (.int p1), .val (.int p2), .val (.int p3), .val (.int p4), .val (.int p5), .val (.ref kk183), .val (.ref kk2), .val (.int la), .val (.int ch186), .val (.int ch187), .val (.int ch188), .val (.int lb), .val (.int pert), .val (.int dd14), .val (.int dd15), .val (.int dd16), .val (.int lnb), .val (.ref o195), .val (.int mode), .val (.ref o210), .val (.int (1 : Int32))] [(.int (1 : Int32))]))
          refine P231.xs (fun hA hx hy t k => XS.iload hA hx rfl (hb hy at_361) rfl  k) ?_
          show Go p e below _ (T231.setTop (mkF m 363 #[.val (.int p0), .val (.int p1), .val (.int p2), .val (.int p3), .val (.int p4), .val (.int p5), .val (.ref kk183), .val (.ref kk2), .val (.int la), .val (.int ch186), .val (.int ch187), .val (.int ch188), .val (.int lb), .val (.int pert), .val (.int dd14), .val (.int dd15), .val (.int dd16), .val (.int lnb), .val (.ref o195), .val (.int mode), .val (.ref o210), .val (.int (1 : Int32))] [(.int (1 : Int32)), (.int (1 : Int32))]))
          refine P231.xs (fun hA hx hy t k => XS.icmpNo hA hx rfl (hb hy at_363) rfl (teq rfl).2 k) ?_
          show Go p e below _ (T231.setTop (mkF m 366 #[.val (.int p0), .val (.int p1), .val (.int p2), .val (.int p3), .val (.int p4), .val (.int p5), .val (.ref kk183), .val (.ref kk2), .val (.int la), .val (.int ch186), .val (.int ch187), .val (.int ch188), .val (.int lb), .val (.int pert), .val (.int dd14), .val (.int dd15), .val (.int dd16), .val (.int lnb), .val (.ref o195), .val (.int mode), .val (.ref o210), .val (.int (1 : Int32))] []))
          refine P231.xs (fun hA hx hy t k => XS.aload hA hx rfl (hb hy at_366) rfl rfl  k) ?_
          show Go p e below _ (T231.setTop (mkF m 368 #[.val (.int p0), .val (.int p1), .val (.int p2), .val (.int p3), .val (.int p4), .val (.int p5), .val (.ref kk183), .val (.ref kk2), .val (.int la), .val (.int ch186), .val (.int ch187), .val (.int ch188), .val (.int lb), .val (.int pert), .val (.int dd14), .val (.int dd15), .val (.int dd16), .val (.int lnb), .val (.ref o195), .val (.int mode), .val (.ref o210), .val (.int (1 : Int32))] [(.ref o210)]))
          refine P231.xs (fun hA hx hy t k => XS.aload hA hx rfl (hb hy at_368) rfl rfl  k) ?_
          show Go p e below _ (T231.setTop (mkF m 370 #[.val (.int p0), .val (.int p1), .val (.int p2), .val (.int p3), .val (.int p4), .val (.int p5), .val (.ref kk183), .val (.ref kk2), .val (.int la), .val (.int ch186), .val (.int ch187), .val (.int ch188), .val (.int lb), .val (.int pert), .val (.int dd14), .val (.int dd15), .val (.int dd16), .val (.int lnb), .val (.ref o195), .val (.int mode), .val (.ref o210), .val (.int (1 : Int32))] [(.ref o195), (.ref o210)]))
          refine P231.callV (hw _ (List.mem_of_getElem? (i := 103) rfl)) (hw _ (List.mem_of_getElem? (i := 104) rfl)) (hw _ (List.mem_of_getElem? (i := 106) rfl)) (nfOf (hw _ (List.mem_of_getElem? (i := 106) rfl))) (hw _ (List.mem_of_getElem? (i := 105) rfl)) (hw _ (List.mem_of_getElem? (i := 49) rfl)) (hw _ (List.mem_of_getElem? (i := 107) rfl)) (by decide) f230_1 (eqC l Z a0 hw hEL zc S0 Pz w_IDENTIFIER w_VARIABLE w_IRI w_PREFIXED_NAME w_STRING w_LANGUAGE_TAG w_DATATYPE_MARK w_INTEGER w_LABEL w_DIRECTIVE w_LEFT_PARENTHESIS w_RIGHT_PARENTHESIS w_COMMA w_DOT w_IMPLIES w_QUESTION_MARK w_EXCLAMATION_MARK w_BAR w_END S_IDENTIFIER E_IDENTIFIER S_VARIABLE E_VARIABLE S_IRI E_IRI S_PREFIXED_NAME E_PREFIXED_NAME S_STRING E_STRING S_LANGUAGE_TAG E_LANGUAGE_TAG S_DATATYPE_MARK E_DATATYPE_MARK S_INTEGER E_INTEGER S_LABEL E_LABEL S_DIRECTIVE E_DIRECTIVE S_LEFT_PARENTHESIS E_LEFT_PARENTHESIS S_RIGHT_PARENTHESIS E_RIGHT_PARENTHESIS S_COMMA E_COMMA S_DOT E_DOT S_IMPLIES E_IMPLIES S_QUESTION_MARK E_QUESTION_MARK S_EXCLAMATION_MARK E_EXCLAMATION_MARK S_BAR E_BAR S_END E_END o210 o195 kk2 kk183 o211 o196 lnb p4 (cs3 lb dd14 dd15 dd16) (cs3 la ch186 ch187 ch188) h230 P231.old f230_0 f230_9 f230_10 f230_11 f230_6 f230_7 f230_8 f230_3 f230_2) (W := 0) (by decide) (by decide) (by decide) (by decide) all0 pd_3 (argsL := [(.ref o195)]) rfl rfl rfl (Nat.le_of_eq rfl) at_370 fun v232 T232 h232 P232 K232 Q232 => ?_
          obtain ⟨hd232, hh232⟩ := Q232
          rw [hh232] at P232
          rcases hd232 with ⟨rfl, hc⟩ | ⟨rfl, hc⟩
          · show Go p e below _ (T232.setTop (mkF m 373 #[.val (.int p0), .val (.int p1), .val (.int p2), .val (.int p3), .val (.int p4), .val (.int p5), .val (.ref kk183), .val (.ref kk2), .val (.int la), .val (.int ch186), .val (.int ch187), .val (.int ch188), .val (.int lb), .val (.int pert), .val (.int dd14), .val (.int dd15), .val (.int dd16), .val (.int lnb), .val (.ref o195), .val (.int mode), .val (.ref o210), .val (.int (1 : Int32))] [(.int (1 : Int32))]))
            refine P232.xs (fun hA hx hy t k => XS.iload hA hx rfl (hb hy at_373) rfl  k) ?_
            show Go p e below _ (T232.setTop (mkF m 375 #[.val (.int p0), .val (.int p1), .val (.int p2), .val (.int p3), .val (.int p4), .val (.int p5), .val (.ref kk183), .val (.ref kk2), .val (.int la), .val (.int ch186), .val (.int ch187), .val (.int ch188), .val (.int lb), .val (.int pert), .val (.int dd14), .val (.int dd15), .val (.int dd16), .val (.int lnb), .val (.ref o195), .val (.int mode), .val (.ref o210), .val (.int (1 : Int32))] [(.int (1 : Int32)), (.int (1 : Int32))]))
            refine P232.xs (fun hA hx hy t k => XS.icmpNo hA hx rfl (hb hy at_375) rfl (teq rfl).2 k) ?_
            show Go p e below _ (T232.setTop (mkF m 378 #[.val (.int p0), .val (.int p1), .val (.int p2), .val (.int p3), .val (.int p4), .val (.int p5), .val (.ref kk183), .val (.ref kk2), .val (.int la), .val (.int ch186), .val (.int ch187), .val (.int ch188), .val (.int lb), .val (.int pert), .val (.int dd14), .val (.int dd15), .val (.int dd16), .val (.int lnb), .val (.ref o195), .val (.int mode), .val (.ref o210), .val (.int (1 : Int32))] []))
            refine P232.xs (fun hA hx hy t k => XS.iconst hA hx rfl (hb hy at_378) k) ?_
            show Go p e below _ (T232.setTop (mkF m 379 #[.val (.int p0), .val (.int p1), .val (.int p2), .val (.int p3), .val (.int p4), .val (.int p5), .val (.ref kk183), .val (.ref kk2), .val (.int la), .val (.int ch186), .val (.int ch187), .val (.int ch188), .val (.int lb), .val (.int pert), .val (.int dd14), .val (.int dd15), .val (.int dd16), .val (.int lnb), .val (.ref o195), .val (.int mode), .val (.ref o210), .val (.int (1 : Int32))] [(.int (1 : Int32))]))
            refine P232.xs (fun hA hx hy t k => XS.goto hA hx rfl (pc0 := 379) (pc' := 383) rfl (hb hy at_379) (by decide) (by decide) k) ?_
            show Go p e below _ (T232.setTop (mkF m 383 #[.val (.int p0), .val (.int p1), .val (.int p2), .val (.int p3), .val (.int p4), .val (.int p5), .val (.ref kk183), .val (.ref kk2), .val (.int la), .val (.int ch186), .val (.int ch187), .val (.int ch188), .val (.int lb), .val (.int pert), .val (.int dd14), .val (.int dd15), .val (.int dd16), .val (.int lnb), .val (.ref o195), .val (.int mode), .val (.ref o210), .val (.int (1 : Int32))] [(.int (1 : Int32))]))
            exact P232.retN (t := .boolean) rfl (by simp) at_383 (by decide) (by decide) rfl
          · exact absurd ⟨hsm.1.symm, hsm.2.1.symm, hsm.2.2.symm⟩ hc
        · exact absurd hsm hc
      · show Go p e below _ (T230.setTop (mkF m 352 #[.val (.int p0), .val (.int p1), .val (.int p2), .val (.int p3), .val (.int p4), .val (.int p5), .val (.ref kk183), .val (.ref kk2), .val (.int la), .val (.int ch186), .val (.int ch187), .val (.int ch188), .val (.int lb), .val (.int pert), .val (.int dd14), .val (.int dd15), .val (.int dd16), .val (.int lnb), .val (.ref o195), .val (.int mode), .val (.ref o210), .unset] [(.int (0 : Int32))]))
        refine P230.xs (fun hA hx hy t k => XS.istore hA hx rfl (hb hy at_352) rfl (l' := #[.val (.int p0), .val (.int p1), .val (.int p2), .val (.int p3), .val (.int p4), .val (.int p5), .val (.ref kk183), .val (.ref kk2), .val (.int la), .val (.int ch186), .val (.int ch187), .val (.int ch188), .val (.int lb), .val (.int pert), .val (.int dd14), .val (.int dd15), .val (.int dd16), .val (.int lnb), .val (.ref o195), .val (.int mode), .val (.ref o210), .val (.int (0 : Int32))]) rfl k) ?_
        show Go p e below _ (T230.setTop (mkF m 354 #[.val (.int p0), .val (.int p1), .val (.int p2), .val (.int p3), .val (.int p4), .val (.int p5), .val (.ref kk183), .val (.ref kk2), .val (.int la), .val (.int ch186), .val (.int ch187), .val (.int ch188), .val (.int lb), .val (.int pert), .val (.int dd14), .val (.int dd15), .val (.int dd16), .val (.int lnb), .val (.ref o195), .val (.int mode), .val (.ref o210), .val (.int (0 : Int32))] []))
        refine P230.xs (fun hA hx hy t k => XS.aload hA hx rfl (hb hy at_354) rfl rfl  k) ?_
        show Go p e below _ (T230.setTop (mkF m 356 #[.val (.int p0), .val (.int p1), .val (.int p2), .val (.int p3), .val (.int p4), .val (.int p5), .val (.ref kk183), .val (.ref kk2), .val (.int la), .val (.int ch186), .val (.int ch187), .val (.int ch188), .val (.int lb), .val (.int pert), .val (.int dd14), .val (.int dd15), .val (.int dd16), .val (.int lnb), .val (.ref o195), .val (.int mode), .val (.ref o210), .val (.int (0 : Int32))] [(.ref o195)]))
        refine P230.xs (fun hA hx hy t k => XS.aload hA hx rfl (hb hy at_356) rfl rfl  k) ?_
        show Go p e below _ (T230.setTop (mkF m 358 #[.val (.int p0), .val (.int p1), .val (.int p2), .val (.int p3), .val (.int p4), .val (.int p5), .val (.ref kk183), .val (.ref kk2), .val (.int la), .val (.int ch186), .val (.int ch187), .val (.int ch188), .val (.int lb), .val (.int pert), .val (.int dd14), .val (.int dd15), .val (.int dd16), .val (.int lnb), .val (.ref o195), .val (.int mode), .val (.ref o210), .val (.int (0 : Int32))] [(.ref o210), (.ref o195)]))
        refine P230.callV (hw _ (List.mem_of_getElem? (i := 103) rfl)) (hw _ (List.mem_of_getElem? (i := 104) rfl)) (hw _ (List.mem_of_getElem? (i := 106) rfl)) (nfOf (hw _ (List.mem_of_getElem? (i := 106) rfl))) (hw _ (List.mem_of_getElem? (i := 105) rfl)) (hw _ (List.mem_of_getElem? (i := 49) rfl)) (hw _ (List.mem_of_getElem? (i := 107) rfl)) (by decide) f230_0 (eqC l Z a0 hw hEL zc S0 Pz w_IDENTIFIER w_VARIABLE w_IRI w_PREFIXED_NAME w_STRING w_LANGUAGE_TAG w_DATATYPE_MARK w_INTEGER w_LABEL w_DIRECTIVE w_LEFT_PARENTHESIS w_RIGHT_PARENTHESIS w_COMMA w_DOT w_IMPLIES w_QUESTION_MARK w_EXCLAMATION_MARK w_BAR w_END S_IDENTIFIER E_IDENTIFIER S_VARIABLE E_VARIABLE S_IRI E_IRI S_PREFIXED_NAME E_PREFIXED_NAME S_STRING E_STRING S_LANGUAGE_TAG E_LANGUAGE_TAG S_DATATYPE_MARK E_DATATYPE_MARK S_INTEGER E_INTEGER S_LABEL E_LABEL S_DIRECTIVE E_DIRECTIVE S_LEFT_PARENTHESIS E_LEFT_PARENTHESIS S_RIGHT_PARENTHESIS E_RIGHT_PARENTHESIS S_COMMA E_COMMA S_DOT E_DOT S_IMPLIES E_IMPLIES S_QUESTION_MARK E_QUESTION_MARK S_EXCLAMATION_MARK E_EXCLAMATION_MARK S_BAR E_BAR S_END E_END o195 o210 kk183 kk2 o196 o211 p4 lnb (cs3 la ch186 ch187 ch188) (cs3 lb dd14 dd15 dd16) h230 P230.old f230_1 f230_6 f230_7 f230_8 f230_9 f230_10 f230_11 f230_2 f230_3) (W := 0) (by decide) (by decide) (by decide) (by decide) all0 pd_3 (argsL := [(.ref o210)]) rfl rfl rfl (Nat.le_of_eq rfl) at_358 fun v233 T233 h233 P233 K233 Q233 => ?_
        obtain ⟨hd233, hh233⟩ := Q233
        rw [hh233] at P233
        rcases hd233 with ⟨rfl, hc⟩ | ⟨rfl, hc⟩
        · exact absurd hc hsm
        · show Go p e below _ (T233.setTop (mkF m 361 #[.val (.int p0), .val (.int p1), .val (.int p2), .val (.int p3), .val (.int p4), .val (.int p5), .val (.ref kk183), .val (.ref kk2), .val (.int la), .val (.int ch186), .val (.int ch187), .val (.int ch188), .val (.int lb), .val (.int pert), .val (.int dd14), .val (.int dd15), .val (.int dd16), .val (.int lnb), .val (.ref o195), .val (.int mode), .val (.ref o210), .val (.int (0 : Int32))] [(.int (0 : Int32))]))
          refine P233.xs (fun hA hx hy t k => XS.iload hA hx rfl (hb hy at_361) rfl  k) ?_
          show Go p e below _ (T233.setTop (mkF m 363 #[.val (.int p0), .val (.int p1), .val (.int p2), .val (.int p3), .val (.int p4), .val (.int p5), .val (.ref kk183), .val (.ref kk2), .val (.int la), .val (.int ch186), .val (.int ch187), .val (.int ch188), .val (.int lb), .val (.int pert), .val (.int dd14), .val (.int dd15), .val (.int dd16), .val (.int lnb), .val (.ref o195), .val (.int mode), .val (.ref o210), .val (.int (0 : Int32))] [(.int (0 : Int32)), (.int (0 : Int32))]))
          refine P233.xs (fun hA hx hy t k => XS.icmpNo hA hx rfl (hb hy at_363) rfl (teq rfl).2 k) ?_
          show Go p e below _ (T233.setTop (mkF m 366 #[.val (.int p0), .val (.int p1), .val (.int p2), .val (.int p3), .val (.int p4), .val (.int p5), .val (.ref kk183), .val (.ref kk2), .val (.int la), .val (.int ch186), .val (.int ch187), .val (.int ch188), .val (.int lb), .val (.int pert), .val (.int dd14), .val (.int dd15), .val (.int dd16), .val (.int lnb), .val (.ref o195), .val (.int mode), .val (.ref o210), .val (.int (0 : Int32))] []))
          refine P233.xs (fun hA hx hy t k => XS.aload hA hx rfl (hb hy at_366) rfl rfl  k) ?_
          show Go p e below _ (T233.setTop (mkF m 368 #[.val (.int p0), .val (.int p1), .val (.int p2), .val (.int p3), .val (.int p4), .val (.int p5), .val (.ref kk183), .val (.ref kk2), .val (.int la), .val (.int ch186), .val (.int ch187), .val (.int ch188), .val (.int lb), .val (.int pert), .val (.int dd14), .val (.int dd15), .val (.int dd16), .val (.int lnb), .val (.ref o195), .val (.int mode), .val (.ref o210), .val (.int (0 : Int32))] [(.ref o210)]))
          refine P233.xs (fun hA hx hy t k => XS.aload hA hx rfl (hb hy at_368) rfl rfl  k) ?_
          show Go p e below _ (T233.setTop (mkF m 370 #[.val (.int p0), .val (.int p1), .val (.int p2), .val (.int p3), .val (.int p4), .val (.int p5), .val (.ref kk183), .val (.ref kk2), .val (.int la), .val (.int ch186), .val (.int ch187), .val (.int ch188), .val (.int lb), .val (.int pert), .val (.int dd14), .val (.int dd15), .val (.int dd16), .val (.int lnb), .val (.ref o195), .val (.int mode), .val (.ref o210), .val (.int (0 : Int32))] [(.ref o195), (.ref o210)]))
          refine P233.callV (hw _ (List.mem_of_getElem? (i := 103) rfl)) (hw _ (List.mem_of_getElem? (i := 104) rfl)) (hw _ (List.mem_of_getElem? (i := 106) rfl)) (nfOf (hw _ (List.mem_of_getElem? (i := 106) rfl))) (hw _ (List.mem_of_getElem? (i := 105) rfl)) (hw _ (List.mem_of_getElem? (i := 49) rfl)) (hw _ (List.mem_of_getElem? (i := 107) rfl)) (by decide) f230_1 (eqC l Z a0 hw hEL zc S0 Pz w_IDENTIFIER w_VARIABLE w_IRI w_PREFIXED_NAME w_STRING w_LANGUAGE_TAG w_DATATYPE_MARK w_INTEGER w_LABEL w_DIRECTIVE w_LEFT_PARENTHESIS w_RIGHT_PARENTHESIS w_COMMA w_DOT w_IMPLIES w_QUESTION_MARK w_EXCLAMATION_MARK w_BAR w_END S_IDENTIFIER E_IDENTIFIER S_VARIABLE E_VARIABLE S_IRI E_IRI S_PREFIXED_NAME E_PREFIXED_NAME S_STRING E_STRING S_LANGUAGE_TAG E_LANGUAGE_TAG S_DATATYPE_MARK E_DATATYPE_MARK S_INTEGER E_INTEGER S_LABEL E_LABEL S_DIRECTIVE E_DIRECTIVE S_LEFT_PARENTHESIS E_LEFT_PARENTHESIS S_RIGHT_PARENTHESIS E_RIGHT_PARENTHESIS S_COMMA E_COMMA S_DOT E_DOT S_IMPLIES E_IMPLIES S_QUESTION_MARK E_QUESTION_MARK S_EXCLAMATION_MARK E_EXCLAMATION_MARK S_BAR E_BAR S_END E_END o210 o195 kk2 kk183 o211 o196 lnb p4 (cs3 lb dd14 dd15 dd16) (cs3 la ch186 ch187 ch188) h230 P233.old f230_0 f230_9 f230_10 f230_11 f230_6 f230_7 f230_8 f230_3 f230_2) (W := 0) (by decide) (by decide) (by decide) (by decide) all0 pd_3 (argsL := [(.ref o195)]) rfl rfl rfl (Nat.le_of_eq rfl) at_370 fun v234 T234 h234 P234 K234 Q234 => ?_
          obtain ⟨hd234, hh234⟩ := Q234
          rw [hh234] at P234
          rcases hd234 with ⟨rfl, hc⟩ | ⟨rfl, hc⟩
          · exact absurd ⟨hc.1.symm, hc.2.1.symm, hc.2.2.symm⟩ hsm
          · show Go p e below _ (T234.setTop (mkF m 373 #[.val (.int p0), .val (.int p1), .val (.int p2), .val (.int p3), .val (.int p4), .val (.int p5), .val (.ref kk183), .val (.ref kk2), .val (.int la), .val (.int ch186), .val (.int ch187), .val (.int ch188), .val (.int lb), .val (.int pert), .val (.int dd14), .val (.int dd15), .val (.int dd16), .val (.int lnb), .val (.ref o195), .val (.int mode), .val (.ref o210), .val (.int (0 : Int32))] [(.int (0 : Int32))]))
            refine P234.xs (fun hA hx hy t k => XS.iload hA hx rfl (hb hy at_373) rfl  k) ?_
            show Go p e below _ (T234.setTop (mkF m 375 #[.val (.int p0), .val (.int p1), .val (.int p2), .val (.int p3), .val (.int p4), .val (.int p5), .val (.ref kk183), .val (.ref kk2), .val (.int la), .val (.int ch186), .val (.int ch187), .val (.int ch188), .val (.int lb), .val (.int pert), .val (.int dd14), .val (.int dd15), .val (.int dd16), .val (.int lnb), .val (.ref o195), .val (.int mode), .val (.ref o210), .val (.int (0 : Int32))] [(.int (0 : Int32)), (.int (0 : Int32))]))
            refine P234.xs (fun hA hx hy t k => XS.icmpNo hA hx rfl (hb hy at_375) rfl (teq rfl).2 k) ?_
            show Go p e below _ (T234.setTop (mkF m 378 #[.val (.int p0), .val (.int p1), .val (.int p2), .val (.int p3), .val (.int p4), .val (.int p5), .val (.ref kk183), .val (.ref kk2), .val (.int la), .val (.int ch186), .val (.int ch187), .val (.int ch188), .val (.int lb), .val (.int pert), .val (.int dd14), .val (.int dd15), .val (.int dd16), .val (.int lnb), .val (.ref o195), .val (.int mode), .val (.ref o210), .val (.int (0 : Int32))] []))
            refine P234.xs (fun hA hx hy t k => XS.iconst hA hx rfl (hb hy at_378) k) ?_
            show Go p e below _ (T234.setTop (mkF m 379 #[.val (.int p0), .val (.int p1), .val (.int p2), .val (.int p3), .val (.int p4), .val (.int p5), .val (.ref kk183), .val (.ref kk2), .val (.int la), .val (.int ch186), .val (.int ch187), .val (.int ch188), .val (.int lb), .val (.int pert), .val (.int dd14), .val (.int dd15), .val (.int dd16), .val (.int lnb), .val (.ref o195), .val (.int mode), .val (.ref o210), .val (.int (0 : Int32))] [(.int (1 : Int32))]))
            refine P234.xs (fun hA hx hy t k => XS.goto hA hx rfl (pc0 := 379) (pc' := 383) rfl (hb hy at_379) (by decide) (by decide) k) ?_
            show Go p e below _ (T234.setTop (mkF m 383 #[.val (.int p0), .val (.int p1), .val (.int p2), .val (.int p3), .val (.int p4), .val (.int p5), .val (.ref kk183), .val (.ref kk2), .val (.int la), .val (.int ch186), .val (.int ch187), .val (.int ch188), .val (.int lb), .val (.int pert), .val (.int dd14), .val (.int dd15), .val (.int dd16), .val (.int lnb), .val (.ref o195), .val (.int mode), .val (.ref o210), .val (.int (0 : Int32))] [(.int (1 : Int32))]))
            exact P234.retN (t := .boolean) rfl (by simp) at_383 (by decide) (by decide) rfl

theorem hELof {Z : State} {a0 : Array Value} (hw : ∀ d ∈ tables_1, d.before a0 Z = true) : EW Z a0 EL0 := (EW.cons (hw _ (List.mem_of_getElem? (i := 87) rfl)) (by decide) (EW.cons (hw _ (List.mem_of_getElem? (i := 97) rfl)) (by decide) (EW.cons (hw _ (List.mem_of_getElem? (i := 110) rfl)) (by decide) EW.nil)))
set_option maxRecDepth 65536 in
set_option maxHeartbeats 40000000 in
theorem comes_1 {Post : Tables → Env → Array Value → State → Outcome → State → Prop} (hpost : ∀ tb e args s v u, (limb_1_1.after args s (.returned v) u = true ∧ limb_1_2.after args s (.returned v) u = true ∧ True) → ReturnedEndW s (.returned v) u (Jvm.fieldLocs frame_1_writes args s ++ Jvm.arrayLocs frame_1_arrays args s ++ Jvm.staticLocs frame_1_statics s) 40 3328 → Post tb e args s (.returned v) u) :
    ArmFor flags0 classFile x code maxLocals ret World_1 tables_1 room_1 Calls_1 rest_1 Pre_1 Post := by
  intro l hfl _ _ p e ha hc hk s m args below hf hA hF happ hP
  obtain ⟨hcalls, hrest, hpre⟩ := hP
  obtain ⟨-, -, -, hnamed, -, -, -, hat⟩ := (Spec.applies_iff hf).mp happ
  obtain ⟨hg, hn⟩ := and_e (Cond.before_iff.mp (show (Jvm.Cond.and given_1 narrow_1).before args s = true from hpre))
  obtain ⟨hcount, a0_⟩ := and_e hg
  obtain ⟨q0, a1_⟩ := and_e a0_
  obtain ⟨q1, a2_⟩ := and_e a1_
  obtain ⟨q2, a3_⟩ := and_e a2_
  obtain ⟨q3, a4_⟩ := and_e a3_
  obtain ⟨q4, a5_⟩ := and_e a4_
  have q5 := a5_
  obtain ⟨w0, w1, w2, w3, w4, w5, rfl⟩ : ∃ w0 w1 w2 w3 w4 w5 : Value, args = #[w0, w1, w2, w3, w4, w5] := by
    have hs : args.size = 6 := by simpa [Cond.value, given_1] using hcount
    obtain ⟨L⟩ := args
    match L, hs with
    | [w0, w1, w2, w3, w4, w5], _ => exact ⟨w0, w1, w2, w3, w4, w5, rfl⟩
  have hw := fun d (hd : d ∈ tables_1) => atoms_spec (ws := Jvm.Cond.code x code maxLocals ret :: tables_1) hat d (List.mem_cons_of_mem _ hd)
  obtain ⟨hsets, hown0⟩ := atoms_of _ (rest_1_c_eq ▸ (show rest_1_c.before _ s = true from hrest))
  have hfit : Fit s := fun {y c} hc i hi => by
    obtain ⟨ha, rfl⟩ := Array.getElem?_eq_some_iff.mp hc
    have q := List.all_eq_true.mp ((Array.all_eq_true_iff_forall_mem.mp hF) _ (Array.getElem_mem ha)) i (List.mem_range.mpr hi)
    simpa [Array.getElem?_eq_getElem hi] using q
  have n5 := not_v (Cond.before_iff.mp (hsets _ (List.mem_of_getElem? (i := 2) rfl)))
  obtain ⟨i0, e0⟩ := is_v q0
  obtain rfl : w0 = (.int i0) := Option.some.inj e0
  obtain ⟨i1, e1⟩ := is_v q1
  obtain rfl : w1 = (.int i1) := Option.some.inj e1
  obtain ⟨i2, e2⟩ := is_v q2
  obtain rfl : w2 = (.int i2) := Option.some.inj e2
  obtain ⟨i3, e3⟩ := is_v q3
  obtain rfl : w3 = (.int i3) := Option.some.inj e3
  obtain ⟨i4, e4⟩ := is_v q4
  obtain rfl : w4 = (.int i4) := Option.some.inj e4
  obtain ⟨i5, e5⟩ := is_v q5
  obtain rfl : w5 = (.int i5) := Option.some.inj e5
  obtain ⟨zc, ez⟩ := is_v (Cond.before_iff.mp (hsets _ (List.mem_of_getElem? (i := 1) rfl)))
  have S0 : Sta s s.heap "java/lang/String" "COMPACT_STRINGS" "Z" (.int zc) := Sta.start ez (Or.inl (hsets _ (List.mem_of_getElem? (i := 0) rfl)))
  have Pz : ¬ (zc = (0 : Int32)) := gotF (Cond.eq_ints ez (Term.int_eval (0))) n5
  obtain ⟨m0, n0⟩ := and_e hn
  obtain ⟨w_IDENTIFIER, ev_IDENTIFIER⟩ := exa_v m0
  have E_IDENTIFIER : Exa s s.heap w_IDENTIFIER "com/example/qrew/qrew/dlgp/TokenKind" := Exa.start ev_IDENTIFIER m0
  have S_IDENTIFIER : Sta s s.heap "com/example/qrew/qrew/dlgp/TokenKind" "IDENTIFIER" "Lcom/example/qrew/qrew/dlgp/TokenKind;" (.ref w_IDENTIFIER) := Sta.start ev_IDENTIFIER (Or.inr ⟨(hw _ (List.mem_of_getElem? (i := 8) rfl)), (hw _ (List.mem_of_getElem? (i := 9) rfl))⟩)
  obtain ⟨m1, n1⟩ := and_e n0
  obtain ⟨w_VARIABLE, ev_VARIABLE⟩ := exa_v m1
  have E_VARIABLE : Exa s s.heap w_VARIABLE "com/example/qrew/qrew/dlgp/TokenKind" := Exa.start ev_VARIABLE m1
  have S_VARIABLE : Sta s s.heap "com/example/qrew/qrew/dlgp/TokenKind" "VARIABLE" "Lcom/example/qrew/qrew/dlgp/TokenKind;" (.ref w_VARIABLE) := Sta.start ev_VARIABLE (Or.inr ⟨(hw _ (List.mem_of_getElem? (i := 8) rfl)), (hw _ (List.mem_of_getElem? (i := 12) rfl))⟩)
  obtain ⟨m2, n2⟩ := and_e n1
  obtain ⟨w_IRI, ev_IRI⟩ := exa_v m2
  have E_IRI : Exa s s.heap w_IRI "com/example/qrew/qrew/dlgp/TokenKind" := Exa.start ev_IRI m2
  have S_IRI : Sta s s.heap "com/example/qrew/qrew/dlgp/TokenKind" "IRI" "Lcom/example/qrew/qrew/dlgp/TokenKind;" (.ref w_IRI) := Sta.start ev_IRI (Or.inr ⟨(hw _ (List.mem_of_getElem? (i := 8) rfl)), (hw _ (List.mem_of_getElem? (i := 14) rfl))⟩)
  obtain ⟨m3, n3⟩ := and_e n2
  obtain ⟨w_PREFIXED_NAME, ev_PREFIXED_NAME⟩ := exa_v m3
  have E_PREFIXED_NAME : Exa s s.heap w_PREFIXED_NAME "com/example/qrew/qrew/dlgp/TokenKind" := Exa.start ev_PREFIXED_NAME m3
  have S_PREFIXED_NAME : Sta s s.heap "com/example/qrew/qrew/dlgp/TokenKind" "PREFIXED_NAME" "Lcom/example/qrew/qrew/dlgp/TokenKind;" (.ref w_PREFIXED_NAME) := Sta.start ev_PREFIXED_NAME (Or.inr ⟨(hw _ (List.mem_of_getElem? (i := 8) rfl)), (hw _ (List.mem_of_getElem? (i := 16) rfl))⟩)
  obtain ⟨m4, n4⟩ := and_e n3
  obtain ⟨w_STRING, ev_STRING⟩ := exa_v m4
  have E_STRING : Exa s s.heap w_STRING "com/example/qrew/qrew/dlgp/TokenKind" := Exa.start ev_STRING m4
  have S_STRING : Sta s s.heap "com/example/qrew/qrew/dlgp/TokenKind" "STRING" "Lcom/example/qrew/qrew/dlgp/TokenKind;" (.ref w_STRING) := Sta.start ev_STRING (Or.inr ⟨(hw _ (List.mem_of_getElem? (i := 8) rfl)), (hw _ (List.mem_of_getElem? (i := 18) rfl))⟩)
  obtain ⟨m5, n5⟩ := and_e n4
  obtain ⟨w_LANGUAGE_TAG, ev_LANGUAGE_TAG⟩ := exa_v m5
  have E_LANGUAGE_TAG : Exa s s.heap w_LANGUAGE_TAG "com/example/qrew/qrew/dlgp/TokenKind" := Exa.start ev_LANGUAGE_TAG m5
  have S_LANGUAGE_TAG : Sta s s.heap "com/example/qrew/qrew/dlgp/TokenKind" "LANGUAGE_TAG" "Lcom/example/qrew/qrew/dlgp/TokenKind;" (.ref w_LANGUAGE_TAG) := Sta.start ev_LANGUAGE_TAG (Or.inr ⟨(hw _ (List.mem_of_getElem? (i := 8) rfl)), (hw _ (List.mem_of_getElem? (i := 20) rfl))⟩)
  obtain ⟨m6, n6⟩ := and_e n5
  obtain ⟨w_DATATYPE_MARK, ev_DATATYPE_MARK⟩ := exa_v m6
  have E_DATATYPE_MARK : Exa s s.heap w_DATATYPE_MARK "com/example/qrew/qrew/dlgp/TokenKind" := Exa.start ev_DATATYPE_MARK m6
  have S_DATATYPE_MARK : Sta s s.heap "com/example/qrew/qrew/dlgp/TokenKind" "DATATYPE_MARK" "Lcom/example/qrew/qrew/dlgp/TokenKind;" (.ref w_DATATYPE_MARK) := Sta.start ev_DATATYPE_MARK (Or.inr ⟨(hw _ (List.mem_of_getElem? (i := 8) rfl)), (hw _ (List.mem_of_getElem? (i := 22) rfl))⟩)
  obtain ⟨m7, n7⟩ := and_e n6
  obtain ⟨w_INTEGER, ev_INTEGER⟩ := exa_v m7
  have E_INTEGER : Exa s s.heap w_INTEGER "com/example/qrew/qrew/dlgp/TokenKind" := Exa.start ev_INTEGER m7
  have S_INTEGER : Sta s s.heap "com/example/qrew/qrew/dlgp/TokenKind" "INTEGER" "Lcom/example/qrew/qrew/dlgp/TokenKind;" (.ref w_INTEGER) := Sta.start ev_INTEGER (Or.inr ⟨(hw _ (List.mem_of_getElem? (i := 8) rfl)), (hw _ (List.mem_of_getElem? (i := 24) rfl))⟩)
  obtain ⟨m8, n8⟩ := and_e n7
  obtain ⟨w_LABEL, ev_LABEL⟩ := exa_v m8
  have E_LABEL : Exa s s.heap w_LABEL "com/example/qrew/qrew/dlgp/TokenKind" := Exa.start ev_LABEL m8
  have S_LABEL : Sta s s.heap "com/example/qrew/qrew/dlgp/TokenKind" "LABEL" "Lcom/example/qrew/qrew/dlgp/TokenKind;" (.ref w_LABEL) := Sta.start ev_LABEL (Or.inr ⟨(hw _ (List.mem_of_getElem? (i := 8) rfl)), (hw _ (List.mem_of_getElem? (i := 26) rfl))⟩)
  obtain ⟨m9, n9⟩ := and_e n8
  obtain ⟨w_DIRECTIVE, ev_DIRECTIVE⟩ := exa_v m9
  have E_DIRECTIVE : Exa s s.heap w_DIRECTIVE "com/example/qrew/qrew/dlgp/TokenKind" := Exa.start ev_DIRECTIVE m9
  have S_DIRECTIVE : Sta s s.heap "com/example/qrew/qrew/dlgp/TokenKind" "DIRECTIVE" "Lcom/example/qrew/qrew/dlgp/TokenKind;" (.ref w_DIRECTIVE) := Sta.start ev_DIRECTIVE (Or.inr ⟨(hw _ (List.mem_of_getElem? (i := 8) rfl)), (hw _ (List.mem_of_getElem? (i := 28) rfl))⟩)
  obtain ⟨m10, n10⟩ := and_e n9
  obtain ⟨w_LEFT_PARENTHESIS, ev_LEFT_PARENTHESIS⟩ := exa_v m10
  have E_LEFT_PARENTHESIS : Exa s s.heap w_LEFT_PARENTHESIS "com/example/qrew/qrew/dlgp/TokenKind" := Exa.start ev_LEFT_PARENTHESIS m10
  have S_LEFT_PARENTHESIS : Sta s s.heap "com/example/qrew/qrew/dlgp/TokenKind" "LEFT_PARENTHESIS" "Lcom/example/qrew/qrew/dlgp/TokenKind;" (.ref w_LEFT_PARENTHESIS) := Sta.start ev_LEFT_PARENTHESIS (Or.inr ⟨(hw _ (List.mem_of_getElem? (i := 8) rfl)), (hw _ (List.mem_of_getElem? (i := 30) rfl))⟩)
  obtain ⟨m11, n11⟩ := and_e n10
  obtain ⟨w_RIGHT_PARENTHESIS, ev_RIGHT_PARENTHESIS⟩ := exa_v m11
  have E_RIGHT_PARENTHESIS : Exa s s.heap w_RIGHT_PARENTHESIS "com/example/qrew/qrew/dlgp/TokenKind" := Exa.start ev_RIGHT_PARENTHESIS m11
  have S_RIGHT_PARENTHESIS : Sta s s.heap "com/example/qrew/qrew/dlgp/TokenKind" "RIGHT_PARENTHESIS" "Lcom/example/qrew/qrew/dlgp/TokenKind;" (.ref w_RIGHT_PARENTHESIS) := Sta.start ev_RIGHT_PARENTHESIS (Or.inr ⟨(hw _ (List.mem_of_getElem? (i := 8) rfl)), (hw _ (List.mem_of_getElem? (i := 32) rfl))⟩)
  obtain ⟨m12, n12⟩ := and_e n11
  obtain ⟨w_COMMA, ev_COMMA⟩ := exa_v m12
  have E_COMMA : Exa s s.heap w_COMMA "com/example/qrew/qrew/dlgp/TokenKind" := Exa.start ev_COMMA m12
  have S_COMMA : Sta s s.heap "com/example/qrew/qrew/dlgp/TokenKind" "COMMA" "Lcom/example/qrew/qrew/dlgp/TokenKind;" (.ref w_COMMA) := Sta.start ev_COMMA (Or.inr ⟨(hw _ (List.mem_of_getElem? (i := 8) rfl)), (hw _ (List.mem_of_getElem? (i := 34) rfl))⟩)
  obtain ⟨m13, n13⟩ := and_e n12
  obtain ⟨w_DOT, ev_DOT⟩ := exa_v m13
  have E_DOT : Exa s s.heap w_DOT "com/example/qrew/qrew/dlgp/TokenKind" := Exa.start ev_DOT m13
  have S_DOT : Sta s s.heap "com/example/qrew/qrew/dlgp/TokenKind" "DOT" "Lcom/example/qrew/qrew/dlgp/TokenKind;" (.ref w_DOT) := Sta.start ev_DOT (Or.inr ⟨(hw _ (List.mem_of_getElem? (i := 8) rfl)), (hw _ (List.mem_of_getElem? (i := 36) rfl))⟩)
  obtain ⟨m14, n14⟩ := and_e n13
  obtain ⟨w_IMPLIES, ev_IMPLIES⟩ := exa_v m14
  have E_IMPLIES : Exa s s.heap w_IMPLIES "com/example/qrew/qrew/dlgp/TokenKind" := Exa.start ev_IMPLIES m14
  have S_IMPLIES : Sta s s.heap "com/example/qrew/qrew/dlgp/TokenKind" "IMPLIES" "Lcom/example/qrew/qrew/dlgp/TokenKind;" (.ref w_IMPLIES) := Sta.start ev_IMPLIES (Or.inr ⟨(hw _ (List.mem_of_getElem? (i := 8) rfl)), (hw _ (List.mem_of_getElem? (i := 38) rfl))⟩)
  obtain ⟨m15, n15⟩ := and_e n14
  obtain ⟨w_QUESTION_MARK, ev_QUESTION_MARK⟩ := exa_v m15
  have E_QUESTION_MARK : Exa s s.heap w_QUESTION_MARK "com/example/qrew/qrew/dlgp/TokenKind" := Exa.start ev_QUESTION_MARK m15
  have S_QUESTION_MARK : Sta s s.heap "com/example/qrew/qrew/dlgp/TokenKind" "QUESTION_MARK" "Lcom/example/qrew/qrew/dlgp/TokenKind;" (.ref w_QUESTION_MARK) := Sta.start ev_QUESTION_MARK (Or.inr ⟨(hw _ (List.mem_of_getElem? (i := 8) rfl)), (hw _ (List.mem_of_getElem? (i := 40) rfl))⟩)
  obtain ⟨m16, n16⟩ := and_e n15
  obtain ⟨w_EXCLAMATION_MARK, ev_EXCLAMATION_MARK⟩ := exa_v m16
  have E_EXCLAMATION_MARK : Exa s s.heap w_EXCLAMATION_MARK "com/example/qrew/qrew/dlgp/TokenKind" := Exa.start ev_EXCLAMATION_MARK m16
  have S_EXCLAMATION_MARK : Sta s s.heap "com/example/qrew/qrew/dlgp/TokenKind" "EXCLAMATION_MARK" "Lcom/example/qrew/qrew/dlgp/TokenKind;" (.ref w_EXCLAMATION_MARK) := Sta.start ev_EXCLAMATION_MARK (Or.inr ⟨(hw _ (List.mem_of_getElem? (i := 8) rfl)), (hw _ (List.mem_of_getElem? (i := 42) rfl))⟩)
  obtain ⟨m17, n17⟩ := and_e n16
  obtain ⟨w_BAR, ev_BAR⟩ := exa_v m17
  have E_BAR : Exa s s.heap w_BAR "com/example/qrew/qrew/dlgp/TokenKind" := Exa.start ev_BAR m17
  have S_BAR : Sta s s.heap "com/example/qrew/qrew/dlgp/TokenKind" "BAR" "Lcom/example/qrew/qrew/dlgp/TokenKind;" (.ref w_BAR) := Sta.start ev_BAR (Or.inr ⟨(hw _ (List.mem_of_getElem? (i := 8) rfl)), (hw _ (List.mem_of_getElem? (i := 44) rfl))⟩)
  obtain ⟨m18, n18⟩ := and_e n17
  obtain ⟨w_END, ev_END⟩ := exa_v m18
  have E_END : Exa s s.heap w_END "com/example/qrew/qrew/dlgp/TokenKind" := Exa.start ev_END m18
  have S_END : Sta s s.heap "com/example/qrew/qrew/dlgp/TokenKind" "END" "Lcom/example/qrew/qrew/dlgp/TokenKind;" (.ref w_END) := Sta.start ev_END (Or.inr ⟨(hw _ (List.mem_of_getElem? (i := 8) rfl)), (hw _ (List.mem_of_getElem? (i := 46) rfl))⟩)
  obtain ⟨m19, n19⟩ := and_e n18
  obtain ⟨m20, n20⟩ := and_e n19
  obtain ⟨m21, n21⟩ := and_e n20
  obtain ⟨m22, n22⟩ := and_e n21
  obtain ⟨m23, n23⟩ := and_e n22
  obtain ⟨m24, n24⟩ := and_e n23
  obtain ⟨m25, n25⟩ := and_e n24
  obtain ⟨m26, n26⟩ := and_e n25
  obtain ⟨m27, n27⟩ := and_e n26
  obtain ⟨m28, n28⟩ := and_e n27
  obtain ⟨m29, n29⟩ := and_e n28
  obtain ⟨m30, n30⟩ := and_e n29
  obtain ⟨m31, n31⟩ := and_e n30
  obtain ⟨m32, n32⟩ := and_e n31
  obtain ⟨m33, n33⟩ := and_e n32
  obtain ⟨m34, n34⟩ := and_e n33
  obtain ⟨m35, n35⟩ := and_e n34
  obtain ⟨m36, n36⟩ := and_e n35
  obtain ⟨n, o, h1, h2, h3, _, L, rfl, ⟨N, K, O, hv⟩, -, hq⟩ := mLaw l s _ hw (hELof hw) zc S0 Pz w_IDENTIFIER w_VARIABLE w_IRI w_PREFIXED_NAME w_STRING w_LANGUAGE_TAG w_DATATYPE_MARK w_INTEGER w_LABEL w_DIRECTIVE w_LEFT_PARENTHESIS w_RIGHT_PARENTHESIS w_COMMA w_DOT w_IMPLIES w_QUESTION_MARK w_EXCLAMATION_MARK w_BAR w_END S_IDENTIFIER E_IDENTIFIER S_VARIABLE E_VARIABLE S_IRI E_IRI S_PREFIXED_NAME E_PREFIXED_NAME S_STRING E_STRING S_LANGUAGE_TAG E_LANGUAGE_TAG S_DATATYPE_MARK E_DATATYPE_MARK S_INTEGER E_INTEGER S_LABEL E_LABEL S_DIRECTIVE E_DIRECTIVE S_LEFT_PARENTHESIS E_LEFT_PARENTHESIS S_RIGHT_PARENTHESIS E_RIGHT_PARENTHESIS S_COMMA E_COMMA S_DOT E_DOT S_IMPLIES E_IMPLIES S_QUESTION_MARK E_QUESTION_MARK S_EXCLAMATION_MARK E_EXCLAMATION_MARK S_BAR E_BAR S_END E_END i0 i1 i2 i3 i4 i5 s.heap ⟨Nat.le_refl _, fun _ _ q => q⟩  p e ha hc hk s m _ below hf ((Spec.applies_iff_loose hf).mp happ).1 ⟨rfl, State.Warmed39.refl s, rfl, (CHv.start (hELof hw) (fun p hp => hcalls.1 p hp) (hsets _ (List.mem_of_getElem? (i := 2) rfl)) (hw _ (List.mem_of_getElem? (i := 72) rfl)) (hw _ (List.mem_of_getElem? (i := 54) rfl)))⟩ trivial
  cases hv
  refine ⟨n, _, h1, h2, h3, hpost _ _ _ _ _ _ ⟨Cond.after_iff.mpr rfl, Cond.after_iff.mpr (eq_i res_at (Term.int_eval (1)) rfl), trivial⟩ ⟨hq.1, hq.2.1, hq.2.2.1, (hq.2.2.2.sift fun y hy => Or.inr (N y hy)).mono (by decide) (by decide)⟩⟩
theorem main_1_1 : Claimed_1_1 := comes_1 fun _ _ _ _ _ _ h hF => ⟨h.1, hF⟩
theorem main_1_2 : Claimed_1_2 := comes_1 fun _ _ _ _ _ _ h hF => ⟨h.2.1, hF⟩
end Jvm.Pilot.@@N@@
namespace Jvm.Pilot.@@N@@
open Jvm Jvm.ClassFile Sem Op Lib Jvm.Free Jvm.Stand Jvm.Pilot.@@N@@.Jvm.D
/-! MADE BY PROGRAM (witnessworld.py) out of the Statement's table words and the real class files: 24 classes; the members and pool entries that the words name. The judged class is class 1, her method 3. -/
namespace start1
open Jvm.ClassFile
def u (s : String) : CpInfo := .utf8 (stringToUtf16 s)
/-- a pool by its gaps: so many unusable entries, then the entry; so many at the end -/
def gap : Nat → List CpInfo → List CpInfo
  | 0, r => r
  | n + 1, r => .unusable :: gap n r
def poolList (es : List (Nat × CpInfo)) (last : Nat) : List CpInfo := es.foldr (fun e r => gap e.1 (e.2 :: r)) (gap last [])
def pool (es : List (Nat × CpInfo)) (last : Nat) : Array CpInfo := ⟨poolList es last⟩
def fileOf (pool : Array CpInfo) (this : Nat) (attrs : Array Attribute := #[]) (ms : Array MethodInfo := #[]) (fl : Nat := 33) (sup : Nat := 0) (ifs : Array Nat := #[]) (fds : Array FieldInfo := #[]) : ClassFile where
  minorVersion := 0
  majorVersion := 65
  constantPool := pool
  accessFlags := fl
  thisClass := this
  superClass := sup
  interfaces := ifs
  fields := fds
  methods := ms
  attributes := attrs
def plain (name : String) (sup : Option ClassId) : Class where
  name := name
  kind := .ordinary
  loader := none
  accessFlags := 33
  super := sup
  interfaces := #[]
  cf := none
  fields := #[]
  methods := #[]
  instanceTypes := #[]
  staticTypes := #[]
  resolved := #[]
  callSites := []
  init := .initialized
  statics := none
  mirror := none

def pool0 : Array CpInfo := pool [(5, u "<init>"), (0, u "()V"), (1, .class_ 10), (1, u "java/lang/Object")] 113

def k0c0 : Code := { maxStack := 0, maxLocals := 1, code := object_method_1_code, exceptionTable := #[], attributes := #[] }
def k0m0 : Method := { name := "<init>", desc := "()V", sig := { parameters := [], returnType := none }, accessFlags := 1, code := some k0c0 }
/-- java/lang/Object -/
def k0 : Class := { plain "java/lang/Object" none with
  accessFlags := 33
  interfaces := #[]
  cf := some (fileOf pool0 8 #[] #[{ accessFlags := 1, nameIndex := 5, descriptorIndex := 6, attributes := #[] }] 33 0 #[] #[])
  fields := #[]
  methods := #[k0m0]
  instanceTypes := #[]
  staticTypes := #[]
  resolved := Array.replicate 124 none
  statics := none }

def pool1 : Array CpInfo := pool [(2, .class_ 4), (1, u "java/lang/Object"), (0, u "<init>"), (0, u "()V"), (0, .class_ 8), (0, u "java/lang/String"), (0, .methodref 7 10), (0, .nameAndType 5 11), (0, u "([C)V"), (0, .class_ 13), (0, u "com/example/qrew/qrew/dlgp/TokenKind"), (0, .fieldref 12 15), (0, .nameAndType 16 17), (0, u "IDENTIFIER"), (0, u "Lcom/example/qrew/qrew/dlgp/TokenKind;"), (0, .fieldref 12 19), (0, .nameAndType 20 17), (0, u "VARIABLE"), (0, .fieldref 12 22), (0, .nameAndType 23 17), (0, u "IRI"), (0, .fieldref 12 25), (0, .nameAndType 26 17), (0, u "PREFIXED_NAME"), (0, .fieldref 12 28), (0, .nameAndType 29 17), (0, u "STRING"), (0, .fieldref 12 31), (0, .nameAndType 32 17), (0, u "LANGUAGE_TAG"), (0, .fieldref 12 34), (0, .nameAndType 35 17), (0, u "DATATYPE_MARK"), (0, .fieldref 12 37), (0, .nameAndType 38 17), (0, u "INTEGER"), (0, .fieldref 12 40), (0, .nameAndType 41 17), (0, u "LABEL"), (0, .fieldref 12 43), (0, .nameAndType 44 17), (0, u "DIRECTIVE"), (0, .fieldref 12 46), (0, .nameAndType 47 17), (0, u "LEFT_PARENTHESIS"), (0, .fieldref 12 49), (0, .nameAndType 50 17), (0, u "RIGHT_PARENTHESIS"), (0, .fieldref 12 52), (0, .nameAndType 53 17), (0, u "COMMA"), (0, .fieldref 12 55), (0, .nameAndType 56 17), (0, u "DOT"), (0, .fieldref 12 58), (0, .nameAndType 59 17), (0, u "IMPLIES"), (0, .fieldref 12 61), (0, .nameAndType 62 17), (0, u "QUESTION_MARK"), (0, .fieldref 12 64), (0, .nameAndType 65 17), (0, u "EXCLAMATION_MARK"), (0, .fieldref 12 67), (0, .nameAndType 68 17), (0, u "BAR"), (0, .fieldref 12 70), (0, .nameAndType 71 17), (0, u "END"), (0, .integer 2147483647), (0, .methodref 74 75), (0, .class_ 76), (0, .nameAndType 77 78), (0, u "com/example/qrew/qrew/dlgp/TokenEqualsPinLaw"), (0, u "kindOf"), (0, u "(I)Lcom/example/qrew/qrew/dlgp/TokenKind;"), (0, .class_ 80), (0, u "com/example/qrew/qrew/dlgp/Token"), (0, .methodref 74 82), (0, .nameAndType 83 84), (0, u "mk"), (0, u "(ICCC)Ljava/lang/String;"), (0, .methodref 79 86), (0, .nameAndType 5 87), (0, u "(Lcom/example/qrew/qrew/dlgp/TokenKind;Ljava/lang/String;I)V"), (0, .methodref 79 89), (0, .nameAndType 90 91), (0, u "equals"), (0, u "(Ljava/lang/Object;)Z"), (0, .methodref 79 93), (0, .nameAndType 94 95), (0, u "getText"), (0, u "()Ljava/lang/String;"), (3, u "law"), (0, u "(IIIIII)Z")] 2

def k1m0 : Method := { name := "<init>", desc := "()V", sig := { parameters := [], returnType := none }, accessFlags := 1, code := none }
def k1c1 : Code := { maxStack := 6, maxLocals := 4, code := method_2_code, exceptionTable := #[], attributes := #[] }
def k1m1 : Method := { name := "mk", desc := "(ICCC)Ljava/lang/String;", sig := { parameters := [.int, .char, .char, .char], returnType := some (.object "java/lang/String") }, accessFlags := 10, code := some k1c1 }
def k1c2 : Code := { maxStack := 4, maxLocals := 2, code := method_3_code, exceptionTable := #[], attributes := #[] }
def k1m2 : Method := { name := "kindOf", desc := "(I)Lcom/example/qrew/qrew/dlgp/TokenKind;", sig := { parameters := [.int], returnType := some (.object "com/example/qrew/qrew/dlgp/TokenKind") }, accessFlags := 10, code := some k1c2 }
def k1c3 : Code := { maxStack := 7, maxLocals := 22, code := code, exceptionTable := #[], attributes := #[] }
def k1m3 : Method := { name := "law", desc := "(IIIIII)Z", sig := { parameters := [.int, .int, .int, .int, .int, .int], returnType := some .boolean }, accessFlags := 9, code := some k1c3 }
/-- com/example/qrew/qrew/dlgp/TokenEqualsPinLaw -/
def k1 : Class := { plain "com/example/qrew/qrew/dlgp/TokenEqualsPinLaw" (some 0) with
  accessFlags := 49
  interfaces := #[]
  cf := some (fileOf pool1 74 #[] #[{ accessFlags := 1, nameIndex := 5, descriptorIndex := 6, attributes := #[] }, { accessFlags := 10, nameIndex := 83, descriptorIndex := 84, attributes := #[] }, { accessFlags := 10, nameIndex := 77, descriptorIndex := 78, attributes := #[] }, { accessFlags := 9, nameIndex := 99, descriptorIndex := 100, attributes := #[] }] 49 2 #[] #[])
  fields := #[]
  methods := #[k1m0, k1m1, k1m2, k1m3]
  instanceTypes := #[]
  staticTypes := #[]
  resolved := Array.replicate 103 none
  statics := none }

def pool2 : Array CpInfo := pool [(1, .class_ 2), (0, u "java/lang/constant/Constable"), (0, .class_ 4), (0, u "java/lang/Object")] 6

/-- java/lang/constant/Constable -/
def k2 : Class := { plain "java/lang/constant/Constable" (some 0) with
  accessFlags := 1537
  interfaces := #[]
  cf := some (fileOf pool2 1 #[] #[] 1537 3 #[] #[])
  fields := #[]
  methods := #[]
  instanceTypes := #[]
  staticTypes := #[]
  resolved := Array.replicate 11 none
  statics := none }

def pool3 : Array CpInfo := pool [(1, .class_ 2), (0, u "java/lang/Comparable"), (0, .class_ 4), (0, u "java/lang/Object")] 7

/-- java/lang/Comparable -/
def k3 : Class := { plain "java/lang/Comparable" (some 0) with
  accessFlags := 1537
  interfaces := #[]
  cf := some (fileOf pool3 1 #[] #[] 1537 3 #[] #[])
  fields := #[]
  methods := #[]
  instanceTypes := #[]
  staticTypes := #[]
  resolved := Array.replicate 12 none
  statics := none }

def pool4 : Array CpInfo := pool [(1, .class_ 2), (0, u "java/io/Serializable"), (0, .class_ 4), (0, u "java/lang/Object")] 2

/-- java/io/Serializable -/
def k4 : Class := { plain "java/io/Serializable" (some 0) with
  accessFlags := 1537
  interfaces := #[]
  cf := some (fileOf pool4 1 #[] #[] 1537 3 #[] #[])
  fields := #[]
  methods := #[]
  instanceTypes := #[]
  staticTypes := #[]
  resolved := Array.replicate 7 none
  statics := none }

def pool5 : Array CpInfo := pool [(2, .class_ 4), (1, u "java/lang/Enum"), (0, u "name"), (0, u "Ljava/lang/String;"), (2, u "ordinal"), (0, u "I"), (1, .class_ 14), (1, u "java/lang/Object"), (4, u "hash"), (86, .class_ 108), (1, u "java/lang/Enum$EnumDesc"), (2, .class_ 112), (0, u "java/lang/constant/Constable"), (0, .class_ 114), (0, u "java/lang/Comparable"), (0, .class_ 116), (0, u "java/io/Serializable")] 87

/-- java/lang/Enum -/
def k5 : Class := { plain "java/lang/Enum" (some 0) with
  accessFlags := 1057
  interfaces := #[2, 3, 4]
  cf := some (fileOf pool5 2 #[.nestMembers #[106]] #[] 1057 12 #[111, 113, 115] #[{ accessFlags := 18, nameIndex := 5, descriptorIndex := 6, attributes := #[] }, { accessFlags := 18, nameIndex := 9, descriptorIndex := 10, attributes := #[] }, { accessFlags := 2, nameIndex := 19, descriptorIndex := 10, attributes := #[] }])
  fields := #[{ name := "name", type := (.object "java/lang/String"), accessFlags := 18, slot := 0, constantValue := 0 }, { name := "ordinal", type := .int, accessFlags := 18, slot := 1, constantValue := 0 }, { name := "hash", type := .int, accessFlags := 2, slot := 2, constantValue := 0 }]
  methods := #[]
  instanceTypes := #[(.object "java/lang/String"), .int, .int]
  staticTypes := #[]
  resolved := Array.replicate 204 none
  statics := none }

def pool6 : Array CpInfo := pool [(1, .class_ 2), (0, u "com/example/qrew/qrew/dlgp/TokenKind"), (2, u "IDENTIFIER"), (0, u "Lcom/example/qrew/qrew/dlgp/TokenKind;"), (2, u "VARIABLE"), (2, u "IRI"), (2, u "PREFIXED_NAME"), (2, u "STRING"), (2, u "LANGUAGE_TAG"), (2, u "DATATYPE_MARK"), (2, u "INTEGER"), (2, u "LABEL"), (2, u "DIRECTIVE"), (2, u "LEFT_PARENTHESIS"), (2, u "RIGHT_PARENTHESIS"), (2, u "COMMA"), (2, u "DOT"), (2, u "IMPLIES"), (2, u "QUESTION_MARK"), (2, u "EXCLAMATION_MARK"), (2, u "BAR"), (2, u "END"), (2, u "$VALUES"), (0, u "[Lcom/example/qrew/qrew/dlgp/TokenKind;"), (6, .class_ 73), (1, u "java/lang/Enum")] 41

/-- com/example/qrew/qrew/dlgp/TokenKind -/
def k6 : Class := { plain "com/example/qrew/qrew/dlgp/TokenKind" (some 5) with
  accessFlags := 16433
  interfaces := #[]
  cf := some (fileOf pool6 1 #[] #[] 16433 71 #[] #[{ accessFlags := 16409, nameIndex := 5, descriptorIndex := 6, attributes := #[] }, { accessFlags := 16409, nameIndex := 9, descriptorIndex := 6, attributes := #[] }, { accessFlags := 16409, nameIndex := 12, descriptorIndex := 6, attributes := #[] }, { accessFlags := 16409, nameIndex := 15, descriptorIndex := 6, attributes := #[] }, { accessFlags := 16409, nameIndex := 18, descriptorIndex := 6, attributes := #[] }, { accessFlags := 16409, nameIndex := 21, descriptorIndex := 6, attributes := #[] }, { accessFlags := 16409, nameIndex := 24, descriptorIndex := 6, attributes := #[] }, { accessFlags := 16409, nameIndex := 27, descriptorIndex := 6, attributes := #[] }, { accessFlags := 16409, nameIndex := 30, descriptorIndex := 6, attributes := #[] }, { accessFlags := 16409, nameIndex := 33, descriptorIndex := 6, attributes := #[] }, { accessFlags := 16409, nameIndex := 36, descriptorIndex := 6, attributes := #[] }, { accessFlags := 16409, nameIndex := 39, descriptorIndex := 6, attributes := #[] }, { accessFlags := 16409, nameIndex := 42, descriptorIndex := 6, attributes := #[] }, { accessFlags := 16409, nameIndex := 45, descriptorIndex := 6, attributes := #[] }, { accessFlags := 16409, nameIndex := 48, descriptorIndex := 6, attributes := #[] }, { accessFlags := 16409, nameIndex := 51, descriptorIndex := 6, attributes := #[] }, { accessFlags := 16409, nameIndex := 54, descriptorIndex := 6, attributes := #[] }, { accessFlags := 16409, nameIndex := 57, descriptorIndex := 6, attributes := #[] }, { accessFlags := 16409, nameIndex := 60, descriptorIndex := 6, attributes := #[] }, { accessFlags := 4122, nameIndex := 63, descriptorIndex := 64, attributes := #[] }])
  fields := #[{ name := "IDENTIFIER", type := (.object "com/example/qrew/qrew/dlgp/TokenKind"), accessFlags := 16409, slot := 0, constantValue := 0 }, { name := "VARIABLE", type := (.object "com/example/qrew/qrew/dlgp/TokenKind"), accessFlags := 16409, slot := 1, constantValue := 0 }, { name := "IRI", type := (.object "com/example/qrew/qrew/dlgp/TokenKind"), accessFlags := 16409, slot := 2, constantValue := 0 }, { name := "PREFIXED_NAME", type := (.object "com/example/qrew/qrew/dlgp/TokenKind"), accessFlags := 16409, slot := 3, constantValue := 0 }, { name := "STRING", type := (.object "com/example/qrew/qrew/dlgp/TokenKind"), accessFlags := 16409, slot := 4, constantValue := 0 }, { name := "LANGUAGE_TAG", type := (.object "com/example/qrew/qrew/dlgp/TokenKind"), accessFlags := 16409, slot := 5, constantValue := 0 }, { name := "DATATYPE_MARK", type := (.object "com/example/qrew/qrew/dlgp/TokenKind"), accessFlags := 16409, slot := 6, constantValue := 0 }, { name := "INTEGER", type := (.object "com/example/qrew/qrew/dlgp/TokenKind"), accessFlags := 16409, slot := 7, constantValue := 0 }, { name := "LABEL", type := (.object "com/example/qrew/qrew/dlgp/TokenKind"), accessFlags := 16409, slot := 8, constantValue := 0 }, { name := "DIRECTIVE", type := (.object "com/example/qrew/qrew/dlgp/TokenKind"), accessFlags := 16409, slot := 9, constantValue := 0 }, { name := "LEFT_PARENTHESIS", type := (.object "com/example/qrew/qrew/dlgp/TokenKind"), accessFlags := 16409, slot := 10, constantValue := 0 }, { name := "RIGHT_PARENTHESIS", type := (.object "com/example/qrew/qrew/dlgp/TokenKind"), accessFlags := 16409, slot := 11, constantValue := 0 }, { name := "COMMA", type := (.object "com/example/qrew/qrew/dlgp/TokenKind"), accessFlags := 16409, slot := 12, constantValue := 0 }, { name := "DOT", type := (.object "com/example/qrew/qrew/dlgp/TokenKind"), accessFlags := 16409, slot := 13, constantValue := 0 }, { name := "IMPLIES", type := (.object "com/example/qrew/qrew/dlgp/TokenKind"), accessFlags := 16409, slot := 14, constantValue := 0 }, { name := "QUESTION_MARK", type := (.object "com/example/qrew/qrew/dlgp/TokenKind"), accessFlags := 16409, slot := 15, constantValue := 0 }, { name := "EXCLAMATION_MARK", type := (.object "com/example/qrew/qrew/dlgp/TokenKind"), accessFlags := 16409, slot := 16, constantValue := 0 }, { name := "BAR", type := (.object "com/example/qrew/qrew/dlgp/TokenKind"), accessFlags := 16409, slot := 17, constantValue := 0 }, { name := "END", type := (.object "com/example/qrew/qrew/dlgp/TokenKind"), accessFlags := 16409, slot := 18, constantValue := 0 }, { name := "$VALUES", type := (.array (.object "com/example/qrew/qrew/dlgp/TokenKind")), accessFlags := 4122, slot := 19, constantValue := 0 }]
  methods := #[]
  instanceTypes := #[(.object "java/lang/String"), .int, .int]
  staticTypes := #[(.object "com/example/qrew/qrew/dlgp/TokenKind"), (.object "com/example/qrew/qrew/dlgp/TokenKind"), (.object "com/example/qrew/qrew/dlgp/TokenKind"), (.object "com/example/qrew/qrew/dlgp/TokenKind"), (.object "com/example/qrew/qrew/dlgp/TokenKind"), (.object "com/example/qrew/qrew/dlgp/TokenKind"), (.object "com/example/qrew/qrew/dlgp/TokenKind"), (.object "com/example/qrew/qrew/dlgp/TokenKind"), (.object "com/example/qrew/qrew/dlgp/TokenKind"), (.object "com/example/qrew/qrew/dlgp/TokenKind"), (.object "com/example/qrew/qrew/dlgp/TokenKind"), (.object "com/example/qrew/qrew/dlgp/TokenKind"), (.object "com/example/qrew/qrew/dlgp/TokenKind"), (.object "com/example/qrew/qrew/dlgp/TokenKind"), (.object "com/example/qrew/qrew/dlgp/TokenKind"), (.object "com/example/qrew/qrew/dlgp/TokenKind"), (.object "com/example/qrew/qrew/dlgp/TokenKind"), (.object "com/example/qrew/qrew/dlgp/TokenKind"), (.object "com/example/qrew/qrew/dlgp/TokenKind"), (.array (.object "com/example/qrew/qrew/dlgp/TokenKind"))]
  resolved := Array.replicate 115 none
  statics := some 0 }

def pool7 : Array CpInfo := pool [(1, .methodref 2 3), (0, .class_ 4), (0, .nameAndType 5 6), (0, u "java/lang/Object"), (0, u "<init>"), (0, u "()V"), (0, .string 8), (0, u "kind"), (0, .methodref 10 11), (0, .class_ 12), (0, .nameAndType 13 14), (0, u "java/util/Objects"), (0, u "requireNonNull"), (0, u "(Ljava/lang/Object;Ljava/lang/String;)Ljava/lang/Object;"), (0, .class_ 16), (0, u "com/example/qrew/qrew/dlgp/TokenKind"), (0, .fieldref 18 19), (0, .class_ 20), (0, .nameAndType 8 21), (0, u "com/example/qrew/qrew/dlgp/Token"), (0, u "Lcom/example/qrew/qrew/dlgp/TokenKind;"), (0, .string 23), (0, u "text"), (0, .class_ 25), (0, u "java/lang/String"), (0, .fieldref 18 27), (0, .nameAndType 23 28), (0, u "Ljava/lang/String;"), (0, .fieldref 18 30), (0, .nameAndType 31 32), (0, u "line"), (0, u "I"), (0, .methodref 24 34), (0, .nameAndType 35 36), (0, u "equals"), (0, u "(Ljava/lang/Object;)Z"), (17, u "(Lcom/example/qrew/qrew/dlgp/TokenKind;Ljava/lang/String;I)V"), (4, u "getText"), (0, u "()Ljava/lang/String;")] 22

def k7c0 : Code := { maxStack := 3, maxLocals := 4, code := prog_7_method_1_code, exceptionTable := #[], attributes := #[] }
def k7m0 : Method := { name := "<init>", desc := "(Lcom/example/qrew/qrew/dlgp/TokenKind;Ljava/lang/String;I)V", sig := { parameters := [(.object "com/example/qrew/qrew/dlgp/TokenKind"), (.object "java/lang/String"), .int], returnType := none }, accessFlags := 1, code := some k7c0 }
def k7c1 : Code := { maxStack := 1, maxLocals := 1, code := prog_7_method_3_code, exceptionTable := #[], attributes := #[] }
def k7m1 : Method := { name := "getText", desc := "()Ljava/lang/String;", sig := { parameters := [], returnType := some (.object "java/lang/String") }, accessFlags := 1, code := some k7c1 }
def k7c2 : Code := { maxStack := 2, maxLocals := 3, code := prog_7_method_5_code, exceptionTable := #[], attributes := #[] }
def k7m2 : Method := { name := "equals", desc := "(Ljava/lang/Object;)Z", sig := { parameters := [(.object "java/lang/Object")], returnType := some .boolean }, accessFlags := 1, code := some k7c2 }
/-- com/example/qrew/qrew/dlgp/Token -/
def k7 : Class := { plain "com/example/qrew/qrew/dlgp/Token" (some 0) with
  accessFlags := 33
  interfaces := #[]
  cf := some (fileOf pool7 18 #[] #[{ accessFlags := 1, nameIndex := 5, descriptorIndex := 54, attributes := #[] }, { accessFlags := 1, nameIndex := 59, descriptorIndex := 60, attributes := #[] }, { accessFlags := 1, nameIndex := 35, descriptorIndex := 36, attributes := #[] }] 33 2 #[] #[{ accessFlags := 18, nameIndex := 8, descriptorIndex := 21, attributes := #[] }, { accessFlags := 18, nameIndex := 23, descriptorIndex := 28, attributes := #[] }, { accessFlags := 18, nameIndex := 31, descriptorIndex := 32, attributes := #[] }])
  fields := #[{ name := "kind", type := (.object "com/example/qrew/qrew/dlgp/TokenKind"), accessFlags := 18, slot := 0, constantValue := 0 }, { name := "text", type := (.object "java/lang/String"), accessFlags := 18, slot := 1, constantValue := 0 }, { name := "line", type := .int, accessFlags := 18, slot := 2, constantValue := 0 }]
  methods := #[k7m0, k7m1, k7m2]
  instanceTypes := #[(.object "com/example/qrew/qrew/dlgp/TokenKind"), (.object "java/lang/String"), .int]
  staticTypes := #[]
  resolved := Array.replicate 83 none
  statics := none }

def pool8 : Array CpInfo := pool [(2, .class_ 4), (1, u "java/lang/CharSequence"), (42, .class_ 48), (0, u "java/lang/CharSequence$1CodePointIterator"), (10, .class_ 60), (0, u "java/lang/CharSequence$1CharIterator"), (5, .class_ 67), (0, u "java/lang/Object")] 63

/-- java/lang/CharSequence -/
def k8 : Class := { plain "java/lang/CharSequence" (some 0) with
  accessFlags := 1537
  interfaces := #[]
  cf := some (fileOf pool8 2 #[.nestMembers #[47, 59]] #[] 1537 66 #[] #[])
  fields := #[]
  methods := #[]
  instanceTypes := #[]
  staticTypes := #[]
  resolved := Array.replicate 131 none
  statics := none }

def pool9 : Array CpInfo := pool [(1, .class_ 2), (0, u "java/lang/constant/ConstantDesc"), (0, .class_ 4), (0, u "java/lang/Object")] 32

/-- java/lang/constant/ConstantDesc -/
def k9 : Class := { plain "java/lang/constant/ConstantDesc" (some 0) with
  accessFlags := 1537
  interfaces := #[]
  cf := some (fileOf pool9 1 #[] #[] 1537 3 #[] #[])
  fields := #[]
  methods := #[]
  instanceTypes := #[]
  staticTypes := #[]
  resolved := Array.replicate 37 none
  statics := none }

def pool10 : Array CpInfo := pool [(1, .methodref 2 3), (0, .class_ 4), (0, .nameAndType 5 6), (0, u "java/lang/Object"), (0, u "<init>"), (0, u "()V"), (0, .string 8), (0, u ""), (0, .fieldref 10 11), (0, .class_ 12), (0, .nameAndType 13 14), (0, u "java/lang/String"), (0, u "value"), (0, u "[B"), (0, .fieldref 10 16), (0, .nameAndType 17 18), (0, u "coder"), (0, u "B"), (2, u "hash"), (0, u "I"), (2, u "hashIsZero"), (0, u "Z"), (0, .methodref 10 28), (0, .nameAndType 5 29), (0, u "([CIILjava/lang/Void;)V"), (8, .fieldref 10 39), (0, .nameAndType 40 26), (0, u "COMPACT_STRINGS"), (1, .class_ 44), (1, u "java/lang/StringUTF16"), (0, u "compress"), (1, .methodref 42 48), (0, .nameAndType 49 50), (0, u "coderFromArrayLen"), (0, u "([BI)B"), (56, .class_ 109), (1, u "java/lang/StringLatin1"), (67, .methodref 42 178), (0, .nameAndType 45 179), (0, u "([CII)[B"), (361, .methodref 107 542), (0, .nameAndType 543 544), (0, u "equals"), (0, u "([B[B)Z"), (28, u "(Ljava/lang/Object;)Z"), (1, .class_ 576), (0, u "java/lang/CharSequence"), (22, u "CASE_INSENSITIVE_ORDER"), (0, u "Ljava/util/Comparator;"), (409, u "([C)V"), (90, u "serialPersistentFields"), (0, u "[Ljava/io/ObjectStreamField;"), (0, .class_ 1104), (0, u "java/lang/String$CaseInsensitiveComparator"), (1, .class_ 1107), (0, u "java/io/Serializable"), (0, .class_ 1109), (0, u "java/lang/Comparable"), (0, .class_ 1111), (0, u "java/lang/constant/Constable"), (0, .class_ 1113), (0, u "java/lang/constant/ConstantDesc"), (2, u "serialVersionUID"), (0, u "J"), (3, u "REPL"), (0, u "C"), (2, u "LATIN1"), (1, u "UTF16")] 323

def k10m0 : Method := { name := "<init>", desc := "()V", sig := { parameters := [], returnType := none }, accessFlags := 1, code := none }
def k10c1 : Code := { maxStack := 5, maxLocals := 2, code := jdk_42_method_3_code, exceptionTable := #[], attributes := #[] }
def k10m1 : Method := { name := "<init>", desc := "([C)V", sig := { parameters := [(.array .char)], returnType := none }, accessFlags := 1, code := some k10c1 }
def k10c2 : Code := { maxStack := 2, maxLocals := 3, code := jdk_42_method_66_code, exceptionTable := #[], attributes := #[] }
def k10m2 : Method := { name := "equals", desc := "(Ljava/lang/Object;)Z", sig := { parameters := [(.object "java/lang/Object")], returnType := some .boolean }, accessFlags := 1, code := some k10c2 }
def k10c3 : Code := { maxStack := 4, maxLocals := 6, code := jdk_42_method_149_code, exceptionTable := #[], attributes := #[] }
def k10m3 : Method := { name := "<init>", desc := "([CIILjava/lang/Void;)V", sig := { parameters := [(.array .char), .int, .int, (.object "java/lang/Void")], returnType := none }, accessFlags := 2, code := some k10c3 }
/-- java/lang/String -/
def k10 : Class := { plain "java/lang/String" (some 0) with
  accessFlags := 49
  interfaces := #[4, 3, 8, 2, 9]
  cf := some (fileOf pool10 10 #[.nestMembers #[1103]] #[{ accessFlags := 1, nameIndex := 5, descriptorIndex := 6, attributes := #[] }, { accessFlags := 1, nameIndex := 5, descriptorIndex := 1010, attributes := #[] }, { accessFlags := 1, nameIndex := 543, descriptorIndex := 573, attributes := #[] }, { accessFlags := 2, nameIndex := 5, descriptorIndex := 29, attributes := #[] }] 49 2 #[1106, 1108, 575, 1110, 1112] #[{ accessFlags := 18, nameIndex := 13, descriptorIndex := 14, attributes := #[] }, { accessFlags := 18, nameIndex := 17, descriptorIndex := 18, attributes := #[] }, { accessFlags := 2, nameIndex := 21, descriptorIndex := 22, attributes := #[] }, { accessFlags := 2, nameIndex := 25, descriptorIndex := 26, attributes := #[] }, { accessFlags := 26, nameIndex := 1116, descriptorIndex := 1117, attributes := #[] }, { accessFlags := 24, nameIndex := 40, descriptorIndex := 26, attributes := #[] }, { accessFlags := 26, nameIndex := 1101, descriptorIndex := 1102, attributes := #[] }, { accessFlags := 26, nameIndex := 1121, descriptorIndex := 1122, attributes := #[] }, { accessFlags := 25, nameIndex := 599, descriptorIndex := 600, attributes := #[] }, { accessFlags := 24, nameIndex := 1125, descriptorIndex := 18, attributes := #[] }, { accessFlags := 24, nameIndex := 1127, descriptorIndex := 18, attributes := #[] }])
  fields := #[{ name := "value", type := (.array .byte), accessFlags := 18, slot := 0, constantValue := 0 }, { name := "coder", type := .byte, accessFlags := 18, slot := 1, constantValue := 0 }, { name := "hash", type := .int, accessFlags := 2, slot := 2, constantValue := 0 }, { name := "hashIsZero", type := .boolean, accessFlags := 2, slot := 3, constantValue := 0 }, { name := "serialVersionUID", type := .long, accessFlags := 26, slot := 0, constantValue := 0 }, { name := "COMPACT_STRINGS", type := .boolean, accessFlags := 24, slot := 1, constantValue := 0 }, { name := "serialPersistentFields", type := (.array (.object "java/io/ObjectStreamField")), accessFlags := 26, slot := 2, constantValue := 0 }, { name := "REPL", type := .char, accessFlags := 26, slot := 3, constantValue := 0 }, { name := "CASE_INSENSITIVE_ORDER", type := (.object "java/util/Comparator"), accessFlags := 25, slot := 4, constantValue := 0 }, { name := "LATIN1", type := .byte, accessFlags := 24, slot := 5, constantValue := 0 }, { name := "UTF16", type := .byte, accessFlags := 24, slot := 6, constantValue := 0 }]
  methods := #[k10m0, k10m1, k10m2, k10m3]
  instanceTypes := #[(.array .byte), .byte, .int, .boolean]
  staticTypes := #[.long, .boolean, (.array (.object "java/io/ObjectStreamField")), .char, (.object "java/util/Comparator"), .byte, .byte]
  resolved := Array.replicate 1451 none
  statics := some 1 }

def pool11 : Array CpInfo := pool [(6, .class_ 8), (1, u "java/lang/Object"), (0, u "<init>"), (0, u "()V"), (1, .class_ 14), (1, u "java/lang/StringUTF16"), (31, u "$assertionsDisabled"), (0, u "Z"), (13, u "HI_BYTE_SHIFT"), (0, u "I"), (2, u "LO_BYTE_SHIFT"), (49, .methodref 12 116), (0, .nameAndType 117 118), (0, u "compress"), (0, u "([CI[BII)I"), (3, u "([CII)[B"), (138, u "coderFromArrayLen"), (0, u "([BI)B"), (106, .class_ 371), (1, u "java/lang/StringUTF16$LinesSpliterator"), (58, u "MAX_LENGTH"), (196, .class_ 628), (0, u "java/lang/StringUTF16$CodePointsSpliterator"), (0, .class_ 630), (0, u "java/lang/StringUTF16$CharsSpliterator")] 4

def k11m0 : Method := { name := "<init>", desc := "()V", sig := { parameters := [], returnType := none }, accessFlags := 0, code := none }
def k11c1 : Code := { maxStack := 2, maxLocals := 2, code := jdk_52_method_15_code, exceptionTable := #[], attributes := #[] }
def k11m1 : Method := { name := "coderFromArrayLen", desc := "([BI)B", sig := { parameters := [(.array .byte), .int], returnType := some .byte }, accessFlags := 8, code := some k11c1 }
def k11c2 : Code := { maxStack := 5, maxLocals := 6, code := jdk_52_method_16_code, exceptionTable := #[], attributes := #[] }
def k11m2 : Method := { name := "compress", desc := "([CII)[B", sig := { parameters := [(.array .char), .int, .int], returnType := some (.array .byte) }, accessFlags := 9, code := some k11c2 }
def k11c3 : Code := { maxStack := 3, maxLocals := 7, code := jdk_52_method_21_code, exceptionTable := #[], attributes := #[] }
def k11m3 : Method := { name := "compress", desc := "([CI[BII)I", sig := { parameters := [(.array .char), .int, (.array .byte), .int, .int], returnType := some .int }, accessFlags := 9, code := some k11c3 }
/-- java/lang/StringUTF16 -/
def k11 : Class := { plain "java/lang/StringUTF16" (some 0) with
  accessFlags := 48
  interfaces := #[]
  cf := some (fileOf pool11 12 #[.nestMembers #[627, 629, 369]] #[{ accessFlags := 0, nameIndex := 9, descriptorIndex := 10, attributes := #[] }, { accessFlags := 8, nameIndex := 261, descriptorIndex := 262, attributes := #[] }, { accessFlags := 9, nameIndex := 117, descriptorIndex := 122, attributes := #[] }, { accessFlags := 9, nameIndex := 117, descriptorIndex := 118, attributes := #[] }] 48 6 #[] #[{ accessFlags := 26, nameIndex := 61, descriptorIndex := 62, attributes := #[] }, { accessFlags := 26, nameIndex := 65, descriptorIndex := 62, attributes := #[] }, { accessFlags := 24, nameIndex := 430, descriptorIndex := 62, attributes := #[] }, { accessFlags := 4120, nameIndex := 46, descriptorIndex := 47, attributes := #[] }])
  fields := #[{ name := "HI_BYTE_SHIFT", type := .int, accessFlags := 26, slot := 0, constantValue := 0 }, { name := "LO_BYTE_SHIFT", type := .int, accessFlags := 26, slot := 1, constantValue := 0 }, { name := "MAX_LENGTH", type := .int, accessFlags := 24, slot := 2, constantValue := 0 }, { name := "$assertionsDisabled", type := .boolean, accessFlags := 4120, slot := 3, constantValue := 0 }]
  methods := #[k11m0, k11m1, k11m2, k11m3]
  instanceTypes := #[]
  staticTypes := #[.int, .int, .int, .boolean]
  resolved := Array.replicate 635 none
  statics := none }

def pool12 : Array CpInfo := pool [(2, .class_ 4), (1, u "java/lang/Object"), (0, u "<init>"), (0, u "()V"), (35, .class_ 44), (1, u "java/util/Objects"), (0, u "requireNonNull"), (48, u "(Ljava/lang/Object;Ljava/lang/String;)Ljava/lang/Object;")] 89

def k12m0 : Method := { name := "<init>", desc := "()V", sig := { parameters := [], returnType := none }, accessFlags := 2, code := none }
def k12c1 : Code := { maxStack := 3, maxLocals := 2, code := jdk_31_method_11_code, exceptionTable := #[], attributes := #[] }
def k12m1 : Method := { name := "requireNonNull", desc := "(Ljava/lang/Object;Ljava/lang/String;)Ljava/lang/Object;", sig := { parameters := [(.object "java/lang/Object"), (.object "java/lang/String")], returnType := some (.object "java/lang/Object") }, accessFlags := 9, code := some k12c1 }
/-- java/util/Objects -/
def k12 : Class := { plain "java/util/Objects" (some 0) with
  accessFlags := 49
  interfaces := #[]
  cf := some (fileOf pool12 42 #[] #[{ accessFlags := 2, nameIndex := 5, descriptorIndex := 6, attributes := #[] }, { accessFlags := 9, nameIndex := 45, descriptorIndex := 94, attributes := #[] }] 49 2 #[] #[])
  fields := #[]
  methods := #[k12m0, k12m1]
  instanceTypes := #[]
  staticTypes := #[]
  resolved := Array.replicate 184 none
  statics := none }

def pool13 : Array CpInfo := pool [(4, .class_ 6), (1, u "java/lang/Object"), (0, u "<init>"), (0, u "()V"), (5, .class_ 16), (1, u "java/lang/StringLatin1"), (104, u "$assertionsDisabled"), (0, u "Z"), (98, .class_ 223), (1, u "java/lang/StringLatin1$LinesSpliterator"), (57, u "equals"), (0, u "([B[B)Z"), (107, .class_ 391), (0, u "java/lang/StringLatin1$CharsSpliterator")] 3

def k13m0 : Method := { name := "<init>", desc := "()V", sig := { parameters := [], returnType := none }, accessFlags := 0, code := none }
def k13c1 : Code := { maxStack := 3, maxLocals := 3, code := jdk_43_method_13_code, exceptionTable := #[], attributes := #[] }
def k13m1 : Method := { name := "equals", desc := "([B[B)Z", sig := { parameters := [(.array .byte), (.array .byte)], returnType := some .boolean }, accessFlags := 9, code := some k13c1 }
/-- java/lang/StringLatin1 -/
def k13 : Class := { plain "java/lang/StringLatin1" (some 0) with
  accessFlags := 48
  interfaces := #[]
  cf := some (fileOf pool13 14 #[.nestMembers #[390, 221]] #[{ accessFlags := 0, nameIndex := 7, descriptorIndex := 8, attributes := #[] }, { accessFlags := 9, nameIndex := 281, descriptorIndex := 282, attributes := #[] }] 48 4 #[] #[{ accessFlags := 4120, nameIndex := 121, descriptorIndex := 122, attributes := #[] }])
  fields := #[{ name := "$assertionsDisabled", type := .boolean, accessFlags := 4120, slot := 0, constantValue := 0 }]
  methods := #[k13m0, k13m1]
  instanceTypes := #[]
  staticTypes := #[.boolean]
  resolved := Array.replicate 395 none
  statics := none }

def pool14 : Array CpInfo := pool [(2, .class_ 4), (1, u "java/lang/Object"), (0, u "<init>"), (0, u "()V"), (17, .class_ 26), (1, u "jdk/internal/util/Preconditions"), (28, .class_ 56), (0, u "jdk/internal/util/Preconditions$4"), (57, .class_ 115), (0, u "jdk/internal/util/Preconditions$1"), (7, u "SIOOBE_FORMATTER"), (0, u "Ljava/util/function/BiFunction;"), (0, .class_ 126), (0, u "jdk/internal/util/Preconditions$2"), (3, u "AIOOBE_FORMATTER"), (0, .class_ 132), (0, u "jdk/internal/util/Preconditions$3"), (3, u "IOOBE_FORMATTER")] 57

def k14m0 : Method := { name := "<init>", desc := "()V", sig := { parameters := [], returnType := none }, accessFlags := 1, code := none }
/-- jdk/internal/util/Preconditions -/
def k14 : Class := { plain "jdk/internal/util/Preconditions" (some 0) with
  accessFlags := 33
  interfaces := #[]
  cf := some (fileOf pool14 24 #[.nestMembers #[55, 131, 125, 114]] #[{ accessFlags := 1, nameIndex := 5, descriptorIndex := 6, attributes := #[] }] 33 2 #[] #[{ accessFlags := 25, nameIndex := 123, descriptorIndex := 124, attributes := #[] }, { accessFlags := 25, nameIndex := 130, descriptorIndex := 124, attributes := #[] }, { accessFlags := 25, nameIndex := 136, descriptorIndex := 124, attributes := #[] }])
  fields := #[{ name := "SIOOBE_FORMATTER", type := (.object "java/util/function/BiFunction"), accessFlags := 25, slot := 0, constantValue := 0 }, { name := "AIOOBE_FORMATTER", type := (.object "java/util/function/BiFunction"), accessFlags := 25, slot := 1, constantValue := 0 }, { name := "IOOBE_FORMATTER", type := (.object "java/util/function/BiFunction"), accessFlags := 25, slot := 2, constantValue := 0 }]
  methods := #[k14m0]
  instanceTypes := #[]
  staticTypes := #[(.object "java/util/function/BiFunction"), (.object "java/util/function/BiFunction"), (.object "java/util/function/BiFunction")]
  resolved := Array.replicate 194 none
  statics := some 2 }

def pool15 : Array CpInfo := pool [(9, u "<init>"), (6, .class_ 18), (1, u "java/lang/Object"), (0, u "()V"), (1, .class_ 23), (1, u "jdk/internal/util/ArraysSupport"), (0, u "LOG2_ARRAY_LONG_INDEX_SCALE"), (0, u "I"), (2, u "U"), (0, u "Ljdk/internal/misc/Unsafe;"), (8, u "BIG_ENDIAN"), (0, u "Z"), (8, u "LOG2_BYTE_BIT_SIZE"), (4, u "LOG2_ARRAY_INT_INDEX_SCALE"), (54, u "JLA"), (0, u "Ljdk/internal/access/JavaLangAccess;"), (11, u "LOG2_ARRAY_BOOLEAN_INDEX_SCALE"), (9, u "LOG2_ARRAY_BYTE_INDEX_SCALE"), (5, u "LOG2_ARRAY_CHAR_INDEX_SCALE"), (5, u "LOG2_ARRAY_SHORT_INDEX_SCALE"), (18, u "LOG2_ARRAY_FLOAT_INDEX_SCALE"), (24, u "LOG2_ARRAY_DOUBLE_INDEX_SCALE"), (89, u "T_BOOLEAN"), (2, u "T_CHAR"), (1, u "T_FLOAT"), (1, u "T_DOUBLE"), (1, u "T_BYTE"), (1, u "T_SHORT"), (1, u "T_INT"), (1, u "T_LONG"), (1, u "SOFT_MAX_ARRAY_LENGTH")] 83

def k15m0 : Method := { name := "<init>", desc := "()V", sig := { parameters := [], returnType := none }, accessFlags := 2, code := none }
/-- jdk/internal/util/ArraysSupport -/
def k15 : Class := { plain "jdk/internal/util/ArraysSupport" (some 0) with
  accessFlags := 33
  interfaces := #[]
  cf := some (fileOf pool15 21 #[] #[{ accessFlags := 2, nameIndex := 9, descriptorIndex := 19, attributes := #[] }] 33 16 #[] #[{ accessFlags := 24, nameIndex := 28, descriptorIndex := 29, attributes := #[] }, { accessFlags := 26, nameIndex := 38, descriptorIndex := 39, attributes := #[] }, { accessFlags := 25, nameIndex := 121, descriptorIndex := 25, attributes := #[] }, { accessFlags := 25, nameIndex := 131, descriptorIndex := 25, attributes := #[] }, { accessFlags := 25, nameIndex := 137, descriptorIndex := 25, attributes := #[] }, { accessFlags := 25, nameIndex := 143, descriptorIndex := 25, attributes := #[] }, { accessFlags := 25, nameIndex := 53, descriptorIndex := 25, attributes := #[] }, { accessFlags := 25, nameIndex := 24, descriptorIndex := 25, attributes := #[] }, { accessFlags := 25, nameIndex := 162, descriptorIndex := 25, attributes := #[] }, { accessFlags := 25, nameIndex := 187, descriptorIndex := 25, attributes := #[] }, { accessFlags := 26, nameIndex := 48, descriptorIndex := 25, attributes := #[] }, { accessFlags := 25, nameIndex := 277, descriptorIndex := 25, attributes := #[] }, { accessFlags := 25, nameIndex := 280, descriptorIndex := 25, attributes := #[] }, { accessFlags := 25, nameIndex := 282, descriptorIndex := 25, attributes := #[] }, { accessFlags := 25, nameIndex := 284, descriptorIndex := 25, attributes := #[] }, { accessFlags := 25, nameIndex := 286, descriptorIndex := 25, attributes := #[] }, { accessFlags := 25, nameIndex := 288, descriptorIndex := 25, attributes := #[] }, { accessFlags := 25, nameIndex := 290, descriptorIndex := 25, attributes := #[] }, { accessFlags := 25, nameIndex := 292, descriptorIndex := 25, attributes := #[] }, { accessFlags := 26, nameIndex := 108, descriptorIndex := 109, attributes := #[] }, { accessFlags := 25, nameIndex := 294, descriptorIndex := 25, attributes := #[] }])
  fields := #[{ name := "U", type := (.object "jdk/internal/misc/Unsafe"), accessFlags := 24, slot := 0, constantValue := 0 }, { name := "BIG_ENDIAN", type := .boolean, accessFlags := 26, slot := 1, constantValue := 0 }, { name := "LOG2_ARRAY_BOOLEAN_INDEX_SCALE", type := .int, accessFlags := 25, slot := 2, constantValue := 0 }, { name := "LOG2_ARRAY_BYTE_INDEX_SCALE", type := .int, accessFlags := 25, slot := 3, constantValue := 0 }, { name := "LOG2_ARRAY_CHAR_INDEX_SCALE", type := .int, accessFlags := 25, slot := 4, constantValue := 0 }, { name := "LOG2_ARRAY_SHORT_INDEX_SCALE", type := .int, accessFlags := 25, slot := 5, constantValue := 0 }, { name := "LOG2_ARRAY_INT_INDEX_SCALE", type := .int, accessFlags := 25, slot := 6, constantValue := 0 }, { name := "LOG2_ARRAY_LONG_INDEX_SCALE", type := .int, accessFlags := 25, slot := 7, constantValue := 0 }, { name := "LOG2_ARRAY_FLOAT_INDEX_SCALE", type := .int, accessFlags := 25, slot := 8, constantValue := 0 }, { name := "LOG2_ARRAY_DOUBLE_INDEX_SCALE", type := .int, accessFlags := 25, slot := 9, constantValue := 0 }, { name := "LOG2_BYTE_BIT_SIZE", type := .int, accessFlags := 26, slot := 10, constantValue := 0 }, { name := "T_BOOLEAN", type := .int, accessFlags := 25, slot := 11, constantValue := 0 }, { name := "T_CHAR", type := .int, accessFlags := 25, slot := 12, constantValue := 0 }, { name := "T_FLOAT", type := .int, accessFlags := 25, slot := 13, constantValue := 0 }, { name := "T_DOUBLE", type := .int, accessFlags := 25, slot := 14, constantValue := 0 }, { name := "T_BYTE", type := .int, accessFlags := 25, slot := 15, constantValue := 0 }, { name := "T_SHORT", type := .int, accessFlags := 25, slot := 16, constantValue := 0 }, { name := "T_INT", type := .int, accessFlags := 25, slot := 17, constantValue := 0 }, { name := "T_LONG", type := .int, accessFlags := 25, slot := 18, constantValue := 0 }, { name := "JLA", type := (.object "jdk/internal/access/JavaLangAccess"), accessFlags := 26, slot := 19, constantValue := 0 }, { name := "SOFT_MAX_ARRAY_LENGTH", type := .int, accessFlags := 25, slot := 20, constantValue := 0 }]
  methods := #[k15m0]
  instanceTypes := #[]
  staticTypes := #[(.object "jdk/internal/misc/Unsafe"), .boolean, .int, .int, .int, .int, .int, .int, .int, .int, .int, .int, .int, .int, .int, .int, .int, .int, .int, (.object "jdk/internal/access/JavaLangAccess"), .int]
  resolved := Array.replicate 378 none
  statics := none }

def pool16 : Array CpInfo := pool [(1, u "java/lang/Cloneable"), (0, .class_ 1), (0, u "java/lang/Object"), (0, .class_ 3)] 3

/-- java/lang/Cloneable -/
def k16 : Class := { plain "java/lang/Cloneable" (some 0) with
  accessFlags := 1537
  interfaces := #[]
  cf := some (fileOf pool16 2 #[] #[] 1537 4 #[] #[])
  fields := #[]
  methods := #[]
  instanceTypes := #[]
  staticTypes := #[]
  resolved := Array.replicate 8 none
  statics := none }

/-- the primitive byte -/
def k17 : Class := { plain "byte" none with kind := .primitive 'B', accessFlags := 0x411 }
/-- [B -/
def k18 : Class := { plain "[B" (some 0) with kind := .array 17 .byte, interfaces := #[16, 4], accessFlags := 1041 }

/-- the primitive char -/
def k19 : Class := { plain "char" none with kind := .primitive 'C', accessFlags := 0x411 }
/-- [C -/
def k20 : Class := { plain "[C" (some 0) with kind := .array 19 .char, interfaces := #[16, 4], accessFlags := 1041 }

/-- the primitive int -/
def k21 : Class := { plain "int" none with kind := .primitive 'I', accessFlags := 0x411 }
/-- [I -/
def k22 : Class := { plain "[I" (some 0) with kind := .array 21 .int, interfaces := #[16, 4], accessFlags := 1041 }

/-- [Lcom/example/qrew/qrew/dlgp/TokenKind; -/
def k23 : Class := { plain "[Lcom/example/qrew/qrew/dlgp/TokenKind;" (some 0) with kind := .array 6 (.object "com/example/qrew/qrew/dlgp/TokenKind"), interfaces := #[16, 4], accessFlags := 1041 }

def heap : Heap := #[{ cls := 6, slots := #[.ref 13, .ref 7, .ref 5, .ref 15, .ref 14, .ref 19, .ref 11, .ref 12, .ref 10, .ref 8, .ref 17, .ref 16, .ref 9, .ref 6, .ref 4, .ref 18, .ref 21, .ref 3, .ref 20, .null], vm := .statics 6 },
  { cls := 10, slots := #[.long 0, .int 1, .null, .int 0, .null, .int 0, .int 0], vm := .statics 10 },
  { cls := 14, slots := #[.null, .null, .null], vm := .statics 14 },
  { cls := 6, slots := #[.null, .int 17, .int 0], vm := .none },
  { cls := 6, slots := #[.null, .int 14, .int 0], vm := .none },
  { cls := 6, slots := #[.null, .int 2, .int 0], vm := .none },
  { cls := 6, slots := #[.null, .int 13, .int 0], vm := .none },
  { cls := 6, slots := #[.null, .int 1, .int 0], vm := .none },
  { cls := 6, slots := #[.null, .int 9, .int 0], vm := .none },
  { cls := 6, slots := #[.null, .int 12, .int 0], vm := .none },
  { cls := 6, slots := #[.null, .int 8, .int 0], vm := .none },
  { cls := 6, slots := #[.null, .int 6, .int 0], vm := .none },
  { cls := 6, slots := #[.null, .int 7, .int 0], vm := .none },
  { cls := 6, slots := #[.null, .int 0, .int 0], vm := .none },
  { cls := 6, slots := #[.null, .int 4, .int 0], vm := .none },
  { cls := 6, slots := #[.null, .int 3, .int 0], vm := .none },
  { cls := 6, slots := #[.null, .int 11, .int 0], vm := .none },
  { cls := 6, slots := #[.null, .int 10, .int 0], vm := .none },
  { cls := 6, slots := #[.null, .int 15, .int 0], vm := .none },
  { cls := 6, slots := #[.null, .int 5, .int 0], vm := .none },
  { cls := 6, slots := #[.null, .int 18, .int 0], vm := .none },
  { cls := 6, slots := #[.null, .int 16, .int 0], vm := .none }]
def classes : Array Class := #[k0, k1, k2, k3, k4, k5, k6, k7, k8, k9, k10, k11, k12, k13, k14, k15, k16, k17, k18, k19, k20, k21, k22, k23]
def interned : List (Array UInt16 × Addr) := []
def slotsUsed : Nat := 87
def theMethod : MethodId := ⟨1, 3⟩
def args0 : Array Value := #[.int 5, .int 6, .int 7, .int 8, .int 9, .int 10]
def aboutOver (below : List Frame) : State where
  vm := { classes := classes, interned := interned.toArray }
  heap := heap
  slotsUsed := slotsUsed
  threads := #[{ frames := .invoking theMethod args0 :: below }]
def below0 : List Frame := [.native { method := ⟨0, 0⟩, args := #[] }]
def about1 : State := aboutOver below0
def p0 : Program := .bare "" "" ""
def e0 : Env := launch0.env 0 0 0
theorem w_frames : about1.frames = Frame.invoking theMethod args0 :: below0 := rfl
set_option maxRecDepth 65536 in
theorem w_args : argsFit about1.vm theMethod args0 = true := by decide +kernel
set_option maxRecDepth 65536 in
theorem w_heap : heapFits about1 = true := by decide +kernel
set_option maxRecDepth 65536 in
theorem w_runnable : about1.curStatus? = some .runnable := by decide +kernel
set_option maxRecDepth 65536 in
theorem w_alone : about1.alone = true := by decide +kernel
set_option maxRecDepth 65536 in
theorem w_named : about1.methodNamed? x = some theMethod := by decide +kernel
set_option maxRecDepth 65536 in
theorem w_hears : about1.hears theMethod below0 = true := by decide +kernel
set_option maxRecDepth 65536 in
theorem w_ripe : about1.ripe theMethod args0 below0 = true := by decide +kernel
theorem w_running : about1.status = .running := rfl
set_option maxRecDepth 65536 in
theorem w_room : about1.hasRoom e0.platform room_1 = true :=
  launch0.hasRoom_least _ room_1 (by decide +kernel) (by decide +kernel) (by decide +kernel) (by decide +kernel) (by decide +kernel) (by decide +kernel)
theorem allAtoms_all (ts : List Jvm.Cond) (a : Array Jvm.Value) (st : Jvm.State) : (allAtoms ts).before a st = ts.all (fun c => c.before a st) := by
  induction ts with
  | nil => rfl
  | cons c t ih =>
    show (Jvm.Cond.and c (allAtoms t)).before a st = _
    rw [Jvm.Cond.before_and, ih, List.all_cons]
def words1 : List Jvm.Cond := Jvm.Cond.code x code maxLocals ret :: tables_1
/-- a 'code' word, met by the world's own term for the bytes: nothing is compared byte by byte -/
theorem code_word {y : MethodName} {bytes : ByteArray} {mx : Nat} {rt : Option FieldType} {a : Array Value} {s : State} {m : MethodId} {meth : Method} {c : Code} (h1 : s.methodNamed? y = some m) (h2 : s.vm.method? m = some meth) (h3 : meth.code = some c) (h4 : c.code = bytes)
    (h5 : (c.maxLocals == mx && c.exceptionTable.isEmpty && decide (c.maxStack ≤ mostOperands) && decide (meth.sig.returnType = rt) && !meth.locks && decide (parseMethodDescriptor y.desc = some meth.sig)) = true) : (Jvm.Cond.code y bytes mx rt).before a s = true := by
  simp only [Bool.and_eq_true, beq_iff_eq, Bool.not_eq_true', decide_eq_true_eq] at h5
  obtain ⟨⟨⟨⟨⟨g1, g2⟩, g3⟩, g4⟩, g5⟩, g6⟩ := h5
  simp [Cond.before, Cond.holds, Cond.value, h1, h2, h3, h4, g1, g2, g3, g4, g5, g6]
def isCode : Jvm.Cond → Bool
  | .code _ _ _ _ => true
  | _ => false
theorem all_split {L : List Jvm.Cond} {P : Jvm.Cond → Bool} (h1 : L.all (fun c => isCode c || P c) = true) (h2 : ∀ c ∈ L.filter isCode, P c = true) : L.all P = true := by
  refine List.all_eq_true.mpr fun c hc => ?_
  have h := List.all_eq_true.mp h1 c hc
  rcases Bool.eq_false_or_eq_true (isCode c) with hi | hi
  · exact h2 c (List.mem_filter.mpr ⟨hc, hi⟩)
  · simpa [hi] using h
set_option maxRecDepth 65536 in
theorem w_c0 : (Jvm.Cond.code x code maxLocals ret).before args0 about1 = true := code_word (m := ⟨1, 3⟩) (meth := k1m3) (c := k1c3) (by decide +kernel) rfl rfl rfl (by decide +kernel)
set_option maxRecDepth 65536 in
theorem w_c1 : (Jvm.Cond.code ({ cls := "com/example/qrew/qrew/dlgp/TokenEqualsPinLaw", name := "kindOf", desc := "(I)Lcom/example/qrew/qrew/dlgp/TokenKind;" } : Jvm.MethodName) method_3_code (2 : Nat) (Option.some (Jvm.ClassFile.FieldType.object "com/example/qrew/qrew/dlgp/TokenKind"))).before args0 about1 = true := code_word (m := ⟨1, 2⟩) (meth := k1m2) (c := k1c2) (by decide +kernel) rfl rfl rfl (by decide +kernel)
set_option maxRecDepth 65536 in
theorem w_c2 : (Jvm.Cond.code ({ cls := "com/example/qrew/qrew/dlgp/TokenEqualsPinLaw", name := "mk", desc := "(ICCC)Ljava/lang/String;" } : Jvm.MethodName) method_2_code (4 : Nat) (Option.some (Jvm.ClassFile.FieldType.object "java/lang/String"))).before args0 about1 = true := code_word (m := ⟨1, 1⟩) (meth := k1m1) (c := k1c1) (by decide +kernel) rfl rfl rfl (by decide +kernel)
set_option maxRecDepth 65536 in
theorem w_c3 : (Jvm.Cond.code ({ cls := "java/lang/String", name := "<init>", desc := "([C)V" } : Jvm.MethodName) jdk_42_method_3_code (2 : Nat) (Option.none : Option Jvm.ClassFile.FieldType)).before args0 about1 = true := code_word (m := ⟨10, 1⟩) (meth := k10m1) (c := k10c1) (by decide +kernel) rfl rfl rfl (by decide +kernel)
set_option maxRecDepth 65536 in
theorem w_c4 : (Jvm.Cond.code ({ cls := "java/lang/String", name := "<init>", desc := "([CIILjava/lang/Void;)V" } : Jvm.MethodName) jdk_42_method_149_code (6 : Nat) (Option.none : Option Jvm.ClassFile.FieldType)).before args0 about1 = true := code_word (m := ⟨10, 3⟩) (meth := k10m3) (c := k10c3) (by decide +kernel) rfl rfl rfl (by decide +kernel)
set_option maxRecDepth 65536 in
theorem w_c5 : (Jvm.Cond.code ({ cls := "java/lang/Object", name := "<init>", desc := "()V" } : Jvm.MethodName) object_method_1_code (1 : Nat) (Option.none : Option Jvm.ClassFile.FieldType)).before args0 about1 = true := code_word (m := ⟨0, 0⟩) (meth := k0m0) (c := k0c0) (by decide +kernel) rfl rfl rfl (by decide +kernel)
set_option maxRecDepth 65536 in
theorem w_c6 : (Jvm.Cond.code ({ cls := "java/lang/StringUTF16", name := "compress", desc := "([CII)[B" } : Jvm.MethodName) jdk_52_method_16_code (6 : Nat) (Option.some (Jvm.ClassFile.FieldType.array Jvm.ClassFile.FieldType.byte))).before args0 about1 = true := code_word (m := ⟨11, 2⟩) (meth := k11m2) (c := k11c2) (by decide +kernel) rfl rfl rfl (by decide +kernel)
set_option maxRecDepth 65536 in
theorem w_c7 : (Jvm.Cond.code ({ cls := "java/lang/StringUTF16", name := "compress", desc := "([CI[BII)I" } : Jvm.MethodName) jdk_52_method_21_code (7 : Nat) (Option.some Jvm.ClassFile.FieldType.int)).before args0 about1 = true := code_word (m := ⟨11, 3⟩) (meth := k11m3) (c := k11c3) (by decide +kernel) rfl rfl rfl (by decide +kernel)
set_option maxRecDepth 65536 in
theorem w_c8 : (Jvm.Cond.code ({ cls := "java/lang/StringUTF16", name := "coderFromArrayLen", desc := "([BI)B" } : Jvm.MethodName) jdk_52_method_15_code (2 : Nat) (Option.some Jvm.ClassFile.FieldType.byte)).before args0 about1 = true := code_word (m := ⟨11, 1⟩) (meth := k11m1) (c := k11c1) (by decide +kernel) rfl rfl rfl (by decide +kernel)
set_option maxRecDepth 65536 in
theorem w_c9 : (Jvm.Cond.code ({ cls := "com/example/qrew/qrew/dlgp/Token", name := "<init>", desc := "(Lcom/example/qrew/qrew/dlgp/TokenKind;Ljava/lang/String;I)V" } : Jvm.MethodName) prog_7_method_1_code (4 : Nat) (Option.none : Option Jvm.ClassFile.FieldType)).before args0 about1 = true := code_word (m := ⟨7, 0⟩) (meth := k7m0) (c := k7c0) (by decide +kernel) rfl rfl rfl (by decide +kernel)
set_option maxRecDepth 65536 in
theorem w_c10 : (Jvm.Cond.code ({ cls := "java/util/Objects", name := "requireNonNull", desc := "(Ljava/lang/Object;Ljava/lang/String;)Ljava/lang/Object;" } : Jvm.MethodName) jdk_31_method_11_code (2 : Nat) (Option.some (Jvm.ClassFile.FieldType.object "java/lang/Object"))).before args0 about1 = true := code_word (m := ⟨12, 1⟩) (meth := k12m1) (c := k12c1) (by decide +kernel) rfl rfl rfl (by decide +kernel)
set_option maxRecDepth 65536 in
theorem w_c11 : (Jvm.Cond.code ({ cls := "com/example/qrew/qrew/dlgp/Token", name := "equals", desc := "(Ljava/lang/Object;)Z" } : Jvm.MethodName) prog_7_method_5_code (3 : Nat) (Option.some Jvm.ClassFile.FieldType.boolean)).before args0 about1 = true := code_word (m := ⟨7, 2⟩) (meth := k7m2) (c := k7c2) (by decide +kernel) rfl rfl rfl (by decide +kernel)
set_option maxRecDepth 65536 in
theorem w_c12 : (Jvm.Cond.code ({ cls := "com/example/qrew/qrew/dlgp/Token", name := "getText", desc := "()Ljava/lang/String;" } : Jvm.MethodName) prog_7_method_3_code (1 : Nat) (Option.some (Jvm.ClassFile.FieldType.object "java/lang/String"))).before args0 about1 = true := code_word (m := ⟨7, 1⟩) (meth := k7m1) (c := k7c1) (by decide +kernel) rfl rfl rfl (by decide +kernel)
set_option maxRecDepth 65536 in
theorem w_c13 : (Jvm.Cond.code ({ cls := "java/lang/String", name := "equals", desc := "(Ljava/lang/Object;)Z" } : Jvm.MethodName) jdk_42_method_66_code (3 : Nat) (Option.some Jvm.ClassFile.FieldType.boolean)).before args0 about1 = true := code_word (m := ⟨10, 2⟩) (meth := k10m2) (c := k10c2) (by decide +kernel) rfl rfl rfl (by decide +kernel)
set_option maxRecDepth 65536 in
theorem w_c14 : (Jvm.Cond.code ({ cls := "java/lang/StringLatin1", name := "equals", desc := "([B[B)Z" } : Jvm.MethodName) jdk_43_method_13_code (3 : Nat) (Option.some Jvm.ClassFile.FieldType.boolean)).before args0 about1 = true := code_word (m := ⟨13, 1⟩) (meth := k13m1) (c := k13c1) (by decide +kernel) rfl rfl rfl (by decide +kernel)
def codes1 : List Jvm.Cond := [Jvm.Cond.code x code maxLocals ret, Jvm.Cond.code ({ cls := "com/example/qrew/qrew/dlgp/TokenEqualsPinLaw", name := "kindOf", desc := "(I)Lcom/example/qrew/qrew/dlgp/TokenKind;" } : Jvm.MethodName) method_3_code (2 : Nat) (Option.some (Jvm.ClassFile.FieldType.object "com/example/qrew/qrew/dlgp/TokenKind")), Jvm.Cond.code ({ cls := "com/example/qrew/qrew/dlgp/TokenEqualsPinLaw", name := "mk", desc := "(ICCC)Ljava/lang/String;" } : Jvm.MethodName) method_2_code (4 : Nat) (Option.some (Jvm.ClassFile.FieldType.object "java/lang/String")), Jvm.Cond.code ({ cls := "java/lang/String", name := "<init>", desc := "([C)V" } : Jvm.MethodName) jdk_42_method_3_code (2 : Nat) (Option.none : Option Jvm.ClassFile.FieldType), Jvm.Cond.code ({ cls := "java/lang/String", name := "<init>", desc := "([CIILjava/lang/Void;)V" } : Jvm.MethodName) jdk_42_method_149_code (6 : Nat) (Option.none : Option Jvm.ClassFile.FieldType), Jvm.Cond.code ({ cls := "java/lang/Object", name := "<init>", desc := "()V" } : Jvm.MethodName) object_method_1_code (1 : Nat) (Option.none : Option Jvm.ClassFile.FieldType), Jvm.Cond.code ({ cls := "java/lang/StringUTF16", name := "compress", desc := "([CII)[B" } : Jvm.MethodName) jdk_52_method_16_code (6 : Nat) (Option.some (Jvm.ClassFile.FieldType.array Jvm.ClassFile.FieldType.byte)), Jvm.Cond.code ({ cls := "java/lang/StringUTF16", name := "compress", desc := "([CI[BII)I" } : Jvm.MethodName) jdk_52_method_21_code (7 : Nat) (Option.some Jvm.ClassFile.FieldType.int), Jvm.Cond.code ({ cls := "java/lang/StringUTF16", name := "coderFromArrayLen", desc := "([BI)B" } : Jvm.MethodName) jdk_52_method_15_code (2 : Nat) (Option.some Jvm.ClassFile.FieldType.byte), Jvm.Cond.code ({ cls := "com/example/qrew/qrew/dlgp/Token", name := "<init>", desc := "(Lcom/example/qrew/qrew/dlgp/TokenKind;Ljava/lang/String;I)V" } : Jvm.MethodName) prog_7_method_1_code (4 : Nat) (Option.none : Option Jvm.ClassFile.FieldType), Jvm.Cond.code ({ cls := "java/util/Objects", name := "requireNonNull", desc := "(Ljava/lang/Object;Ljava/lang/String;)Ljava/lang/Object;" } : Jvm.MethodName) jdk_31_method_11_code (2 : Nat) (Option.some (Jvm.ClassFile.FieldType.object "java/lang/Object")), Jvm.Cond.code ({ cls := "com/example/qrew/qrew/dlgp/Token", name := "equals", desc := "(Ljava/lang/Object;)Z" } : Jvm.MethodName) prog_7_method_5_code (3 : Nat) (Option.some Jvm.ClassFile.FieldType.boolean), Jvm.Cond.code ({ cls := "com/example/qrew/qrew/dlgp/Token", name := "getText", desc := "()Ljava/lang/String;" } : Jvm.MethodName) prog_7_method_3_code (1 : Nat) (Option.some (Jvm.ClassFile.FieldType.object "java/lang/String")), Jvm.Cond.code ({ cls := "java/lang/String", name := "equals", desc := "(Ljava/lang/Object;)Z" } : Jvm.MethodName) jdk_42_method_66_code (3 : Nat) (Option.some Jvm.ClassFile.FieldType.boolean), Jvm.Cond.code ({ cls := "java/lang/StringLatin1", name := "equals", desc := "([B[B)Z" } : Jvm.MethodName) jdk_43_method_13_code (3 : Nat) (Option.some Jvm.ClassFile.FieldType.boolean)]
set_option maxRecDepth 65536 in
theorem codes_eq : words1.filter isCode = codes1 := rfl
theorem w_codes : ∀ c ∈ words1.filter isCode, c.before args0 about1 = true := by
  rw [codes_eq]
  intro c hc
  simp only [codes1, List.mem_cons, List.not_mem_nil, or_false] at hc
  rcases hc with rfl | rfl | rfl | rfl | rfl | rfl | rfl | rfl | rfl | rfl | rfl | rfl | rfl | rfl | rfl
  · exact w_c0
  · exact w_c1
  · exact w_c2
  · exact w_c3
  · exact w_c4
  · exact w_c5
  · exact w_c6
  · exact w_c7
  · exact w_c8
  · exact w_c9
  · exact w_c10
  · exact w_c11
  · exact w_c12
  · exact w_c13
  · exact w_c14
set_option maxRecDepth 65536 in
theorem w_t1 : (words1.take 24).all (fun c => isCode c || c.before args0 about1) = true := by decide +kernel
set_option maxRecDepth 65536 in
theorem w_t2 : ((words1.drop 24).take 24).all (fun c => isCode c || c.before args0 about1) = true := by decide +kernel
set_option maxRecDepth 65536 in
theorem w_t3 : (((words1.drop 24).drop 24).take 24).all (fun c => isCode c || c.before args0 about1) = true := by decide +kernel
set_option maxRecDepth 65536 in
theorem w_t4 : ((((words1.drop 24).drop 24).drop 24).take 24).all (fun c => isCode c || c.before args0 about1) = true := by decide +kernel
set_option maxRecDepth 65536 in
theorem w_t5 : (((((words1.drop 24).drop 24).drop 24).drop 24).take 24).all (fun c => isCode c || c.before args0 about1) = true := by decide +kernel
set_option maxRecDepth 65536 in
theorem w_t6 : (((((words1.drop 24).drop 24).drop 24).drop 24).drop 24).all (fun c => isCode c || c.before args0 about1) = true := by decide +kernel
theorem w_tables : (allAtoms (Jvm.Cond.code x code maxLocals ret :: tables_1)).before args0 about1 = true := by
  rw [allAtoms_all]
  show words1.all (fun c => c.before args0 about1) = true
  refine all_split ?_ w_codes
  rw [← List.take_append_drop 24 words1, List.all_append, w_t1, ← List.take_append_drop 24 (words1.drop 24), List.all_append, w_t2, ← List.take_append_drop 24 ((words1.drop 24).drop 24), List.all_append, w_t3, ← List.take_append_drop 24 (((words1.drop 24).drop 24).drop 24), List.all_append, w_t4, ← List.take_append_drop 24 ((((words1.drop 24).drop 24).drop 24).drop 24), List.all_append, w_t5, w_t6]
  rfl
set_option maxRecDepth 65536 in
theorem w_rest : rest_1_c.before args0 about1 = true := by decide +kernel
set_option maxRecDepth 65536 in
theorem w_case : (Jvm.Cond.and given_1 narrow_1).before args0 about1 = true := by decide +kernel
set_option maxRecDepth 65536 in
theorem w_consts : constsHeld consts_1 about1 := Jvm.Lit.constsHeldB_iff.mp (by decide +kernel)
theorem w_applies : (headSpec (Jvm.Cond.code x code maxLocals ret :: tables_1) room_1).applies x e0.platform about1 = true :=
  (Spec.applies_iff w_frames).mpr ⟨w_running, w_runnable, w_alone, w_named, w_hears, w_ripe, w_room, w_tables⟩
theorem atStart : AtStart classFile x code maxLocals ret World_1 tables_1 room_1 Calls_1 rest_1 Pre_1 launch0 p0 e0 about1 theMethod args0 below0 :=
  ⟨lists_1, trivial, launch0.admits_env _ _ _, launch0.least_env, fairChoices_fair.cas, fairChoices_fair.clock, w_frames, w_args, w_heap, w_applies, ⟨w_consts, trivial⟩, w_rest, w_case⟩
end start1
theorem witness_1 : WitnessClaimed_1 := ⟨start1.p0, start1.e0, start1.about1, start1.theMethod, start1.args0, start1.below0, start1.atStart⟩
end Jvm.Pilot.@@N@@
