import JvmDerived
import JvmDerived.Pilot.@@N@@Statement
import JvmDerived.Pilot.@@N@@Code
set_option linter.unusedVariables false
set_option linter.unusedSimpArgs false
/- laws to paste: Road.backV, Road.eqW, Road.codOf (cut by pick.py; bodies as the Statement names them) -/
namespace Jvm.Pilot.@@N@@
namespace StrChars
open Jvm Sem ClassFile Op Lib Jvm.Stand Jvm.Free.XT Jvm.Free.ALB Jvm.Free.JM Jvm.Free
open Jvm.Lib.Cold (StaticIs)
/-- a char array whose places are chars -/
def Ch (a : Addr) (A : Cell) (U : State) : Prop := Arr .char a A U ∧ Typed .char A
theorem Ch.mv {a : Addr} {A : Cell} {U U' : State} (h : Ch a A U) (hal : U.vm.Alike U'.vm) (hh : U'.heap = U.heap) : Ch a A U' := ⟨h.1.mv hal hh, h.2⟩
theorem Ch.keep {a : Addr} {A : Cell} {U U' : State} (h : Ch a A U) (hal : U.vm.Alike U'.vm) (hk : U'.heap[a]? = some A) : Ch a A U' := ⟨h.1.keep hal hk, h.2⟩
/-- what place i of a char[]'s cell holds -/
def cv (A : Cell) (i : Nat) : Int32 := match A.slots[i]? with | some (.int x) => x | _ => 0
theorem Ch.get {a : Addr} {A : Cell} {U : State} (h : Ch a A U) {i : Nat} (hi : i < A.slots.size) : A.slots[i]? = some (.int (cv A i)) := by
  have e := Array.getElem?_eq_getElem hi
  have f := h.2 i _ e
  unfold cv; rw [e]
  generalize A.slots[i] = v at f
  cases v <;> simp [fits] at f ⊢
/-- the byte that i2b leaves of a char -/
def lo8 (x : Int32) : Int32 := x.toInt8.toInt32
theorem fits_lo8 (y : Int32) : fits .byte (.int (lo8 y)) = true := by
  have h1 := y.toInt8.le_toInt
  have h2 := y.toInt8.toInt_lt
  simp only [lo8, fits, Bool.and_eq_true, decide_eq_true_eq, Int32.le_iff_toInt_le, Int8.toInt_toInt32, show (-128 : Int32).toInt = -128 from by decide, show (127 : Int32).toInt = 127 from by decide]
  omega
/-- A' is A but that each place j of lo .. hi - 1 holds f j -/
def Laid (A A' : Cell) (lo hi : Nat) (f : Nat → Value) : Prop := A'.cls = A.cls ∧ A'.vm = A.vm ∧ A'.slots.size = A.slots.size ∧ ∀ i, A'.slots[i]? = if lo ≤ i ∧ i < hi then some (f i) else A.slots[i]?
theorem Laid.zero (A : Cell) (lo : Nat) (f : Nat → Value) : Laid A A lo (lo + 0) f := ⟨rfl, rfl, rfl, fun i => by rw [if_neg (by omega)]⟩
theorem Laid.step {A Ak : Cell} {lo k : Nat} {f : Nat → Value} {v : Value} (h : Laid A Ak lo k f) (hlo : lo ≤ k) (hk : k < Ak.slots.size) (hv : v = f k) : Laid A (Ak.setSlot k v) lo (k + 1) f := by
  refine ⟨h.1, h.2.1, by simpa [Cell.setSlot] using h.2.2.1, fun i => ?_⟩
  by_cases e : k = i
  · subst e; rw [Cell.slots_setSlot_self v hk, if_pos (by omega), hv]
  · rw [Cell.slots_setSlot_ne v e, h.2.2.2 i]
    by_cases q : lo ≤ i ∧ i < k
    · rw [if_pos q, if_pos (by omega)]
    · rw [if_neg q, if_neg (by omega)]
def U16 : String := "java/lang/StringUTF16"
namespace Cmp5
def yN : MethodName := ⟨"java/lang/StringUTF16", "compress", "([CI[BII)I"⟩
abbrev yB : ByteArray := jdk_52_method_21_code
theorem d0 : decode yB 0 = .ok (.iconst 0, 1) := by decide +kernel
theorem d1 : decode yB 1 = .ok (.istore 5, 2) := by decide +kernel
theorem d3 : decode yB 3 = .ok (.iload 5, 2) := by decide +kernel
theorem d5 : decode yB 5 = .ok (.iload 4, 2) := by decide +kernel
theorem d7 : decode yB 7 = .ok (.if_icmp (.ge) 37, 3) := by decide +kernel
theorem d10 : decode yB 10 = .ok (.aload_n 0, 1) := by decide +kernel
theorem d11 : decode yB 11 = .ok (.iload_n 1, 1) := by decide +kernel
theorem d12 : decode yB 12 = .ok (.caload, 1) := by decide +kernel
theorem d13 : decode yB 13 = .ok (.istore 6, 2) := by decide +kernel
theorem d15 : decode yB 15 = .ok (.iload 6, 2) := by decide +kernel
theorem d17 : decode yB 17 = .ok (.sipush 255, 3) := by decide +kernel
theorem d20 : decode yB 20 = .ok (.if_icmp (.le) 6, 3) := by decide +kernel
theorem d26 : decode yB 26 = .ok (.aload_n 2, 1) := by decide +kernel
theorem d27 : decode yB 27 = .ok (.iload_n 3, 1) := by decide +kernel
theorem d28 : decode yB 28 = .ok (.iload 6, 2) := by decide +kernel
theorem d30 : decode yB 30 = .ok (.i2b, 1) := by decide +kernel
theorem d31 : decode yB 31 = .ok (.bastore, 1) := by decide +kernel
theorem d32 : decode yB 32 = .ok (.iinc 1 1, 3) := by decide +kernel
theorem d35 : decode yB 35 = .ok (.iinc 3 1, 3) := by decide +kernel
theorem d38 : decode yB 38 = .ok (.iinc 5 1, 3) := by decide +kernel
theorem d41 : decode yB 41 = .ok (.goto (-38), 3) := by decide +kernel
theorem d44 : decode yB 44 = .ok (.iload 4, 2) := by decide +kernel
theorem d46 : decode yB 46 = .ok (.ireturn, 1) := by decide +kernel
def site : List Cond := []
def tab : Cond := tabOf yN yB 7 (some .int) site
def P (b : Addr) (A : Cell) (d : Addr) (B : Cell) (o q len : Nat) (args : Array Value) (s : State) : Prop := args = #[.ref b, .int (Int32.ofNat o), .ref d, .int (Int32.ofNat q), .int (Int32.ofNat len)] ∧ Ch b A s ∧ Arr .byte d B s ∧ b ≠ d ∧ o + len ≤ A.slots.size ∧ q + len ≤ B.slots.size ∧ ∀ i, i < len → ¬ 255 < cv A (o + i)
def E (b : Addr) (A : Cell) (d : Addr) (B : Cell) (o q len : Nat) (r : Option Value) (s u : State) : Prop := r = some (.int (Int32.ofNat len)) ∧ ∃ B', Put d B' s u ∧ Laid B B' q (q + len) (fun j => Value.int (lo8 (cv A (o + (j - q)))))
/-- no char of the range above 255: len; the places written hold each char's low byte -/
theorem law (l : Launch) (b : Addr) (A : Cell) (d : Addr) (B : Cell) (o q len : Nat) : Law l yN 5 5 0 0 yB 7 (some .int) site (P b A d B o q len) (E b A d B o q len) (copyLocs d q len) 0 0 := by
  refine Law.of_walk (plainFor_of_name (by decide +kernel)) (by decide +kernel) (by decide +kernel) (by decide) (fun _ _ h => by rw [h.1]; rfl) (fun _ U U' hal hh h => ⟨h.1, h.2.1.mv hal hh, h.2.2.1.mv hal hh, h.2.2.2⟩) (fun r U U' V V' h1 hal h2 h => ⟨h.1, h.2.elim fun B' q => ⟨B', q.1.mv h1 h2, q.2⟩⟩) ?_
  intro p e s m args below meth c s₁ X0 hexec hbytes hml hret hlk hnm hown hh0 W hP
  obtain ⟨rfl, hA, hB, hne, l1, l2, hp⟩ := hP
  have c1 : Steps p.tables e below (s₁.setTop (entryFrame m #[.ref b, .int (Int32.ofNat o), .ref d, .int (Int32.ofNat q), .int (Int32.ofNat len)] 7)) (s₁.setTop (mkF m 0 #[.val (.ref b), .val (.int (Int32.ofNat o)), .val (.ref d), .val (.int (Int32.ofNat q)), .val (.int (Int32.ofNat len)), .unset, .unset] [])) := entry rfl
  have hA0 := hA.1.mv X0.warmed.alike hh0
  have hB0 := hB.mv X0.warmed.alike hh0
  have a31 := hA.1.2.2.2
  have c2 : Steps p.tables e below (s₁.setTop (entryFrame m #[.ref b, .int (Int32.ofNat o), .ref d, .int (Int32.ofNat q), .int (Int32.ofNat len)] 7)) (s₁.setTop (mkF m 3 #[.val (.ref b), .val (.int (Int32.ofNat o)), .val (.ref d), .val (.int (Int32.ofNat q)), .val (.int (Int32.ofNat len)), .val (.int 0), .unset] [])) := c1.trans (by
    refine iconstV X0.here hexec rfl 0 (hb hbytes d0) (by decide) ?_
    refine XS.istore X0.here hexec rfl (hb hbytes d1) rfl rfl ?_
    exact Steps.refl _)
  have loop : ∀ (r i : Nat), i + r = len → ∀ (z : Slot), (z = .unset ∨ ∃ w, z = .val w ∧ w.category = 1) → ∀ (Tl : State) (Bk : Cell), Stand p l e { frames := 0, locals := 0, cells := 0, slots := 0 } s m #[.ref b, .int (Int32.ofNat o), .ref d, .int (Int32.ofNat q), .int (Int32.ofNat len)] below meth c Tl ([] ++ copyLocs d q i) 0 0 → Put d Bk s₁ Tl → Laid B Bk q (q + i) (fun j => Value.int (lo8 (cv A (o + (j - q))))) →
      Steps p.tables e below (s₁.setTop (entryFrame m #[.ref b, .int (Int32.ofNat o), .ref d, .int (Int32.ofNat q), .int (Int32.ofNat len)] 7)) (Tl.setTop (mkF m 3 #[.val (.ref b), .val (.int (Int32.ofNat (o + i))), .val (.ref d), .val (.int (Int32.ofNat (q + i))), .val (.int (Int32.ofNat len)), .val (.int (Int32.ofNat i)), z] [])) → ∃ (T' : State) (B' : Cell) (z' : Slot), Stand p l e { frames := 0, locals := 0, cells := 0, slots := 0 } s m #[.ref b, .int (Int32.ofNat o), .ref d, .int (Int32.ofNat q), .int (Int32.ofNat len)] below meth c T' ([] ++ copyLocs d q len) 0 0 ∧ Put d B' s₁ T' ∧ Laid B B' q (q + len) (fun j => Value.int (lo8 (cv A (o + (j - q))))) ∧
      Steps p.tables e below (s₁.setTop (entryFrame m #[.ref b, .int (Int32.ofNat o), .ref d, .int (Int32.ofNat q), .int (Int32.ofNat len)] 7)) (T'.setTop (mkF m 3 #[.val (.ref b), .val (.int (Int32.ofNat (o + len))), .val (.ref d), .val (.int (Int32.ofNat (q + len))), .val (.int (Int32.ofNat len)), .val (.int (Int32.ofNat len)), z'] [])) := by
    intro r
    induction r with
    | zero =>
      intro i hi z hz Tl Bk Xl pl fl cl
      have hil : i = len := by omega
      rw [hil] at Xl fl cl
      exact ⟨Tl, Bk, z, Xl, pl, fl, cl⟩
    | succ r ih =>
      intro i hi z hz Tl Bk Xl pl fl cl
      have all := X0.warmed.alike.symm.trans Xl.warmed.alike
      have hAl := hA0.keep all (pl.other hne hA0.1)
      have hBk := hB0.like all pl.1 fl.1 fl.2.1 fl.2.2.1
      have hlt : q + i < Bk.slots.size := by rw [fl.2.2.1]; omega
      have c3 : Steps p.tables e below (s₁.setTop (entryFrame m #[.ref b, .int (Int32.ofNat o), .ref d, .int (Int32.ofNat q), .int (Int32.ofNat len)] 7)) (Tl.setTop (mkF m 12 #[.val (.ref b), .val (.int (Int32.ofNat (o + i))), .val (.ref d), .val (.int (Int32.ofNat (q + i))), .val (.int (Int32.ofNat len)), .val (.int (Int32.ofNat i)), z] [.int (Int32.ofNat (o + i)), .ref b])) := cl.trans (by
        refine XS.iload Xl.here hexec rfl (hb hbytes d3) rfl ?_
        refine XS.iload Xl.here hexec rfl (hb hbytes d5) rfl ?_
        refine XS.icmpNo Xl.here hexec rfl (hb hbytes d7) rfl (ii_ge_f (lt32 (by omega) (by omega))) ?_
        refine XS.aloadN Xl.here hexec rfl (hb hbytes d10) rfl rfl ?_
        refine XS.iloadN Xl.here hexec rfl (hb hbytes d11) rfl ?_
        exact Steps.refl _)
      have c4 : Steps p.tables e below (s₁.setTop (entryFrame m #[.ref b, .int (Int32.ofNat o), .ref d, .int (Int32.ofNat q), .int (Int32.ofNat len)] 7)) (Tl.setTop (mkF m 13 #[.val (.ref b), .val (.int (Int32.ofNat (o + i))), .val (.ref d), .val (.int (Int32.ofNat (q + i))), .val (.int (Int32.ofNat len)), .val (.int (Int32.ofNat i)), z] [.int (cv A (o + i))])) := c3.trans (by
        refine Xl.aget hexec hAl rfl (hA.get (i := o + i) (by omega)) rfl rfl (hb hbytes d12) ?_
        exact Steps.refl _)
      have c5 : Steps p.tables e below (s₁.setTop (entryFrame m #[.ref b, .int (Int32.ofNat o), .ref d, .int (Int32.ofNat q), .int (Int32.ofNat len)] 7)) (Tl.setTop (mkF m 15 #[.val (.ref b), .val (.int (Int32.ofNat (o + i))), .val (.ref d), .val (.int (Int32.ofNat (q + i))), .val (.int (Int32.ofNat len)), .val (.int (Int32.ofNat i)), .val (.int (cv A (o + i)))] [])) := c4.trans (by
        refine XS.istoreS Xl.here hexec rfl (hb hbytes d13) rfl rfl hz ?_
        exact Steps.refl _)
      have c6 : Steps p.tables e below (s₁.setTop (entryFrame m #[.ref b, .int (Int32.ofNat o), .ref d, .int (Int32.ofNat q), .int (Int32.ofNat len)] 7)) (Tl.setTop (mkF m 31 #[.val (.ref b), .val (.int (Int32.ofNat (o + i))), .val (.ref d), .val (.int (Int32.ofNat (q + i))), .val (.int (Int32.ofNat len)), .val (.int (Int32.ofNat i)), .val (.int (cv A (o + i)))] [.int (lo8 (cv A (o + i))), .int (Int32.ofNat (q + i)), .ref d])) := c5.trans (by
        refine XS.iload Xl.here hexec rfl (hb hbytes d15) rfl ?_
        refine sipushV Xl.here hexec rfl 255 (hb hbytes d17) (by decide) ?_
        refine XS.icmpYes Xl.here hexec rfl (pc0 := 20) rfl (hb hbytes d20) rfl (ii_le_t (hp i (by omega))) (by decide) rfl ?_
        refine XS.aloadN Xl.here hexec rfl (hb hbytes d26) rfl rfl ?_
        refine XS.iloadN Xl.here hexec rfl (hb hbytes d27) rfl ?_
        refine XS.iload Xl.here hexec rfl (hb hbytes d28) rfl ?_
        refine i2b Xl.here hexec rfl (hb hbytes d30) rfl ?_
        exact Steps.refl _)
      obtain ⟨T7, X7, p7, st7⟩ := Xl.aput hexec hBk rfl hlt rfl (fits_lo8 (cv A (o + i))) (g := (mkF m 31 #[.val (.ref b), .val (.int (Int32.ofNat (o + i))), .val (.ref d), .val (.int (Int32.ofNat (q + i))), .val (.int (Int32.ofNat len)), .val (.int (Int32.ofNat i)), .val (.int (cv A (o + i)))] [.int (lo8 (cv A (o + i))), .int (Int32.ofNat (q + i)), .ref d])) rfl (rest := []) rfl (hb hbytes d31)
      have c8 : Steps p.tables e below (s₁.setTop (entryFrame m #[.ref b, .int (Int32.ofNat o), .ref d, .int (Int32.ofNat q), .int (Int32.ofNat len)] 7)) (T7.setTop (mkF m 32 #[.val (.ref b), .val (.int (Int32.ofNat (o + i))), .val (.ref d), .val (.int (Int32.ofNat (q + i))), .val (.int (Int32.ofNat len)), .val (.int (Int32.ofNat i)), .val (.int (cv A (o + i)))] [])) := c6.trans (st7 _ (Steps.refl _))
      have c9 : Steps p.tables e below (s₁.setTop (entryFrame m #[.ref b, .int (Int32.ofNat o), .ref d, .int (Int32.ofNat q), .int (Int32.ofNat len)] 7)) (T7.setTop (mkF m 3 #[.val (.ref b), .val (.int (Int32.ofNat (o + i) + 1)), .val (.ref d), .val (.int (Int32.ofNat (q + i) + 1)), .val (.int (Int32.ofNat len)), .val (.int (Int32.ofNat i + 1)), .val (.int (cv A (o + i)))] [])) := c8.trans (by
        refine iincV X7.here hexec rfl 1 (hb hbytes d32) (by decide) rfl rfl ?_
        refine iincV X7.here hexec rfl 1 (hb hbytes d35) (by decide) rfl rfl ?_
        refine iincV X7.here hexec rfl 1 (hb hbytes d38) (by decide) rfl rfl ?_
        refine XS.goto X7.here hexec rfl (pc0 := 41) rfl (hb hbytes d41) (by decide) rfl ?_
        exact Steps.refl _)
      have c10 : Steps p.tables e below (s₁.setTop (entryFrame m #[.ref b, .int (Int32.ofNat o), .ref d, .int (Int32.ofNat q), .int (Int32.ofNat len)] 7)) (T7.setTop (mkF m 3 #[.val (.ref b), .val (.int (Int32.ofNat (o + (i + 1)))), .val (.ref d), .val (.int (Int32.ofNat (q + (i + 1)))), .val (.int (Int32.ofNat len)), .val (.int (Int32.ofNat (i + 1))), .val (.int (cv A (o + i)))] [])) := by
        have := c9
        rw [succ32, succ32, succ32] at this
        exact this
      exact ih (i + 1) (by omega) _ (Or.inr ⟨_, rfl, rfl⟩) T7 _ (by rw [copyLocs_step, ← List.append_assoc]; exact X7) (pl.trans p7) (fl.step (by omega) hlt (by simp)) c10
  obtain ⟨T9, B9, z9, X9, p9, f9, g9⟩ := loop len 0 (by omega) .unset (Or.inl rfl) s₁ B (by simpa [copyLocs] using X0) ⟨hB0.1, fun _ _ => rfl, rfl⟩ (Laid.zero _ _ _) c2
  have c11 : Steps p.tables e below (s₁.setTop (entryFrame m #[.ref b, .int (Int32.ofNat o), .ref d, .int (Int32.ofNat q), .int (Int32.ofNat len)] 7)) (T9.setTop (mkF m 46 #[.val (.ref b), .val (.int (Int32.ofNat (o + len))), .val (.ref d), .val (.int (Int32.ofNat (q + len))), .val (.int (Int32.ofNat len)), .val (.int (Int32.ofNat len)), z9] [.int (Int32.ofNat len)])) := g9.trans (by
    refine XS.iload X9.here hexec rfl (hb hbytes d3) rfl ?_
    refine XS.iload X9.here hexec rfl (hb hbytes d5) rfl ?_
    refine XS.icmpYes X9.here hexec rfl (pc0 := 7) rfl (hb hbytes d7) rfl (ii_ge_t (nlt32 (by omega) (Nat.le_refl _))) (by decide) rfl ?_
    refine XS.iload X9.here hexec rfl (hb hbytes d44) rfl ?_
    exact Steps.refl _)
  exact ⟨T9, some (.int (Int32.ofNat len)), _, _, _, X9, by simp, rfl, rfl, (fun h => by cases h), ⟨rfl, B9, p9.from hh0, f9⟩, fun fs hl => c11.trans (X9.ireturnOut hexec hret rfl (Or.inl rfl) (hb hbytes d46) hl)⟩
end Cmp5
namespace Cmp3
def yN : MethodName := ⟨"java/lang/StringUTF16", "compress", "([CII)[B"⟩
abbrev yB : ByteArray := jdk_52_method_16_code
theorem d0 : decode yB 0 = .ok (.iload_n 2, 1) := by decide +kernel
theorem d1 : decode yB 1 = .ok (.newarray .byte, 2) := by decide +kernel
theorem d3 : decode yB 3 = .ok (.astore_n 3, 1) := by decide +kernel
theorem d4 : decode yB 4 = .ok (.aload_n 0, 1) := by decide +kernel
theorem d5 : decode yB 5 = .ok (.iload_n 1, 1) := by decide +kernel
theorem d6 : decode yB 6 = .ok (.aload_n 3, 1) := by decide +kernel
theorem d7 : decode yB 7 = .ok (.iconst 0, 1) := by decide +kernel
theorem d8 : decode yB 8 = .ok (.iload_n 2, 1) := by decide +kernel
theorem d9 : decode yB 9 = .ok (.invokestatic 115, 3) := by decide +kernel
theorem d12 : decode yB 12 = .ok (.istore 4, 2) := by decide +kernel
theorem d14 : decode yB 14 = .ok (.iload 4, 2) := by decide +kernel
theorem d16 : decode yB 16 = .ok (.iload_n 2, 1) := by decide +kernel
theorem d17 : decode yB 17 = .ok (.if_icmp (.eq) 40, 3) := by decide +kernel
theorem d57 : decode yB 57 = .ok (.aload_n 3, 1) := by decide +kernel
theorem d58 : decode yB 58 = .ok (.areturn, 1) := by decide +kernel
def site : List Cond := [.arrayClass .byte, Cmp5.tab] ++ staticW U16 115 Cmp5.yN
def tab : Cond := tabOf yN yB 6 (some (.array .byte)) site
def P (b : Addr) (A : Cell) (o len : Nat) (args : Array Value) (s : State) : Prop := args = #[.ref b, .int (Int32.ofNat o), .int (Int32.ofNat len)] ∧ Ch b A s ∧ o + len ≤ A.slots.size ∧ len ≤ 536870912 ∧ ∀ i, i < len → ¬ 255 < cv A (o + i)
def E (b : Addr) (A : Cell) (o len : Nat) (r : Option Value) (s u : State) : Prop := NewArr .byte "[B" len (fun j => .int (lo8 (cv A (o + j)))) r s u ∧ u.heap.size = s.heap.size + 1
/-- no char of the range above 255: a new byte[] of their low bytes -/
theorem law (l : Launch) (b : Addr) (A : Cell) (o len : Nat) : Law l yN 3 3 1 18 yB 6 (some (.array .byte)) site (P b A o len) (E b A o len) [] 1 len := by
  refine Law.of_walk (plainFor_of_name (by decide +kernel)) (by decide +kernel) (by decide +kernel) (by decide) (fun _ _ h => by rw [h.1]; rfl) (fun _ U U' hal hh h => ⟨h.1, h.2.1.mv hal hh, h.2.2⟩) (fun r U U' V V' h1 hal h2 h => ⟨NewArr.mv r U U' V V' h1 hal h2 h.1, by rw [h1, h2]; exact h.2⟩) ?_
  intro p e s m args below meth c s₁ X0 hexec hbytes hml hret hlk hnm hown hh0 W hP
  obtain ⟨rfl, hA, l1, l2, hp⟩ := hP
  have a31 := hA.1.2.2.2
  have c1 : Steps p.tables e below (s₁.setTop (entryFrame m #[.ref b, .int (Int32.ofNat o), .int (Int32.ofNat len)] 6)) (s₁.setTop (mkF m 0 #[.val (.ref b), .val (.int (Int32.ofNat o)), .val (.int (Int32.ofNat len)), .unset, .unset, .unset] [])) := entry rfl
  have c2 : Steps p.tables e below (s₁.setTop (entryFrame m #[.ref b, .int (Int32.ofNat o), .int (Int32.ofNat len)] 6)) (s₁.setTop (mkF m 1 #[.val (.ref b), .val (.int (Int32.ofNat o)), .val (.int (Int32.ofNat len)), .unset, .unset, .unset] [.int (Int32.ofNat len)])) := c1.trans (by
    refine XS.iloadN X0.here hexec rfl (hb hbytes d0) rfl ?_
    exact Steps.refl _)
  obtain ⟨T3, B3, X3, ba3, bs3, bv3, bh3, bf3, st3⟩ := X0.anew hexec (atype := .byte) (wk W (.arrayClass .byte)) rfl (by show len * 1 ≤ _; omega) (by omega) (g := (mkF m 1 #[.val (.ref b), .val (.int (Int32.ofNat o)), .val (.int (Int32.ofNat len)), .unset, .unset, .unset] [.int (Int32.ofNat len)])) rfl (hb hbytes d1) (rest := []) rfl (Nat.le_refl _) (by show 0 + len ≤ len; omega)
  rw [hh0] at ba3 st3
  have kp3 : XT.Kept s T3 := (XT.Kept.of_eq hh0).push bh3
  have hA3 := hA.keep X3.warmed.alike (kp3 _ _ hA.1.1)
  have hne : b ≠ s.heap.size := hA.1.ne
  have c4 : Steps p.tables e below (s₁.setTop (entryFrame m #[.ref b, .int (Int32.ofNat o), .int (Int32.ofNat len)] 6)) (T3.setTop (mkF m 3 #[.val (.ref b), .val (.int (Int32.ofNat o)), .val (.int (Int32.ofNat len)), .unset, .unset, .unset] [.ref s.heap.size])) := c2.trans (st3 _ (Steps.refl _))
  have c5 : Steps p.tables e below (s₁.setTop (entryFrame m #[.ref b, .int (Int32.ofNat o), .int (Int32.ofNat len)] 6)) (T3.setTop (mkF m 9 #[.val (.ref b), .val (.int (Int32.ofNat o)), .val (.int (Int32.ofNat len)), .val (.ref s.heap.size), .unset, .unset] [.int (Int32.ofNat len), .int 0, .ref s.heap.size, .int (Int32.ofNat o), .ref b])) := c4.trans (by
    refine XS.astoreN X3.here hexec rfl (hb hbytes d3) rfl rfl rfl ?_
    refine XS.aloadN X3.here hexec rfl (hb hbytes d4) rfl rfl ?_
    refine XS.iloadN X3.here hexec rfl (hb hbytes d5) rfl ?_
    refine XS.aloadN X3.here hexec rfl (hb hbytes d6) rfl rfl ?_
    refine iconstV X3.here hexec rfl 0 (hb hbytes d7) (by decide) ?_
    refine XS.iloadN X3.here hexec rfl (hb hbytes d8) rfl ?_
    exact Steps.refl _)
  obtain ⟨v6, T6, X6, E6, g6⟩ := X3.callS hexec (Cmp5.law l b A s.heap.size B3 o 0 len) hown (wks W (staticW U16 115 Cmp5.yN)) (wk W Cmp5.tab) (W := 0) (Nat.le_of_ble_eq_true rfl) (Nat.le_of_ble_eq_true rfl) (Nat.le_refl _) (by show 0 + len + 0 ≤ len; omega) (g := (mkF m 9 #[.val (.ref b), .val (.int (Int32.ofNat o)), .val (.int (Int32.ofNat len)), .val (.ref s.heap.size), .unset, .unset] [.int (Int32.ofNat len), .int (Int32.ofNat 0), .ref s.heap.size, .int (Int32.ofNat o), .ref b])) rfl (by rw [hml]; rfl) c5 (argsL := [.ref b, .int (Int32.ofNat o), .ref s.heap.size, .int (Int32.ofNat 0), .int (Int32.ofNat len)]) (rest := []) rfl rfl (by show 2 * 0 + 0 ≤ _; decide) (hb hbytes d9) (⟨rfl, hA3, ba3, hne, l1, by rw [bs3]; simp, hp⟩)
  obtain ⟨rfl, B6, p6, f6⟩ := E6
  have c7 : Steps p.tables e below (s₁.setTop (entryFrame m #[.ref b, .int (Int32.ofNat o), .int (Int32.ofNat len)] 6)) (T6.setTop (mkF m 12 #[.val (.ref b), .val (.int (Int32.ofNat o)), .val (.int (Int32.ofNat len)), .val (.ref s.heap.size), .unset, .unset] [.int (Int32.ofNat len)])) := g6
  have c8 : Steps p.tables e below (s₁.setTop (entryFrame m #[.ref b, .int (Int32.ofNat o), .int (Int32.ofNat len)] 6)) (T6.setTop (mkF m 58 #[.val (.ref b), .val (.int (Int32.ofNat o)), .val (.int (Int32.ofNat len)), .val (.ref s.heap.size), .val (.int (Int32.ofNat len)), .unset] [.ref s.heap.size])) := c7.trans (by
    refine XS.istore X6.here hexec rfl (hb hbytes d12) rfl rfl ?_
    refine XS.iload X6.here hexec rfl (hb hbytes d14) rfl ?_
    refine XS.iloadN X6.here hexec rfl (hb hbytes d16) rfl ?_
    refine XS.icmpYes X6.here hexec rfl (pc0 := 17) rfl (hb hbytes d17) rfl (ii_eq_t rfl) (by decide) rfl ?_
    refine XS.aloadN X6.here hexec rfl (hb hbytes d57) rfl rfl ?_
    exact Steps.refl _)
  have X8 := X6.wide (L' := []) (cells' := 1) (slots' := len) (fun x hx hlt => by
    simp only [List.nil_append, copyLocs, List.mem_map, List.mem_range] at hx
    obtain ⟨i, -, rfl⟩ := hx
    exact absurd hlt (Nat.lt_irrefl _)) (Nat.le_refl _) (by omega)
  exact ⟨T6, some (.ref s.heap.size), _, _, _, X8, rfl, rfl, rfl, (fun h => by cases h), ⟨⟨rfl, B6, ba3.like (X3.warmed.alike.symm.trans X6.warmed.alike) p6.1 f6.1 f6.2.1 f6.2.2.1, f6.2.1.trans bv3, by rw [X6.warmed.alike.findClass, f6.1]; exact bf3, by rw [f6.2.2.1, bs3]; simp, fun j hj => by rw [f6.2.2.2 j, if_pos (by omega)]; rfl, kp3.put p6 (Nat.le_refl _)⟩, by rw [p6.2.2, bh3, hh0]; simp⟩, fun fs hl => c8.trans (X8.areturnOut hexec rfl hret rfl (hb hbytes d58) hl)⟩
end Cmp3
namespace CodL
def yN : MethodName := ⟨"java/lang/StringUTF16", "coderFromArrayLen", "([BI)B"⟩
abbrev yB : ByteArray := jdk_52_method_15_code
theorem d0 : decode yB 0 = .ok (.iload_n 1, 1) := by decide +kernel
theorem d1 : decode yB 1 = .ok (.aload_n 0, 1) := by decide +kernel
theorem d2 : decode yB 2 = .ok (.arraylength, 1) := by decide +kernel
theorem d3 : decode yB 3 = .ok (.isub, 1) := by decide +kernel
theorem d4 : decode yB 4 = .ok (.bipush 31, 2) := by decide +kernel
theorem d6 : decode yB 6 = .ok (.iushr, 1) := by decide +kernel
theorem d7 : decode yB 7 = .ok (.i2b, 1) := by decide +kernel
theorem d8 : decode yB 8 = .ok (.ireturn, 1) := by decide +kernel
def site : List Cond := []
def tab : Cond := tabOf yN yB 2 (some .byte) site
def P (d : Addr) (B : Cell) (args : Array Value) (s : State) : Prop := args = #[.ref d, .int (Int32.ofNat B.slots.size)] ∧ Arr .byte d B s
def E (r : Option Value) (s u : State) : Prop := XT.PureE (some (.int 0)) r s u
/-- an array as long as the number of chars: LATIN1 -/
theorem law (l : Launch) (d : Addr) (B : Cell) : Law l yN 2 2 0 0 yB 2 (some .byte) site (P d B) E [] 0 0 := by
  refine Law.of_walk (plainFor_of_name (by decide +kernel)) (by decide +kernel) (by decide +kernel) (by decide) (fun _ _ h => by rw [h.1]; rfl) (fun _ U U' hal hh h => ⟨h.1, h.2.mv hal hh⟩) (fun r U U' V V' h1 hal h2 h => XT.PureE.mv r U U' V V' h1 hal h2 h) ?_
  intro p e s m args below meth c s₁ X0 hexec hbytes hml hret hlk hnm hown hh0 W hP
  obtain ⟨rfl, hB⟩ := hP
  have hB0 := hB.mv X0.warmed.alike hh0
  have c1 : Steps p.tables e below (s₁.setTop (entryFrame m #[.ref d, .int (Int32.ofNat B.slots.size)] 2)) (s₁.setTop (mkF m 0 #[.val (.ref d), .val (.int (Int32.ofNat B.slots.size))] [])) := entry rfl
  have c2 : Steps p.tables e below (s₁.setTop (entryFrame m #[.ref d, .int (Int32.ofNat B.slots.size)] 2)) (s₁.setTop (mkF m 2 #[.val (.ref d), .val (.int (Int32.ofNat B.slots.size))] [.ref d, .int (Int32.ofNat B.slots.size)])) := c1.trans (by
    refine XS.iloadN X0.here hexec rfl (hb hbytes d0) rfl ?_
    refine XS.aloadN X0.here hexec rfl (hb hbytes d1) rfl rfl ?_
    exact Steps.refl _)
  have c3 : Steps p.tables e below (s₁.setTop (entryFrame m #[.ref d, .int (Int32.ofNat B.slots.size)] 2)) (s₁.setTop (mkF m 8 #[.val (.ref d), .val (.int (Int32.ofNat B.slots.size))] [.int (lo8 (ushr (Int32.ofNat B.slots.size - Int32.ofNat B.slots.size) 31))])) := c2.trans (by
    refine X0.alen hexec hB0 rfl rfl (hb hbytes d2) ?_
    refine XS.isub X0.here hexec rfl (hb hbytes d3) rfl ?_
    refine bipushV X0.here hexec rfl 31 (hb hbytes d4) (by decide) ?_
    refine iushr X0.here hexec rfl (hb hbytes d6) rfl ?_
    refine i2b X0.here hexec rfl (hb hbytes d7) rfl ?_
    exact Steps.refl _)
  have e0 : lo8 (ushr (Int32.ofNat B.slots.size - Int32.ofNat B.slots.size) 31) = 0 := by rw [Int32.sub_self]; decide
  rw [e0] at c3
  exact ⟨s₁, some (.int 0), _, _, _, X0, rfl, rfl, rfl, (fun h => by cases h), ⟨rfl, hh0⟩, fun fs hl => c3.trans (X0.ireturnOut hexec hret rfl (Or.inr (Or.inr (Or.inl rfl))) (hb hbytes d8) hl)⟩
end CodL
/-- the String at a is Latin-1 over a new byte[] (the heap's one new cell): the low bytes of the len chars of A from o on; every cell but a is kept -/
def Got (a : Addr) (D : Cell) (fV fC : Field) (A : Cell) (o len : Nat) (r : Option Value) (s u : State) : Prop := r = none ∧ ∃ D' V : Cell, Blank "java/lang/String" a D' u ∧ Same D D' [fV.slot, fC.slot] ∧ D'.slots[fV.slot]? = some (.ref s.heap.size) ∧ D'.slots[fC.slot]? = some (.int 0) ∧ Arr .byte s.heap.size V u ∧ V.vm = .none ∧ u.vm.findClass "[B" = some V.cls ∧ V.slots.size = len ∧ (∀ j, j < len → V.slots[j]? = some (.int (lo8 (cv A (o + j))))) ∧ (∀ (y : Addr) (c : Cell), y ≠ a → s.heap[y]? = some c → u.heap[y]? = some c) ∧ u.heap.size = s.heap.size + 1
theorem Got.mv {a : Addr} {D A : Cell} {fV fC : Field} {o len : Nat} : ∀ r (U U' V V' : State), U'.heap = U.heap → V.vm.Alike V'.vm → V'.heap = V.heap → Got a D fV fC A o len r U V → Got a D fV fC A o len r U' V' :=
  fun r U U' V V' h1 hal h2 ⟨e0, D', X, a1, a2, a3, a4, a5, a6, a7, a8, a9, a10, a11⟩ => ⟨e0, D', X, a1.mv hal h2, a2, by rw [h1]; exact a3, a4, by rw [h1]; exact a5.mv hal h2, a6, by rw [hal.findClass]; exact a7, a8, a9, by rw [h1, h2]; exact a10, by rw [h1, h2]; exact a11⟩
namespace New4
def yN : MethodName := ⟨"java/lang/String", "<init>", "([CIILjava/lang/Void;)V"⟩
abbrev yB : ByteArray := jdk_42_method_149_code
theorem d0 : decode yB 0 = .ok (.aload_n 0, 1) := by decide +kernel
theorem d1 : decode yB 1 = .ok (.invokespecial 1, 3) := by decide +kernel
theorem d4 : decode yB 4 = .ok (.iload_n 3, 1) := by decide +kernel
theorem d5 : decode yB 5 = .ok (.ifCond (.ne) 22, 3) := by decide +kernel
theorem d27 : decode yB 27 = .ok (.getstatic 38, 3) := by decide +kernel
theorem d30 : decode yB 30 = .ok (.ifCond (.eq) 28, 3) := by decide +kernel
theorem d33 : decode yB 33 = .ok (.aload_n 1, 1) := by decide +kernel
theorem d34 : decode yB 34 = .ok (.iload_n 2, 1) := by decide +kernel
theorem d35 : decode yB 35 = .ok (.iload_n 3, 1) := by decide +kernel
theorem d36 : decode yB 36 = .ok (.invokestatic 177, 3) := by decide +kernel
theorem d39 : decode yB 39 = .ok (.astore 5, 2) := by decide +kernel
theorem d41 : decode yB 41 = .ok (.aload_n 0, 1) := by decide +kernel
theorem d42 : decode yB 42 = .ok (.aload 5, 2) := by decide +kernel
theorem d44 : decode yB 44 = .ok (.iload_n 3, 1) := by decide +kernel
theorem d45 : decode yB 45 = .ok (.invokestatic 47, 3) := by decide +kernel
theorem d48 : decode yB 48 = .ok (.putfield 15, 3) := by decide +kernel
theorem d51 : decode yB 51 = .ok (.aload_n 0, 1) := by decide +kernel
theorem d52 : decode yB 52 = .ok (.aload 5, 2) := by decide +kernel
theorem d54 : decode yB 54 = .ok (.putfield 9, 3) := by decide +kernel
theorem d57 : decode yB 57 = .ok (.return_, 1) := by decide +kernel
def site : List Cond := [.fieldLink "java/lang/String" 38 "java/lang/String" "COMPACT_STRINGS" "Z", Cmp3.tab, CodL.tab, .laysFinal "java/lang/String" "java/lang/String" "value" "[B", .fieldLink "java/lang/String" 9 "java/lang/String" "value" "[B", .laysFinal "java/lang/String" "java/lang/String" "coder" "B", .fieldLink "java/lang/String" 15 "java/lang/String" "coder" "B"] ++ objW "java/lang/String" 1 ++ staticW "java/lang/String" 177 Cmp3.yN ++ staticW "java/lang/String" 47 CodL.yN
def tab : Cond := tabOf yN yB 6 none site
def P (a : Addr) (D : Cell) (fV fC : Field) (b : Addr) (A : Cell) (z : Int32) (o len : Nat) (args : Array Value) (s : State) : Prop := args = #[.ref a, .ref b, .int (Int32.ofNat o), .int (Int32.ofNat len), .null] ∧ Blank "java/lang/String" a D s ∧ Found "java/lang/String" "value" "[B" fV s ∧ Found "java/lang/String" "coder" "B" fC s ∧ Ch b A s ∧ StaticIs s "java/lang/String" "COMPACT_STRINGS" "Z" (.int z) ∧ ¬ z = 0 ∧ 0 < len ∧ o + len ≤ A.slots.size ∧ len ≤ 536870912 ∧ ∀ i, i < len → ¬ 255 < cv A (o + i)
def E (a : Addr) (D : Cell) (fV fC : Field) (A : Cell) (o len : Nat) (r : Option Value) (s u : State) : Prop := Got a D fV fC A o len r s u
/-- len > 0, no char of the range above 255: a Latin-1 String of their low bytes -/
theorem law (l : Launch) (a : Addr) (D : Cell) (fV fC : Field) (b : Addr) (A : Cell) (z : Int32) (o len : Nat) : Law l yN 5 4 2 35 yB 6 none site (P a D fV fC b A z o len) (E a D fV fC A o len) [⟨a, fC.slot⟩, ⟨a, fV.slot⟩] 1 len := by
  refine Law.of_walk (plainFor_of_name (by decide +kernel)) (by decide +kernel) (by decide +kernel) (by decide) (fun _ _ h => by rw [h.1]; rfl) (fun _ U U' hal hh h => ⟨h.1, h.2.1.mv hal hh, h.2.2.1.al hal, h.2.2.2.1.al hal, h.2.2.2.2.1.mv hal hh, h.2.2.2.2.2.1.there hal hh, h.2.2.2.2.2.2⟩) (fun r U U' V V' h1 hal h2 h => Got.mv r U U' V V' h1 hal h2 h) ?_
  intro p e s m args below meth c s₁ X0 hexec hbytes hml hret hlk hnm hown hh0 W hP
  obtain ⟨rfl, hB, f1, f2, hA, s1, hz, l0, l1, l2, hp⟩ := hP
  have a31 := hA.1.2.2.2
  have c1 : Steps p.tables e below (s₁.setTop (entryFrame m #[.ref a, .ref b, .int (Int32.ofNat o), .int (Int32.ofNat len), .null] 6)) (s₁.setTop (mkF m 0 #[.val (.ref a), .val (.ref b), .val (.int (Int32.ofNat o)), .val (.int (Int32.ofNat len)), .val .null, .unset] [])) := entry rfl
  have c2 : Steps p.tables e below (s₁.setTop (entryFrame m #[.ref a, .ref b, .int (Int32.ofNat o), .int (Int32.ofNat len), .null] 6)) (s₁.setTop (mkF m 1 #[.val (.ref a), .val (.ref b), .val (.int (Int32.ofNat o)), .val (.int (Int32.ofNat len)), .val .null, .unset] [.ref a])) := c1.trans (by
    refine XS.aloadN X0.here hexec rfl (hb hbytes d0) rfl rfl ?_
    exact Steps.refl _)
  obtain ⟨T3, X3, q3, st3⟩ := X0.oinit hexec hown (wks W (objW "java/lang/String" 1)) (g := (mkF m 1 #[.val (.ref a), .val (.ref b), .val (.int (Int32.ofNat o)), .val (.int (Int32.ofNat len)), .val .null, .unset] [.ref a])) rfl (by rw [hml]; rfl) (rest := []) rfl (hb hbytes d1) (W := 0) (by show 2 * 0 + 0 ≤ _; decide) (Nat.le_of_ble_eq_true rfl) (Nat.le_of_ble_eq_true rfl)
  have hh3 := q3.trans hh0
  have c4 : Steps p.tables e below (s₁.setTop (entryFrame m #[.ref a, .ref b, .int (Int32.ofNat o), .int (Int32.ofNat len), .null] 6)) (T3.setTop (mkF m 27 #[.val (.ref a), .val (.ref b), .val (.int (Int32.ofNat o)), .val (.int (Int32.ofNat len)), .val .null, .unset] [])) := (c2.trans (st3 _ (Steps.refl _))).trans (by
    refine XS.iloadN X3.here hexec rfl (hb hbytes d4) rfl ?_
    refine XS.ifYes X3.here hexec rfl (pc0 := 5) rfl (hb hbytes d5) rfl (i0_ne_t (nz32 (by omega) l0)) (by decide) rfl ?_
    exact Steps.refl _)
  obtain ⟨T5, X5, q5, st5⟩ := X3.sget hexec hown (wk W (.fieldLink "java/lang/String" 38 "java/lang/String" "COMPACT_STRINGS" "Z")) s1 (fun _ _ h => by rw [hh3]; exact h) (g := (mkF m 27 #[.val (.ref a), .val (.ref b), .val (.int (Int32.ofNat o)), .val (.int (Int32.ofNat len)), .val .null, .unset] [])) rfl (hb hbytes d27)
  have hh5 := q5.trans hh3
  have c6 : Steps p.tables e below (s₁.setTop (entryFrame m #[.ref a, .ref b, .int (Int32.ofNat o), .int (Int32.ofNat len), .null] 6)) (T5.setTop (mkF m 30 #[.val (.ref a), .val (.ref b), .val (.int (Int32.ofNat o)), .val (.int (Int32.ofNat len)), .val .null, .unset] [.int z])) := c4.trans (st5 _ (Steps.refl _))
  have c7 : Steps p.tables e below (s₁.setTop (entryFrame m #[.ref a, .ref b, .int (Int32.ofNat o), .int (Int32.ofNat len), .null] 6)) (T5.setTop (mkF m 36 #[.val (.ref a), .val (.ref b), .val (.int (Int32.ofNat o)), .val (.int (Int32.ofNat len)), .val .null, .unset] [.int (Int32.ofNat len), .int (Int32.ofNat o), .ref b])) := c6.trans (by
    refine XS.ifNo X5.here hexec rfl (hb hbytes d30) rfl (i0_eq_f hz) ?_
    refine XS.aloadN X5.here hexec rfl (hb hbytes d33) rfl rfl ?_
    refine XS.iloadN X5.here hexec rfl (hb hbytes d34) rfl ?_
    refine XS.iloadN X5.here hexec rfl (hb hbytes d35) rfl ?_
    exact Steps.refl _)
  obtain ⟨v8, T8, X8, E8, g8⟩ := X5.callS hexec (Cmp3.law l b A o len) hown (wks W (staticW "java/lang/String" 177 Cmp3.yN)) (wk W Cmp3.tab) (W := 0) (Nat.le_of_ble_eq_true rfl) (Nat.le_of_ble_eq_true rfl) (Nat.le_refl _) (by show 0 + len ≤ len; omega) (g := (mkF m 36 #[.val (.ref a), .val (.ref b), .val (.int (Int32.ofNat o)), .val (.int (Int32.ofNat len)), .val .null, .unset] [.int (Int32.ofNat len), .int (Int32.ofNat o), .ref b])) rfl (by rw [hml]; rfl) c7 (argsL := [.ref b, .int (Int32.ofNat o), .int (Int32.ofNat len)]) (rest := []) rfl rfl (by show 2 * 0 + 0 ≤ _; decide) (hb hbytes d36) (⟨rfl, hA.mv X5.warmed.alike hh5, l1, l2, hp⟩)
  obtain ⟨e8, z8⟩ := E8
  obtain ⟨rfl, N, n1, n2, n3, n4, n5, n6⟩ := NewArr.mv _ T5 s _ _ hh5.symm (Vm.Alike.refl _) rfl e8
  rw [hh5] at z8
  have hB1 := hB.keep X8.warmed.alike (n6 _ _ hB.1)
  have hne : s.heap.size ≠ a := (Nat.ne_of_lt (Array.getElem?_eq_some_iff.mp hB.1).1).symm
  have c9 : Steps p.tables e below (s₁.setTop (entryFrame m #[.ref a, .ref b, .int (Int32.ofNat o), .int (Int32.ofNat len), .null] 6)) (T8.setTop (mkF m 39 #[.val (.ref a), .val (.ref b), .val (.int (Int32.ofNat o)), .val (.int (Int32.ofNat len)), .val .null, .unset] [.ref s.heap.size])) := g8
  have c10 : Steps p.tables e below (s₁.setTop (entryFrame m #[.ref a, .ref b, .int (Int32.ofNat o), .int (Int32.ofNat len), .null] 6)) (T8.setTop (mkF m 45 #[.val (.ref a), .val (.ref b), .val (.int (Int32.ofNat o)), .val (.int (Int32.ofNat len)), .val .null, .val (.ref s.heap.size)] [.int (Int32.ofNat N.slots.size), .ref s.heap.size, .ref a])) := by
    have hc : Steps p.tables e below (s₁.setTop (entryFrame m #[.ref a, .ref b, .int (Int32.ofNat o), .int (Int32.ofNat len), .null] 6)) (T8.setTop (mkF m 45 #[.val (.ref a), .val (.ref b), .val (.int (Int32.ofNat o)), .val (.int (Int32.ofNat len)), .val .null, .val (.ref s.heap.size)] [.int (Int32.ofNat len), .ref s.heap.size, .ref a])) := c9.trans (by
      refine XS.astore X8.here hexec rfl (hb hbytes d39) rfl rfl rfl ?_
      refine XS.aloadN X8.here hexec rfl (hb hbytes d41) rfl rfl ?_
      refine XS.aload X8.here hexec rfl (hb hbytes d42) rfl rfl ?_
      refine XS.iloadN X8.here hexec rfl (hb hbytes d44) rfl ?_
      exact Steps.refl _)
    rw [n4]; exact hc
  obtain ⟨v11, T11, X11, E11, g11⟩ := X8.callS hexec (CodL.law l s.heap.size N) hown (wks W (staticW "java/lang/String" 47 CodL.yN)) (wk W CodL.tab) (W := 1) (Nat.le_of_ble_eq_true rfl) (Nat.le_of_ble_eq_true rfl) (Nat.le_refl _) (by show 0 + len + 0 ≤ len; omega) (g := (mkF m 45 #[.val (.ref a), .val (.ref b), .val (.int (Int32.ofNat o)), .val (.int (Int32.ofNat len)), .val .null, .val (.ref s.heap.size)] [.int (Int32.ofNat N.slots.size), .ref s.heap.size, .ref a])) rfl (by rw [hml]; rfl) c10 (argsL := [.ref s.heap.size, .int (Int32.ofNat N.slots.size)]) (rest := [.ref a]) rfl rfl (by show 2 * 0 + (1 + 0) ≤ _; decide) (hb hbytes d45) (⟨rfl, n1⟩)
  obtain ⟨rfl, q11⟩ := E11
  have hB11 := hB1.mv (X8.warmed.alike.symm.trans X11.warmed.alike) q11
  have c12 : Steps p.tables e below (s₁.setTop (entryFrame m #[.ref a, .ref b, .int (Int32.ofNat o), .int (Int32.ofNat len), .null] 6)) (T11.setTop (mkF m 48 #[.val (.ref a), .val (.ref b), .val (.int (Int32.ofNat o)), .val (.int (Int32.ofNat len)), .val .null, .val (.ref s.heap.size)] [.int 0, .ref a])) := g11
  obtain ⟨T13, X13, p13, bl13, sl13, st13⟩ := X11.finit hexec hown (wk W (.fieldLink "java/lang/String" 15 "java/lang/String" "coder" "B")) (Or.inr ⟨_, (wk W (.laysFinal "java/lang/String" "java/lang/String" "coder" "B"))⟩) (Or.inl ⟨rfl, hnm⟩) f2 (Or.inl rfl) hB11 (t := .byte) (by decide +kernel) rfl (g := (mkF m 48 #[.val (.ref a), .val (.ref b), .val (.int (Int32.ofNat o)), .val (.int (Int32.ofNat len)), .val .null, .val (.ref s.heap.size)] [.int 0, .ref a])) rfl (rest := []) rfl (hb hbytes d48)
  have c14 : Steps p.tables e below (s₁.setTop (entryFrame m #[.ref a, .ref b, .int (Int32.ofNat o), .int (Int32.ofNat len), .null] 6)) (T13.setTop (mkF m 54 #[.val (.ref a), .val (.ref b), .val (.int (Int32.ofNat o)), .val (.int (Int32.ofNat len)), .val .null, .val (.ref s.heap.size)] [.ref s.heap.size, .ref a])) := (c12.trans (st13 _ (Steps.refl _))).trans (by
    refine XS.aloadN X13.here hexec rfl (hb hbytes d51) rfl rfl ?_
    refine XS.aload X13.here hexec rfl (hb hbytes d52) rfl rfl ?_
    exact Steps.refl _)
  obtain ⟨T15, X15, p15, bl15, sl15, st15⟩ := X13.finit hexec hown (wk W (.fieldLink "java/lang/String" 9 "java/lang/String" "value" "[B")) (Or.inr ⟨_, (wk W (.laysFinal "java/lang/String" "java/lang/String" "value" "[B"))⟩) (Or.inl ⟨rfl, hnm⟩) f1 (Or.inl rfl) bl13 (t := (.array .byte)) (by decide +kernel) rfl (g := (mkF m 54 #[.val (.ref a), .val (.ref b), .val (.int (Int32.ofNat o)), .val (.int (Int32.ofNat len)), .val .null, .val (.ref s.heap.size)] [.ref s.heap.size, .ref a])) rfl (rest := []) rfl (hb hbytes d54)
  have c16 : Steps p.tables e below (s₁.setTop (entryFrame m #[.ref a, .ref b, .int (Int32.ofNat o), .int (Int32.ofNat len), .null] 6)) (T15.setTop (mkF m 57 #[.val (.ref a), .val (.ref b), .val (.int (Int32.ofNat o)), .val (.int (Int32.ofNat len)), .val .null, .val (.ref s.heap.size)] [])) := c14.trans (st15 _ (Steps.refl _))
  have ap := apart (Or.inr ⟨_, (wk W (.laysFinal "java/lang/String" "java/lang/String" "value" "[B"))⟩) (Or.inr ⟨_, (wk W (.laysFinal "java/lang/String" "java/lang/String" "coder" "B"))⟩) f1 f2 (t₁ := .array .byte) (t₂ := .byte) (by decide +kernel) (by decide +kernel) (by decide)
  have al := X8.warmed.alike.symm.trans X15.warmed.alike
  have n7 : T11.heap[s.heap.size]? = some N := by rw [q11]; exact n1.1
  exact ⟨T15, none, _, _, _, X15, by simp, rfl, by omega, (fun _ => rfl), ⟨rfl, _, N, bl15, ((Same.refl D _).set _ (by simp)).set _ (by simp), sl15, (Cell.slots_setSlot_ne _ ap).trans sl13, n1.keep al (p15.other hne (p13.other hne n7)), n2, by rw [al.findClass]; exact n3, n4, n5, fun y c h1 h2 => p15.other h1 (p13.other h1 (by rw [q11]; exact n6 y c h2)), by rw [p15.2.2, p13.2.2, q11]; exact z8⟩, fun fs hl => c16.trans (X15.returnOut hexec hret (hb hbytes d57) hl)⟩
end New4
namespace New1
def yN : MethodName := ⟨"java/lang/String", "<init>", "([C)V"⟩
abbrev yB : ByteArray := jdk_42_method_3_code
theorem d0 : decode yB 0 = .ok (.aload_n 0, 1) := by decide +kernel
theorem d1 : decode yB 1 = .ok (.aload_n 1, 1) := by decide +kernel
theorem d2 : decode yB 2 = .ok (.iconst 0, 1) := by decide +kernel
theorem d3 : decode yB 3 = .ok (.aload_n 1, 1) := by decide +kernel
theorem d4 : decode yB 4 = .ok (.arraylength, 1) := by decide +kernel
theorem d5 : decode yB 5 = .ok (.aconst_null, 1) := by decide +kernel
theorem d6 : decode yB 6 = .ok (.invokespecial 27, 3) := by decide +kernel
theorem d9 : decode yB 9 = .ok (.return_, 1) := by decide +kernel
def site : List Cond := [New4.tab] ++ initW "java/lang/String" 27 New4.yN
def tab : Cond := tabOf yN yB 2 none site
def P (a : Addr) (D : Cell) (fV fC : Field) (b : Addr) (A : Cell) (z : Int32) (args : Array Value) (s : State) : Prop := args = #[.ref a, .ref b] ∧ Blank "java/lang/String" a D s ∧ Found "java/lang/String" "value" "[B" fV s ∧ Found "java/lang/String" "coder" "B" fC s ∧ Ch b A s ∧ StaticIs s "java/lang/String" "COMPACT_STRINGS" "Z" (.int z) ∧ ¬ z = 0 ∧ 0 < A.slots.size ∧ A.slots.size ≤ 536870912 ∧ ∀ i, i < A.slots.size → ¬ 255 < cv A i
def E (a : Addr) (D : Cell) (fV fC : Field) (A : Cell) (r : Option Value) (s u : State) : Prop := Got a D fV fC A 0 A.slots.size r s u
/-- new String(chars), not empty, no char above 255: a Latin-1 String of their low bytes -/
theorem law (l : Launch) (a : Addr) (D : Cell) (fV fC : Field) (b : Addr) (A : Cell) (z : Int32) : Law l yN 2 1 3 52 yB 2 none site (P a D fV fC b A z) (E a D fV fC A) [⟨a, fC.slot⟩, ⟨a, fV.slot⟩] 1 A.slots.size := by
  refine Law.of_walk (plainFor_of_name (by decide +kernel)) (by decide +kernel) (by decide +kernel) (by decide) (fun _ _ h => by rw [h.1]; rfl) (fun _ U U' hal hh h => ⟨h.1, h.2.1.mv hal hh, h.2.2.1.al hal, h.2.2.2.1.al hal, h.2.2.2.2.1.mv hal hh, h.2.2.2.2.2.1.there hal hh, h.2.2.2.2.2.2⟩) (fun r U U' V V' h1 hal h2 h => Got.mv r U U' V V' h1 hal h2 h) ?_
  intro p e s m args below meth c s₁ X0 hexec hbytes hml hret hlk hnm hown hh0 W hP
  obtain ⟨rfl, hB, f1, f2, hA, s1, hz, l0, l2, hp⟩ := hP
  have c1 : Steps p.tables e below (s₁.setTop (entryFrame m #[.ref a, .ref b] 2)) (s₁.setTop (mkF m 0 #[.val (.ref a), .val (.ref b)] [])) := entry rfl
  have c2 : Steps p.tables e below (s₁.setTop (entryFrame m #[.ref a, .ref b] 2)) (s₁.setTop (mkF m 6 #[.val (.ref a), .val (.ref b)] [.null, .int (Int32.ofNat A.slots.size), .int 0, .ref b, .ref a])) := c1.trans (by
    refine XS.aloadN X0.here hexec rfl (hb hbytes d0) rfl rfl ?_
    refine XS.aloadN X0.here hexec rfl (hb hbytes d1) rfl rfl ?_
    refine iconstV X0.here hexec rfl 0 (hb hbytes d2) (by decide) ?_
    refine XS.aloadN X0.here hexec rfl (hb hbytes d3) rfl rfl ?_
    refine X0.alen hexec (hA.1.mv X0.warmed.alike hh0) rfl rfl (hb hbytes d4) ?_
    refine XS.aconstNull X0.here hexec rfl (hb hbytes d5) ?_
    exact Steps.refl _)
  obtain ⟨v3, T3, X3, E3, g3⟩ := X0.callN hexec (New4.law l a D fV fC b A z 0 A.slots.size) rfl hown (wks W (initW "java/lang/String" 27 New4.yN)) (W New4.tab (by simp only [site, List.mem_cons, List.mem_append, true_or, or_true])) (W := 0) (Nat.le_of_ble_eq_true rfl) (Nat.le_of_ble_eq_true rfl) (Nat.le_refl _) (by show 0 + A.slots.size ≤ A.slots.size; omega) (g := (mkF m 6 #[.val (.ref a), .val (.ref b)] [.null, .int (Int32.ofNat A.slots.size), .int (Int32.ofNat 0), .ref b, .ref a])) rfl (by rw [hml]; rfl) c2 (argsL := [.ref b, .int (Int32.ofNat 0), .int (Int32.ofNat A.slots.size), .null]) (rest := []) rfl rfl (by show 2 * 0 + 0 ≤ _; decide) (hb hbytes d6) (⟨rfl, hB.mv X0.warmed.alike hh0, f1.al X0.warmed.alike, f2.al X0.warmed.alike, hA.mv X0.warmed.alike hh0, s1.there X0.warmed.alike hh0, hz, l0, by omega, l2, fun i hi => by rw [Nat.zero_add]; exact hp i hi⟩)
  have e0 := Got.mv _ s₁ s _ _ hh0.symm (Vm.Alike.refl _) rfl E3
  obtain rfl := e0.1
  have c4 : Steps p.tables e below (s₁.setTop (entryFrame m #[.ref a, .ref b] 2)) (T3.setTop (mkF m 9 #[.val (.ref a), .val (.ref b)] [])) := g3
  exact ⟨T3, none, _, _, _, X3, by simp, rfl, by omega, (fun _ => rfl), e0, fun fs hl => c4.trans (X3.returnOut hexec hret (hb hbytes d9) hl)⟩
theorem pays {l : Launch} {R : Room} {p : Program} {e : Env} {below : List Frame} {s : State} {sargs : Array Value} {len W : Nat} (a : Addr) (D : Cell) (fV fC : Field) (b : Addr) (A : Cell) (z : Int32) (htab : tab.before sargs s = true) (hfr : 4 ≤ R.frames) (hlo : W + 65 ≤ R.locals) :
    Back l R p e below s sargs yN len W (fun A₁ a₁ => A₁.cells + 1 ≤ R.cells ∧ A₁.slots + A.slots.size ≤ R.slots ∧ P a D fV fC b A z a₁ A₁.U) (fun A₁ _ v₁ B₁ => E a D fV fC A v₁ A₁.U B₁.U ∧ B₁.locs = A₁.locs ++ [⟨a, fC.slot⟩, ⟨a, fV.slot⟩] ∧ B₁.cells = A₁.cells + 1 ∧ B₁.slots = A₁.slots + A.slots.size) :=
  (law l a D fV fC b A z).pays htab hfr (by omega)
end New1
/-- the byte, read back as charAt reads it, is the char -/
theorem lo8_mask {x : Int32} (h0 : ¬ x < 0) (h1 : ¬ 255 < x) : lo8 x &&& 255 = x := by
  have t : ∀ k : Fin 256, lo8 (Int32.ofNat k.val) &&& 255 = Int32.ofNat k.val := by decide +kernel
  rw [Int32.lt_iff_toInt_lt] at h0 h1
  have e0 : (0 : Int32).toInt = 0 := rfl
  have e1 : (255 : Int32).toInt = 255 := rfl
  obtain ⟨k, hk⟩ : ∃ k : Nat, x.toInt = k := ⟨x.toInt.toNat, by omega⟩
  have hx : x = Int32.ofNat k := Int32.toInt_inj.mp (by rw [hk, Int32.toInt_ofNat_small (by omega)])
  rw [hx]
  exact t ⟨k, by omega⟩
end StrChars
namespace StrChars.Road
open Jvm Sem ClassFile Op Lib Jvm.Stand Jvm.Free Jvm.Free.XT
open Jvm.Lib.Cold (StaticIs)
abbrev ST : String := "java/lang/String"
/-- every table word that New1's law asks, flat -/
abbrev words : List Jvm.Cond := [.code New1.yN New1.yB 2 none, .initialized ST, .methodLink ST 27 New4.yN, .instanceMethod New4.yN,
  .code New4.yN New4.yB 6 none, .fieldLink ST 38 ST "COMPACT_STRINGS" "Z", .laysFinal ST ST "value" "[B", .fieldLink ST 9 ST "value" "[B", .laysFinal ST ST "coder" "B", .fieldLink ST 15 ST "coder" "B",
  .methodLink ST 1 Lib.objectInit, .instanceMethod Lib.objectInit, .code Lib.objectInit ⟨#[0xb1]⟩ 1 none, .methodLink ST 177 Cmp3.yN, .static Cmp3.yN, .methodLink ST 47 CodL.yN, .static CodL.yN,
  .code Cmp3.yN Cmp3.yB 6 (some (.array .byte)), .initialized U16, .arrayClass .byte, .methodLink U16 115 Cmp5.yN, .static Cmp5.yN, .code Cmp5.yN Cmp5.yB 7 (some .int), .code CodL.yN CodL.yB 2 (some .byte)]
theorem tab_of {a : Array Value} {s : State} (h : ∀ w ∈ words, w.before a s = true) : New1.tab.before a s = true := by
  have h5 : Cmp5.tab.before a s = true := unparts (wk h (.code Cmp5.yN Cmp5.yB 7 (some .int))) (wks h (.initialized Cmp5.yN.cls :: Cmp5.site))
  have hc : CodL.tab.before a s = true := unparts (wk h (.code CodL.yN CodL.yB 2 (some .byte))) (wks h (.initialized CodL.yN.cls :: CodL.site))
  have q5 : ∀ w ∈ Cmp5.tab :: words, w.before a s = true := fun w hw => (List.mem_cons.mp hw).elim (fun e => e ▸ h5) (h w)
  have h3 : Cmp3.tab.before a s = true := unparts (wk q5 (.code Cmp3.yN Cmp3.yB 6 (some (.array .byte)))) (wks q5 (.initialized Cmp3.yN.cls :: Cmp3.site))
  have q3 : ∀ w ∈ Cmp3.tab :: CodL.tab :: words, w.before a s = true := fun w hw => (List.mem_cons.mp hw).elim (fun e => e ▸ h3) fun hw => (List.mem_cons.mp hw).elim (fun e => e ▸ hc) (h w)
  have h4 : New4.tab.before a s = true := unparts (wk q3 (.code New4.yN New4.yB 6 none)) (wks q3 (.initialized New4.yN.cls :: New4.site))
  have q4 : ∀ w ∈ New4.tab :: words, w.before a s = true := fun w hw => (List.mem_cons.mp hw).elim (fun e => e ▸ h4) (h w)
  exact unparts (wk q4 (.code New1.yN New1.yB 2 none)) (wks q4 (.initialized New1.yN.cls :: New1.site))
/-- the words ride from the start Z to the walk's own state -/
theorem moved {Z s : State} {a0 args : Array Value} (hZ : Z.Warmed39 s.vm) (hw : ∀ d ∈ words, d.before a0 Z = true) : ∀ d ∈ words, d.before args s = true := fun d hd => by
  have q := hw d hd
  have t : ∀ d ∈ words, d = .arrayClass .byte ∨ (d.onTables && d.keepsFace) = true := by decide +kernel
  rcases t d hd with rfl | t
  · exact RoadKit.mvA hZ q
  · exact RoadKit.mv hZ q t
/-- WHAT COMES BACK, over the tables of the start Z: h the heap at the call, h' behind it -/
def Q (Z : State) (x : Addr) (A : Cell) (h : Heap) (v : Option Value) (h' : Heap) (L : List Loc) : Prop := v = none ∧ (∀ y ∈ L, y.base = x) ∧ RoadKit.Keep h h' [x] ∧ h'.size = h.size + 1 ∧ RoadKit.Exa Z h' x ST ∧ RoadKit.Fld Z h' x ST "value" "[B" (.ref h.size) ∧ RoadKit.Fld Z h' x ST "coder" "B" (.int 0) ∧
  (∃ V : Cell, RoadKit.Arr Z h' h.size V .byte ∧ V.vm = .none ∧ Z.vm.findClass "[B" = some V.cls ∧ V.slots.size = A.slots.size ∧ ∀ j, j < A.slots.size → V.slots[j]? = some (.int (lo8 (cv A j)))) ∧
  ∀ (O n d : String) (w : Value), RoadKit.Fld Z h x O n d w → RoadKit.slotOf Z O n d ≠ RoadKit.slotOf Z ST "value" "[B" → RoadKit.slotOf Z O n d ≠ RoadKit.slotOf Z ST "coder" "B" → RoadKit.Fld Z h' x O n d w
/-- **new String(chars) AT A CALL, IN THE ROAD'S FORM**: for specialBack behind newO: x the fresh String, b the char[] with the cell A -/
theorem back {p : Program} {l : Launch} {e : Env} {R : Room} {s : State} {args : Array Value} {below : List Frame} {len W : Nat} {Z : State} {a0 : Array Value} {h : Heap} (hZ : Z.Warmed39 s.vm) (hw : ∀ d ∈ words, d.before a0 Z = true) {kI : Nat} (wi : (Jvm.Cond.instantiable ST kI).before a0 Z = true)
    {x b : Addr} {A : Cell} {z : Int32} {v0 c0 : Value} (E : RoadKit.Exa Z h x ST) (V : RoadKit.Fld Z h x ST "value" "[B" v0) (C : RoadKit.Fld Z h x ST "coder" "B" c0) (K : RoadKit.Arr Z h b A .char) (hty : Typed .char A) (S : RoadKit.Sta Z h ST "COMPACT_STRINGS" "Z" (.int z)) (hz : ¬ z = 0)
    (l0 : 0 < A.slots.size) (l2 : A.slots.size ≤ 536870912) (hp : ∀ i, i < A.slots.size → ¬ 255 < cv A i) (hfr : 4 ≤ R.frames) (hlo : W + 65 ≤ R.locals) :
    Back l R p e below s args New1.yN len W (fun P a => a = #[.ref x, .ref b] ∧ P.U.heap = h ∧ P.cells + 1 ≤ R.cells ∧ P.slots + A.slots.size ≤ R.slots)
      (fun P _ v B => ∃ L, Q Z x A h v B.U.heap L ∧ B.locs = P.locs ++ L ∧ B.cells = P.cells + 1 ∧ B.slots = P.slots + A.slots.size) := by
  intro m meth c P g ig mk a X hg hsize hdg hW hn hp'
  obtain ⟨rfl, rfl, r1, r2⟩ := hp'
  have al : Z.vm.Alike P.U.vm := hZ.alike.trans X.warmed.alike
  obtain ⟨D, cfV, kV, iV, fV, hD, gV, stV, knV, obV, asV, slV⟩ := id V
  obtain ⟨D', cfC, kC, iC, fC, hD', gC, stC, -, -, asC, slC⟩ := id C
  cases hD.symm.trans hD'
  obtain ⟨D2, kD, e1, e2, e3, e4, e5⟩ := id E
  cases hD.symm.trans e1
  obtain ⟨c2, k2, i1, i2, i3, -⟩ := Cond.instantiable_spec wi
  cases e2.symm.trans i1
  cases e3.symm.trans i2
  obtain ⟨kU, u1, u2⟩ := al.2.2 _ _ e3
  have hB : Blank ST x D P.U := ⟨hD, ⟨knV, fun q hq => by rw [hq] at obV; cases obV⟩, by rw [al.findClass]; exact e2, kU, u1, by rw [u2]; exact i3, by rw [u2]; exact e5 i3⟩
  have F1 : Found ST "value" "[B" fV P.U := ⟨SBG.found_only al ⟨cfV, kV, iV, gV⟩, stV⟩
  have F2 : Found ST "coder" "B" fC P.U := ⟨SBG.found_only al ⟨cfC, kC, iC, gC⟩, stC⟩
  have hA : Ch b A P.U := ⟨⟨K.1, State.isArrayOf_alike al K.2.1, K.2.2, by omega⟩, hty⟩
  have hS : StaticIs P.U ST "COMPACT_STRINGS" "Z" (.int z) := by
    obtain ⟨cfS, iS, kS, fS, st, cS, t1, t2, t3, t4, t5, t6, t7⟩ := S
    exact StaticIs.there (s := { Z with heap := P.U.heap }) ⟨cfS, iS, kS, fS, st, cS, t1, t2, t3, t4, t5, (fun q => by rw [q] at t6; cases t6), t7⟩ al rfl
  obtain ⟨v, B, X', ⟨⟨hv, E', V', q1, q2, q3, q4, q5, q6, q7, q8, q9, q10, q11⟩, hl, hc, hs⟩, st⟩ := New1.pays x D fV fC b A z (tab_of (moved hZ hw)) hfr hlo m meth c P g ig mk _ X hg hsize hdg hW hn ⟨r1, r2, rfl, hB, F1, F2, hA, hS, hz, l0, l2, hp⟩
  have al' : Z.vm.Alike B.U.vm := hZ.alike.trans X'.warmed.alike
  have hsz : E'.slots.size = D.slots.size := by
    obtain ⟨-, -, -, kB, w1, w2, w3⟩ := q1
    obtain ⟨kB', y1, y2⟩ := al'.2.2 _ _ e3
    rw [q2.2.1] at w1
    cases w1.symm.trans y1
    rw [w3, e5 i3, y2]
  refine ⟨v, B, X', ⟨_, ⟨hv, ?_, ⟨by omega, fun y cy hy hn' => q10 y cy (by simpa using hn') hy, fun y cy hy => ?_⟩, q11, ⟨E', _, q1.1, by rw [q2.2.1]; exact e2, by rw [q2.2.1]; exact e3, by rw [q2.1]; exact obV, fun _ => by rw [hsz]; exact e5 i3⟩,
    ⟨E', cfV, kV, iV, fV, q1.1, gV, stV, by rw [q2.1]; exact knV, by rw [q2.1]; exact obV, by rw [q2.2.1]; exact asV, q3⟩, ⟨E', cfC, kC, iC, fC, q1.1, gC, stC, by rw [q2.1]; exact knV, by rw [q2.1]; exact obV, by rw [q2.2.1]; exact asC, q4⟩,
    ⟨V', ⟨q5.1, State.isArrayOf_alike al'.symm q5.2.1, q5.2.2.1⟩, q6, by rw [← al'.findClass]; exact q7, q8, fun j hj => by have := q9 j hj; rwa [Nat.zero_add] at this⟩, fun O n d w F n1 n2 => ?_⟩, hl, hc, hs⟩, st⟩
  · intro y hy
    simp only [List.mem_cons, List.not_mem_nil, or_false] at hy
    rcases hy with rfl | rfl <;> rfl
  · by_cases q : y = x
    · subst q
      cases hD.symm.trans hy
      exact ⟨E', q1.1, q2.2.1, q2.1, hsz⟩
    · exact ⟨cy, q10 y cy q hy, rfl, rfl, rfl⟩
  · obtain ⟨D3, cf, k, i, f, g1, g2, g3, g4, g5, g6, g7⟩ := F
    cases hD.symm.trans g1
    simp only [RoadKit.slotOf, g2, gV, gC, Option.map_some, Option.getD_some] at n1 n2
    exact ⟨E', cf, k, i, f, q1.1, g2, g3, by rw [q2.1]; exact g4, by rw [q2.1]; exact g5, by rw [q2.2.1]; exact g6, by rw [q2.2.2 f.slot (by simp [n1, n2])]; exact g7⟩
end StrChars.Road
namespace StrChars.Road
open Jvm Sem ClassFile Op Lib Jvm.Stand Jvm.Free Jvm.Free.XT
/-- WHAT COMES BACK, the byte[] as a list of values -/
def QA (Z : State) (x : Addr) (zn : Int32) (cs : List Int32) (h : Heap) (v : Option Value) (h' : Heap) (L : List Loc) : Prop := v = none ∧ (∀ y ∈ L, y.base = x) ∧ RoadKit.Keep h h' [x] ∧ h'.size = h.size + 1 ∧ RoadKit.Exa Z h' x ST ∧ RoadKit.Fld Z h' x ST "value" "[B" (.ref h.size) ∧ RoadKit.Fld Z h' x ST "coder" "B" (.int 0) ∧
  (∃ kb, Z.vm.findClass "[B" = some kb ∧ RoadKit.Arv Z h' h.size kb .byte zn (cs.map fun c => .int (lo8 c)) (.int 0)) ∧
  ∀ (O n d : String) (w : Value), RoadKit.Fld Z h x O n d w → RoadKit.slotOf Z O n d ≠ RoadKit.slotOf Z ST "value" "[B" → RoadKit.slotOf Z O n d ≠ RoadKit.slotOf Z ST "coder" "B" → RoadKit.Fld Z h' x O n d w
/-- **new String(chars) AT A CALL, THE ARRAYS AS LISTS**: the char[] at b holds cs, not empty, no char above 255 -/
theorem backArv {p : Program} {l : Launch} {e : Env} {R : Room} {s : State} {args : Array Value} {below : List Frame} {len W : Nat} {Z : State} {a0 : Array Value} {h : Heap} (hZ : Z.Warmed39 s.vm) (hw : ∀ d ∈ words, d.before a0 Z = true) {kI : Nat} (wi : (Jvm.Cond.instantiable ST kI).before a0 Z = true)
    {x b : Addr} {k : ClassId} {zn z : Int32} {cs : List Int32} {dv v0 c0 : Value} (E : RoadKit.Exa Z h x ST) (V : RoadKit.Fld Z h x ST "value" "[B" v0) (C : RoadKit.Fld Z h x ST "coder" "B" c0) (K : RoadKit.Arv Z h b k .char zn (cs.map Value.int) dv) (S : RoadKit.Sta Z h ST "COMPACT_STRINGS" "Z" (.int z)) (hz : ¬ z = 0)
    (hlen : zn.toNatClampNeg = cs.length) (h0 : 0 < cs.length) (hbig : cs.length ≤ 536870912) (hall : ∀ c ∈ cs, ¬ 255 < c) (hfr : 4 ≤ R.frames) (hlo : W + 65 ≤ R.locals) :
    Back l R p e below s args New1.yN len W (fun P a => a = #[.ref x, .ref b] ∧ P.U.heap = h ∧ P.cells + 1 ≤ R.cells ∧ P.slots + cs.length ≤ R.slots)
      (fun P _ v B => ∃ L, QA Z x zn cs h v B.U.heap L ∧ B.locs = P.locs ++ L ∧ B.cells = P.cells + 1 ∧ B.slots = P.slots + cs.length) := by
  obtain ⟨A, K1, K2, K3, K4, K5, K6⟩ := K
  have e : A.slots.size = cs.length := K3.trans hlen
  have hat : ∀ (i : Nat) (hi : i < cs.length), A.slots[i]? = some (.int cs[i]) := fun i hi => by rw [K5 i (by omega)]; simp [List.getD_eq_getElem?_getD, hi]
  have hcv : ∀ (i : Nat) (hi : i < cs.length), cv A i = cs[i] := fun i hi => by unfold cv; rw [hat i hi]
  have hty : Typed .char A := fun i v hv => by
    have hi : i < A.slots.size := (Array.getElem?_eq_some_iff.mp hv).1
    have q := K5 i hi
    rw [hv] at q
    rw [Option.some.inj q]
    exact K6 i hi
  refine Back.mono (back hZ hw wi E V C K1 hty S hz (by omega) (by omega) (fun i hi => by rw [hcv i (by omega)]; exact hall _ (List.getElem_mem _)) hfr hlo) (fun P a hp => ⟨hp.1, hp.2.1, hp.2.2.1, by rw [e]; exact hp.2.2.2⟩) (fun P a v B hp hq => ?_)
  obtain ⟨L, ⟨q1, q2, q3, q4, q5, q6, q7, ⟨V', v1, v2, v3, v4, v5⟩, q9⟩, hl, hc, hs⟩ := hq
  refine ⟨L, ⟨q1, q2, q3, q4, q5, q6, q7, ⟨V'.cls, v3, V', v1, rfl, by rw [v4, e, hlen], K4, fun i hi => ?_, fun i hi => ?_⟩, q9⟩, hl, hc, by rw [hs, e]⟩
  · have hi' : i < cs.length := by omega
    rw [v5 i (by omega), hcv i hi']; simp [List.getD_eq_getElem?_getD, hi']
  · have hi' : i < cs.length := by omega
    simp only [List.getD_eq_getElem?_getD, List.getElem?_map, List.getElem?_eq_getElem hi', Option.map_some, Option.getD_some]
    exact fits_lo8 _
end StrChars.Road
namespace StrChars.Road
open Jvm Sem ClassFile Op Lib Jvm.Stand Jvm.Free Jvm.Free.XT
/-- WHAT COMES BACK, in the writer's own shape -/
def QV (Z : State) (x : Addr) (N : Int32) (bs : List Int32) (h : Heap) (n0 : Nat) (v : Option Value) (h' : Heap) (L : List Loc) : Prop := v = none ∧ RoadKit.Fr n0 L ∧ RoadKit.Keep h h' [x] ∧ RoadKit.Exa Z h' x ST ∧ RoadKit.Fld Z h' x ST "coder" "B" (.int 0) ∧
  ∃ (t : Addr) (kb : ClassId), n0 ≤ t ∧ h.size ≤ t ∧ ¬ t = x ∧ RoadKit.Fld Z h' x ST "value" "[B" (.ref t) ∧ RoadKit.Arv Z h' t kb .byte N (bs.map Value.int) (.int 0)
/-- **new String(chars) AT A CALL, FOR THE WRITER**: a char[] of n known ints, each 0 to 255 -/
theorem backV {p : Program} {l : Launch} {e : Env} {R : Room} {s : State} {args : Array Value} {below : List Frame} {len W : Nat} {Z : State} {a0 : Array Value} {h : Heap} (hZ : Z.Warmed39 s.vm) (hw : ∀ d ∈ words, d.before a0 Z = true) {kI : Nat} (wi : (Jvm.Cond.instantiable ST kI).before a0 Z = true)
    {x b : Addr} {kC : ClassId} {cs bs : List Int32} {d v0 c0 : Value} {z N : Int32} {n n0 : Nat} (hx0 : n0 ≤ x) (hh0 : n0 ≤ h.size) (E : RoadKit.Exa Z h x ST) (V : RoadKit.Fld Z h x ST "value" "[B" v0) (C : RoadKit.Fld Z h x ST "coder" "B" c0) (K : RoadKit.Arv Z h b kC .char N (cs.map Value.int) d) (S : RoadKit.Sta Z h ST "COMPACT_STRINGS" "Z" (.int z)) (hz : ¬ z = 0)
    (hn : cs.length = n) (hN : N = Int32.ofNat n) (l0 : 0 < n) (l2 : n ≤ 4000) (hp : ∀ c ∈ cs, ¬ c < 0 ∧ ¬ (255 : Int32) < c) (hb : bs = cs.map (fun c => c.toInt8.toInt32)) (hfr : 4 ≤ R.frames) (hlo : W + 65 ≤ R.locals) :
    Back l R p e below s args (⟨"java/lang/String", "<init>", "([C)V"⟩ : MethodName) len W (fun P a => a = #[.ref x, .ref b] ∧ P.U.heap = h ∧ P.cells + 1 ≤ R.cells ∧ P.slots + n ≤ R.slots)
      (fun P _ v B => ∃ L, QV Z x N bs h n0 v B.U.heap L ∧ B.locs = P.locs ++ L ∧ B.cells = P.cells + 1 ∧ B.slots = P.slots + n) := by
  subst hn hN hb
  refine Back.mono (backArv hZ hw wi E V C K S hz (n32 (by omega)) l0 (by omega) (fun c hc => (hp c hc).2) hfr hlo) (fun P a hp => hp) (fun P a v B hp hq => ?_)
  obtain ⟨L, ⟨q1, q2, q3, q4, q5, q6, q7, ⟨kb, v1, v2⟩, q9⟩, hl, hc, hs⟩ := hq
  exact ⟨L, ⟨q1, fun y hy => by rw [q2 y hy]; exact hx0, q3, q5, q7, h.size, kb, hh0, Nat.le_refl _, Nat.ne_of_gt E.lt, q6, by rw [List.map_map]; exact v2⟩, hl, hc, hs⟩
end StrChars.Road
namespace StrChars
open Jvm Sem ClassFile Op Lib Jvm.Stand Jvm.Free.XT Jvm.Free.ALB Jvm.Free.JM Jvm.Free
open Jvm.Lib.Cold (StaticIs)
def hi8 (x : Int32) : Int32 := lo8 (x >>> ((8 : Int32) &&& 31))
/-- what StringUTF16.getChar makes of two bytes -/
def pairCh (u v : Int32) : Int32 := (((u &&& 255) <<< ((0 : Int32) &&& 31)) ||| ((v &&& 255) <<< ((8 : Int32) &&& 31))).toUInt32.toUInt16.toUInt32.toInt32
theorem lo8_and (x : Int32) : (lo8 x &&& 255).toBitVec.toNat = x.toBitVec.toNat % 256 := by
  have h : (lo8 x).toBitVec = (x.toBitVec.signExtend 8).signExtend 32 := by rw [lo8, Int8.toBitVec_toInt32, Int32.toBitVec_toInt8]
  rw [Int32.toBitVec_and, BitVec.toNat_and, h]
  have e : ((x.toBitVec.signExtend 8).signExtend 32).toNat % 256 = x.toBitVec.toNat % 256 := by
    rw [BitVec.toNat_signExtend]
    have hlt := x.toBitVec.isLt
    simp only [BitVec.toNat_setWidth, BitVec.toNat_signExtend]
    split <;> split <;> omega
  rw [← e]
  exact Nat.and_two_pow_sub_one_eq_mod _ 8
theorem pair_says {c : Int32} (h0 : ¬ c < 0) (h1 : ¬ 65535 < c) : pairCh (lo8 c) (hi8 c) = c := by
  rw [Int32.lt_iff_toInt_lt] at h0 h1
  have e0 : (0 : Int32).toInt = 0 := rfl
  have e1 : (65535 : Int32).toInt = 65535 := rfl
  have hc : c.toInt = c.toBitVec.toNat := by
    have := c.toBitVec.isLt
    have e : c.toInt = c.toBitVec.toInt := rfl
    rw [e] at h0 h1
    rw [e]
    rw [BitVec.toInt_eq_toNat_cond] at h0 h1 ⊢
    split at h0 <;> split <;> omega
  have hn : c.toBitVec.toNat < 65536 := by omega
  have a1 := lo8_and c
  have a2 : (hi8 c &&& 255).toBitVec.toNat = c.toBitVec.toNat / 256 := by
    rw [hi8, lo8_and]
    have e : ((8 : Int32) &&& 31) = 8 := by decide
    rw [e, Int32.toBitVec_shiftRight]
    have e2 : ((8 : Int32).toBitVec.smod 32) = 8#32 := by decide
    rw [e2, BitVec.sshiftRight_eq', BitVec.toNat_sshiftRight_of_msb_false (by rw [BitVec.msb_eq_false_iff_two_mul_lt]; omega)]
    show c.toBitVec.toNat >>> 8 % 256 = _
    rw [Nat.shiftRight_eq_div_pow]
    omega
  unfold pairCh
  apply Int32.toBitVec_inj.mp
  apply BitVec.eq_of_toNat_eq
  have f0 : ((0 : Int32) &&& 31) = 0 := by decide
  have f8 : ((8 : Int32) &&& 31) = 8 := by decide
  rw [f0, f8]
  have g : (((lo8 c &&& 255) <<< (0 : Int32)) ||| ((hi8 c &&& 255) <<< (8 : Int32))).toBitVec.toNat = c.toBitVec.toNat := by
    rw [Int32.toBitVec_or, Int32.toBitVec_shiftLeft, Int32.toBitVec_shiftLeft]
    have s0 : ((0 : Int32).toBitVec.smod 32) = 0#32 := by decide
    have s8 : ((8 : Int32).toBitVec.smod 32) = 8#32 := by decide
    rw [s0, s8, BitVec.toNat_or]
    simp only [BitVec.shiftLeft_eq', BitVec.toNat_shiftLeft, a1, a2]
    show (c.toBitVec.toNat % 256) <<< 0 % 2 ^ 32 ||| (c.toBitVec.toNat / 256) <<< 8 % 2 ^ 32 = _
    rw [Nat.shiftLeft_zero, Nat.mod_eq_of_lt (show c.toBitVec.toNat % 256 < 2 ^ 32 by omega), Nat.mod_eq_of_lt (show (c.toBitVec.toNat / 256) <<< 8 < 2 ^ 32 by rw [Nat.shiftLeft_eq]; omega), Nat.or_comm, ← Nat.shiftLeft_add_eq_or_of_lt (by omega), Nat.shiftLeft_eq]
    omega
  show BitVec.toNat (((((lo8 c &&& 255) <<< (0 : Int32)) ||| ((hi8 c &&& 255) <<< (8 : Int32))).toBitVec.setWidth 16).setWidth 32) = _
  rw [BitVec.toNat_setWidth, BitVec.toNat_setWidth, g]
  omega
end StrChars
namespace StrChars
open Jvm Sem ClassFile Op Lib Jvm.Stand Jvm.Free.XT Jvm.Free.ALB Jvm.Free.JM Jvm.Free
open Jvm.Lib.Cold (StaticIs)
/-- the array's cell V codes the n chars f 0 .. f (n - 1) by the coder cd, as the JDK does: coder 1 just where some char is above 255 -/
def Cod (cd : Int32) (n : Nat) (f : Nat → Int32) (V : Cell) : Prop := (cd = 0 ∧ V.slots.size = n ∧ ∀ j, j < n → V.slots[j]? = some (.int (lo8 (f j))) ∧ ¬ 255 < f j) ∨ (cd = 1 ∧ V.slots.size = 2 * n ∧ (∀ j, j < n → V.slots[2 * j]? = some (.int (lo8 (f j))) ∧ V.slots[2 * j + 1]? = some (.int (hi8 (f j)))) ∧ ∃ j, j < n ∧ 255 < f j)
/-- **x is a String of the n chars f 0 .. f (n - 1)**, Latin-1 or UTF-16; its array at t has the cell V -/
def Txt (x t : Addr) (V : Cell) (cd : Int32) (n : Nat) (f : Nat → Int32) (U : State) : Prop := Exact "java/lang/String" x U ∧ Has x "java/lang/String" "value" "[B" (.ref t) U ∧ Has x "java/lang/String" "coder" "B" (.int cd) U ∧ XT.Arr .byte t V U ∧ Cod cd n f V ∧ ∀ j, j < n → ¬ f j < 0 ∧ ¬ 65535 < f j
theorem Txt.mv {x t : Addr} {V : Cell} {cd : Int32} {n : Nat} {f : Nat → Int32} {U U' : State} (h : Txt x t V cd n f U) (hal : U.vm.Alike U'.vm) (hh : U'.heap = U.heap) : Txt x t V cd n f U' := ⟨h.1.mv hal hh, h.2.1.mv hal hh, h.2.2.1.mv hal hh, h.2.2.2.1.mv hal hh, h.2.2.2.2⟩
end StrChars
namespace StrChars.Road
open Jvm Sem ClassFile Op Lib Jvm.Stand Jvm.Free Jvm.Free.XT
open Jvm.Lib.Cold (StaticIs)
theorem consq {a : Array Value} {s : State} {c : Jvm.Cond} {L : List Jvm.Cond} (h0 : c.before a s = true) (h : ∀ w ∈ L, w.before a s = true) : ∀ w ∈ c :: L, w.before a s = true := fun w hw => (List.mem_cons.mp hw).elim (fun e => e ▸ h0) (h w)
/-- the bytes of the chars cs, low before high -/
def wideBytes : List Int32 → List Value
  | [] => []
  | c :: cs => .int (lo8 c) :: .int (hi8 c) :: wideBytes cs
theorem wide_lo (d : Value) : ∀ (cs : List Int32) (j : Nat), j < cs.length → (wideBytes cs).getD (2 * j) d = .int (lo8 (cs.getD j 0))
  | [], j, h => absurd h (Nat.not_lt_zero j)
  | c :: cs, 0, _ => rfl
  | c :: cs, j + 1, h => by
    have q := wide_lo d cs j (by simpa using h)
    rw [show 2 * (j + 1) = 2 * j + 1 + 1 from by omega]
    simpa [wideBytes] using q
theorem wide_hi (d : Value) : ∀ (cs : List Int32) (j : Nat), j < cs.length → (wideBytes cs).getD (2 * j + 1) d = .int (hi8 (cs.getD j 0))
  | [], j, h => absurd h (Nat.not_lt_zero j)
  | c :: cs, 0, _ => rfl
  | c :: cs, j + 1, h => by
    have q := wide_hi d cs j (by simpa using h)
    rw [show 2 * (j + 1) + 1 = 2 * j + 1 + 1 + 1 from by omega]
    simpa [wideBytes] using q
theorem low_at (d : Value) (cs : List Int32) (j : Nat) (h : j < cs.length) : (cs.map fun c => Value.int (lo8 c)).getD j d = .int (lo8 (cs.getD j 0)) := by
  simp [List.getD_eq_getElem?_getD, h]
/-- an array of N2 bytes vs codes the chars cs by the coder cd -/
def CodA (cs : List Int32) (cd N2 : Int32) (vs : List Value) : Prop := (cd = 0 ∧ N2 = Int32.ofNat cs.length ∧ vs = (cs.map fun c => Value.int (lo8 c)) ∧ ∀ c ∈ cs, ¬ 255 < c) ∨ (cd = 1 ∧ N2 = Int32.ofNat (2 * cs.length) ∧ vs = wideBytes cs ∧ ∃ c ∈ cs, 255 < c)
theorem CodA.cod {cs : List Int32} {cd N2 : Int32} {vs : List Value} {V : Cell} (h : CodA cs cd N2 vs) (hn : 2 * cs.length < 2 ^ 31) (hs : V.slots.size = N2.toNatClampNeg) (hv : RoadKit.Has V vs (.int 0)) : Cod cd cs.length (fun j => cs.getD j 0) V := by
  rcases h with ⟨rfl, rfl, rfl, h⟩ | ⟨rfl, rfl, rfl, c, hc, hw⟩
  · rw [n32 (by omega)] at hs
    exact Or.inl ⟨rfl, hs, fun j hj => ⟨by rw [hv j (by omega), low_at _ _ _ hj], by
      have e : cs.getD j 0 = cs[j] := by simp [List.getD_eq_getElem?_getD, hj]
      show ¬ 255 < cs.getD j 0
      rw [e]; exact h _ (List.getElem_mem _)⟩⟩
  · rw [n32 (by omega)] at hs
    obtain ⟨j, hj, rfl⟩ := List.getElem_of_mem hc
    exact Or.inr ⟨rfl, hs, fun j hj => ⟨by rw [hv _ (by omega), wide_lo _ _ _ hj], by rw [hv _ (by omega), wide_hi _ _ _ hj]⟩, j, hj, by
      have e : cs.getD j 0 = cs[j] := by simp [List.getD_eq_getElem?_getD, hj]
      show 255 < cs.getD j 0
      rw [e]; exact hw⟩
/-- an object of exactly java/lang/String, its two fields found: as the laws ask it -/
theorem strObj {Z U : State} {a0 : Array Value} {kI : Nat} (wi : (Jvm.Cond.instantiable ST kI).before a0 Z = true) (al : Z.vm.Alike U.vm) {x : Addr} {v0 c0 : Value} (E : RoadKit.Exa Z U.heap x ST) (V : RoadKit.Fld Z U.heap x ST "value" "[B" v0) (C : RoadKit.Fld Z U.heap x ST "coder" "B" c0) :
    ∃ (D : Cell) (fV fC : Field), Blank ST x D U ∧ Found ST "value" "[B" fV U ∧ Found ST "coder" "B" fC U ∧ D.slots[fV.slot]? = some v0 ∧ D.slots[fC.slot]? = some c0 ∧ RoadKit.slotOf Z ST "value" "[B" = fV.slot ∧ RoadKit.slotOf Z ST "coder" "B" = fC.slot := by
  obtain ⟨D, cfV, kV, iV, fV, hD, gV, stV, knV, obV, asV, slV⟩ := V
  obtain ⟨D', cfC, kC, iC, fC, hD', gC, stC, -, -, asC, slC⟩ := C
  cases hD.symm.trans hD'
  obtain ⟨D2, kD, e1, e2, e3, e4, e5⟩ := E
  cases hD.symm.trans e1
  obtain ⟨c2, k2, i1, i2, i3, -⟩ := Cond.instantiable_spec wi
  cases e2.symm.trans i1
  cases e3.symm.trans i2
  obtain ⟨kU, u1, u2⟩ := al.2.2 _ _ e3
  exact ⟨D, fV, fC, ⟨hD, ⟨knV, fun q hq => by rw [hq] at obV; cases obV⟩, by rw [al.findClass]; exact e2, kU, u1, by rw [u2]; exact i3, by rw [u2]; exact e5 i3⟩, ⟨SBG.found_only al ⟨cfV, kV, iV, gV⟩, stV⟩, ⟨SBG.found_only al ⟨cfC, kC, iC, gC⟩, stC⟩, slV, slC, by simp [RoadKit.slotOf, gV], by simp [RoadKit.slotOf, gC]⟩
theorem sta_is {Z U : State} (al : Z.vm.Alike U.vm) {C n d : String} {v : Value} (S : RoadKit.Sta Z U.heap C n d v) : StaticIs U C n d v := by
  obtain ⟨cfS, iS, kS, fS, st, cS, t1, t2, t3, t4, t5, t6, t7⟩ := S
  exact StaticIs.there (s := { Z with heap := U.heap }) ⟨cfS, iS, kS, fS, st, cS, t1, t2, t3, t4, t5, (fun q => by rw [q] at t6; cases t6), t7⟩ al rfl
end StrChars.Road
namespace StrChars
open Jvm Sem ClassFile Op Lib Jvm.Stand Jvm.Free.XT Jvm.Free.ALB Jvm.Free.JM Jvm.Free
open Jvm.Lib.Cold (StaticIs)
/-- what place i of a byte[]'s cell holds -/
def yv (A : Cell) (i : Nat) : Int32 := match A.slots[i]? with | some (.int x) => x | _ => 0
theorem yv_get {a : Addr} {A : Cell} {U : State} (h : XT.Arr .byte a A U) (ht : Typed .byte A) {i : Nat} (hi : i < A.slots.size) : A.slots[i]? = some (.int (yv A i)) := by
  have e := Array.getElem?_eq_getElem hi
  have f := ht i _ e
  unfold yv; rw [e]
  generalize A.slots[i] = v at f
  cases v <;> simp [fits] at f ⊢
/-- the two arrays are equal, place for place -/
def EqC (A B : Cell) : Prop := A.slots.size = B.slots.size ∧ ∀ i, i < A.slots.size → yv A i = yv B i
/-- a boolean that says whether p -/
def Says01 (q : Prop) (r : Option Value) (s u : State) : Prop := ∃ v : Int32, r = some (.int v) ∧ u.heap = s.heap ∧ ((v = 1 ∧ q) ∨ (v = 0 ∧ ¬ q))
theorem Says01.mv {q : Prop} : ∀ r (U U' V V' : State), U'.heap = U.heap → V.vm.Alike V'.vm → V'.heap = V.heap → Says01 q r U V → Says01 q r U' V' :=
  fun r U U' V V' h1 _ h2 ⟨v, a, b, c⟩ => ⟨v, a, by rw [h1, h2]; exact b, c⟩
namespace LEq
def yN : MethodName := ⟨"java/lang/StringLatin1", "equals", "([B[B)Z"⟩
abbrev yB : ByteArray := jdk_43_method_13_code
theorem d0 : decode yB 0 = .ok (.aload_n 0, 1) := by decide +kernel
theorem d1 : decode yB 1 = .ok (.arraylength, 1) := by decide +kernel
theorem d2 : decode yB 2 = .ok (.aload_n 1, 1) := by decide +kernel
theorem d3 : decode yB 3 = .ok (.arraylength, 1) := by decide +kernel
theorem d4 : decode yB 4 = .ok (.if_icmp (.ne) 30, 3) := by decide +kernel
theorem d7 : decode yB 7 = .ok (.iconst 0, 1) := by decide +kernel
theorem d8 : decode yB 8 = .ok (.istore_n 2, 1) := by decide +kernel
theorem d9 : decode yB 9 = .ok (.iload_n 2, 1) := by decide +kernel
theorem d10 : decode yB 10 = .ok (.aload_n 0, 1) := by decide +kernel
theorem d11 : decode yB 11 = .ok (.arraylength, 1) := by decide +kernel
theorem d12 : decode yB 12 = .ok (.if_icmp (.ge) 20, 3) := by decide +kernel
theorem d15 : decode yB 15 = .ok (.aload_n 0, 1) := by decide +kernel
theorem d16 : decode yB 16 = .ok (.iload_n 2, 1) := by decide +kernel
theorem d17 : decode yB 17 = .ok (.baload, 1) := by decide +kernel
theorem d18 : decode yB 18 = .ok (.aload_n 1, 1) := by decide +kernel
theorem d19 : decode yB 19 = .ok (.iload_n 2, 1) := by decide +kernel
theorem d20 : decode yB 20 = .ok (.baload, 1) := by decide +kernel
theorem d21 : decode yB 21 = .ok (.if_icmp (.eq) 5, 3) := by decide +kernel
theorem d24 : decode yB 24 = .ok (.iconst 0, 1) := by decide +kernel
theorem d25 : decode yB 25 = .ok (.ireturn, 1) := by decide +kernel
theorem d26 : decode yB 26 = .ok (.iinc 2 1, 3) := by decide +kernel
theorem d29 : decode yB 29 = .ok (.goto (-20), 3) := by decide +kernel
theorem d32 : decode yB 32 = .ok (.iconst 1, 1) := by decide +kernel
theorem d33 : decode yB 33 = .ok (.ireturn, 1) := by decide +kernel
theorem d34 : decode yB 34 = .ok (.iconst 0, 1) := by decide +kernel
theorem d35 : decode yB 35 = .ok (.ireturn, 1) := by decide +kernel
def site : List Cond := []
def tab : Cond := tabOf yN yB 3 (some .boolean) site
def P (a : Addr) (A : Cell) (b : Addr) (B : Cell) (args : Array Value) (s : State) : Prop := args = #[.ref a, .ref b] ∧ XT.Arr .byte a A s ∧ Typed .byte A ∧ XT.Arr .byte b B s ∧ Typed .byte B
/-- whether two byte[] are equal, place for place -/
theorem law (l : Launch) (a : Addr) (A : Cell) (b : Addr) (B : Cell) : Law l yN 2 2 0 0 yB 3 (some .boolean) site (P a A b B) (Says01 (EqC A B)) [] 0 0 := by
  refine Law.of_walk (plainFor_of_name (by decide +kernel)) (by decide +kernel) (by decide +kernel) (by decide) (fun _ _ h => by rw [h.1]; rfl) (fun _ U U' hal hh h => ⟨h.1, h.2.1.mv hal hh, h.2.2.1, h.2.2.2.1.mv hal hh, h.2.2.2.2⟩) (fun r U U' V V' h1 hal h2 h => Says01.mv r U U' V V' h1 hal h2 h) ?_
  intro p e s m args below meth c s₁ X0 hexec hbytes hml hret hlk hnm hown hh0 W hP
  obtain ⟨rfl, hA, tA, hB, tB⟩ := hP
  have a31 := hA.2.2.2
  have b31 := hB.2.2.2
  have hA0 := hA.mv X0.warmed.alike hh0
  have hB0 := hB.mv X0.warmed.alike hh0
  have c1 : Steps p.tables e below (s₁.setTop (entryFrame m #[.ref a, .ref b] 3)) (s₁.setTop (mkF m 0 #[.val (.ref a), .val (.ref b), .unset] [])) := entry rfl
  have c2 : Steps p.tables e below (s₁.setTop (entryFrame m #[.ref a, .ref b] 3)) (s₁.setTop (mkF m 4 #[.val (.ref a), .val (.ref b), .unset] [.int (Int32.ofNat B.slots.size), .int (Int32.ofNat A.slots.size)])) := c1.trans (by
    refine XS.aloadN X0.here hexec rfl (hb hbytes d0) rfl rfl ?_
    refine X0.alen hexec hA0 rfl rfl (hb hbytes d1) ?_
    refine XS.aloadN X0.here hexec rfl (hb hbytes d2) rfl rfl ?_
    refine X0.alen hexec hB0 rfl rfl (hb hbytes d3) ?_
    exact Steps.refl _)
  by_cases hs : A.slots.size = B.slots.size
  · have c3 : Steps p.tables e below (s₁.setTop (entryFrame m #[.ref a, .ref b] 3)) (s₁.setTop (mkF m 9 #[.val (.ref a), .val (.ref b), .val (.int 0)] [])) := c2.trans (by
      refine XS.icmpNo X0.here hexec rfl (hb hbytes d4) rfl (ii_ne_f (by rw [hs])) ?_
      refine iconstV X0.here hexec rfl 0 (hb hbytes d7) (by decide) ?_
      refine XS.istoreN X0.here hexec rfl (hb hbytes d8) rfl rfl ?_
      exact Steps.refl _)
    have loop : ∀ (r i : Nat), i + r = A.slots.size → (∀ j, j < i → yv A j = yv B j) → Steps p.tables e below (s₁.setTop (entryFrame m #[.ref a, .ref b] 3)) (s₁.setTop (mkF m 9 #[.val (.ref a), .val (.ref b), .val (.int (Int32.ofNat i))] [])) → ∃ (pc : Nat) (Ls : Array Slot) (v : Int32), (pc = 25 ∨ pc = 33) ∧ ((v = 1 ∧ EqC A B) ∨ (v = 0 ∧ ¬ EqC A B)) ∧ Steps p.tables e below (s₁.setTop (entryFrame m #[.ref a, .ref b] 3)) (s₁.setTop (mkF m pc Ls [.int v])) := by
      intro r
      induction r with
      | zero =>
        intro i hi he cl
        exact ⟨33, _, 1, Or.inr rfl, Or.inl ⟨rfl, hs, fun j hj => he j (by omega)⟩, cl.trans (by
          refine XS.iloadN X0.here hexec rfl (hb hbytes d9) rfl ?_
          refine XS.aloadN X0.here hexec rfl (hb hbytes d10) rfl rfl ?_
          refine X0.alen hexec hA0 rfl rfl (hb hbytes d11) ?_
          refine XS.icmpYes X0.here hexec rfl (pc0 := 12) rfl (hb hbytes d12) rfl (ii_ge_t (nlt32 (by omega) (by omega))) (by decide) rfl ?_
          refine iconstV X0.here hexec rfl 1 (hb hbytes d32) (by decide) ?_
          exact Steps.refl _)⟩
      | succ r ih =>
        intro i hi he cl
        have c4 : Steps p.tables e below (s₁.setTop (entryFrame m #[.ref a, .ref b] 3)) (s₁.setTop (mkF m 21 #[.val (.ref a), .val (.ref b), .val (.int (Int32.ofNat i))] [.int (yv B i), .int (yv A i)])) := cl.trans (by
          refine XS.iloadN X0.here hexec rfl (hb hbytes d9) rfl ?_
          refine XS.aloadN X0.here hexec rfl (hb hbytes d10) rfl rfl ?_
          refine X0.alen hexec hA0 rfl rfl (hb hbytes d11) ?_
          refine XS.icmpNo X0.here hexec rfl (hb hbytes d12) rfl (ii_ge_f (lt32 (by omega) (by omega))) ?_
          refine XS.aloadN X0.here hexec rfl (hb hbytes d15) rfl rfl ?_
          refine XS.iloadN X0.here hexec rfl (hb hbytes d16) rfl ?_
          refine X0.aget hexec hA0 rfl (yv_get hA tA (i := i) (by omega)) rfl rfl (hb hbytes d17) ?_
          refine XS.aloadN X0.here hexec rfl (hb hbytes d18) rfl rfl ?_
          refine XS.iloadN X0.here hexec rfl (hb hbytes d19) rfl ?_
          refine X0.aget hexec hB0 rfl (yv_get hB tB (i := i) (by omega)) rfl rfl (hb hbytes d20) ?_
          exact Steps.refl _)
        by_cases hv : yv A i = yv B i
        · have c5 : Steps p.tables e below (s₁.setTop (entryFrame m #[.ref a, .ref b] 3)) (s₁.setTop (mkF m 9 #[.val (.ref a), .val (.ref b), .val (.int (Int32.ofNat i + 1))] [])) := c4.trans (by
            refine XS.icmpYes X0.here hexec rfl (pc0 := 21) rfl (hb hbytes d21) rfl (ii_eq_t hv) (by decide) rfl ?_
            refine iincV X0.here hexec rfl 1 (hb hbytes d26) (by decide) rfl rfl ?_
            refine XS.goto X0.here hexec rfl (pc0 := 29) rfl (hb hbytes d29) (by decide) rfl ?_
            exact Steps.refl _)
          rw [succ32] at c5
          exact ih (i + 1) (by omega) (fun j hj => by
            by_cases e : j = i
            · rw [e]; exact hv
            · exact he j (by omega)) c5
        · exact ⟨25, _, 0, Or.inl rfl, Or.inr ⟨rfl, fun q => hv (q.2 i (by omega))⟩, c4.trans (by
            refine XS.icmpNo X0.here hexec rfl (hb hbytes d21) rfl (ii_eq_f hv) ?_
            refine iconstV X0.here hexec rfl 0 (hb hbytes d24) (by decide) ?_
            exact Steps.refl _)⟩
    obtain ⟨pc, Ls, v, hpc, hv, cz⟩ := loop A.slots.size 0 (by omega) (fun j hj => absurd hj (Nat.not_lt_zero j)) c3
    have nv : narrow .boolean (.int v) = .int v := by rcases hv with ⟨rfl, -⟩ | ⟨rfl, -⟩ <;> rfl
    rcases hpc with rfl | rfl
    · exact ⟨s₁, some (.int v), _, _, _, X0, rfl, rfl, rfl, (fun h => by cases h), ⟨v, rfl, hh0, hv⟩, fun fs hl => cz.trans (X0.ireturnOut hexec hret nv (Or.inr (Or.inl rfl)) (hb hbytes d25) hl)⟩
    · exact ⟨s₁, some (.int v), _, _, _, X0, rfl, rfl, rfl, (fun h => by cases h), ⟨v, rfl, hh0, hv⟩, fun fs hl => cz.trans (X0.ireturnOut hexec hret nv (Or.inr (Or.inl rfl)) (hb hbytes d33) hl)⟩
  · have c3 : Steps p.tables e below (s₁.setTop (entryFrame m #[.ref a, .ref b] 3)) (s₁.setTop (mkF m 35 #[.val (.ref a), .val (.ref b), .unset] [.int 0])) := c2.trans (by
      refine XS.icmpYes X0.here hexec rfl (pc0 := 4) rfl (hb hbytes d4) rfl (ii_ne_t (ne32 a31 b31 hs)) (by decide) rfl ?_
      refine iconstV X0.here hexec rfl 0 (hb hbytes d34) (by decide) ?_
      exact Steps.refl _)
    exact ⟨s₁, some (.int 0), _, _, _, X0, rfl, rfl, rfl, (fun h => by cases h), ⟨0, rfl, hh0, Or.inr ⟨rfl, fun q => hs q.1⟩⟩, fun fs hl => c3.trans (X0.ireturnOut hexec hret rfl (Or.inr (Or.inl rfl)) (hb hbytes d35) hl)⟩
end LEq
theorem Cod.ty {cd : Int32} {n : Nat} {f : Nat → Int32} {V : Cell} (h : Cod cd n f V) : Typed .byte V := fun i v hv => by
  have hi : i < V.slots.size := (Array.getElem?_eq_some_iff.mp hv).1
  rcases h with ⟨-, k1, k2⟩ | ⟨-, k1, k2, -⟩
  · rw [(k2 i (by omega)).1] at hv; cases hv; exact fits_lo8 _
  · rcases Nat.mod_two_eq_zero_or_one i with e | e
    · obtain ⟨j, rfl⟩ : ∃ j, i = 2 * j := ⟨i / 2, by omega⟩
      rw [(k2 j (by omega)).1] at hv; cases hv; exact fits_lo8 _
    · obtain ⟨j, rfl⟩ : ∃ j, i = 2 * j + 1 := ⟨i / 2, by omega⟩
      rw [(k2 j (by omega)).2] at hv; cases hv; exact fits_lo8 _
/-- the same text -/
def SameT (n : Nat) (f : Nat → Int32) (k : Nat) (g : Nat → Int32) : Prop := n = k ∧ ∀ j, j < n → f j = g j
theorem lo8_inj {x y : Int32} (h0 : ¬ x < 0) (h1 : ¬ 255 < x) (k0 : ¬ y < 0) (k1 : ¬ 255 < y) (h : lo8 x = lo8 y) : x = y := by
  rw [← lo8_mask h0 h1, ← lo8_mask k0 k1, h]
/-- arrays coded by one coder are equal just where the texts are -/
theorem Cod.eqv {cd : Int32} {n k : Nat} {f g : Nat → Int32} {V V' : Cell} (h : Cod cd n f V) (h' : Cod cd k g V') (hf : ∀ j, j < n → ¬ f j < 0 ∧ ¬ 65535 < f j) (hg : ∀ j, j < k → ¬ g j < 0 ∧ ¬ 65535 < g j) : EqC V V' ↔ SameT n f k g := by
  have yvv : ∀ {W : Cell} {i : Nat} {x : Int32}, W.slots[i]? = some (.int x) → yv W i = x := fun q => by unfold yv; rw [q]
  rcases h with ⟨rfl, k1, k2⟩ | ⟨rfl, k1, k2, -⟩
  · rcases h' with ⟨-, m1, m2⟩ | ⟨e, -⟩
    · constructor
      · rintro ⟨e1, e2⟩
        refine ⟨by omega, fun j hj => ?_⟩
        have q := e2 j (by omega)
        rw [yvv (k2 j hj).1, yvv (m2 j (by omega)).1] at q
        exact lo8_inj (hf j hj).1 (k2 j hj).2 (hg j (by omega)).1 (m2 j (by omega)).2 q
      · rintro ⟨rfl, e2⟩
        refine ⟨by omega, fun j hj => ?_⟩
        rw [yvv (k2 j (by omega)).1, yvv (m2 j (by omega)).1, e2 j (by omega)]
    · exact absurd e (by decide)
  · rcases h' with ⟨e, -⟩ | ⟨-, m1, m2, -⟩
    · exact absurd e (by decide)
    · constructor
      · rintro ⟨e1, e2⟩
        refine ⟨by omega, fun j hj => ?_⟩
        have q1 := e2 (2 * j) (by omega)
        have q2 := e2 (2 * j + 1) (by omega)
        rw [yvv (k2 j hj).1, yvv (m2 j (by omega)).1] at q1
        rw [yvv (k2 j hj).2, yvv (m2 j (by omega)).2] at q2
        rw [← pair_says (hf j hj).1 (hf j hj).2, ← pair_says (hg j (by omega)).1 (hg j (by omega)).2, q1, q2]
      · rintro ⟨rfl, e2⟩
        refine ⟨by omega, fun i hi => ?_⟩
        rcases Nat.mod_two_eq_zero_or_one i with e | e
        · obtain ⟨j, rfl⟩ : ∃ j, i = 2 * j := ⟨i / 2, by omega⟩
          rw [yvv (k2 j (by omega)).1, yvv (m2 j (by omega)).1, e2 j (by omega)]
        · obtain ⟨j, rfl⟩ : ∃ j, i = 2 * j + 1 := ⟨i / 2, by omega⟩
          rw [yvv (k2 j (by omega)).2, yvv (m2 j (by omega)).2, e2 j (by omega)]
/-- two codings differ: so do the texts -/
theorem Cod.dif {cd cd' : Int32} {n k : Nat} {f g : Nat → Int32} {V V' : Cell} (h : Cod cd n f V) (h' : Cod cd' k g V') (hne : ¬ cd = cd') : ¬ SameT n f k g := by
  rintro ⟨rfl, e⟩
  rcases h with ⟨rfl, -, k2⟩ | ⟨rfl, -, -, j, hj, hw⟩
  · rcases h' with ⟨rfl, -⟩ | ⟨-, -, -, j, hj, hw⟩
    · exact hne rfl
    · exact (k2 j hj).2 (by rw [e j hj]; exact hw)
  · rcases h' with ⟨-, -, m2⟩ | ⟨rfl, -⟩
    · exact (m2 j hj).2 (by rw [← e j hj]; exact hw)
    · exact hne rfl
/-- an object of exactly C is an instance of C -/
theorem cinst {p : Program} {l : Launch} {e : Env} {R : Room} {s : State} {m : MethodId} {args : Array Value} {below : List Frame} {meth : Method} {c : Code} {T : State} {locs : List Loc} {cells slots : Nat} (X : Stand p l e R s m args below meth c T locs cells slots) (hexec : p.tables.exec = Jvm.exec) {own C : String} {index : Nat} (hown : s.vm.findClass own = some m.cls) (hlink : (Cond.classLink own index C).before args s = true) {a : Addr} (hE : Exact C a T)
    {g : JFrame} (hg : g.method = m) {rest : List Value} (hstack : g.stack = .ref a :: rest) (hdg : decode c.code g.pc = .ok (.instanceof index, 3)) :
    ∃ T', Stand p l e R s m args below meth c T' locs cells slots ∧ T'.heap = T.heap ∧ ∀ target, Steps p.tables e below (T'.setTop { g with pc := g.pc + 3, stack := .int 1 :: rest }) target → Steps p.tables e below (T.setTop g) target := by
  obtain ⟨cB, h1, D, h2, h3, h4⟩ := hE
  have h1' : s.vm.findClass C = some cB := by rw [← X.warmed.alike.findClass]; exact h1
  obtain ⟨vm', X', st⟩ := X.instanceofYes hexec hown hlink h2 h4 h1' (by rw [h3]; exact Jvm.Free.SB.assignable_self _ _) hg hstack hdg
  exact ⟨_, X', rfl, st⟩
theorem cself {p : Program} {l : Launch} {e : Env} {R : Room} {s : State} {m : MethodId} {args : Array Value} {below : List Frame} {meth : Method} {c : Code} {T : State} {locs : List Loc} {cells slots : Nat} (X : Stand p l e R s m args below meth c T locs cells slots) (hexec : p.tables.exec = Jvm.exec) {own C : String} {index : Nat} (hown : s.vm.findClass own = some m.cls) (hlink : (Cond.classLink own index C).before args s = true) {a : Addr} (hE : Exact C a T)
    {g : JFrame} (hg : g.method = m) {rest : List Value} (hstack : g.stack = .ref a :: rest) (hdg : decode c.code g.pc = .ok (.checkcast index, 3)) :
    ∃ T', Stand p l e R s m args below meth c T' locs cells slots ∧ T'.heap = T.heap ∧ ∀ target, Steps p.tables e below (T'.setTop { g with pc := g.pc + 3, stack := .ref a :: rest }) target → Steps p.tables e below (T.setTop g) target := by
  obtain ⟨cB, h1, D, h2, h3, h4⟩ := hE
  have h1' : s.vm.findClass C = some cB := by rw [← X.warmed.alike.findClass]; exact h1
  obtain ⟨vm', X', st⟩ := X.checkcastYes hexec hown hlink h2 h4 h1' (by rw [h3]; exact Jvm.Free.SB.assignable_self _ _) hg hstack hdg
  exact ⟨_, X', rfl, fun t h => st t (by rw [← hstack] at h; exact h)⟩
namespace SEq
def yN : MethodName := ⟨"java/lang/String", "equals", "(Ljava/lang/Object;)Z"⟩
abbrev yB : ByteArray := jdk_42_method_66_code
theorem d0 : decode yB 0 = .ok (.aload_n 0, 1) := by decide +kernel
theorem d1 : decode yB 1 = .ok (.aload_n 1, 1) := by decide +kernel
theorem d2 : decode yB 2 = .ok (.if_acmp (.ne) 5, 3) := by decide +kernel
theorem d5 : decode yB 5 = .ok (.iconst 1, 1) := by decide +kernel
theorem d6 : decode yB 6 = .ok (.ireturn, 1) := by decide +kernel
theorem d7 : decode yB 7 = .ok (.aload_n 1, 1) := by decide +kernel
theorem d8 : decode yB 8 = .ok (.instanceof 10, 3) := by decide +kernel
theorem d11 : decode yB 11 = .ok (.ifCond (.eq) 43, 3) := by decide +kernel
theorem d14 : decode yB 14 = .ok (.aload_n 1, 1) := by decide +kernel
theorem d15 : decode yB 15 = .ok (.checkcast 10, 3) := by decide +kernel
theorem d18 : decode yB 18 = .ok (.astore_n 2, 1) := by decide +kernel
theorem d19 : decode yB 19 = .ok (.getstatic 38, 3) := by decide +kernel
theorem d22 : decode yB 22 = .ok (.ifCond (.eq) 14, 3) := by decide +kernel
theorem d25 : decode yB 25 = .ok (.aload_n 0, 1) := by decide +kernel
theorem d26 : decode yB 26 = .ok (.getfield 15, 3) := by decide +kernel
theorem d29 : decode yB 29 = .ok (.aload_n 2, 1) := by decide +kernel
theorem d30 : decode yB 30 = .ok (.getfield 15, 3) := by decide +kernel
theorem d33 : decode yB 33 = .ok (.if_icmp (.ne) 21, 3) := by decide +kernel
theorem d36 : decode yB 36 = .ok (.aload_n 0, 1) := by decide +kernel
theorem d37 : decode yB 37 = .ok (.getfield 9, 3) := by decide +kernel
theorem d40 : decode yB 40 = .ok (.aload_n 2, 1) := by decide +kernel
theorem d41 : decode yB 41 = .ok (.getfield 9, 3) := by decide +kernel
theorem d44 : decode yB 44 = .ok (.invokestatic 541, 3) := by decide +kernel
theorem d47 : decode yB 47 = .ok (.ifCond (.eq) 7, 3) := by decide +kernel
theorem d50 : decode yB 50 = .ok (.iconst 1, 1) := by decide +kernel
theorem d51 : decode yB 51 = .ok (.goto 4, 3) := by decide +kernel
theorem d54 : decode yB 54 = .ok (.iconst 0, 1) := by decide +kernel
theorem d55 : decode yB 55 = .ok (.ireturn, 1) := by decide +kernel
def site : List Cond := [.classLink "java/lang/String" 10 "java/lang/String", .fieldLink "java/lang/String" 38 "java/lang/String" "COMPACT_STRINGS" "Z", .fieldLink "java/lang/String" 15 "java/lang/String" "coder" "B", .fieldLink "java/lang/String" 9 "java/lang/String" "value" "[B", LEq.tab] ++ staticW "java/lang/String" 541 LEq.yN
def tab : Cond := tabOf yN yB 3 (some .boolean) site
def P (x t : Addr) (V : Cell) (cd : Int32) (n : Nat) (f : Nat → Int32) (y t' : Addr) (V' : Cell) (cd' : Int32) (k : Nat) (g : Nat → Int32) (z : Int32) (args : Array Value) (s : State) : Prop := args = #[.ref x, .ref y] ∧ Txt x t V cd n f s ∧ Txt y t' V' cd' k g s ∧ StaticIs s "java/lang/String" "COMPACT_STRINGS" "Z" (.int z) ∧ ¬ z = 0
/-- equals(Object) of two Strings: whether the texts are the same -/
theorem law (l : Launch) (x t : Addr) (V : Cell) (cd : Int32) (n : Nat) (f : Nat → Int32) (y t' : Addr) (V' : Cell) (cd' : Int32) (k : Nat) (g : Nat → Int32) (z : Int32) : Law l yN 2 1 1 14 yB 3 (some .boolean) site (P x t V cd n f y t' V' cd' k g z) (Says01 (SameT n f k g)) [] 0 0 := by
  refine Law.of_walk (plainFor_of_name (by decide +kernel)) (by decide +kernel) (by decide +kernel) (by decide) (fun _ _ h => by rw [h.1]; rfl) (fun _ U U' hal hh h => ⟨h.1, h.2.1.mv hal hh, h.2.2.1.mv hal hh, h.2.2.2.1.there hal hh, h.2.2.2.2⟩) (fun r U U' V V' h1 hal h2 h => Says01.mv r U U' V V' h1 hal h2 h) ?_
  intro p e s m args below meth c s₁ X0 hexec hbytes hml hret hlk hnm hown hh0 W hP
  obtain ⟨rfl, hx, hy, s1, hz⟩ := hP
  have c1 : Steps p.tables e below (s₁.setTop (entryFrame m #[.ref x, .ref y] 3)) (s₁.setTop (mkF m 2 #[.val (.ref x), .val (.ref y), .unset] [.ref y, .ref x])) := Steps.trans (entry rfl) (by
    show Steps p.tables e below (s₁.setTop (mkF m 0 #[.val (.ref x), .val (.ref y), .unset] [])) _
    refine XS.aloadN X0.here hexec rfl (hb hbytes d0) rfl rfl ?_
    refine XS.aloadN X0.here hexec rfl (hb hbytes d1) rfl rfl ?_
    exact Steps.refl _)
  by_cases hxy : x = y
  · have c2 : Steps p.tables e below (s₁.setTop (entryFrame m #[.ref x, .ref y] 3)) (s₁.setTop (mkF m 6 #[.val (.ref x), .val (.ref y), .unset] [.int 1])) := c1.trans (by
      refine acmpNo X0.here hexec rfl (hb hbytes d2) rfl rfl rfl (by simp [acmp, hxy]) ?_
      refine iconstV X0.here hexec rfl 1 (hb hbytes d5) (by decide) ?_
      exact Steps.refl _)
    subst hxy
    have ec : cd = cd' := by
      obtain ⟨D, fd, a1, a2, a3⟩ := hx.2.2.1
      obtain ⟨D', fd', b1, b2, b3⟩ := hy.2.2.1
      cases a1.symm.trans b1
      obtain ⟨q1, q2, q3, q4⟩ := a2.1
      obtain ⟨r1, r2, r3, r4⟩ := b2.1
      cases q4.symm.trans r4
      cases a3.symm.trans b3; rfl
    have et : t = t' := by
      obtain ⟨D, fd, a1, a2, a3⟩ := hx.2.1
      obtain ⟨D', fd', b1, b2, b3⟩ := hy.2.1
      cases a1.symm.trans b1
      obtain ⟨q1, q2, q3, q4⟩ := a2.1
      obtain ⟨r1, r2, r3, r4⟩ := b2.1
      cases q4.symm.trans r4
      cases a3.symm.trans b3; rfl
    subst ec et
    have ev : V = V' := by cases hx.2.2.2.1.1.symm.trans hy.2.2.2.1.1; rfl
    subst ev
    have hs : SameT n f k g := (Cod.eqv hx.2.2.2.2.1 hy.2.2.2.2.1 hx.2.2.2.2.2 hy.2.2.2.2.2).mp ⟨rfl, fun _ _ => rfl⟩
    exact ⟨s₁, some (.int 1), _, _, _, X0, rfl, rfl, rfl, (fun h => by cases h), ⟨1, rfl, hh0, Or.inl ⟨rfl, hs⟩⟩, fun fs hl => c2.trans (X0.ireturnOut hexec hret rfl (Or.inr (Or.inl rfl)) (hb hbytes d6) hl)⟩
  · have c2 : Steps p.tables e below (s₁.setTop (entryFrame m #[.ref x, .ref y] 3)) (s₁.setTop (mkF m 8 #[.val (.ref x), .val (.ref y), .unset] [.ref y])) := c1.trans (by
      refine acmpYes X0.here hexec rfl (pc0 := 2) rfl (hb hbytes d2) rfl rfl rfl (by simp [acmp, hxy]) (by decide) rfl ?_
      refine XS.aloadN X0.here hexec rfl (hb hbytes d7) rfl rfl ?_
      exact Steps.refl _)
    obtain ⟨T3, X3, q3, st3⟩ := cinst X0 hexec hown (wk W (.classLink "java/lang/String" 10 "java/lang/String")) (hy.mv X0.warmed.alike hh0).1 (g := (mkF m 8 #[.val (.ref x), .val (.ref y), .unset] [.ref y])) rfl (rest := []) rfl (hb hbytes d8)
    have hh3 := q3.trans hh0
    have c4 : Steps p.tables e below (s₁.setTop (entryFrame m #[.ref x, .ref y] 3)) (T3.setTop (mkF m 15 #[.val (.ref x), .val (.ref y), .unset] [.ref y])) := (c2.trans (st3 _ (Steps.refl _))).trans (by
      refine XS.ifNo X3.here hexec rfl (hb hbytes d11) rfl (i0_eq_f (by decide)) ?_
      refine XS.aloadN X3.here hexec rfl (hb hbytes d14) rfl rfl ?_
      exact Steps.refl _)
    obtain ⟨T5, X5, q5, st5⟩ := cself X3 hexec hown (wk W (.classLink "java/lang/String" 10 "java/lang/String")) (hy.mv X3.warmed.alike hh3).1 (g := (mkF m 15 #[.val (.ref x), .val (.ref y), .unset] [.ref y])) rfl (rest := []) rfl (hb hbytes d15)
    have hh5 := q5.trans hh3
    have c6 : Steps p.tables e below (s₁.setTop (entryFrame m #[.ref x, .ref y] 3)) (T5.setTop (mkF m 19 #[.val (.ref x), .val (.ref y), .val (.ref y)] [])) := (c4.trans (st5 _ (Steps.refl _))).trans (by
      refine XS.astoreN X5.here hexec rfl (hb hbytes d18) rfl rfl rfl ?_
      exact Steps.refl _)
    obtain ⟨T7, X7, q7, st7⟩ := X5.sget hexec hown (wk W (.fieldLink "java/lang/String" 38 "java/lang/String" "COMPACT_STRINGS" "Z")) s1 (fun _ _ h => by rw [hh5]; exact h) (g := (mkF m 19 #[.val (.ref x), .val (.ref y), .val (.ref y)] [])) rfl (hb hbytes d19)
    have hh7 := q7.trans hh5
    have c8 : Steps p.tables e below (s₁.setTop (entryFrame m #[.ref x, .ref y] 3)) (T7.setTop (mkF m 26 #[.val (.ref x), .val (.ref y), .val (.ref y)] [.ref x])) := (c6.trans (st7 _ (Steps.refl _))).trans (by
      refine XS.ifNo X7.here hexec rfl (hb hbytes d22) rfl (i0_eq_f hz) ?_
      refine XS.aloadN X7.here hexec rfl (hb hbytes d25) rfl rfl ?_
      exact Steps.refl _)
    obtain ⟨T9, X9, q9, st9⟩ := X7.hget hexec hown (wk W (.fieldLink "java/lang/String" 15 "java/lang/String" "coder" "B")) (hx.mv X7.warmed.alike hh7).2.2.1 (g := (mkF m 26 #[.val (.ref x), .val (.ref y), .val (.ref y)] [.ref x])) rfl (rest := []) rfl (hb hbytes d26)
    have hh9 := q9.trans hh7
    have c10 : Steps p.tables e below (s₁.setTop (entryFrame m #[.ref x, .ref y] 3)) (T9.setTop (mkF m 30 #[.val (.ref x), .val (.ref y), .val (.ref y)] [.ref y, .int cd])) := (c8.trans (st9 _ (Steps.refl _))).trans (by
      refine XS.aloadN X9.here hexec rfl (hb hbytes d29) rfl rfl ?_
      exact Steps.refl _)
    obtain ⟨T11, X11, q11, st11⟩ := X9.hget hexec hown (wk W (.fieldLink "java/lang/String" 15 "java/lang/String" "coder" "B")) (hy.mv X9.warmed.alike hh9).2.2.1 (g := (mkF m 30 #[.val (.ref x), .val (.ref y), .val (.ref y)] [.ref y, .int cd])) rfl (rest := [.int cd]) rfl (hb hbytes d30)
    have hh11 := q11.trans hh9
    have c12 : Steps p.tables e below (s₁.setTop (entryFrame m #[.ref x, .ref y] 3)) (T11.setTop (mkF m 33 #[.val (.ref x), .val (.ref y), .val (.ref y)] [.int cd', .int cd])) := c10.trans (st11 _ (Steps.refl _))
    by_cases hcd : cd = cd'
    · subst hcd
      have c13 : Steps p.tables e below (s₁.setTop (entryFrame m #[.ref x, .ref y] 3)) (T11.setTop (mkF m 37 #[.val (.ref x), .val (.ref y), .val (.ref y)] [.ref x])) := c12.trans (by
        refine XS.icmpNo X11.here hexec rfl (hb hbytes d33) rfl (ii_ne_f rfl) ?_
        refine XS.aloadN X11.here hexec rfl (hb hbytes d36) rfl rfl ?_
        exact Steps.refl _)
      obtain ⟨T14, X14, q14, st14⟩ := X11.hget hexec hown (wk W (.fieldLink "java/lang/String" 9 "java/lang/String" "value" "[B")) (hx.mv X11.warmed.alike hh11).2.1 (g := (mkF m 37 #[.val (.ref x), .val (.ref y), .val (.ref y)] [.ref x])) rfl (rest := []) rfl (hb hbytes d37)
      have hh14 := q14.trans hh11
      have c15 : Steps p.tables e below (s₁.setTop (entryFrame m #[.ref x, .ref y] 3)) (T14.setTop (mkF m 41 #[.val (.ref x), .val (.ref y), .val (.ref y)] [.ref y, .ref t])) := (c13.trans (st14 _ (Steps.refl _))).trans (by
        refine XS.aloadN X14.here hexec rfl (hb hbytes d40) rfl rfl ?_
        exact Steps.refl _)
      obtain ⟨T16, X16, q16, st16⟩ := X14.hget hexec hown (wk W (.fieldLink "java/lang/String" 9 "java/lang/String" "value" "[B")) (hy.mv X14.warmed.alike hh14).2.1 (g := (mkF m 41 #[.val (.ref x), .val (.ref y), .val (.ref y)] [.ref y, .ref t])) rfl (rest := [.ref t]) rfl (hb hbytes d41)
      have hh16 := q16.trans hh14
      have c17 : Steps p.tables e below (s₁.setTop (entryFrame m #[.ref x, .ref y] 3)) (T16.setTop (mkF m 44 #[.val (.ref x), .val (.ref y), .val (.ref y)] [.ref t', .ref t])) := c15.trans (st16 _ (Steps.refl _))
      obtain ⟨v18, T18, X18, E18, g18⟩ := X16.callS hexec (LEq.law l t V t' V') hown (wks W (staticW "java/lang/String" 541 LEq.yN)) (wk W LEq.tab) (W := 0) (Nat.le_of_ble_eq_true rfl) (Nat.le_of_ble_eq_true rfl) (Nat.le_refl _) (Nat.le_refl _) (g := (mkF m 44 #[.val (.ref x), .val (.ref y), .val (.ref y)] [.ref t', .ref t])) rfl (by rw [hml]; rfl) c17 (argsL := [.ref t, .ref t']) (rest := []) rfl rfl (by show 2 * 0 + 0 ≤ _; decide) (hb hbytes d44) (⟨rfl, hx.2.2.2.1.mv X16.warmed.alike hh16, hx.2.2.2.2.1.ty, hy.2.2.2.1.mv X16.warmed.alike hh16, hy.2.2.2.2.1.ty⟩)
      obtain ⟨v, rfl, q18, hv⟩ := E18
      have iff := Cod.eqv hx.2.2.2.2.1 hy.2.2.2.2.1 hx.2.2.2.2.2 hy.2.2.2.2.2
      rcases hv with ⟨rfl, he⟩ | ⟨rfl, he⟩
      · have c19 : Steps p.tables e below (s₁.setTop (entryFrame m #[.ref x, .ref y] 3)) (T18.setTop (mkF m 55 #[.val (.ref x), .val (.ref y), .val (.ref y)] [.int 1])) := Steps.trans g18 (by
          refine XS.ifNo X18.here hexec rfl (hb hbytes d47) rfl (i0_eq_f (by decide)) ?_
          refine iconstV X18.here hexec rfl 1 (hb hbytes d50) (by decide) ?_
          refine XS.goto X18.here hexec rfl (pc0 := 51) rfl (hb hbytes d51) (by decide) rfl ?_
          exact Steps.refl _)
        exact ⟨T18, some (.int 1), _, _, _, X18, rfl, rfl, rfl, (fun h => by cases h), ⟨1, rfl, q18.trans hh16, Or.inl ⟨rfl, iff.mp he⟩⟩, fun fs hl => c19.trans (X18.ireturnOut hexec hret rfl (Or.inr (Or.inl rfl)) (hb hbytes d55) hl)⟩
      · have c19 : Steps p.tables e below (s₁.setTop (entryFrame m #[.ref x, .ref y] 3)) (T18.setTop (mkF m 55 #[.val (.ref x), .val (.ref y), .val (.ref y)] [.int 0])) := Steps.trans g18 (by
          refine XS.ifYes X18.here hexec rfl (pc0 := 47) rfl (hb hbytes d47) rfl (i0_eq_t rfl) (by decide) rfl ?_
          refine iconstV X18.here hexec rfl 0 (hb hbytes d54) (by decide) ?_
          exact Steps.refl _)
        exact ⟨T18, some (.int 0), _, _, _, X18, rfl, rfl, rfl, (fun h => by cases h), ⟨0, rfl, q18.trans hh16, Or.inr ⟨rfl, fun q => he (iff.mpr q)⟩⟩, fun fs hl => c19.trans (X18.ireturnOut hexec hret rfl (Or.inr (Or.inl rfl)) (hb hbytes d55) hl)⟩
    · have c13 : Steps p.tables e below (s₁.setTop (entryFrame m #[.ref x, .ref y] 3)) (T11.setTop (mkF m 55 #[.val (.ref x), .val (.ref y), .val (.ref y)] [.int 0])) := c12.trans (by
        refine XS.icmpYes X11.here hexec rfl (pc0 := 33) rfl (hb hbytes d33) rfl (ii_ne_t hcd) (by decide) rfl ?_
        refine iconstV X11.here hexec rfl 0 (hb hbytes d54) (by decide) ?_
        exact Steps.refl _)
      exact ⟨T11, some (.int 0), _, _, _, X11, rfl, rfl, rfl, (fun h => by cases h), ⟨0, rfl, hh11, Or.inr ⟨rfl, Cod.dif hx.2.2.2.2.1 hy.2.2.2.2.1 hcd⟩⟩, fun fs hl => c13.trans (X11.ireturnOut hexec hret rfl (Or.inr (Or.inl rfl)) (hb hbytes d55) hl)⟩
theorem pays {l : Launch} {R : Room} {p : Program} {e : Env} {below : List Frame} {s : State} {sargs : Array Value} {len W : Nat} (x t : Addr) (V : Cell) (cd : Int32) (n : Nat) (f : Nat → Int32) (y t' : Addr) (V' : Cell) (cd' : Int32) (k : Nat) (g : Nat → Int32) (z : Int32) (htab : tab.before sargs s = true) (hfr : 2 ≤ R.frames) (hlo : W + 28 ≤ R.locals) :
    Back l R p e below s sargs yN len W (fun A₁ a₁ => A₁.cells + 0 ≤ R.cells ∧ A₁.slots + 0 ≤ R.slots ∧ P x t V cd n f y t' V' cd' k g z a₁ A₁.U) (fun A₁ _ v₁ B₁ => Says01 (SameT n f k g) v₁ A₁.U B₁.U ∧ B₁.locs = A₁.locs ++ [] ∧ B₁.cells = A₁.cells + 0 ∧ B₁.slots = A₁.slots + 0) :=
  (law l x t V cd n f y t' V' cd' k g z).pays htab hfr (by omega)
end SEq
end StrChars
namespace StrChars.Road
open Jvm Sem ClassFile Op Lib Jvm.Stand Jvm.Free Jvm.Free.XT
open Jvm.Lib.Cold (StaticIs)
/-- the words of String.equals(Object) -/
abbrev wordsEq : List Jvm.Cond := [.code SEq.yN SEq.yB 3 (some .boolean), .initialized ST, .classLink ST 10 ST, .fieldLink ST 38 ST "COMPACT_STRINGS" "Z", .fieldLink ST 15 ST "coder" "B", .fieldLink ST 9 ST "value" "[B", .methodLink ST 541 LEq.yN, .static LEq.yN, .code LEq.yN LEq.yB 3 (some .boolean), .initialized "java/lang/StringLatin1"]
theorem tabEq_of {a : Array Value} {s : State} (h : ∀ w ∈ wordsEq, w.before a s = true) : SEq.tab.before a s = true := by
  have hl : LEq.tab.before a s = true := unparts (wk h (.code LEq.yN LEq.yB 3 (some .boolean))) (wks h (.initialized LEq.yN.cls :: LEq.site))
  have q := consq hl h
  exact unparts (wk q (.code SEq.yN SEq.yB 3 (some .boolean))) (wks q (.initialized SEq.yN.cls :: SEq.site))
theorem movedEq {Z s : State} {a0 args : Array Value} (hZ : Z.Warmed39 s.vm) (hw : ∀ d ∈ wordsEq, d.before a0 Z = true) : ∀ d ∈ wordsEq, d.before args s = true := fun d hd => by
  have t : ∀ d ∈ wordsEq, (d.onTables && d.keepsFace) = true := by decide +kernel
  exact RoadKit.mv hZ (hw d hd) (t d hd)
/-- the road's facts of a String, as the laws ask it -/
theorem txt_of {Z U : State} {a0 : Array Value} {kI : Nat} (wi : (Jvm.Cond.instantiable ST kI).before a0 Z = true) (al : Z.vm.Alike U.vm) {x t : Addr} {kb : ClassId} {cs : List Int32} {cd N2 : Int32} {vs : List Value} (E : RoadKit.Exa Z U.heap x ST) (V : RoadKit.Fld Z U.heap x ST "value" "[B" (.ref t)) (C : RoadKit.Fld Z U.heap x ST "coder" "B" (.int cd)) (K : RoadKit.Arv Z U.heap t kb .byte N2 vs (.int 0)) (hc : CodA cs cd N2 vs) (hb : ∀ c ∈ cs, ¬ c < 0 ∧ ¬ (65535 : Int32) < c) (l2 : cs.length ≤ 4000) :
    ∃ A, Txt x t A cd cs.length (fun j => cs.getD j 0) U := by
  obtain ⟨A, K1, K2, K3, K4, K5, K6⟩ := K
  have hcod := hc.cod (by omega) K3 K5
  obtain ⟨D, fV, fC, hB, F1, F2, g1, g2, -, -⟩ := strObj wi al E V C
  exact ⟨A, ⟨_, hB.2.2.1, D, hB.1, rfl, by cases q : D.vm <;> first | rfl | exact absurd q (hB.2.1.2 _)⟩, Has.of hB F1 g1, Has.of hB F2 g2, ⟨K1.1, State.isArrayOf_alike al K1.2.1, K1.2.2, by rcases hcod with ⟨-, q, -⟩ | ⟨-, q, -⟩ <;> omega⟩, hcod, fun j hj => by
    have e : cs.getD j 0 = cs[j] := by simp [List.getD_eq_getElem?_getD, hj]
    show ¬ cs.getD j 0 < 0 ∧ ¬ 65535 < cs.getD j 0
    rw [e]; exact hb _ (List.getElem_mem _)⟩
theorem same_list (cs ds : List Int32) : SameT cs.length (fun j => cs.getD j 0) ds.length (fun j => ds.getD j 0) ↔ cs = ds := by
  constructor
  · rintro ⟨e, q⟩
    refine List.ext_getElem e fun j h1 h2 => ?_
    have := q j h1
    simpa [List.getD_eq_getElem?_getD, h1, h2] using this
  · rintro rfl
    exact ⟨rfl, fun _ _ => rfl⟩
/-- **equals(Object) OF TWO SUCH STRINGS**: 1 just where the chars are the same -/
theorem eqW {p : Program} {l : Launch} {e : Env} {R : Room} {s : State} {args : Array Value} {below : List Frame} {len W : Nat} {Z : State} {a0 : Array Value} {h : Heap} (hZ : Z.Warmed39 s.vm) (hw : ∀ d ∈ wordsEq, d.before a0 Z = true) {kI : Nat} (wi : (Jvm.Cond.instantiable ST kI).before a0 Z = true)
    {x t : Addr} {kb : ClassId} {cs : List Int32} {cd N2 : Int32} {vs : List Value} (E : RoadKit.Exa Z h x ST) (V : RoadKit.Fld Z h x ST "value" "[B" (.ref t)) (C : RoadKit.Fld Z h x ST "coder" "B" (.int cd)) (K : RoadKit.Arv Z h t kb .byte N2 vs (.int 0)) (hc : CodA cs cd N2 vs) (hb : ∀ c ∈ cs, ¬ c < 0 ∧ ¬ (65535 : Int32) < c) (l2 : cs.length ≤ 4000)
    {y t' : Addr} {kb' : ClassId} {ds : List Int32} {cd' N2' : Int32} {vs' : List Value} (E' : RoadKit.Exa Z h y ST) (V' : RoadKit.Fld Z h y ST "value" "[B" (.ref t')) (C' : RoadKit.Fld Z h y ST "coder" "B" (.int cd')) (K' : RoadKit.Arv Z h t' kb' .byte N2' vs' (.int 0)) (hc' : CodA ds cd' N2' vs') (hb' : ∀ c ∈ ds, ¬ c < 0 ∧ ¬ (65535 : Int32) < c) (l2' : ds.length ≤ 4000)
    {z : Int32} (S : RoadKit.Sta Z h ST "COMPACT_STRINGS" "Z" (.int z)) (hz : ¬ z = 0) (hfr : 2 ≤ R.frames) (hlo : W + 28 ≤ R.locals) :
    Back l R p e below s args (⟨"java/lang/String", "equals", "(Ljava/lang/Object;)Z"⟩ : MethodName) len W (fun P a => a = #[.ref x, .ref y] ∧ P.U.heap = h ∧ P.cells + 0 ≤ R.cells ∧ P.slots + 0 ≤ R.slots)
      (fun P _ v B => ∃ L, (((v = some (.int 1) ∧ cs = ds) ∨ (v = some (.int 0) ∧ ¬ cs = ds)) ∧ L = [] ∧ B.U.heap = h) ∧ B.locs = P.locs ++ L ∧ B.cells = P.cells + 0 ∧ B.slots = P.slots + 0) := by
  intro m meth c P g ig mk a X hg hsize hdg hW hn hp'
  obtain ⟨rfl, rfl, r1, r2⟩ := hp'
  have al : Z.vm.Alike P.U.vm := hZ.alike.trans X.warmed.alike
  obtain ⟨A, hx⟩ := txt_of wi al E V C K hc hb l2
  obtain ⟨A', hy⟩ := txt_of wi al E' V' C' K' hc' hb' l2'
  obtain ⟨v, B, X', ⟨⟨w, hv, hh, hq⟩, hl, hk, hs⟩, st⟩ := SEq.pays x t A cd cs.length (fun j => cs.getD j 0) y t' A' cd' ds.length (fun j => ds.getD j 0) z (tabEq_of (movedEq hZ hw)) hfr hlo m meth c P g ig mk _ X hg hsize hdg hW hn ⟨r1, r2, rfl, hx, hy, sta_is al S, hz⟩
  refine ⟨v, B, X', ⟨[], ⟨?_, rfl, hh⟩, hl, hk, hs⟩, st⟩
  rcases hq with ⟨rfl, q⟩ | ⟨rfl, q⟩
  · exact Or.inl ⟨hv, (same_list cs ds).mp q⟩
  · exact Or.inr ⟨hv, fun e => q ((same_list cs ds).mpr e)⟩
end StrChars.Road
namespace StrChars.Road
open Jvm Sem ClassFile Op Lib Jvm.Stand Jvm.Free Jvm.Free.XT
open Jvm.Lib.Cold (StaticIs)
/-- what backV says of its String, as the contracts of this text ask it: cs's low bytes, coder 0 -/
theorem codOf {cs : List Int32} {n : Nat} (hn : cs.length = n) (hb : ∀ c ∈ cs, ¬ 255 < c) : CodA cs 0 (Int32.ofNat n) ((cs.map lo8).map Value.int) := Or.inl ⟨rfl, by rw [hn], by simp [List.map_map, Function.comp_def], hb⟩
end StrChars.Road
end Jvm.Pilot.@@N@@
namespace Jvm.Pilot.@@N@@
open Jvm Jvm.ClassFile Sem Op Lib Jvm.Free Jvm.Stand Jvm.LawKit Jvm.RoadKit Bundle Jvm.Pilot.@@N@@.Jvm.D
def EL0 : List (String × Nat) := [("java/lang/String", 7)]
section Own
variable {p : Program} {l : Launch} {e : Env} {R rm : Room} {s : State} {m : MethodId} {args : Array Value} {below : List Frame} {meth : Method} {c : Code} {own nm : String} {bytes : ByteArray} {ml : Nat} {rt : Option FieldType} {Z : State} {a0 : Array Value} {EL : List (String × Nat)} {h0 : Heap} {ws : List Addr} {T : State} {h h' : Heap} {cells slots : Nat} {Q : Outcome → State → Prop} {Qv : Option Value → Heap → Prop} {pc : Nat} {Ls : Array Slot} {rest : List Value}
/-- the run from U comes to an end that says Q -/
def Go (p : Program) (e : Env) (below : List Frame) (Q : Outcome → State → Prop) (U : State) : Prop := ∃ s₂ o, Steps p.tables e below U s₂ ∧ s₂.status = .running ∧ Ended s₂ below o ∧ Q o s₂
theorem Go.of {U V : State} (g : Go p e below Q V) (k : ∀ t, Steps p.tables e below V t → Steps p.tables e below U t) : Go p e below Q U := by
  obtain ⟨s2, o, a, b⟩ := g; exact ⟨s2, o, k _ a, b⟩
/-- where the walk stands: all that does not depend on the road behind; vm0: the tables over which its Stand is -/
abbrev PosV (p : Program) (l : Launch) (e : Env) (R : Room) (s : State) (m : MethodId) (args : Array Value) (below : List Frame) (meth : Method) (c : Code) (own nm : String) (bytes : ByteArray) (ml : Nat) (rt : Option FieldType) (Z : State) (a0 : Array Value) (EL : List (String × Nat)) (h0 : Heap) (ws : List Addr) (T : State) (h : Heap) (cells slots : Nat) (vm0 : Vm) : Prop :=
  ∃ (k0 : Nat) (locs : List Loc), Stand p l e R (s.setVm vm0) m args below meth c T locs cells slots ∧
    (p.tables.exec = Jvm.exec ∧ c.code = bytes ∧ c.maxLocals = ml ∧ meth.sig.returnType = rt ∧ meth.locks = false ∧ meth.name = nm ∧ s.heap = h0 ∧ EW Z a0 EL ∧ Z.Warmed39 s.vm) ∧
    Z.Warmed39 vm0 ∧ vm0.findClass own = some m.cls ∧ s.Since vm0 k0 ∧ k0 ≤ h.size ∧ T.heap = h ∧ CHr Z EL s.vm h0 vm0 h ∧ Fr Z.heap.size locs ∧ Keep h0 h ws ∧ Ext Z.heap h
def Pos (p : Program) (l : Launch) (e : Env) (R : Room) (s : State) (m : MethodId) (args : Array Value) (below : List Frame) (meth : Method) (c : Code) (own nm : String) (bytes : ByteArray) (ml : Nat) (rt : Option FieldType) (Z : State) (a0 : Array Value) (EL : List (String × Nat)) (h0 : Heap) (ws : List Addr) (T : State) (h : Heap) (cells slots : Nat) : Prop :=
  ∃ vm0 : Vm, PosV p l e R s m args below meth c own nm bytes ml rt Z a0 EL h0 ws T h cells slots vm0
/-- how a contract ends -/
def Fini (Z : State) (EL : List (String × Nat)) (h0 : Heap) (ws : List Addr) (rm : Room) (Qv : Option Value → Heap → Prop) (s : State) (o : Outcome) (t : State) : Prop :=
  ∃ v L, o = .returned v ∧ (Fr Z.heap.size L ∧ Keep h0 t.heap ws ∧ Ext Z.heap t.heap ∧ Qv v t.heap) ∧ CHr Z EL s.vm s.heap t.vm t.heap ∧ ReturnedEndW s o t L rm.cells rm.slots
/-- a method's contract: what it leaves where it is called with these arguments over the heap h0 -/
def Con (l : Launch) (Z : State) (EL : List (String × Nat)) (wl : List Jvm.Cond) (y : MethodName) (bytes : ByteArray) (ml : Nat) (rt : Option FieldType) (rm : Room) (as : Array Value) (h0 : Heap) (ws : List Addr) (Qv : Option Value → Heap → Prop) : Prop :=
  MetFree l y (head1 (Jvm.Cond.code y bytes ml rt :: wl) rm) (fun a U => a = as ∧ Z.Warmed39 U.vm ∧ U.heap = h0 ∧ CHv Z EL U.vm h0) (fun _ _ _ _ _ => True) (fun _ U o U' => ∃ v L, o = .returned v ∧ (Fr Z.heap.size L ∧ Keep h0 U'.heap ws ∧ Ext Z.heap U'.heap ∧ Qv v U'.heap) ∧ CHr Z EL U.vm U.heap U'.vm U'.heap ∧ ReturnedEndW U o U' L rm.cells rm.slots)
theorem Con.of {wl : List Jvm.Cond} {y : MethodName} {as : Array Value} {f0 : MethodId → JFrame} (hpn : plainFor y = true) (hEL : EW Z a0 EL) (hO : Ext Z.heap h0) (hf0 : ∀ m, entryFrame m as ml = f0 m)
    (body : ∀ p e s m below meth c s₁, Pos p l e rm s m as below meth c y.cls y.name bytes ml rt Z a0 EL h0 ws s₁ h0 0 0 → Go p e below (Fini Z EL h0 ws rm Qv s) (s₁.setTop (f0 m))) : Con l Z EL wl y bytes ml rt rm as h0 ws Qv := by
  refine MetFree.of_bodySF (code := bytes) (maxLocals := ml) (ret := rt) hpn hisR ?_
  intro p e s m args below meth c s₁ Bd hml0 hP hK
  obtain ⟨rfl, hZ, hh, hC⟩ := hP
  have hown : s.vm.findClass y.cls = some m.cls := findClass_of_methodNamed Bd.named
  have hnm := (name_of_methodNamed Bd.named Bd.method).1
  have X0 : Stand p l e rm s m args below meth c s₁ [] 0 0 := Stand.of_body Bd
  have e0 : s₁.heap = h0 := by rw [← hh, Bd.state]; rfl
  have hP : Pos p l e rm s m args below meth c y.cls y.name bytes ml rt Z a0 EL h0 ws s₁ h0 0 0 :=
    ⟨s.vm, h0.size, [], X0, ⟨Bd.exec, Bd.bytes, hml0, Bd.returns, Bd.notSynchronized, hnm, hh, hEL, hZ⟩, hZ, hown, State.WarmedH.since (State.WarmedH.refl s) _, Nat.le_refl _, e0, CHr.refl hC, Fr.nil _, Keep.refl _ _, hO⟩
  obtain ⟨s2, o, a, b, c', d⟩ := body p e s m below meth c s₁ hP
  rw [hf0]
  exact ⟨s2, o, a, b, c', d⟩
/-- the same for a walk that needs its literals no more at its end -/
def ConL (l : Launch) (Z : State) (EL EL' : List (String × Nat)) (wl : List Jvm.Cond) (y : MethodName) (bytes : ByteArray) (ml : Nat) (rt : Option FieldType) (rm : Room) (as : Array Value) (h0 : Heap) (ws : List Addr) (Qv : Option Value → Heap → Prop) : Prop :=
  MetFree l y (head1 (Jvm.Cond.code y bytes ml rt :: wl) rm) (fun a U => a = as ∧ Z.Warmed39 U.vm ∧ U.heap = h0 ∧ CHv Z EL U.vm h0) (fun _ _ _ _ _ => True) (fun _ U o U' => Fini Z EL' h0 ws rm Qv U o U')
theorem ConL.of {EL' : List (String × Nat)} {wl : List Jvm.Cond} {y : MethodName} {as : Array Value} {f0 : MethodId → JFrame} (hpn : plainFor y = true) (hEL : EW Z a0 EL) (hO : Ext Z.heap h0) (hf0 : ∀ m, entryFrame m as ml = f0 m)
    (body : ∀ p e s m below meth c s₁, Pos p l e rm s m as below meth c y.cls y.name bytes ml rt Z a0 EL h0 ws s₁ h0 0 0 → Go p e below (Fini Z EL' h0 ws rm Qv s) (s₁.setTop (f0 m))) : ConL l Z EL EL' wl y bytes ml rt rm as h0 ws Qv := by
  refine MetFree.of_bodySF (code := bytes) (maxLocals := ml) (ret := rt) hpn hisR ?_
  intro p e s m args below meth c s₁ Bd hml0 hP hK
  obtain ⟨rfl, hZ, hh, hC⟩ := hP
  have hown : s.vm.findClass y.cls = some m.cls := findClass_of_methodNamed Bd.named
  have hnm := (name_of_methodNamed Bd.named Bd.method).1
  have X0 : Stand p l e rm s m args below meth c s₁ [] 0 0 := Stand.of_body Bd
  have e0 : s₁.heap = h0 := by rw [← hh, Bd.state]; rfl
  have hP : Pos p l e rm s m args below meth c y.cls y.name bytes ml rt Z a0 EL h0 ws s₁ h0 0 0 :=
    ⟨s.vm, h0.size, [], X0, ⟨Bd.exec, Bd.bytes, hml0, Bd.returns, Bd.notSynchronized, hnm, hh, hEL, hZ⟩, hZ, hown, State.WarmedH.since (State.WarmedH.refl s) _, Nat.le_refl _, e0, CHr.refl hC, Fr.nil _, Keep.refl _ _, hO⟩
  obtain ⟨s2, o, a, b, c', d⟩ := body p e s m below meth c s₁ hP
  rw [hf0]
  exact ⟨s2, o, a, b, c', d⟩
/-- the literals are looked after no more -/
theorem Pos.forget (P : Pos p l e R s m args below meth c own nm bytes ml rt Z a0 EL h0 ws T h cells slots) : Pos p l e R s m args below meth c own nm bytes ml rt Z a0 [] h0 ws T h cells slots := by
  obtain ⟨vm0, k0, locs, X, ⟨hx, hby, hml, hret, hlk, hnm, hh, hEL, hZs⟩, hZ, hown, hS, hk, eT, hC, N, K, O⟩ := P
  exact ⟨vm0, k0, locs, X, ⟨hx, hby, hml, hret, hlk, hnm, hh, EW.nil, hZs⟩, hZ, hown, hS, hk, eT, ⟨fun p hp => (nomatch hp), K.1, fun y B => by obtain ⟨p, hp, -⟩ := B; exact (nomatch hp)⟩, N, K, O⟩
theorem safeNil {Z : State} {vm : Vm} {h : Heap} {x : Addr} : Safe Z [] vm h x := fun B => by obtain ⟨p, hp, -⟩ := B; exact (nomatch hp)
theorem Pos.xs {U V : State} (P : Pos p l e R s m args below meth c own nm bytes ml rt Z a0 EL h0 ws T h cells slots)
    (f : At T m c below → p.tables.exec = Jvm.exec → c.code = bytes → ∀ t, Steps p.tables e below V t → Steps p.tables e below U t) (g : Go p e below Q V) : Go p e below Q U := by
  obtain ⟨vm0, k0, locs, X, ⟨hx, hby, -⟩, -⟩ := P
  exact g.of (f X.here hx hby)
theorem Pos.st {U V : State} (P : Pos p l e R s m args below meth c own nm bytes ml rt Z a0 EL h0 ws T h cells slots)
    (f : ∀ (vm0 : Vm) (locs : List Loc), Stand p l e R (s.setVm vm0) m args below meth c T locs cells slots → p.tables.exec = Jvm.exec → c.code = bytes → ∀ t, Steps p.tables e below V t → Steps p.tables e below U t) (g : Go p e below Q V) : Go p e below Q U := by
  obtain ⟨vm0, k0, locs, X, ⟨hx, hby, -⟩, -⟩ := P
  exact g.of (f vm0 locs X hx hby)
theorem Pos.old (P : Pos p l e R s m args below meth c own nm bytes ml rt Z a0 EL h0 ws T h cells slots) : Ext Z.heap h := by
  obtain ⟨vm0, k0, locs, X, -, -, -, -, -, -, -, -, -, O⟩ := P; exact O
theorem Pos.kept (P : Pos p l e R s m args below meth c own nm bytes ml rt Z a0 EL h0 ws T h cells slots) : Keep h0 h ws := by
  obtain ⟨vm0, k0, locs, X, -, -, -, -, -, -, -, -, K, -⟩ := P; exact K
theorem Pos.wider (P : Pos p l e R s m args below meth c own nm bytes ml rt Z a0 EL h0 ws T h cells slots) {cells' slots' : Nat} (hc : cells ≤ cells') (hs : slots ≤ slots') : Pos p l e R s m args below meth c own nm bytes ml rt Z a0 EL h0 ws T h cells' slots' := by
  obtain ⟨vm0, k0, locs, X, r⟩ := P
  exact ⟨vm0, k0, locs, { X with same := X.same.mono hc hs }, r⟩
/-- nothing old was written at the end: every way to leave -/
theorem Pos.ret {w : Option Value} {i : Instr} (P : Pos p l e R s m args below meth c own nm bytes ml rt Z a0 EL h0 ws T h cells slots) {stk : List Value}
    (hv : rt = none → w = none)
    (hst : ∀ (vm0 : Vm) (locs : List Loc) (fs : List Frame), Stand p l e R (s.setVm vm0) m args below meth c T locs cells slots → p.tables.exec = Jvm.exec → c.code = bytes → meth.sig.returnType = rt → (∀ (f : JFrame) (acts : List Action), f.method = m → f.locked = none → f.entered = [] → (doReturn e (T.setTop f) acts w).1 = T.setFrames fs) → Steps p.tables e below (T.setTop (mkF m pc Ls stk)) (T.setFrames fs))
    (hc : cells ≤ rm.cells) (hs : slots ≤ rm.slots) (q : Qv w h) : Go p e below (Fini Z EL h0 ws rm Qv s) (T.setTop (mkF m pc Ls stk)) := by
  obtain ⟨vm0, k0, locs, X, ⟨hx, hby, hml, hret, hlk, hnm, hh, hEL, hZs⟩, hZ, hown, hS, hk, eT, hC, N, K, O⟩ := P
  obtain ⟨fs, hr, hrun, hended, r1, r2, r3, r4⟩ := X.leaveW hS (by rw [eT]; exact hk) (v := w) (fun q => hv (hret.symm.trans q)) hlk
  refine ⟨_, _, hst vm0 locs fs X hx hby hret hr, hrun, hended, w, locs, rfl, ⟨N, ?_, ?_, ?_⟩, ?_, r1, r2, r3, r4.mono hc hs⟩
  · show Keep h0 T.heap ws; rw [eT]; exact K
  · show Ext Z.heap T.heap; rw [eT]; exact O
  · show Qv w T.heap; rw [eT]; exact q
  · show CHr Z EL s.vm s.heap T.vm T.heap
    rw [eT, hh]; exact hC.trans (CHv.at X hZ hEL hC.1)
theorem Pos.retR {w : Value} {t : FieldType} (P : Pos p l e R s m args below meth c own nm bytes ml rt Z a0 EL h0 ws T h cells slots) (hret : rt = some t) (ht : t.isReference = true) (hw : w.isRef = true) (hd : decode bytes pc = .ok (.areturn, 1)) (hc : cells ≤ rm.cells) (hs : slots ≤ rm.slots) (q : Qv (some w) h) :
    Go p e below (Fini Z EL h0 ws rm Qv s) (T.setTop (mkF m pc Ls (w :: rest))) :=
  P.ret (i := .areturn) (fun q => by rw [hret] at q; cases q) (fun vm0 locs fs X hx hby hr hl => retOut X hx (i := .areturn) (hr.trans hret) (by cases w <;> first | (cases t <;> rfl) | (simp [Value.isRef] at hw)) (Or.inr (Or.inr (Or.inr (Or.inr ⟨rfl, ht, hw⟩)))) (hb hby hd) hl) hc hs q
theorem Pos.retN {z : Int32} {t : FieldType} (P : Pos p l e R s m args below meth c own nm bytes ml rt Z a0 EL h0 ws T h cells slots) (hret : rt = some t) (ht : t = .boolean ∨ t = .byte ∨ t = .char ∨ t = .short) (hd : decode bytes pc = .ok (.ireturn, 1)) (hc : cells ≤ rm.cells) (hs : slots ≤ rm.slots) (q : Qv (some (.int (nar t z))) h) :
    Go p e below (Fini Z EL h0 ws rm Qv s) (T.setTop (mkF m pc Ls (.int z :: rest))) :=
  P.ret (i := .ireturn) (fun q => by rw [hret] at q; cases q) (fun vm0 locs fs X hx hby hr hl => Jvm.RoadKit.retN X hx (hr.trans hret) ht (hb hby hd) hl) hc hs q
theorem Pos.retI {z : Int32} (P : Pos p l e R s m args below meth c own nm bytes ml rt Z a0 EL h0 ws T h cells slots) (hret : rt = some .int) (hd : decode bytes pc = .ok (.ireturn, 1)) (hc : cells ≤ rm.cells) (hs : slots ≤ rm.slots) (q : Qv (some (.int z)) h) :
    Go p e below (Fini Z EL h0 ws rm Qv s) (T.setTop (mkF m pc Ls (.int z :: rest))) :=
  P.ret (i := .ireturn) (fun q => by rw [hret] at q; cases q) (fun vm0 locs fs X hx hby hr hl => retOut X hx (i := .ireturn) (hr.trans hret) rfl (Or.inl ⟨rfl, Or.inl rfl, z, rfl⟩) (hb hby hd) hl) hc hs q
theorem Pos.retV (P : Pos p l e R s m args below meth c own nm bytes ml rt Z a0 EL h0 ws T h cells slots) (hret : rt = none) (hd : decode bytes pc = .ok (.return_, 1)) (hc : cells ≤ rm.cells) (hs : slots ≤ rm.slots) (q : Qv none h) :
    Go p e below (Fini Z EL h0 ws rm Qv s) (T.setTop (mkF m pc Ls [])) :=
  P.ret (i := .return_) (fun _ => rfl) (fun vm0 locs fs X hx hby hr hl => X.returnOut hx (hr.trans hret) (hb hby hd) hl) hc hs q
/-- a step that leaves the heap, given in the library's shape -/
theorem Pos.same {U : State} (P : Pos p l e R s m args below meth c own nm bytes ml rt Z a0 EL h0 ws T h cells slots) {V : State → State}
    (f : ∀ (vm0 : Vm) (locs : List Loc), Stand p l e R (s.setVm vm0) m args below meth c T locs cells slots → p.tables.exec = Jvm.exec → c.code = bytes → c.maxLocals = ml → Z.Warmed39 vm0 → vm0.findClass own = some m.cls → T.heap = h →
      ∃ T', Stand p l e R (s.setVm vm0) m args below meth c T' locs cells slots ∧ T'.heap = h ∧ ∀ t, Steps p.tables e below (V T') t → Steps p.tables e below U t)
    (k : ∀ T', Pos p l e R s m args below meth c own nm bytes ml rt Z a0 EL h0 ws T' h cells slots → Go p e below Q (V T')) : Go p e below Q U := by
  obtain ⟨vm0, k0, locs, X, ⟨hx, hby, hml, hret, hlk, hnm, hh, hEL, hZs⟩, hZ, hown, hS, hk, eT, r⟩ := P
  obtain ⟨T', X', e', st⟩ := f vm0 locs X hx hby hml hZ hown eT
  exact (k T' ⟨vm0, k0, locs, X', ⟨hx, hby, hml, hret, hlk, hnm, hh, hEL, hZs⟩, hZ, hown, hS, hk, e', r⟩).of st
theorem Pos.getF (P : Pos p l e R s m args below meth c own nm bytes ml rt Z a0 EL h0 ws T h cells slots) {R0 O n d host : String} {index : Nat} (w : (Jvm.Cond.fieldLink own index R0 n d).before a0 Z = true ∨ (Jvm.Cond.fieldLinkNest own index R0 n d host).before a0 Z = true) (via : Via Z R0 O n d) {a : Addr} {v : Value} (F : Fld Z h a O n d v) (hd : decode bytes pc = .ok (.getfield index, 3))
    (k : ∀ T', Pos p l e R s m args below meth c own nm bytes ml rt Z a0 EL h0 ws T' h cells slots → Go p e below Q (T'.setTop (mkF m (pc + 3) Ls (v :: rest)))) : Go p e below Q (T.setTop (mkF m pc Ls (.ref a :: rest))) :=
  P.same (V := fun T' => T'.setTop (mkF m (pc + 3) Ls (v :: rest))) (fun vm0 locs X hx hby hml hZ hown eT => Jvm.RoadKit.getF X hx hZ hown w via eT F (g := mkF m pc Ls (.ref a :: rest)) rfl rfl (hb hby hd)) k
theorem Pos.getS (P : Pos p l e R s m args below meth c own nm bytes ml rt Z a0 EL h0 ws T h cells slots) {R0 O n d host : String} {index : Nat} (w : (Jvm.Cond.fieldLink own index R0 n d).before a0 Z = true ∨ (Jvm.Cond.fieldLinkNest own index R0 n d host).before a0 Z = true) (via : Via Z R0 O n d) {v : Value} (F : Sta Z Z.heap O n d v) (hd : decode bytes pc = .ok (.getstatic index, 3))
    (k : ∀ T', Pos p l e R s m args below meth c own nm bytes ml rt Z a0 EL h0 ws T' h cells slots → Go p e below Q (T'.setTop (mkF m (pc + 3) Ls (v :: rest)))) : Go p e below Q (T.setTop (mkF m pc Ls rest)) :=
  have O := P.old
  P.same (V := fun T' => T'.setTop (mkF m (pc + 3) Ls (v :: rest))) (fun vm0 locs X hx hby hml hZ hown eT => getS2 X hx hZ hown w via eT (F.ext O) (g := mkF m pc Ls rest) rfl (hb hby hd)) k
theorem Pos.cast (P : Pos p l e R s m args below meth c own nm bytes ml rt Z a0 EL h0 ws T h cells slots) {K : String} {index : Nat} (w : (Jvm.Cond.classLink own index K).before a0 Z = true) {a : Addr} (F : Ins Z h a K true) (hd : decode bytes pc = .ok (.checkcast index, 3))
    (k : ∀ T', Pos p l e R s m args below meth c own nm bytes ml rt Z a0 EL h0 ws T' h cells slots → Go p e below Q (T'.setTop (mkF m (pc + 3) Ls (.ref a :: rest)))) : Go p e below Q (T.setTop (mkF m pc Ls (.ref a :: rest))) :=
  P.same (V := fun T' => T'.setTop (mkF m (pc + 3) Ls (.ref a :: rest))) (fun vm0 locs X hx hby hml hZ hown eT => castY X hx hZ hown w eT F (g := mkF m pc Ls (.ref a :: rest)) rfl rfl (hb hby hd)) k
theorem Pos.inst (P : Pos p l e R s m args below meth c own nm bytes ml rt Z a0 EL h0 ws T h cells slots) {K : String} {index : Nat} (w : (Jvm.Cond.classLink own index K).before a0 Z = true) {a : Addr} (F : Ins Z h a K true) (hd : decode bytes pc = .ok (.instanceof index, 3))
    (k : ∀ T', Pos p l e R s m args below meth c own nm bytes ml rt Z a0 EL h0 ws T' h cells slots → Go p e below Q (T'.setTop (mkF m (pc + 3) Ls (.int 1 :: rest)))) : Go p e below Q (T.setTop (mkF m pc Ls (.ref a :: rest))) :=
  P.same (V := fun T' => T'.setTop (mkF m (pc + 3) Ls (.int 1 :: rest))) (fun vm0 locs X hx hby hml hZ hown eT => instY X hx hZ hown w eT F (g := mkF m pc Ls (.ref a :: rest)) rfl rfl (hb hby hd)) k
theorem Pos.init0 (P : Pos p l e R s m args below meth c own nm bytes ml rt Z a0 EL h0 ws T h cells slots) {index W : Nat} (w1 : (Jvm.Cond.methodLink own index Lib.objectInit).before a0 Z = true) (w2 : (Jvm.Cond.instanceMethod Lib.objectInit).before a0 Z = true) (w3 : (Jvm.Cond.code Lib.objectInit ⟨#[0xb1]⟩ 1 none).before a0 Z = true) {a : Addr} (hd : decode bytes pc = .ok (.invokespecial index, 3)) (hsz : Ls.size = ml) (hf : 1 ≤ R.frames) (hW : (rest.map fun v => v.category).sum ≤ W) (hl : W + 12 ≤ R.locals)
    (k : ∀ T', Pos p l e R s m args below meth c own nm bytes ml rt Z a0 EL h0 ws T' h cells slots → Go p e below Q (T'.setTop (mkF m (pc + 3) Ls rest))) : Go p e below Q (T.setTop (mkF m pc Ls (.ref a :: rest))) :=
  P.same (V := fun T' => T'.setTop (mkF m (pc + 3) Ls rest)) (fun vm0 locs X hx hby hml hZ hown eT => initO X hx hZ hown w1 w2 w3 eT (g := mkF m pc Ls (.ref a :: rest)) rfl (by rw [hml]; exact hsz) rfl (hb hby hd) hf (W := W) (by show 2 * 0 + _ ≤ _; rw [Nat.mul_zero, Nat.zero_add]; exact hW) hl) k
/-- a step that makes new cells alone -/
theorem Pos.grow {U : State} {dc dn : Nat} {A : State → Heap → Prop} {V : State → State} (P : Pos p l e R s m args below meth c own nm bytes ml rt Z a0 EL h0 ws T h cells slots)
    (f : ∀ (vm0 : Vm) (locs : List Loc), Stand p l e R (s.setVm vm0) m args below meth c T locs cells slots → p.tables.exec = Jvm.exec → c.code = bytes → Z.Warmed39 vm0 → vm0.findClass own = some m.cls → T.heap = h →
      ∃ T' h', Stand p l e R (s.setVm vm0) m args below meth c T' locs (cells + dc) (slots + dn) ∧ T'.heap = h' ∧ Ext h h' ∧ A T' h' ∧ ∀ t, Steps p.tables e below (V T') t → Steps p.tables e below U t)
    (k : ∀ T' h', Pos p l e R s m args below meth c own nm bytes ml rt Z a0 EL h0 ws T' h' (cells + dc) (slots + dn) → Ext h h' → A T' h' → Go p e below Q (V T')) : Go p e below Q U := by
  obtain ⟨vm0, k0, locs, X, ⟨hx, hby, hml, hret, hlk, hnm, hh, hEL, hZs⟩, hZ, hown, hS, hk, eT, hC, N, K, O⟩ := P
  obtain ⟨T', h', X', e', E, hA, st⟩ := f vm0 locs X hx hby hZ hown eT
  exact (k T' h' ⟨vm0, k0, locs, X', ⟨hx, hby, hml, hret, hlk, hnm, hh, hEL, hZs⟩, hZ, hown, hS, Nat.le_trans hk E.1, e', hC.trans (CHr.ext E hC.1), N, K.ext E, ⟨Nat.le_trans O.1 E.1, fun a c q => E.2 _ _ (O.2 _ _ q)⟩⟩ E hA).of st
theorem Pos.newO (P : Pos p l e R s m args below meth c own nm bytes ml rt Z a0 EL h0 ws T h cells slots) {C : String} {index n : Nat} (w : (Jvm.Cond.classLink own index C).before a0 Z = true) (wi : (Jvm.Cond.instantiable C n).before a0 Z = true) (wz : (Jvm.Cond.initialized C).before a0 Z = true) (hd : decode bytes pc = .ok (.new index, 3)) (hc : cells + 1 ≤ R.cells) (hl : slots + n ≤ R.slots)
    (k : ∀ T' h' x, x = h.size → Pos p l e R s m args below meth c own nm bytes ml rt Z a0 EL h0 ws T' h' (cells + 1) (slots + n) → Ext h h' → Exa Z h' x C → (∀ {O nm d : String} {ty : FieldType}, Laid Z a0 C O nm d → parseFieldDescriptor d = some ty → Fld Z h' x O nm d (defaultValue ty)) → Go p e below Q (T'.setTop (mkF m (pc + 3) Ls (.ref x :: rest)))) : Go p e below Q (T.setTop (mkF m pc Ls rest)) :=
  P.grow (V := fun T' => T'.setTop (mkF m (pc + 3) Ls (.ref h.size :: rest))) (A := fun T' h' => Exa Z h' h.size C ∧ ∀ {O nm d : String} {ty : FieldType}, Laid Z a0 C O nm d → parseFieldDescriptor d = some ty → Fld Z h' h.size O nm d (defaultValue ty))
    (fun vm0 locs X hx hby hZ hown eT => by
      obtain ⟨T', h', X', e', E, A, D, -, st⟩ := Jvm.RoadKit.newO X hx hZ hown w wi wz eT (g := mkF m pc Ls rest) rfl (hb hby hd) hc hl
      exact ⟨T', h', X', e', E, ⟨A, D⟩, st⟩)
    (fun T' h' P' E A => k T' h' _ rfl P' E A.1 A.2)
theorem Pos.newP (P : Pos p l e R s m args below meth c own nm bytes ml rt Z a0 EL h0 ws T h cells slots) {aty : ArrayType} {n : Int32} {cap : Nat} (w : (Jvm.Cond.arrayClass (newarray.typeOf aty)).before a0 Z = true) (hd : decode bytes pc = .ok (.newarray aty, 2)) (hn : ¬ n < 0) (hcap : n.toNatClampNeg ≤ cap) (hb8 : cap * 8 ≤ 536870912) (hc : cells + 1 ≤ R.cells) (hl : slots + cap ≤ R.slots)
    (k : ∀ T' h' x cA, x = h.size → Pos p l e R s m args below meth c own nm bytes ml rt Z a0 EL h0 ws T' h' (cells + 1) (slots + cap) → Ext h h' → Arv Z h' x cA (newarray.typeOf aty) n [] (defaultValue (newarray.typeOf aty)) → Go p e below Q (T'.setTop (mkF m (pc + 2) Ls (.ref x :: rest)))) : Go p e below Q (T.setTop (mkF m pc Ls (.int n :: rest))) :=
  P.grow (V := fun T' => T'.setTop (mkF m (pc + 2) Ls (.ref h.size :: rest))) (A := fun T' h' => ∃ cA, Arv Z h' h.size cA (newarray.typeOf aty) n [] (defaultValue (newarray.typeOf aty)))
    (fun vm0 locs X hx hby hZ hown eT => by
      obtain ⟨T', h', cA, X', e', E, A, st⟩ := Jvm.RoadKit.newP X hx hZ w eT (g := mkF m pc Ls (.int n :: rest)) rfl (hb hby hd) rfl hn hcap hb8 hc hl
      exact ⟨T', h', X', e', E, ⟨cA, Arv.new A hn⟩, st⟩)
    (fun T' h' P' E A => by obtain ⟨cA, A⟩ := A; exact k T' h' _ cA rfl P' E A)
theorem Pos.newR (P : Pos p l e R s m args below meth c own nm bytes ml rt Z a0 EL h0 ws T h cells slots) {C : String} {index : Nat} {n : Int32} {cap : Nat} (w1 : (Jvm.Cond.classLink own index C).before a0 Z = true) (w2 : (Jvm.Cond.arrayOver (.object C)).before a0 Z = true) (hd : decode bytes pc = .ok (.anewarray index, 3)) (hn : ¬ n < 0) (hcap : n.toNatClampNeg ≤ cap) (hb8 : cap * 8 ≤ 536870912) (hc : cells + 1 ≤ R.cells) (hl : slots + cap ≤ R.slots)
    (k : ∀ T' h' x cA, x = h.size → Pos p l e R s m args below meth c own nm bytes ml rt Z a0 EL h0 ws T' h' (cells + 1) (slots + cap) → Ext h h' → Arv Z h' x cA (.object C) n [] .null → Ovr Z cA C → Go p e below Q (T'.setTop (mkF m (pc + 3) Ls (.ref x :: rest)))) : Go p e below Q (T.setTop (mkF m pc Ls (.int n :: rest))) :=
  P.grow (V := fun T' => T'.setTop (mkF m (pc + 3) Ls (.ref h.size :: rest))) (A := fun T' h' => ∃ cA, Arv Z h' h.size cA (.object C) n [] .null ∧ Ovr Z cA C)
    (fun vm0 locs X hx hby hZ hown eT => by
      obtain ⟨T', h', cA, X', e', E, A, O, st⟩ := Jvm.RoadKit.newR X hx hZ hown w1 w2 eT (g := mkF m pc Ls (.int n :: rest)) rfl (hb hby hd) rfl hn hcap hb8 hc hl
      exact ⟨T', h', X', e', E, ⟨cA, Arv.new A hn, O⟩, st⟩)
    (fun T' h' P' E A => by obtain ⟨cA, A, O⟩ := A; exact k T' h' _ cA rfl P' E A O)
/-- a step that writes one place of a -/
theorem Pos.wr {U : State} {a : Addr} {sl : Nat} {v : Value} {V : State → State} (P : Pos p l e R s m args below meth c own nm bytes ml rt Z a0 EL h0 ws T h cells slots)
    (hsafe : ∀ vm, Z.vm.Alike s.vm → Z.vm.Alike vm → CHr Z EL s.vm h0 vm h → Safe Z EL vm h a) (hz : Z.heap.size ≤ a) (hws : a ∈ ws ∨ h0.size ≤ a)
    (f : ∀ (vm0 : Vm) (locs : List Loc), Stand p l e R (s.setVm vm0) m args below meth c T locs cells slots → p.tables.exec = Jvm.exec → c.code = bytes → Z.Warmed39 vm0 → vm0.findClass own = some m.cls → T.heap = h → meth.name = nm →
      ∃ T' h', Stand p l e R (s.setVm vm0) m args below meth c T' (locs ++ [⟨a, sl⟩]) cells slots ∧ T'.heap = h' ∧ Wr h h' a sl v ∧ ∀ t, Steps p.tables e below (V T') t → Steps p.tables e below U t)
    (k : ∀ T' h', Pos p l e R s m args below meth c own nm bytes ml rt Z a0 EL h0 ws T' h' cells slots → Wr h h' a sl v → Go p e below Q (V T')) : Go p e below Q U := by
  obtain ⟨vm0, k0, locs, X, ⟨hx, hby, hml, hret, hlk, hnm, hh, hEL, hZs⟩, hZ, hown, hS, hk, eT, hC, N, K, O⟩ := P
  obtain ⟨T', h', X', e', W, st⟩ := f vm0 locs X hx hby hZ hown eT hnm
  exact (k T' h' ⟨vm0, k0, _, X', ⟨hx, hby, hml, hret, hlk, hnm, hh, hEL, hZs⟩, hZ, hown, hS, Nat.le_trans hk (Nat.le_of_eq W.size.symm), e', hC.trans (CHr.wr W (hsafe vm0 hZs.alike hZ.alike hC) hC.1), Fr.snoc X' N hz, K.wr W hws,
    (Old.wr (n0 := Z.heap.size) ⟨rfl, O⟩ W hz).2⟩ W).of st
theorem Pos.putF (P : Pos p l e R s m args below meth c own nm bytes ml rt Z a0 EL h0 ws T h cells slots) {R0 O n d C : String} {index kk : Nat} {ty : FieldType} {a : Addr} {v v' old : Value}
    (w : (Jvm.Cond.fieldLink own index R0 n d).before a0 Z = true) (via : Via Z R0 O n d) (F : Fld Z h a O n d old) (E : Exa Z h a C) (L : (Jvm.Cond.lays C O n d).before a0 Z = true ∨ ((Jvm.Cond.laysFinal C O n d).before a0 Z = true ∧ own = O ∧ nm = "<init>")) (wi : (Jvm.Cond.instantiable C kk).before a0 Z = true)
    (hty : parseFieldDescriptor d = some ty) (hn : narrow ty v = v') (hf : fits ty v' = true) (hd : decode bytes pc = .ok (.putfield index, 3))
    (hsafe : ∀ vm, Z.vm.Alike s.vm → Z.vm.Alike vm → CHr Z EL s.vm h0 vm h → Safe Z EL vm h a) (hz : Z.heap.size ≤ a) (hws : a ∈ ws ∨ h0.size ≤ a)
    (k : ∀ T' h', Pos p l e R s m args below meth c own nm bytes ml rt Z a0 EL h0 ws T' h' cells slots → Wr h h' a (Jvm.RoadKit.slotOf Z O n d) v' → Go p e below Q (T'.setTop (mkF m (pc + 3) Ls rest))) : Go p e below Q (T.setTop (mkF m pc Ls (v :: .ref a :: rest))) :=
  P.wr hsafe hz hws (V := fun T' => T'.setTop (mkF m (pc + 3) Ls rest)) (fun vm0 locs X hx hby hZ hown eT hnm => putFN X hx hZ hown w via eT F E (L.imp id fun q => ⟨q.1, q.2.1, hnm.trans q.2.2⟩) wi hty hn hf (g := mkF m pc Ls (v :: .ref a :: rest)) rfl rfl (hb hby hd)) k
theorem inb {j : Int32} {i : Nat} {cl : Cell} {z : Int32} (hj : j.toNatClampNeg = i) (hj0 : ¬ j < 0) (hS : cl.slots.size = z.toNatClampNeg) (hlt : i < z.toNatClampNeg) : ¬ (j < 0 ∨ cl.slots.size ≤ j.toNatClampNeg) := by
  rintro (q | q)
  · exact hj0 q
  · rw [hS, hj] at q; omega
theorem Pos.stC (P : Pos p l e R s m args below meth c own nm bytes ml rt Z a0 EL h0 ws T h cells slots) {a : Addr} {kc : ClassId} {z j x x' : Int32} {vs : List Value} {dv : Value} (A : Arv Z h a kc .char z vs dv) (i : Nat) (hj : j.toNatClampNeg = i) (hj0 : ¬ j < 0) (hlt : i < z.toNatClampNeg) (hi : i < vs.length) (hx' : nar .char x = x') (hd : decode bytes pc = .ok (.castore, 1)) (hz : Z.heap.size ≤ a) (hws : a ∈ ws ∨ h0.size ≤ a)
    (k : ∀ T' h', Pos p l e R s m args below meth c own nm bytes ml rt Z a0 EL h0 ws T' h' cells slots → Wr h h' a j.toNatClampNeg (.int x') → Arv Z h' a kc .char z (vs.set i (.int x')) dv → Go p e below Q (T'.setTop (mkF m (pc + 1) Ls rest))) : Go p e below Q (T.setTop (mkF m pc Ls (.int x :: .int j :: .ref a :: rest))) := by
  obtain ⟨cl, Ar, q1, S, N, H, G⟩ := A
  subst hx'
  refine P.wr (fun vm _ hal _ => Safe.arr hal Ar (by decide)) hz hws (V := fun T' => T'.setTop (mkF m (pc + 1) Ls rest)) (fun vm0 locs X hx hby hZ hown eT hnm => Jvm.RoadKit.stC X hx hZ eT Ar (inb hj hj0 S hlt) (g := mkF m pc Ls (.int x :: .int j :: .ref a :: rest)) rfl rfl (hb hby hd)) (fun T' h' P' W => k T' h' P' W (Arv.set Ar q1 S N H G (fits_nar_char x) W i hj hi))
theorem Pos.stR (P : Pos p l e R s m args below meth c own nm bytes ml rt Z a0 EL h0 ws T h cells slots) {a : Addr} {kc : ClassId} {C : String} {z j : Int32} {y : Addr} {vs : List Value} {dv : Value} (A : Arv Z h a kc (.object C) z vs dv) (O : Ovr Z kc C) (I : Ins Z h y C true) (i : Nat) (hj : j.toNatClampNeg = i) (hj0 : ¬ j < 0) (hlt : i < z.toNatClampNeg) (hi : i < vs.length) (hd : decode bytes pc = .ok (.aastore, 1)) (hz : Z.heap.size ≤ a) (hws : a ∈ ws ∨ h0.size ≤ a)
    (k : ∀ T' h', Pos p l e R s m args below meth c own nm bytes ml rt Z a0 EL h0 ws T' h' cells slots → Wr h h' a j.toNatClampNeg (.ref y) → Arv Z h' a kc (.object C) z (vs.set i (.ref y)) dv → Go p e below Q (T'.setTop (mkF m (pc + 1) Ls rest))) : Go p e below Q (T.setTop (mkF m pc Ls (.ref y :: .int j :: .ref a :: rest))) := by
  obtain ⟨cl, Ar, q1, S, N, H, G⟩ := A
  refine P.wr (fun vm _ hal _ => Safe.arr hal Ar nofun) hz hws (V := fun T' => T'.setTop (mkF m (pc + 1) Ls rest)) (fun vm0 locs X hx hby hZ hown eT hnm => Jvm.RoadKit.stR X hx hZ eT Ar (inb hj hj0 S hlt) rfl (Sto.ofV Ar q1 O I) (g := mkF m pc Ls (.ref y :: .int j :: .ref a :: rest)) rfl rfl (hb hby hd)) (fun T' h' P' W => k T' h' P' W (Arv.set Ar q1 S N H G rfl W i hj hi))
/-- a String constant, opaque -/
theorem Pos.ldcO (P : Pos p l e R s m args below meth c own nm bytes ml rt Z a0 EL h0 ws T h cells slots) {text : String} {index n : Nat} (w : (Jvm.Cond.stringLink own index text).before a0 Z = true) (wS : ∀ a ∈ Bundle.stringAtoms, a.before a0 Z = true) (hd : decode bytes pc = .ok (.ldc index, 2)) (hn : 4 * text.toList.length ≤ n) (hbig : n ≤ 536870912) (hc : cells + 2 ≤ R.cells) (hl : slots + (n + 4) ≤ R.slots)
    (k : ∀ T' h' x, Pos p l e R s m args below meth c own nm bytes ml rt Z a0 EL h0 ws T' h' (cells + 2) (slots + (n + 4)) → Ext h h' → Go p e below Q (T'.setTop (mkF m (pc + 2) Ls (.ref x :: rest)))) : Go p e below Q (T.setTop (mkF m pc Ls rest)) := by
  obtain ⟨vm0, k0, locs, X, ⟨hx, hby, hml, hret, hlk, hnm, hh, hEL, hZs⟩, hZ, hown, hS, hk, eT, hC, N, K, O⟩ := P
  obtain ⟨a, T', h', k1, X', e', E, hS', hk', hZ', hown', hC', -, st⟩ := ldcOH X hx hZ hown w wS eT hS hk hEL hC.1 (g := mkF m pc Ls rest) rfl (hb hby hd) hn hbig hc hl
  exact (k T' h' a ⟨T'.vm, k1, locs, X', ⟨hx, hby, hml, hret, hlk, hnm, hh, hEL, hZs⟩, hZ', hown', hS', hk', e', hC.trans hC', N, K.ext E, ⟨Nat.le_trans O.1 E.1, fun a c q => E.2 _ _ (O.2 _ _ q)⟩⟩ E).of st
/-- a String constant, read -/
theorem Pos.ldcR (P : Pos p l e R s m args below meth c own nm bytes ml rt Z a0 EL h0 ws T h cells slots) {text : String} {index n : Nat} {vs : List Value} {z : Int32} (w : (Jvm.Cond.stringLink own index text).before a0 Z = true) (wS : ∀ a ∈ Bundle.stringAtoms, a.before a0 Z = true) (hmem : (own, index) ∈ EL) (ht : (∀ c ∈ text.toList, c.toNat < 256) ∧ text.toList.map (fun c => Value.int (Jvm.Lit.byteI c.toNat.toUInt16)) = vs) (hz : ¬ z < 0) (hl0 : z.toNatClampNeg = vs.length) (hd : decode bytes pc = .ok (.ldc index, 2)) (hn : 4 * text.toList.length ≤ n) (hbig : n ≤ 536870912) (hc : cells + 2 ≤ R.cells) (hl : slots + (n + 4) ≤ R.slots)
    (k : ∀ T' h' x b kb, Pos p l e R s m args below meth c own nm bytes ml rt Z a0 EL h0 ws T' h' (cells + 2) (slots + (n + 4)) → Ext h h' → Exa Z h' x "java/lang/String" → Fld Z h' x "java/lang/String" "coder" "B" (.int 0) → Fld Z h' x "java/lang/String" "value" "[B" (.ref b) → Arv Z h' b kb .byte z vs (.int 0) → Go p e below Q (T'.setTop (mkF m (pc + 2) Ls (.ref x :: rest)))) : Go p e below Q (T.setTop (mkF m pc Ls rest)) := by
  obtain ⟨vm0, k0, locs, X, ⟨hx, hby, hml, hret, hlk, hnm, hh, hEL, hZs⟩, hZ, hown, hS, hk, eT, hC, N, K, O⟩ := P
  obtain ⟨a, T', h', k1, b, kb, X', e', E, hS', hk', hZ', hown', f1, f2, f3, f4, -, -, hC', -, -, st⟩ := ldcCH X hx hZ hown w wS eT hS hk hEL hmem hC.1 ht hz hl0 (g := mkF m pc Ls rest) rfl (hb hby hd) hn hbig hc hl
  exact (k T' h' a b kb ⟨T'.vm, k1, locs, X', ⟨hx, hby, hml, hret, hlk, hnm, hh, hEL, hZs⟩, hZ', hown', hS', hk', e', hC.trans hC', N, K.ext E, ⟨Nat.le_trans O.1 E.1, fun a c q => E.2 _ _ (O.2 _ _ q)⟩⟩ E f1 f2 f3 f4).of st
/-- behind a call by contract: the point, all its facts -/
theorem Pos.after {vm0 : Vm} {k0 : Nat} {locs L : List Loc} {dc dn cc nn : Nat} {ws' : List Addr} {U : State} {LL : List Loc}
    (hR : p.tables.exec = Jvm.exec ∧ c.code = bytes ∧ c.maxLocals = ml ∧ meth.sig.returnType = rt ∧ meth.locks = false ∧ meth.name = nm ∧ s.heap = h0 ∧ EW Z a0 EL ∧ Z.Warmed39 s.vm) (hZ : Z.Warmed39 vm0) (hown : vm0.findClass own = some m.cls) (hS : s.Since vm0 k0) (hk : k0 ≤ h.size) (eT : T.heap = h) (hC : CHr Z EL s.vm h0 vm0 h) (N : Fr Z.heap.size locs) (K : Keep h0 h ws)
    (X' : Stand p l e R ((s.setVm vm0).setVm U.vm) m args below meth c U LL cc nn) (hS2 : (s.setVm vm0).Since U.vm U.heap.size) (g : T.heap.size ≤ U.heap.size) (hLL : LL = locs ++ L) (hcc : cc = cells + dc) (hnn : nn = slots + dn) (hC' : CHr Z EL vm0 h U.vm U.heap) (N' : Fr Z.heap.size L) (K' : Keep h U.heap ws') (O' : Ext Z.heap U.heap) (hws : ∀ x ∈ ws', x ∈ ws ∨ h0.size ≤ x) :
    Pos p l e R s m args below meth c own nm bytes ml rt Z a0 EL h0 ws U U.heap (cells + dc) (slots + dn) := by
  subst hLL hcc hnn
  rw [eT] at g
  obtain ⟨Y, hS3, hZ3, ho3⟩ := rebS hS hk X' hS2 g hZ hown
  exact ⟨U.vm, _, _, Y, hR, hZ3, ho3, hS3, Nat.le_refl _, rfl, hC.trans hC', N.app N', K.trans K' hws, O'⟩
theorem Pos.callS (P : Pos p l e R s m args below meth c own nm bytes ml rt Z a0 EL h0 ws T h cells slots) {index : Nat} {y : MethodName} {bytes' : ByteArray} {ml' W : Nat} {rt' : Option FieldType} {argsL stk : List Value} {ws' : List Addr} {ps : List FieldType} {r : Option FieldType}
    (w1 : (Jvm.Cond.methodLink own index y).before a0 Z = true) (w2 : (Jvm.Cond.static y).before a0 Z = true) (w3 : (Jvm.Cond.initialized y.cls).before a0 Z = true) (w4 : (Jvm.Cond.code y bytes' ml' rt').before a0 Z = true) (hy : y.cls ≠ "java/lang/invoke/MethodHandle" ∧ y.cls ≠ "java/lang/invoke/VarHandle")
    (C : Con l Z EL [] y bytes' ml' rt' rm argsL.toArray h ws' Qv) (hf : rm.frames + 1 ≤ R.frames) (hl : W + (ml' + 11) + rm.locals ≤ R.locals) (hc : cells + rm.cells ≤ R.cells) (hs : slots + rm.slots ≤ R.slots) (hws : ∀ x ∈ ws', x ∈ ws ∨ h0.size ≤ x)
    (pd : parseMethodDescriptor y.desc = some ⟨ps, r⟩) (hlen : argsL.length = ps.length) (hst : stk = argsL.reverse ++ rest) (hsz : Ls.size = ml) (hW : (rest.map fun v => v.category).sum ≤ W) (hd : decode bytes pc = .ok (.invokestatic index, 3))
    (k : ∀ v T' h', Pos p l e R s m args below meth c own nm bytes ml rt Z a0 EL h0 ws T' h' (cells + rm.cells) (slots + rm.slots) → Keep h h' ws' → Qv v h' → Go p e below Q (T'.setTop (mkF m (pc + 3) Ls (v.toList ++ rest)))) : Go p e below Q (T.setTop (mkF m pc Ls stk)) := by
  obtain ⟨vm0, k0, locs, X, hR, hZ, hown, hS, hk, eT, hC, N, K, O⟩ := P
  have hR' := hR
  obtain ⟨hx, hby, hml, hret, hlk, hnm, hh, hEL, hZs⟩ := hR'
  obtain ⟨v, _, ⟨U, LL, cc, nn⟩, -, X', hS2, hg, ⟨L, ⟨N', K', O', hQ⟩, hLL, hcc, hnn, hC'⟩, st⟩ := callSS X hx (y := y) hown (mvT (s := s.setVm vm0) hZ w1) (mvT (s := s.setVm vm0) hZ w2) (mvT (s := s.setVm vm0) hZ w3) (mvT (s := s.setVm vm0) hZ w4) hy (backOfSH (W := W) (vm0 := vm0) (Q := fun v h' L => Fr Z.heap.size L ∧ Keep h h' ws' ∧ Ext Z.heap h' ∧ Qv v h') C hZ w4 w3 hf hl hEL hC.1) (g := mkF m pc Ls stk) rfl (by rw [hml]; exact hsz) (argsL := argsL) (rest := rest) (lenOf pd hlen) hst (by show 2 * 0 + _ ≤ _; rw [Nat.mul_zero, Nat.zero_add]; exact hW) (hb hby hd) (fun _ _ => ⟨rfl, eT, hc, hs⟩)
  dsimp only at X' hS2 hg hLL hcc hnn hC' st N' K' O' hQ
  exact (k v U U.heap (Pos.after hR hZ hown hS hk eT hC N K X' hS2 hg hLL hcc hnn hC' N' K' O' hws) K' hQ).of (fun t q => st.trans q)
theorem Pos.callI (P : Pos p l e R s m args below meth c own nm bytes ml rt Z a0 EL h0 ws T h cells slots) {index : Nat} {y : MethodName} {bytes' : ByteArray} {ml' W : Nat} {a : Addr} {argsL stk : List Value} {ws' : List Addr} {ps : List FieldType} {r : Option FieldType} (hy1 : y.name = "<init>")
    (w1 : (Jvm.Cond.methodLink own index y).before a0 Z = true) (w2 : (Jvm.Cond.instanceMethod y).before a0 Z = true) (w3 : (Jvm.Cond.initialized y.cls).before a0 Z = true) (w4 : (Jvm.Cond.code y bytes' ml' none).before a0 Z = true) (hy : y.cls ≠ "java/lang/invoke/MethodHandle" ∧ y.cls ≠ "java/lang/invoke/VarHandle")
    (C : Con l Z EL [] y bytes' ml' none rm (.ref a :: argsL).toArray h ws' Qv) (hf : rm.frames + 1 ≤ R.frames) (hl : W + (ml' + 11) + rm.locals ≤ R.locals) (hc : cells + rm.cells ≤ R.cells) (hs : slots + rm.slots ≤ R.slots) (hws : ∀ x ∈ ws', x ∈ ws ∨ h0.size ≤ x)
    (pd : parseMethodDescriptor y.desc = some ⟨ps, r⟩) (hlen : argsL.length = ps.length) (hst : stk = argsL.reverse ++ .ref a :: rest) (hsz : Ls.size = ml) (hW : (rest.map fun v => v.category).sum ≤ W) (hd : decode bytes pc = .ok (.invokespecial index, 3))
    (k : ∀ v T' h', Pos p l e R s m args below meth c own nm bytes ml rt Z a0 EL h0 ws T' h' (cells + rm.cells) (slots + rm.slots) → Keep h h' ws' → Qv v h' → Go p e below Q (T'.setTop (mkF m (pc + 3) Ls (v.toList ++ rest)))) : Go p e below Q (T.setTop (mkF m pc Ls stk)) := by
  obtain ⟨vm0, k0, locs, X, hR, hZ, hown, hS, hk, eT, hC, N, K, O⟩ := P
  have hR' := hR
  obtain ⟨hx, hby, hml, hret, hlk, hnm, hh, hEL, hZs⟩ := hR'
  obtain ⟨v, _, ⟨U, LL, cc, nn⟩, -, X', hS2, hg, ⟨L, ⟨N', K', O', hQ⟩, hLL, hcc, hnn, hC'⟩, st⟩ := X.specialBackS hx (y := y) hy1 hown (mvT (s := s.setVm vm0) hZ w1) (mvT (s := s.setVm vm0) hZ w2) (mvT (s := s.setVm vm0) hZ w4) hy (backOfSH (W := W) (vm0 := vm0) (Q := fun v h' L => Fr Z.heap.size L ∧ Keep h h' ws' ∧ Ext Z.heap h' ∧ Qv v h') C hZ w4 w3 hf hl hEL hC.1) (g := mkF m pc Ls stk) rfl (by rw [hml]; exact hsz) (Steps.refl _) (a := a) (argsL := argsL) (rest := rest) (lenOf pd hlen) hst (by show 2 * 0 + _ ≤ _; rw [Nat.mul_zero, Nat.zero_add]; exact hW) (hb hby hd) (fun _ _ => ⟨rfl, eT, hc, hs⟩)
  dsimp only at X' hS2 hg hLL hcc hnn hC' st N' K' O' hQ
  exact (k v U U.heap (Pos.after hR hZ hown hS hk eT hC N K X' hS2 hg hLL hcc hnn hC' N' K' O' hws) K' hQ).of (fun t q => st.trans q)
theorem Pos.callV (P : Pos p l e R s m args below meth c own nm bytes ml rt Z a0 EL h0 ws T h cells slots) {index : Nat} {y z : MethodName} {bytes' : ByteArray} {ml' W : Nat} {rt' : Option FieldType} {C : String} {a : Addr} {argsL stk : List Value} {ws' : List Addr} {ps : List FieldType} {r : Option FieldType}
    (w1 : (Jvm.Cond.methodLink own index y).before a0 Z = true) (w2 : (Jvm.Cond.declares y).before a0 Z = true) (w5 : (Jvm.Cond.selects C y z).before a0 Z = true) (hnf : ∀ vm0, Z.Warmed39 vm0 → NotFace (s.setVm vm0) y) (w6 : (Jvm.Cond.instanceMethod z).before a0 Z = true) (w3 : (Jvm.Cond.initialized z.cls).before a0 Z = true) (w4 : (Jvm.Cond.code z bytes' ml' rt').before a0 Z = true) (hy : y.cls ≠ "java/lang/invoke/MethodHandle" ∧ y.cls ≠ "java/lang/invoke/VarHandle") (E : Exa Z h a C)
    (Cn : Con l Z EL [] z bytes' ml' rt' rm (.ref a :: argsL).toArray h ws' Qv) (hf : rm.frames + 1 ≤ R.frames) (hl : W + (ml' + 11) + rm.locals ≤ R.locals) (hc : cells + rm.cells ≤ R.cells) (hs : slots + rm.slots ≤ R.slots) (hws : ∀ x ∈ ws', x ∈ ws ∨ h0.size ≤ x)
    (pd : parseMethodDescriptor y.desc = some ⟨ps, r⟩) (hlen : argsL.length = ps.length) (hst : stk = argsL.reverse ++ .ref a :: rest) (hsz : Ls.size = ml) (hW : (rest.map fun v => v.category).sum ≤ W) (hd : decode bytes pc = .ok (.invokevirtual index, 3))
    (k : ∀ v T' h', Pos p l e R s m args below meth c own nm bytes ml rt Z a0 EL h0 ws T' h' (cells + rm.cells) (slots + rm.slots) → Keep h h' ws' → Qv v h' → Go p e below Q (T'.setTop (mkF m (pc + 3) Ls (v.toList ++ rest)))) : Go p e below Q (T.setTop (mkF m pc Ls stk)) := by
  obtain ⟨vm0, k0, locs, X, hR, hZ, hown, hS, hk, eT, hC, N, K, O⟩ := P
  have hR' := hR
  obtain ⟨hx, hby, hml, hret, hlk, hnm, hh, hEL, hZs⟩ := hR'
  obtain ⟨cq, kq, qa, qb, qc⟩ := isOf (s := s.setVm vm0) (T := T) hZ eT E
  obtain ⟨v, _, ⟨U, LL, cc, nn⟩, -, X', hS2, hg, ⟨L, ⟨N', K', O', hQ⟩, hLL, hcc, hnn, hC'⟩, st⟩ := X.virtualBackS hx (y := y) (z := z) hown (mvT (s := s.setVm vm0) hZ w1) (mvT (s := s.setVm vm0) hZ w2) (hnf vm0 hZ) (mvT (s := s.setVm vm0) hZ w5) (mvT (s := s.setVm vm0) hZ w6) hy (backOfSH (W := W) (vm0 := vm0) (Q := fun v h' L => Fr Z.heap.size L ∧ Keep h h' ws' ∧ Ext Z.heap h' ∧ Qv v h') Cn hZ w4 w3 hf hl hEL hC.1) qa qc (g := mkF m pc Ls stk) rfl (by rw [hml]; exact hsz) (Steps.refl _) (argsL := argsL) (rest := rest) (lenOf pd hlen) hst (by show 2 * 0 + _ ≤ _; rw [Nat.mul_zero, Nat.zero_add]; exact hW) (hb hby hd) (fun _ _ => ⟨rfl, eT, hc, hs⟩)
  dsimp only at X' hS2 hg hLL hcc hnn hC' st N' K' O' hQ
  exact (k v U U.heap (Pos.after hR hZ hown hS hk eT hC N K X' hS2 hg hLL hcc hnn hC' N' K' O' hws) K' hQ).of (fun t q => st.trans q)
theorem nfOf {y : MethodName} {C : String} (w5 : (Jvm.Cond.selects C y y).before a0 Z = true) : ∀ vm0, Z.Warmed39 vm0 → NotFace (s.setVm vm0) y := fun vm0 hZ => notFace_of_selects (args := #[]) (mvT (s := s.setVm vm0) hZ w5)
/-- behind a call by one of the library's payers (it interns nothing) -/
theorem Pos.afterB {vm0 : Vm} {k0 : Nat} {locs L : List Loc} {dc dn cc nn : Nat} {ws' : List Addr} {U : State} {LL : List Loc}
    (hR : p.tables.exec = Jvm.exec ∧ c.code = bytes ∧ c.maxLocals = ml ∧ meth.sig.returnType = rt ∧ meth.locks = false ∧ meth.name = nm ∧ s.heap = h0 ∧ EW Z a0 EL ∧ Z.Warmed39 s.vm) (hZ : Z.Warmed39 vm0) (hown : vm0.findClass own = some m.cls) (hS : s.Since vm0 k0) (hk : k0 ≤ h.size) (hC : CHr Z EL s.vm h0 vm0 h) (N : Fr Z.heap.size locs) (K : Keep h0 h ws) (O : Ext Z.heap h)
    (X' : Stand p l e R (s.setVm vm0) m args below meth c U LL cc nn) (hLL : LL = locs ++ L) (hcc : cc = cells + dc) (hnn : nn = slots + dn) (N' : Fr Z.heap.size L) (K' : Keep h U.heap ws') (hws : ∀ x ∈ ws', (x ∈ ws ∨ h0.size ≤ x) ∧ Z.heap.size ≤ x) (hsafe : ∀ vm, Z.vm.Alike s.vm → Z.vm.Alike vm → CHr Z EL s.vm h0 vm h → ∀ x ∈ ws', Safe Z EL vm h x) :
    Pos p l e R s m args below meth c own nm bytes ml rt Z a0 EL h0 ws U U.heap (cells + dc) (slots + dn) := by
  subst hLL hcc hnn
  exact ⟨vm0, k0, _, X', hR, hZ, hown, hS, Nat.le_trans hk K'.1, rfl, hC.trans (CHr.keep K' (hsafe vm0 hR.2.2.2.2.2.2.2.2.alike hZ.alike hC) hC.1), N.app N', K.trans K' (fun x hx => (hws x hx).1), (Old.keep (n0 := Z.heap.size) ⟨rfl, O⟩ K' (fun x hx => (hws x hx).2)).2⟩
theorem Pos.specB (P : Pos p l e R s m args below meth c own nm bytes ml rt Z a0 EL h0 ws T h cells slots) {index : Nat} {y : MethodName} {bytes' : ByteArray} {ml' W dc dn : Nat} {a : Addr} {argsL stk : List Value} {as' : Array Value} {ws' : List Addr} {ps : List FieldType} {r : Option FieldType} {Qx : Option Value → Heap → List Loc → Prop} (hy1 : y.name = "<init>")
    (w1 : (Jvm.Cond.methodLink own index y).before a0 Z = true) (w2 : (Jvm.Cond.instanceMethod y).before a0 Z = true) (w4 : (Jvm.Cond.code y bytes' ml' none).before a0 Z = true) (hy : y.cls ≠ "java/lang/invoke/MethodHandle" ∧ y.cls ≠ "java/lang/invoke/VarHandle")
    (B : ∀ vm0 : Vm, Z.Warmed39 (s.setVm vm0).vm → Back l R p e below (s.setVm vm0) args y 3 W (fun P a => a = as' ∧ P.U.heap = h ∧ P.cells + dc ≤ R.cells ∧ P.slots + dn ≤ R.slots) (fun P _ v B => ∃ L, Qx v B.U.heap L ∧ B.locs = P.locs ++ L ∧ B.cells = P.cells + dc ∧ B.slots = P.slots + dn)) (has : (.ref a :: argsL).toArray = as')
    (hQ : ∀ v h' L, Qx v h' L → Fr Z.heap.size L ∧ Keep h h' ws') (hc : cells + dc ≤ R.cells) (hs : slots + dn ≤ R.slots) (hws : ∀ x ∈ ws', (x ∈ ws ∨ h0.size ≤ x) ∧ Z.heap.size ≤ x) (hsafe : ∀ vm, Z.vm.Alike s.vm → Z.vm.Alike vm → CHr Z EL s.vm h0 vm h → ∀ x ∈ ws', Safe Z EL vm h x)
    (pd : parseMethodDescriptor y.desc = some ⟨ps, r⟩) (hlen : argsL.length = ps.length) (hst : stk = argsL.reverse ++ .ref a :: rest) (hsz : Ls.size = ml) (hW : (rest.map fun v => v.category).sum ≤ W) (hd : decode bytes pc = .ok (.invokespecial index, 3))
    (k : ∀ v T' h' L, Pos p l e R s m args below meth c own nm bytes ml rt Z a0 EL h0 ws T' h' (cells + dc) (slots + dn) → Qx v h' L → Go p e below Q (T'.setTop (mkF m (pc + 3) Ls (v.toList ++ rest)))) : Go p e below Q (T.setTop (mkF m pc Ls stk)) := by
  obtain ⟨vm0, k0, locs, X, hR, hZ, hown, hS, hk, eT, hC, N, K, O⟩ := P
  have hR' := hR
  obtain ⟨hx, hby, hml, hret, hlk, hnm, hh, hEL, hZs⟩ := hR'
  obtain ⟨v, _, ⟨U, LL, cc, nn⟩, -, X', ⟨L, hq, hLL, hcc, hnn⟩, st⟩ := X.specialBack hx (y := y) hy1 hown (mvT (s := s.setVm vm0) hZ w1) (mvT (s := s.setVm vm0) hZ w2) (mvT (s := s.setVm vm0) hZ w4) hy (B vm0 hZ) (g := mkF m pc Ls stk) rfl (by rw [hml]; exact hsz) (Steps.refl _) (a := a) (argsL := argsL) (rest := rest) (lenOf pd hlen) hst (by show 2 * 0 + _ ≤ _; rw [Nat.mul_zero, Nat.zero_add]; exact hW) (hb hby hd) (fun _ _ => ⟨has, eT, hc, hs⟩)
  dsimp only at X' hLL hcc hnn st hq
  obtain ⟨N', K'⟩ := hQ _ _ _ hq
  exact (k v U U.heap L (Pos.afterB hR hZ hown hS hk hC N K O X' hLL hcc hnn N' K' hws hsafe) hq).of (fun t q => st.trans q)
theorem Pos.virtB (P : Pos p l e R s m args below meth c own nm bytes ml rt Z a0 EL h0 ws T h cells slots) {index : Nat} {y z : MethodName} {W dc dn : Nat} {C : String} {a : Addr} {argsL stk : List Value} {as' : Array Value} {ws' : List Addr} {ps : List FieldType} {r : Option FieldType} {Qx : Option Value → Heap → List Loc → Prop}
    (w1 : (Jvm.Cond.methodLink own index y).before a0 Z = true) (w2 : (Jvm.Cond.declares y).before a0 Z = true) (w5 : (Jvm.Cond.selects C y z).before a0 Z = true) (hnf : ∀ vm0, Z.Warmed39 vm0 → NotFace (s.setVm vm0) y) (w6 : (Jvm.Cond.instanceMethod z).before a0 Z = true) (hy : y.cls ≠ "java/lang/invoke/MethodHandle" ∧ y.cls ≠ "java/lang/invoke/VarHandle") (E : Exa Z h a C)
    (B : ∀ vm0 : Vm, Z.Warmed39 (s.setVm vm0).vm → Back l R p e below (s.setVm vm0) args z 3 W (fun P a => a = as' ∧ P.U.heap = h ∧ P.cells + dc ≤ R.cells ∧ P.slots + dn ≤ R.slots) (fun P _ v B => ∃ L, Qx v B.U.heap L ∧ B.locs = P.locs ++ L ∧ B.cells = P.cells + dc ∧ B.slots = P.slots + dn)) (has : (.ref a :: argsL).toArray = as')
    (hQ : ∀ v h' L, Qx v h' L → Fr Z.heap.size L ∧ Keep h h' ws') (hc : cells + dc ≤ R.cells) (hs : slots + dn ≤ R.slots) (hws : ∀ x ∈ ws', (x ∈ ws ∨ h0.size ≤ x) ∧ Z.heap.size ≤ x) (hsafe : ∀ vm, Z.vm.Alike s.vm → Z.vm.Alike vm → CHr Z EL s.vm h0 vm h → ∀ x ∈ ws', Safe Z EL vm h x)
    (pd : parseMethodDescriptor y.desc = some ⟨ps, r⟩) (hlen : argsL.length = ps.length) (hst : stk = argsL.reverse ++ .ref a :: rest) (hsz : Ls.size = ml) (hW : (rest.map fun v => v.category).sum ≤ W) (hd : decode bytes pc = .ok (.invokevirtual index, 3))
    (k : ∀ v T' h' L, Pos p l e R s m args below meth c own nm bytes ml rt Z a0 EL h0 ws T' h' (cells + dc) (slots + dn) → Qx v h' L → Go p e below Q (T'.setTop (mkF m (pc + 3) Ls (v.toList ++ rest)))) : Go p e below Q (T.setTop (mkF m pc Ls stk)) := by
  obtain ⟨vm0, k0, locs, X, hR, hZ, hown, hS, hk, eT, hC, N, K, O⟩ := P
  have hR' := hR
  obtain ⟨hx, hby, hml, hret, hlk, hnm, hh, hEL, hZs⟩ := hR'
  obtain ⟨cq, kq, qa, qb, qc⟩ := isOf (s := s.setVm vm0) (T := T) hZ eT E
  obtain ⟨v, _, ⟨U, LL, cc, nn⟩, -, X', ⟨L, hq, hLL, hcc, hnn⟩, st⟩ := X.virtualBack hx (y := y) (z := z) hown (mvT (s := s.setVm vm0) hZ w1) (mvT (s := s.setVm vm0) hZ w2) (hnf vm0 hZ) (mvT (s := s.setVm vm0) hZ w5) (mvT (s := s.setVm vm0) hZ w6) hy (B vm0 hZ) qa qc (g := mkF m pc Ls stk) rfl (by rw [hml]; exact hsz) (Steps.refl _) (argsL := argsL) (rest := rest) (lenOf pd hlen) hst (by show 2 * 0 + _ ≤ _; rw [Nat.mul_zero, Nat.zero_add]; exact hW) (hb hby hd) (fun _ _ => ⟨has, eT, hc, hs⟩)
  dsimp only at X' hLL hcc hnn st hq
  obtain ⟨N', K'⟩ := hQ _ _ _ hq
  exact (k v U U.heap L (Pos.afterB hR hZ hown hS hk hC N K O X' hLL hcc hnn N' K' hws hsafe) hq).of (fun t q => st.trans q)
theorem Pos.alen (P : Pos p l e R s m args below meth c own nm bytes ml rt Z a0 EL h0 ws T h cells slots) {a : Addr} {kc : ClassId} {ty : FieldType} {z : Int32} {vs : List Value} {dv : Value} (A : Arv Z h a kc ty z vs dv) (hd : decode bytes pc = .ok (.arraylength, 1))
    (g : Go p e below Q (T.setTop (mkF m (pc + 1) Ls (.int z :: rest)))) : Go p e below Q (T.setTop (mkF m pc Ls (.ref a :: rest))) := by
  obtain ⟨vm0, k0, locs, X, ⟨hx, hby, hml, hret, hlk, hnm, hh, hEL, hZs⟩, hZ, hown, hS, hk, eT, -⟩ := P
  obtain ⟨cl, Ar, q1, S, N, -, -⟩ := A
  exact g.of fun t k => X.arraylength hx (by rw [eT]; exact Ar.1) (State.isArrayOf_alike (T := s.setVm vm0) hZ.alike Ar.2.1) (g := mkF m pc Ls (.ref a :: rest)) rfl rfl (hb hby hd) _ (by rw [len_of S N]; exact k)
theorem Pos.ldc2 (P : Pos p l e R s m args below meth c own nm bytes ml rt Z a0 EL h0 ws T h cells slots) {index : Nat} {v : Int64} (w : (Jvm.Cond.constantLong own index v).before a0 Z = true) (hd : decode bytes pc = .ok (.ldc2_w index, 3))
    (g : Go p e below Q (T.setTop (mkF m (pc + 3) Ls (.long v :: rest)))) : Go p e below Q (T.setTop (mkF m pc Ls rest)) := by
  obtain ⟨vm0, k0, locs, X, ⟨hx, hby, hml, hret, hlk, hnm, hh, hEL, hZs⟩, hZ, hown, -⟩ := P
  exact g.of fun t k => X.ldc2Long hx hown (mvT (s := s.setVm vm0) hZ w) (g := mkF m pc Ls rest) rfl (hb hby hd) _ k
theorem Pos.ldcI (P : Pos p l e R s m args below meth c own nm bytes ml rt Z a0 EL h0 ws T h cells slots) {index : Nat} {v : Int32} (w : (Jvm.Cond.constant own index v).before a0 Z = true) (hd : decode bytes pc = .ok (.ldc index, 2))
    (g : Go p e below Q (T.setTop (mkF m (pc + 2) Ls (.int v :: rest)))) : Go p e below Q (T.setTop (mkF m pc Ls rest)) := by
  obtain ⟨vm0, k0, locs, X, ⟨hx, hby, hml, hret, hlk, hnm, hh, hEL, hZs⟩, hZ, hown, -⟩ := P
  exact g.of fun t k => X.ldcInt hx hown (mvT (s := s.setVm vm0) hZ w) (g := mkF m pc Ls rest) rfl (hb hby hd) _ k
theorem Pos.aald (P : Pos p l e R s m args below meth c own nm bytes ml rt Z a0 EL h0 ws T h cells slots) {a : Addr} {kc : ClassId} {ty : FieldType} {z j : Int32} {vs : List Value} {dv v : Value} (A : Arv Z h a kc ty z vs dv) (hty : ty.isReference = true) (hj0 : ¬ j < 0) (hlt : j.toNatClampNeg < z.toNatClampNeg) (hv : vs.getD j.toNatClampNeg dv = v) (hd : decode bytes pc = .ok (.aaload, 1))
    (g : Go p e below Q (T.setTop (mkF m (pc + 1) Ls (v :: rest)))) : Go p e below Q (T.setTop (mkF m pc Ls (.int j :: .ref a :: rest))) := by
  obtain ⟨vm0, k0, locs, X, ⟨hx, hby, hml, hret, hlk, hnm, hh, hEL, hZs⟩, hZ, hown, hS, hk, eT, -⟩ := P
  obtain ⟨cl, Ar, q1, S, N, H, -⟩ := A
  have hin : ¬ (j < 0 ∨ cl.slots.size ≤ j.toNatClampNeg) := inb rfl hj0 S hlt
  exact g.of fun t k => X.aaload hx (by rw [eT]; exact Ar.1) (State.isArrayOf_alike (T := s.setVm vm0) hZ.alike Ar.2.1) hty Ar.2.2 hin (H.at hin hv) (g := mkF m pc Ls (.int j :: .ref a :: rest)) rfl rfl (hb hby hd) _ k
theorem Pos.cald (P : Pos p l e R s m args below meth c own nm bytes ml rt Z a0 EL h0 ws T h cells slots) {a : Addr} {kc : ClassId} {z j : Int32} {vs : List Value} {dv v : Value} (A : Arv Z h a kc .char z vs dv) (hj0 : ¬ j < 0) (hlt : j.toNatClampNeg < z.toNatClampNeg) (hv : vs.getD j.toNatClampNeg dv = v) (hd : decode bytes pc = .ok (.caload, 1))
    (g : Go p e below Q (T.setTop (mkF m (pc + 1) Ls (v :: rest)))) : Go p e below Q (T.setTop (mkF m pc Ls (.int j :: .ref a :: rest))) := by
  obtain ⟨vm0, k0, locs, X, ⟨hx, hby, hml, hret, hlk, hnm, hh, hEL, hZs⟩, hZ, hown, hS, hk, eT, -⟩ := P
  obtain ⟨cl, Ar, q1, S, N, H, -⟩ := A
  have hin : ¬ (j < 0 ∨ cl.slots.size ≤ j.toNatClampNeg) := inb rfl hj0 S hlt
  exact g.of fun t k => X.caload hx (by rw [eT]; exact Ar.1) (State.isArrayOf_alike (T := s.setVm vm0) hZ.alike Ar.2.1) Ar.2.2 hin (H.at hin hv) (g := mkF m pc Ls (.int j :: .ref a :: rest)) rfl rfl (hb hby hd) _ k
/-- a new byte array: it is no literal's -/
theorem Pos.newPB (P : Pos p l e R s m args below meth c own nm bytes ml rt Z a0 EL h0 ws T h cells slots) {n : Int32} {cap : Nat} (w : (Jvm.Cond.arrayClass .byte).before a0 Z = true) (hd : decode bytes pc = .ok (.newarray .byte, 2)) (hn : ¬ n < 0) (hcap : n.toNatClampNeg ≤ cap) (hb8 : cap * 8 ≤ 536870912) (hc : cells + 1 ≤ R.cells) (hl : slots + cap ≤ R.slots)
    (k : ∀ T' h' x cA vm, x = h.size → PosV p l e R s m args below meth c own nm bytes ml rt Z a0 EL h0 ws T' h' (cells + 1) (slots + cap) vm → Safe Z EL vm h' x → Ext h h' → Arv Z h' x cA .byte n [] (.int 0) → Go p e below Q (T'.setTop (mkF m (pc + 2) Ls (.ref x :: rest)))) : Go p e below Q (T.setTop (mkF m pc Ls (.int n :: rest))) := by
  obtain ⟨vm0, k0, locs, X, ⟨hx, hby, hml, hret, hlk, hnm, hh, hEL, hZs⟩, hZ, hown, hS, hk, eT, hC, N, K, O⟩ := P
  obtain ⟨T', h', cA, X', e', E, A, st⟩ := Jvm.RoadKit.newP (aty := .byte) X hx hZ w eT (g := mkF m pc Ls (.int n :: rest)) rfl (hb hby hd) rfl hn hcap hb8 hc hl
  exact (k T' h' _ cA vm0 rfl ⟨k0, locs, X', ⟨hx, hby, hml, hret, hlk, hnm, hh, hEL, hZs⟩, hZ, hown, hS, Nat.le_trans hk E.1, e', hC.trans (CHr.ext E hC.1), N, K.ext E, ⟨Nat.le_trans O.1 E.1, fun a c q => E.2 _ _ (O.2 _ _ q)⟩⟩ (Safe.ext E hC.1 (Safe.new (Nat.le_refl _))) E (Arv.new A hn)).of st
theorem posStB {vm : Vm} (P : PosV p l e R s m args below meth c own nm bytes ml rt Z a0 EL h0 ws T h cells slots vm) {a : Addr} {kc : ClassId} {z j x x' : Int32} {vs : List Value} {dv : Value} (hsf : Safe Z EL vm h a) (A : Arv Z h a kc .byte z vs dv) (i : Nat) (hj : j.toNatClampNeg = i) (hj0 : ¬ j < 0) (hlt : i < z.toNatClampNeg) (hi : i < vs.length) (hx' : nar .byte x = x') (hd : decode bytes pc = .ok (.bastore, 1)) (hz : Z.heap.size ≤ a) (hws : a ∈ ws ∨ h0.size ≤ a)
    (k : ∀ T' h', Pos p l e R s m args below meth c own nm bytes ml rt Z a0 EL h0 ws T' h' cells slots → Wr h h' a j.toNatClampNeg (.int x') → Arv Z h' a kc .byte z (vs.set i (.int x')) dv → Go p e below Q (T'.setTop (mkF m (pc + 1) Ls rest))) : Go p e below Q (T.setTop (mkF m pc Ls (.int x :: .int j :: .ref a :: rest))) := by
  obtain ⟨cl, Ar, q1, S, N', H, G⟩ := A
  subst hx'
  obtain ⟨k0, locs, X, ⟨hx, hby, hml, hret, hlk, hnm, hh, hEL, hZs⟩, hZ, hown, hS, hk, eT, hC, N, K, O⟩ := P
  obtain ⟨T', h', X', e', W, st⟩ := Jvm.RoadKit.stB X hx hZ eT Ar (inb hj hj0 S hlt) (g := mkF m pc Ls (.int x :: .int j :: .ref a :: rest)) rfl rfl (hb hby hd)
  exact (k T' h' ⟨vm, k0, _, X', ⟨hx, hby, hml, hret, hlk, hnm, hh, hEL, hZs⟩, hZ, hown, hS, Nat.le_trans hk (Nat.le_of_eq W.size.symm), e', hC.trans (CHr.wr W hsf hC.1), Fr.snoc X' N hz, K.wr W hws, (Old.wr (n0 := Z.heap.size) ⟨rfl, O⟩ W hz).2⟩ W (Arv.set Ar q1 S N' H G (fits_nar_byte x) W i hj hi)).of st
end Own
section Own2
theorem nin0 {x : Addr} : x ∉ ([] : List Addr) := fun q => nomatch q
theorem ninS {x a : Addr} {ws : List Addr} (h : x ≠ a) (r : x ∉ ws) : x ∉ a :: ws := fun q => (List.mem_cons.mp q).elim h r
theorem narR {t : FieldType} {v : Value} (h : v.isRef = true) : narrow t v = v := by cases v <;> first | (simp [Value.isRef] at h; done) | (cases t <;> rfl)
theorem fitR {C : String} {v : Value} (h : v.isRef = true) : fits (.object C) v = true := by cases v <;> first | (simp [Value.isRef] at h; done) | rfl
theorem mask255 (x : Int32) : ∃ k : Fin 256, (x &&& 255) = Int32.ofNat k.val := by
  have h : (x &&& 255).toBitVec.toNat < 256 := by
    simp only [Int32.toBitVec_and, BitVec.toNat_and]
    exact Nat.lt_succ_of_le Nat.and_le_right
  refine ⟨⟨_, h⟩, ?_⟩
  apply Int32.toBitVec_inj.mp
  show _ = BitVec.ofNat 32 _
  rw [BitVec.ofNat_toNat]; simp
/-- (char) (x & 255): from 0 to 255, and a char -/
theorem chr255 {x y : Int32} (h : ((x &&& (255 : Int32)).toUInt32.toUInt16.toUInt32.toInt32) = y) : (¬ y < 0 ∧ ¬ (255 : Int32) < y) ∧ nar .char y = y := by
  subst h
  have t : ∀ k : Fin 256, (¬ ((Int32.ofNat k.val).toUInt32.toUInt16.toUInt32.toInt32) < 0 ∧ ¬ (255 : Int32) < ((Int32.ofNat k.val).toUInt32.toUInt16.toUInt32.toInt32)) ∧ nar .char ((Int32.ofNat k.val).toUInt32.toUInt16.toUInt32.toInt32) = ((Int32.ofNat k.val).toUInt32.toUInt16.toUInt32.toInt32) := by decide +kernel
  obtain ⟨k, e⟩ := mask255 x
  rw [e]; exact t k
theorem upC (cs : List Int32) (h : ∀ c ∈ cs, ¬ c < 0 ∧ ¬ (255 : Int32) < c) : ∀ c ∈ cs, ¬ c < 0 ∧ ¬ (65535 : Int32) < c := fun c hc => ⟨(h c hc).1, fun q => (h c hc).2 (by rw [Int32.lt_iff_toInt_lt] at q ⊢; have e1 : (65535 : Int32).toInt = 65535 := rfl; have e2 : (255 : Int32).toInt = 255 := rfl; omega)⟩
theorem lat0 : ∀ c ∈ ([] : List Int32), ¬ c < 0 ∧ ¬ (255 : Int32) < c := fun _ q => nomatch q
theorem latS {x : Int32} {cs : List Int32} (h : ¬ x < 0 ∧ ¬ (255 : Int32) < x) (r : ∀ c ∈ cs, ¬ c < 0 ∧ ¬ (255 : Int32) < c) : ∀ c ∈ x :: cs, ¬ c < 0 ∧ ¬ (255 : Int32) < c := fun c q => (List.mem_cons.mp q).elim (fun e => e ▸ h) (r c)
/-- a String whose value is not laid yet is no literal -/
theorem safeNull {Z : State} {EL : List (String × Nat)} {vm : Vm} {h : Heap} {x : Addr} (hal : Z.vm.Alike vm) (E : Exa Z h x "java/lang/String") (F : Fld Z h x "java/lang/String" "value" "[B" .null) : Safe Z EL vm h x := fun B => by
  obtain ⟨cell, k, e1, e2, e3, -, -⟩ := E
  obtain ⟨cell', cf, kf, i, f, f1, f2, f3, f4, f5, f6, f7⟩ := F
  cases e1.symm.trans f1
  obtain ⟨p, -, u, a, -, q, -, G, rfl | rfl⟩ := B
  · cases (show h[q.sa]? = some q.sC from G.ha).symm.trans e1
    obtain ⟨cS, ⟨⟨-, -, -, ⟨c1, k1, i1, g1, -⟩, -, -, -, v1, -⟩, -⟩, -⟩ := G
    obtain ⟨k', z⟩ := ff_back (U := Wst Z vm h) hal g1
    have e4 := z.symm.trans f2
    simp only [Option.some.injEq, Prod.mk.injEq] at e4
    rw [e4.2.2.2, f7] at v1
    cases v1
  · cases (show h[q.sd]? = some q.SA from G.hd).symm.trans e1
    obtain ⟨cS, -, -, g, -⟩ := G
    have g' : vm.findClass "[B" = some q.SA.cls := g
    rw [hal.findClass] at g'
    obtain ⟨k1, q1, q2⟩ := Vm.findClass_spec g'
    obtain ⟨k2, q3, q4⟩ := Vm.findClass_spec e2
    cases q1.symm.trans q3
    exact absurd (q2.symm.trans q4) (by decide)
theorem safe1 {Z : State} {EL : List (String × Nat)} {vm : Vm} {h : Heap} {x : Addr} (S : Safe Z EL vm h x) : ∀ y ∈ [x], Safe Z EL vm h y := fun y q => by cases List.mem_singleton.mp q; exact S
theorem ieq {x y : Int32} (h : x.toInt = y.toInt) : x = y := Int32.toInt_inj.mp h
theorem narB (x : Int32) : nar .byte (x.toInt8.toInt32) = x.toInt8.toInt32 := by simp [nar]
end Own2
section Own3
/-- x is a String of the chars cs -/
def Str (Z : State) (h : Heap) (x : Addr) (cs : List Int32) : Prop := Exa Z h x "java/lang/String" ∧ (∀ c ∈ cs, ¬ c < 0 ∧ ¬ (65535 : Int32) < c) ∧ cs.length ≤ 4000 ∧ ∃ (t : Addr) (kb : ClassId) (cd N2 : Int32) (vs : List Value), Fld Z h x "java/lang/String" "value" "[B" (.ref t) ∧ Fld Z h x "java/lang/String" "coder" "B" (.int cd) ∧ Arv Z h t kb .byte N2 vs (.int 0) ∧ StrChars.Road.CodA cs cd N2 vs
/-- a is no byte array -/
def NB (Z : State) (h : Heap) (a : Addr) : Prop := (∃ (C : String) (n : Nat) (a0 : Array Value), Exa Z h a C ∧ (Jvm.Cond.instantiable C n).before a0 Z = true) ∨ ∃ (cl : Cell) (ty : FieldType), Arr Z h a cl ty ∧ ty ≠ .byte
theorem NB.ne {Z : State} {h : Heap} {a t : Addr} {k : ClassId} {z : Int32} {vs : List Value} {d : Value} (N : NB Z h a) (A : Arv Z h t k .byte z vs d) : t ≠ a := by
  rcases N with ⟨C, n, a0, E, w⟩ | ⟨cl, ty, B, hty⟩
  · exact Ne.symm (Exa.neArv E A w)
  · rintro rfl
    obtain ⟨cl', ⟨A1, ⟨-, kA, hkA, compA, hkindA⟩, -⟩, -⟩ := A
    obtain ⟨B1, ⟨-, kB, hkB, compB, hkindB⟩, -⟩ := B
    cases A1.symm.trans B1
    cases hkA.symm.trans hkB
    have := hkindA.symm.trans hkindB
    injection this with _ e
    exact hty e.symm
theorem nbE {Z : State} {h : Heap} {a : Addr} {C : String} {n : Nat} {a0 : Array Value} (E : Exa Z h a C) (w : (Jvm.Cond.instantiable C n).before a0 Z = true) : NB Z h a := Or.inl ⟨C, n, a0, E, w⟩
theorem nbA {Z : State} {h : Heap} {a : Addr} {k : ClassId} {ty : FieldType} {z : Int32} {vs : List Value} {d : Value} (A : Arv Z h a k ty z vs d) (q : ty ≠ .byte) : NB Z h a := by obtain ⟨cl, B, -⟩ := A; exact Or.inr ⟨cl, ty, B, q⟩
theorem Str.lt {Z : State} {h : Heap} {x : Addr} {cs : List Int32} (S : Str Z h x cs) : x < h.size := S.1.lt
theorem Str.ext {Z : State} {h h' : Heap} {x : Addr} {cs : List Int32} (S : Str Z h x cs) (E : Ext h h') : Str Z h' x cs := by
  obtain ⟨s1, s2, s3, t, kb, cd, N2, vs, s4, s5, s6, s7⟩ := S
  exact ⟨s1.ext E, s2, s3, t, kb, cd, N2, vs, s4.ext E, s5.ext E, s6.ext E, s7⟩
theorem Str.keep {Z : State} {h h' : Heap} {x : Addr} {cs : List Int32} {ws : List Addr} (S : Str Z h x cs) (K : Keep h h' ws) (q : ∀ a ∈ ws, x ≠ a ∧ NB Z h a) : Str Z h' x cs := by
  obtain ⟨s1, s2, s3, t, kb, cd, N2, vs, s4, s5, s6, s7⟩ := S
  have n1 : x ∉ ws := fun m => (q x m).1 rfl
  have n2 : t ∉ ws := fun m => (q t m).2.ne s6 rfl
  exact ⟨s1.keep K, s2, s3, t, kb, cd, N2, vs, s4.keep K n1, s5.keep K n1, s6.keep K n2, s7⟩
theorem Str.wr {Z : State} {h h' : Heap} {x a : Addr} {cs : List Int32} {sl : Nat} {v : Value} (S : Str Z h x cs) (W : Wr h h' a sl v) (q1 : x ≠ a) (q2 : NB Z h a) : Str Z h' x cs := S.keep (Keep.of_wr W) (allS ⟨q1, q2⟩ all0)
theorem strOf {Z : State} {h : Heap} {x t : Addr} {kb : ClassId} {cs : List Int32} {n : Nat} (hn : cs.length = n) (hb : ∀ c ∈ cs, ¬ c < 0 ∧ ¬ (255 : Int32) < c) (h4 : n ≤ 4000) (E : Exa Z h x "java/lang/String") (C : Fld Z h x "java/lang/String" "coder" "B" (.int 0)) (V : Fld Z h x "java/lang/String" "value" "[B" (.ref t)) (B : Arv Z h t kb .byte (Int32.ofNat n) ((cs.map (fun c => c.toInt8.toInt32)).map Value.int) (.int 0)) : Str Z h x cs :=
  ⟨E, upC cs hb, by rw [hn]; exact h4, t, kb, 0, _, _, V, C, B, StrChars.Road.codOf hn (fun c hc => (hb c hc).2)⟩
theorem strE {Z : State} {h : Heap} {x t : Addr} {kb : ClassId} (E : Exa Z h x "java/lang/String") (C : Fld Z h x "java/lang/String" "coder" "B" (.int 0)) (V : Fld Z h x "java/lang/String" "value" "[B" (.ref t)) (B : Arv Z h t kb .byte (0 : Int32) [] (.int 0)) : Str Z h x [] :=
  strOf (n := 0) rfl lat0 (by decide) E C V B
end Own3
section Own4
variable {p : Program} {l : Launch} {e : Env} {R rm : Room} {s : State} {m : MethodId} {args : Array Value} {below : List Frame} {meth : Method} {c : Code} {own nm : String} {bytes : ByteArray} {ml : Nat} {rt : Option FieldType} {Z : State} {a0 : Array Value} {EL : List (String × Nat)} {h0 : Heap} {ws : List Addr} {T : State} {h h' : Heap} {cells slots : Nat} {Q : Outcome → State → Prop} {pc : Nat} {Ls : Array Slot} {rest : List Value}
/-- equals of two Strings of known chars -/
theorem Pos.strEq (P : Pos p l e R s m args below meth c own nm bytes ml rt Z a0 EL h0 ws T h cells slots) {index W : Nat} {x y : Addr} {cs ds : List Int32} {zc : Int32} {ps : List FieldType} {r : Option FieldType} {C : String}
    (w1 : (Jvm.Cond.methodLink own index (⟨C, "equals", "(Ljava/lang/Object;)Z"⟩ : MethodName)).before a0 Z = true) (w2 : (Jvm.Cond.declares (⟨C, "equals", "(Ljava/lang/Object;)Z"⟩ : MethodName)).before a0 Z = true) (w5 : (Jvm.Cond.selects "java/lang/String" (⟨C, "equals", "(Ljava/lang/Object;)Z"⟩ : MethodName) (⟨"java/lang/String", "equals", "(Ljava/lang/Object;)Z"⟩ : MethodName)).before a0 Z = true) (hnf : ∀ vm0, Z.Warmed39 vm0 → NotFace (s.setVm vm0) (⟨C, "equals", "(Ljava/lang/Object;)Z"⟩ : MethodName)) (w6 : (Jvm.Cond.instanceMethod (⟨"java/lang/String", "equals", "(Ljava/lang/Object;)Z"⟩ : MethodName)).before a0 Z = true) (hy : C ≠ "java/lang/invoke/MethodHandle" ∧ C ≠ "java/lang/invoke/VarHandle")
    (wq : ∀ d ∈ StrChars.Road.wordsEq, d.before a0 Z = true) (wi : (Jvm.Cond.instantiable "java/lang/String" 4).before a0 Z = true) (S0 : Sta Z Z.heap "java/lang/String" "COMPACT_STRINGS" "Z" (.int zc)) (Pz : ¬ zc = 0) (S1 : Str Z h x cs) (S2 : Str Z h y ds)
    (hf : 2 ≤ R.frames) (hl : W + 28 ≤ R.locals) (hc : cells + 0 ≤ R.cells) (hs : slots + 0 ≤ R.slots) (pd : parseMethodDescriptor "(Ljava/lang/Object;)Z" = some ⟨ps, r⟩) (hlen : 1 = ps.length) (hsz : Ls.size = ml) (hW : (rest.map fun v => v.category).sum ≤ W) (hd : decode bytes pc = .ok (.invokevirtual index, 3))
    (k1 : ∀ T', Pos p l e R s m args below meth c own nm bytes ml rt Z a0 EL h0 ws T' h cells slots → cs = ds → Go p e below Q (T'.setTop (mkF m (pc + 3) Ls (.int 1 :: rest))))
    (k0 : ∀ T', Pos p l e R s m args below meth c own nm bytes ml rt Z a0 EL h0 ws T' h cells slots → ¬ cs = ds → Go p e below Q (T'.setTop (mkF m (pc + 3) Ls (.int 0 :: rest)))) : Go p e below Q (T.setTop (mkF m pc Ls (.ref y :: .ref x :: rest))) := by
  have O := P.old
  obtain ⟨e1, b1, l1, t1, kb1, c1, n1, v1, F1, G1, A1, D1⟩ := S1
  obtain ⟨e2, b2, l2, t2, kb2, c2, n2, v2, F2, G2, A2, D2⟩ := S2
  refine P.virtB (W := W) (ws' := []) (Qx := fun v h' L => ((v = some (.int 1) ∧ cs = ds) ∨ (v = some (.int 0) ∧ ¬ cs = ds)) ∧ L = [] ∧ h' = h) w1 w2 w5 hnf w6 hy e1 (fun vm0 hZ => StrChars.Road.eqW (W := W) hZ wq (kI := 4) wi e1 F1 G1 A1 D1 b1 l1 e2 F2 G2 A2 D2 b2 l2 (S0.ext O) Pz hf hl) (argsL := [.ref y]) rfl (fun v h' L q => ⟨by rw [q.2.1]; exact Fr.nil _, by rw [q.2.2]; exact Keep.refl _ _⟩) hc hs all0 (fun _ _ _ _ => all0) pd hlen rfl hsz hW hd ?_
  intro v T' h' L P' q
  obtain ⟨q, -, hh⟩ := q
  rw [hh] at P'
  rcases q with ⟨rfl, q⟩ | ⟨rfl, q⟩
  · exact k1 T' P' q
  · exact k0 T' P' q
end Own4
section Own5
variable {p : Program} {l : Launch} {e : Env} {R rm : Room} {s : State} {m : MethodId} {args : Array Value} {below : List Frame} {meth : Method} {c : Code} {own nm : String} {bytes : ByteArray} {ml : Nat} {rt : Option FieldType} {Z : State} {a0 : Array Value} {EL : List (String × Nat)} {h0 : Heap} {ws : List Addr} {T : State} {h h' : Heap} {cells slots : Nat} {Q : Outcome → State → Prop} {pc : Nat} {Ls : Array Slot} {rest : List Value}
theorem noAsg {C S K : String} {n : Nat} (w : (Jvm.Cond.superclass C S).before a0 Z = true) (wr : (Jvm.Cond.noSuperclass S).before a0 Z = true) (wi : (Jvm.Cond.instantiable K n).before a0 Z = true) (h1 : C ≠ K) (h2 : S ≠ K) : ∃ c t, Z.vm.findClass C = some c ∧ Z.vm.findClass K = some t ∧ Z.vm.assignable c t = false := by
  obtain ⟨t, kt, g1, g2, g3, g4, -, -⟩ := Cond.instantiable_spec wi
  obtain ⟨c, f0⟩ := found_sup w
  obtain ⟨p, k, kp, f1, f2, f3, f4, f5, f6, f7⟩ := Cond.superclass_spec f0 w
  obtain ⟨o, ko, r1, r2, r3, r4, r5⟩ := Cond.noSuperclass_spec wr
  obtain rfl : o = p := Option.some.inj (r1.symm.trans f1)
  have n1 := ids_ne f0 g1 h1
  have n2 := ids_ne f1 g1 h2
  have hi : kt.isInterface = false := by
    cases hq : kt.isInterface with
    | false => rfl
    | true => rw [hq] at g4; simp at g4
  have n4 : ∀ fuel, Z.vm.isSubclassAux fuel o t = false := fun fuel => by
    cases fuel with
    | zero => rfl
    | succ f => simp [Vm.isSubclassAux, n2, r2, r3]
  have n3 : ∀ fuel, Z.vm.isSubclassAux fuel c t = false := fun fuel => by
    cases fuel with
    | zero => rfl
    | succ f => simp [Vm.isSubclassAux, n1, f2, f4, n4]
  refine ⟨c, t, f0, g1, ?_⟩
  show Z.vm.assignableAux (255 + 1) c t = false
  simp [Vm.assignableAux, n1, f2, g2, f5, g3, hi, Vm.isSubclass, n3]
theorem Pos.instN (P : Pos p l e R s m args below meth c own nm bytes ml rt Z a0 EL h0 ws T h cells slots) {K C : String} {index : Nat} (w : (Jvm.Cond.classLink own index K).before a0 Z = true) {a : Addr} (E : Exa Z h a C) (F : ∃ c t, Z.vm.findClass C = some c ∧ Z.vm.findClass K = some t ∧ Z.vm.assignable c t = false) (hd : decode bytes pc = .ok (.instanceof index, 3))
    (k : ∀ T', Pos p l e R s m args below meth c own nm bytes ml rt Z a0 EL h0 ws T' h cells slots → Go p e below Q (T'.setTop (mkF m (pc + 3) Ls (.int 0 :: rest)))) : Go p e below Q (T.setTop (mkF m pc Ls (.ref a :: rest))) :=
  P.same (V := fun T' => T'.setTop (mkF m (pc + 3) Ls (.int 0 :: rest))) (fun vm0 locs X hx hby hml hZ hown eT => instNo X hx hZ hown w eT E F (g := mkF m pc Ls (.ref a :: rest)) rfl rfl (hb hby hd)) k
theorem Pos.inst0 (P : Pos p l e R s m args below meth c own nm bytes ml rt Z a0 EL h0 ws T h cells slots) {index : Nat} (hd : decode bytes pc = .ok (.instanceof index, 3))
    (g : Go p e below Q (T.setTop (mkF m (pc + 3) Ls (.int 0 :: rest)))) : Go p e below Q (T.setTop (mkF m pc Ls (.null :: rest))) :=
  P.st (fun vm0 locs X hx hy t k => X.instanceofNull hx (g := mkF m pc Ls (.null :: rest)) rfl rfl (hb hy hd) _ k) g
end Own5
theorem wSt {Z : State} {a0 : Array Value} (hw : ∀ d ∈ tables_1, d.before a0 Z = true) : ∀ d ∈ Bundle.stringAtoms, d.before a0 Z = true := fun d hd => hw d ((by decide +kernel : ∀ d ∈ Bundle.stringAtoms, d ∈ tables_1) d hd)
theorem wStr {Z : State} {a0 : Array Value} (hw : ∀ d ∈ tables_1, d.before a0 Z = true) : ∀ d ∈ StrChars.Road.words, d.before a0 Z = true := fun d hd => hw d ((by decide +kernel : ∀ d ∈ StrChars.Road.words, d ∈ tables_1) d hd)
theorem wEq {Z : State} {a0 : Array Value} (hw : ∀ d ∈ tables_1, d.before a0 Z = true) : ∀ d ∈ StrChars.Road.wordsEq, d.before a0 Z = true := fun d hd => hw d ((by decide +kernel : ∀ d ∈ StrChars.Road.wordsEq, d ∈ tables_1) d hd)
theorem d1_0 : decode method_2_code 0 = .ok (.iload_n 0, 1) := by decide +kernel
theorem d1_1 : decode method_2_code 1 = .ok (.newarray .char, 2) := by decide +kernel
theorem d1_3 : decode method_2_code 3 = .ok (.astore_n 3, 1) := by decide +kernel
theorem d1_4 : decode method_2_code 4 = .ok (.iload_n 0, 1) := by decide +kernel
theorem d1_5 : decode method_2_code 5 = .ok (.ifCond .le 8, 3) := by decide +kernel
theorem d1_8 : decode method_2_code 8 = .ok (.aload_n 3, 1) := by decide +kernel
theorem d1_9 : decode method_2_code 9 = .ok (.iconst 0, 1) := by decide +kernel
theorem d1_10 : decode method_2_code 10 = .ok (.iload_n 1, 1) := by decide +kernel
theorem d1_11 : decode method_2_code 11 = .ok (.i2c, 1) := by decide +kernel
theorem d1_12 : decode method_2_code 12 = .ok (.castore, 1) := by decide +kernel
theorem d1_13 : decode method_2_code 13 = .ok (.iload_n 0, 1) := by decide +kernel
theorem d1_14 : decode method_2_code 14 = .ok (.iconst 1, 1) := by decide +kernel
theorem d1_15 : decode method_2_code 15 = .ok (.if_icmp .le 8, 3) := by decide +kernel
theorem d1_18 : decode method_2_code 18 = .ok (.aload_n 3, 1) := by decide +kernel
theorem d1_19 : decode method_2_code 19 = .ok (.iconst 1, 1) := by decide +kernel
theorem d1_20 : decode method_2_code 20 = .ok (.iload_n 2, 1) := by decide +kernel
theorem d1_21 : decode method_2_code 21 = .ok (.i2c, 1) := by decide +kernel
theorem d1_22 : decode method_2_code 22 = .ok (.castore, 1) := by decide +kernel
theorem d1_23 : decode method_2_code 23 = .ok (.aload_n 3, 1) := by decide +kernel
theorem d1_24 : decode method_2_code 24 = .ok (.areturn, 1) := by decide +kernel
theorem d2_0 : decode jdk_42_method_3_code 0 = .ok (.aload_n 0, 1) := by decide +kernel
theorem d2_1 : decode jdk_42_method_3_code 1 = .ok (.aload_n 1, 1) := by decide +kernel
theorem d2_2 : decode jdk_42_method_3_code 2 = .ok (.iconst 0, 1) := by decide +kernel
theorem d2_3 : decode jdk_42_method_3_code 3 = .ok (.aload_n 1, 1) := by decide +kernel
theorem d2_4 : decode jdk_42_method_3_code 4 = .ok (.arraylength, 1) := by decide +kernel
theorem d2_5 : decode jdk_42_method_3_code 5 = .ok (.aconst_null, 1) := by decide +kernel
theorem d2_6 : decode jdk_42_method_3_code 6 = .ok (.invokespecial 27, 3) := by decide +kernel
theorem d2_9 : decode jdk_42_method_3_code 9 = .ok (.return_, 1) := by decide +kernel
theorem d3_0 : decode jdk_42_method_149_code 0 = .ok (.aload_n 0, 1) := by decide +kernel
theorem d3_1 : decode jdk_42_method_149_code 1 = .ok (.invokespecial 1, 3) := by decide +kernel
theorem d3_4 : decode jdk_42_method_149_code 4 = .ok (.iload_n 3, 1) := by decide +kernel
theorem d3_5 : decode jdk_42_method_149_code 5 = .ok (.ifCond .ne 22, 3) := by decide +kernel
theorem d3_8 : decode jdk_42_method_149_code 8 = .ok (.aload_n 0, 1) := by decide +kernel
theorem d3_9 : decode jdk_42_method_149_code 9 = .ok (.ldc 7, 2) := by decide +kernel
theorem d3_11 : decode jdk_42_method_149_code 11 = .ok (.getfield 9, 3) := by decide +kernel
theorem d3_14 : decode jdk_42_method_149_code 14 = .ok (.putfield 9, 3) := by decide +kernel
theorem d3_17 : decode jdk_42_method_149_code 17 = .ok (.aload_n 0, 1) := by decide +kernel
theorem d3_18 : decode jdk_42_method_149_code 18 = .ok (.ldc 7, 2) := by decide +kernel
theorem d3_20 : decode jdk_42_method_149_code 20 = .ok (.getfield 15, 3) := by decide +kernel
theorem d3_23 : decode jdk_42_method_149_code 23 = .ok (.putfield 15, 3) := by decide +kernel
theorem d3_26 : decode jdk_42_method_149_code 26 = .ok (.return_, 1) := by decide +kernel
theorem d5_0 : decode prog_22_method_1_code 0 = .ok (.aload_n 0, 1) := by decide +kernel
theorem d5_1 : decode prog_22_method_1_code 1 = .ok (.invokespecial 1, 3) := by decide +kernel
theorem d5_4 : decode prog_22_method_1_code 4 = .ok (.iload_n 2, 1) := by decide +kernel
theorem d5_5 : decode prog_22_method_1_code 5 = .ok (.ifCond .ge 18, 3) := by decide +kernel
theorem d5_23 : decode prog_22_method_1_code 23 = .ok (.aload_n 0, 1) := by decide +kernel
theorem d5_24 : decode prog_22_method_1_code 24 = .ok (.aload_n 1, 1) := by decide +kernel
theorem d5_25 : decode prog_22_method_1_code 25 = .ok (.ldc 16, 2) := by decide +kernel
theorem d5_27 : decode prog_22_method_1_code 27 = .ok (.invokestatic 18, 3) := by decide +kernel
theorem d5_30 : decode prog_22_method_1_code 30 = .ok (.checkcast 24, 3) := by decide +kernel
theorem d5_33 : decode prog_22_method_1_code 33 = .ok (.putfield 26, 3) := by decide +kernel
theorem d5_36 : decode prog_22_method_1_code 36 = .ok (.aload_n 0, 1) := by decide +kernel
theorem d5_37 : decode prog_22_method_1_code 37 = .ok (.iload_n 2, 1) := by decide +kernel
theorem d5_38 : decode prog_22_method_1_code 38 = .ok (.putfield 31, 3) := by decide +kernel
theorem d5_41 : decode prog_22_method_1_code 41 = .ok (.aload_n 0, 1) := by decide +kernel
theorem d5_42 : decode prog_22_method_1_code 42 = .ok (.iconst 2, 1) := by decide +kernel
theorem d5_43 : decode prog_22_method_1_code 43 = .ok (.anewarray 2, 3) := by decide +kernel
theorem d5_46 : decode prog_22_method_1_code 46 = .ok (.dup, 1) := by decide +kernel
theorem d5_47 : decode prog_22_method_1_code 47 = .ok (.iconst 0, 1) := by decide +kernel
theorem d5_48 : decode prog_22_method_1_code 48 = .ok (.aload_n 1, 1) := by decide +kernel
theorem d5_49 : decode prog_22_method_1_code 49 = .ok (.aastore, 1) := by decide +kernel
theorem d5_50 : decode prog_22_method_1_code 50 = .ok (.dup, 1) := by decide +kernel
theorem d5_51 : decode prog_22_method_1_code 51 = .ok (.iconst 1, 1) := by decide +kernel
theorem d5_52 : decode prog_22_method_1_code 52 = .ok (.iload_n 2, 1) := by decide +kernel
theorem d5_53 : decode prog_22_method_1_code 53 = .ok (.invokestatic 35, 3) := by decide +kernel
theorem d5_56 : decode prog_22_method_1_code 56 = .ok (.aastore, 1) := by decide +kernel
theorem d5_57 : decode prog_22_method_1_code 57 = .ok (.invokestatic 41, 3) := by decide +kernel
theorem d5_60 : decode prog_22_method_1_code 60 = .ok (.putfield 45, 3) := by decide +kernel
theorem d5_63 : decode prog_22_method_1_code 63 = .ok (.return_, 1) := by decide +kernel
theorem d6_0 : decode jdk_31_method_11_code 0 = .ok (.aload_n 0, 1) := by decide +kernel
theorem d6_1 : decode jdk_31_method_11_code 1 = .ok (.ifnonnull 12, 3) := by decide +kernel
theorem d6_13 : decode jdk_31_method_11_code 13 = .ok (.aload_n 0, 1) := by decide +kernel
theorem d6_14 : decode jdk_31_method_11_code 14 = .ok (.areturn, 1) := by decide +kernel
theorem d7_0 : decode jdk_33_method_22_code 0 = .ok (.iload_n 0, 1) := by decide +kernel
theorem d7_1 : decode jdk_33_method_22_code 1 = .ok (.bipush (-128), 2) := by decide +kernel
theorem d7_3 : decode jdk_33_method_22_code 3 = .ok (.if_icmp .lt 20, 3) := by decide +kernel
theorem d7_6 : decode jdk_33_method_22_code 6 = .ok (.iload_n 0, 1) := by decide +kernel
theorem d7_7 : decode jdk_33_method_22_code 7 = .ok (.getstatic 191, 3) := by decide +kernel
theorem d7_10 : decode jdk_33_method_22_code 10 = .ok (.if_icmp .gt 13, 3) := by decide +kernel
theorem d7_13 : decode jdk_33_method_22_code 13 = .ok (.getstatic 195, 3) := by decide +kernel
theorem d7_16 : decode jdk_33_method_22_code 16 = .ok (.iload_n 0, 1) := by decide +kernel
theorem d7_17 : decode jdk_33_method_22_code 17 = .ok (.sipush 128, 3) := by decide +kernel
theorem d7_20 : decode jdk_33_method_22_code 20 = .ok (.iadd, 1) := by decide +kernel
theorem d7_21 : decode jdk_33_method_22_code 21 = .ok (.aaload, 1) := by decide +kernel
theorem d7_22 : decode jdk_33_method_22_code 22 = .ok (.areturn, 1) := by decide +kernel
theorem d7_23 : decode jdk_33_method_22_code 23 = .ok (.new 1, 3) := by decide +kernel
theorem d7_26 : decode jdk_33_method_22_code 26 = .ok (.dup, 1) := by decide +kernel
theorem d7_27 : decode jdk_33_method_22_code 27 = .ok (.iload_n 0, 1) := by decide +kernel
theorem d7_28 : decode jdk_33_method_22_code 28 = .ok (.invokespecial 199, 3) := by decide +kernel
theorem d7_31 : decode jdk_33_method_22_code 31 = .ok (.areturn, 1) := by decide +kernel
theorem d8_0 : decode jdk_31_method_5_code 0 = .ok (.aload_n 0, 1) := by decide +kernel
theorem d8_1 : decode jdk_31_method_5_code 1 = .ok (.invokestatic 28, 3) := by decide +kernel
theorem d8_4 : decode jdk_31_method_5_code 4 = .ok (.ireturn, 1) := by decide +kernel
theorem d9_0 : decode jdk_65_method_157_code 0 = .ok (.aload_n 0, 1) := by decide +kernel
theorem d9_1 : decode jdk_65_method_157_code 1 = .ok (.ifnonnull 5, 3) := by decide +kernel
theorem d9_6 : decode jdk_65_method_157_code 6 = .ok (.iconst 1, 1) := by decide +kernel
theorem d9_7 : decode jdk_65_method_157_code 7 = .ok (.istore_n 1, 1) := by decide +kernel
theorem d9_8 : decode jdk_65_method_157_code 8 = .ok (.aload_n 0, 1) := by decide +kernel
theorem d9_9 : decode jdk_65_method_157_code 9 = .ok (.astore_n 2, 1) := by decide +kernel
theorem d9_10 : decode jdk_65_method_157_code 10 = .ok (.aload_n 2, 1) := by decide +kernel
theorem d9_11 : decode jdk_65_method_157_code 11 = .ok (.arraylength, 1) := by decide +kernel
theorem d9_12 : decode jdk_65_method_157_code 12 = .ok (.istore_n 3, 1) := by decide +kernel
theorem d9_13 : decode jdk_65_method_157_code 13 = .ok (.iconst 0, 1) := by decide +kernel
theorem d9_14 : decode jdk_65_method_157_code 14 = .ok (.istore 4, 2) := by decide +kernel
theorem d9_16 : decode jdk_65_method_157_code 16 = .ok (.iload 4, 2) := by decide +kernel
theorem d9_18 : decode jdk_65_method_157_code 18 = .ok (.iload_n 3, 1) := by decide +kernel
theorem d9_19 : decode jdk_65_method_157_code 19 = .ok (.if_icmp .ge 35, 3) := by decide +kernel
theorem d9_22 : decode jdk_65_method_157_code 22 = .ok (.aload_n 2, 1) := by decide +kernel
theorem d9_23 : decode jdk_65_method_157_code 23 = .ok (.iload 4, 2) := by decide +kernel
theorem d9_25 : decode jdk_65_method_157_code 25 = .ok (.aaload, 1) := by decide +kernel
theorem d9_26 : decode jdk_65_method_157_code 26 = .ok (.astore 5, 2) := by decide +kernel
theorem d9_28 : decode jdk_65_method_157_code 28 = .ok (.bipush 31, 2) := by decide +kernel
theorem d9_30 : decode jdk_65_method_157_code 30 = .ok (.iload_n 1, 1) := by decide +kernel
theorem d9_31 : decode jdk_65_method_157_code 31 = .ok (.imul, 1) := by decide +kernel
theorem d9_32 : decode jdk_65_method_157_code 32 = .ok (.aload 5, 2) := by decide +kernel
theorem d9_34 : decode jdk_65_method_157_code 34 = .ok (.ifnonnull 7, 3) := by decide +kernel
theorem d9_41 : decode jdk_65_method_157_code 41 = .ok (.aload 5, 2) := by decide +kernel
theorem d9_43 : decode jdk_65_method_157_code 43 = .ok (.invokevirtual 383, 3) := by decide +kernel
theorem d9_46 : decode jdk_65_method_157_code 46 = .ok (.iadd, 1) := by decide +kernel
theorem d9_47 : decode jdk_65_method_157_code 47 = .ok (.istore_n 1, 1) := by decide +kernel
theorem d9_48 : decode jdk_65_method_157_code 48 = .ok (.iinc 4 1, 3) := by decide +kernel
theorem d9_51 : decode jdk_65_method_157_code 51 = .ok (.goto (-35), 3) := by decide +kernel
theorem d9_54 : decode jdk_65_method_157_code 54 = .ok (.iload_n 1, 1) := by decide +kernel
theorem d9_55 : decode jdk_65_method_157_code 55 = .ok (.ireturn, 1) := by decide +kernel
theorem d10_0 : decode jdk_42_method_78_code 0 = .ok (.aload_n 0, 1) := by decide +kernel
theorem d10_1 : decode jdk_42_method_78_code 1 = .ok (.getfield 19, 3) := by decide +kernel
theorem d10_4 : decode jdk_42_method_78_code 4 = .ok (.istore_n 1, 1) := by decide +kernel
theorem d10_5 : decode jdk_42_method_78_code 5 = .ok (.iload_n 1, 1) := by decide +kernel
theorem d10_6 : decode jdk_42_method_78_code 6 = .ok (.ifCond .ne 52, 3) := by decide +kernel
theorem d10_9 : decode jdk_42_method_78_code 9 = .ok (.aload_n 0, 1) := by decide +kernel
theorem d10_10 : decode jdk_42_method_78_code 10 = .ok (.getfield 23, 3) := by decide +kernel
theorem d10_13 : decode jdk_42_method_78_code 13 = .ok (.ifCond .ne 45, 3) := by decide +kernel
theorem d10_16 : decode jdk_42_method_78_code 16 = .ok (.aload_n 0, 1) := by decide +kernel
theorem d10_17 : decode jdk_42_method_78_code 17 = .ok (.invokevirtual 492, 3) := by decide +kernel
theorem d10_20 : decode jdk_42_method_78_code 20 = .ok (.ifCond .eq 13, 3) := by decide +kernel
theorem d10_23 : decode jdk_42_method_78_code 23 = .ok (.aload_n 0, 1) := by decide +kernel
theorem d10_24 : decode jdk_42_method_78_code 24 = .ok (.getfield 9, 3) := by decide +kernel
theorem d10_27 : decode jdk_42_method_78_code 27 = .ok (.invokestatic 628, 3) := by decide +kernel
theorem d10_30 : decode jdk_42_method_78_code 30 = .ok (.goto 10, 3) := by decide +kernel
theorem d10_40 : decode jdk_42_method_78_code 40 = .ok (.istore_n 1, 1) := by decide +kernel
theorem d10_41 : decode jdk_42_method_78_code 41 = .ok (.iload_n 1, 1) := by decide +kernel
theorem d10_42 : decode jdk_42_method_78_code 42 = .ok (.ifCond .ne 11, 3) := by decide +kernel
theorem d10_45 : decode jdk_42_method_78_code 45 = .ok (.aload_n 0, 1) := by decide +kernel
theorem d10_46 : decode jdk_42_method_78_code 46 = .ok (.iconst 1, 1) := by decide +kernel
theorem d10_47 : decode jdk_42_method_78_code 47 = .ok (.putfield 23, 3) := by decide +kernel
theorem d10_50 : decode jdk_42_method_78_code 50 = .ok (.goto 8, 3) := by decide +kernel
theorem d10_53 : decode jdk_42_method_78_code 53 = .ok (.aload_n 0, 1) := by decide +kernel
theorem d10_54 : decode jdk_42_method_78_code 54 = .ok (.iload_n 1, 1) := by decide +kernel
theorem d10_55 : decode jdk_42_method_78_code 55 = .ok (.putfield 19, 3) := by decide +kernel
theorem d10_58 : decode jdk_42_method_78_code 58 = .ok (.iload_n 1, 1) := by decide +kernel
theorem d10_59 : decode jdk_42_method_78_code 59 = .ok (.ireturn, 1) := by decide +kernel
theorem d11_0 : decode jdk_42_method_154_code 0 = .ok (.getstatic 38, 3) := by decide +kernel
theorem d11_3 : decode jdk_42_method_154_code 3 = .ok (.ifCond .eq 14, 3) := by decide +kernel
theorem d11_6 : decode jdk_42_method_154_code 6 = .ok (.aload_n 0, 1) := by decide +kernel
theorem d11_7 : decode jdk_42_method_154_code 7 = .ok (.getfield 15, 3) := by decide +kernel
theorem d11_10 : decode jdk_42_method_154_code 10 = .ok (.ifCond .ne 7, 3) := by decide +kernel
theorem d11_13 : decode jdk_42_method_154_code 13 = .ok (.iconst 1, 1) := by decide +kernel
theorem d11_14 : decode jdk_42_method_154_code 14 = .ok (.goto 4, 3) := by decide +kernel
theorem d11_18 : decode jdk_42_method_154_code 18 = .ok (.ireturn, 1) := by decide +kernel
theorem d12_0 : decode jdk_43_method_21_code 0 = .ok (.aload_n 0, 1) := by decide +kernel
theorem d12_1 : decode jdk_43_method_21_code 1 = .ok (.arraylength, 1) := by decide +kernel
theorem d12_2 : decode jdk_43_method_21_code 2 = .ok (.lookupswitch 40 #[(0, 26), (1, 30)], 26) := by decide +kernel
theorem d12_28 : decode jdk_43_method_21_code 28 = .ok (.iconst 0, 1) := by decide +kernel
theorem d12_29 : decode jdk_43_method_21_code 29 = .ok (.goto 22, 3) := by decide +kernel
theorem d12_32 : decode jdk_43_method_21_code 32 = .ok (.aload_n 0, 1) := by decide +kernel
theorem d12_33 : decode jdk_43_method_21_code 33 = .ok (.iconst 0, 1) := by decide +kernel
theorem d12_34 : decode jdk_43_method_21_code 34 = .ok (.baload, 1) := by decide +kernel
theorem d12_35 : decode jdk_43_method_21_code 35 = .ok (.sipush 255, 3) := by decide +kernel
theorem d12_38 : decode jdk_43_method_21_code 38 = .ok (.iand, 1) := by decide +kernel
theorem d12_39 : decode jdk_43_method_21_code 39 = .ok (.goto 12, 3) := by decide +kernel
theorem d12_42 : decode jdk_43_method_21_code 42 = .ok (.aload_n 0, 1) := by decide +kernel
theorem d12_43 : decode jdk_43_method_21_code 43 = .ok (.iconst 0, 1) := by decide +kernel
theorem d12_44 : decode jdk_43_method_21_code 44 = .ok (.aload_n 0, 1) := by decide +kernel
theorem d12_45 : decode jdk_43_method_21_code 45 = .ok (.arraylength, 1) := by decide +kernel
theorem d12_46 : decode jdk_43_method_21_code 46 = .ok (.iconst 0, 1) := by decide +kernel
theorem d12_47 : decode jdk_43_method_21_code 47 = .ok (.iconst 4, 1) := by decide +kernel
theorem d12_48 : decode jdk_43_method_21_code 48 = .ok (.invokestatic 84, 3) := by decide +kernel
theorem d12_51 : decode jdk_43_method_21_code 51 = .ok (.ireturn, 1) := by decide +kernel
theorem d13_0 : decode jdk_33_method_32_code 0 = .ok (.aload_n 0, 1) := by decide +kernel
theorem d13_1 : decode jdk_33_method_32_code 1 = .ok (.getfield 205, 3) := by decide +kernel
theorem d13_4 : decode jdk_33_method_32_code 4 = .ok (.invokestatic 208, 3) := by decide +kernel
theorem d13_7 : decode jdk_33_method_32_code 7 = .ok (.ireturn, 1) := by decide +kernel
theorem d14_0 : decode jdk_33_method_33_code 0 = .ok (.iload_n 0, 1) := by decide +kernel
theorem d14_1 : decode jdk_33_method_33_code 1 = .ok (.ireturn, 1) := by decide +kernel
theorem d15_0 : decode prog_22_method_4_code 0 = .ok (.aload_n 1, 1) := by decide +kernel
theorem d15_1 : decode prog_22_method_4_code 1 = .ok (.instanceof 27, 3) := by decide +kernel
theorem d15_4 : decode prog_22_method_4_code 4 = .ok (.ifCond .eq 37, 3) := by decide +kernel
theorem d15_7 : decode prog_22_method_4_code 7 = .ok (.aload_n 1, 1) := by decide +kernel
theorem d15_8 : decode prog_22_method_4_code 8 = .ok (.checkcast 27, 3) := by decide +kernel
theorem d15_11 : decode prog_22_method_4_code 11 = .ok (.astore_n 2, 1) := by decide +kernel
theorem d15_12 : decode prog_22_method_4_code 12 = .ok (.aload_n 0, 1) := by decide +kernel
theorem d15_13 : decode prog_22_method_4_code 13 = .ok (.getfield 31, 3) := by decide +kernel
theorem d15_16 : decode prog_22_method_4_code 16 = .ok (.aload_n 2, 1) := by decide +kernel
theorem d15_17 : decode prog_22_method_4_code 17 = .ok (.getfield 31, 3) := by decide +kernel
theorem d15_20 : decode prog_22_method_4_code 20 = .ok (.if_icmp .ne 21, 3) := by decide +kernel
theorem d15_23 : decode prog_22_method_4_code 23 = .ok (.aload_n 0, 1) := by decide +kernel
theorem d15_24 : decode prog_22_method_4_code 24 = .ok (.getfield 26, 3) := by decide +kernel
theorem d15_27 : decode prog_22_method_4_code 27 = .ok (.aload_n 2, 1) := by decide +kernel
theorem d15_28 : decode prog_22_method_4_code 28 = .ok (.getfield 26, 3) := by decide +kernel
theorem d15_31 : decode prog_22_method_4_code 31 = .ok (.invokevirtual 47, 3) := by decide +kernel
theorem d15_34 : decode prog_22_method_4_code 34 = .ok (.ifCond .eq 7, 3) := by decide +kernel
theorem d15_37 : decode prog_22_method_4_code 37 = .ok (.iconst 1, 1) := by decide +kernel
theorem d15_38 : decode prog_22_method_4_code 38 = .ok (.goto 4, 3) := by decide +kernel
theorem d15_41 : decode prog_22_method_4_code 41 = .ok (.iconst 0, 1) := by decide +kernel
theorem d15_42 : decode prog_22_method_4_code 42 = .ok (.ireturn, 1) := by decide +kernel
theorem d19_0 : decode jdk_48_method_4_code 0 = .ok (.iload 4, 2) := by decide +kernel
theorem d19_2 : decode jdk_48_method_4_code 2 = .ok (.tableswitch 127 4 10 #[42, 55, 127, 127, 88, 101, 114], 42) := by decide +kernel
theorem d19_44 : decode jdk_48_method_4_code 44 = .ok (.iload_n 3, 1) := by decide +kernel
theorem d19_45 : decode jdk_48_method_4_code 45 = .ok (.aload_n 0, 1) := by decide +kernel
theorem d19_46 : decode jdk_48_method_4_code 46 = .ok (.checkcast 60, 3) := by decide +kernel
theorem d19_49 : decode jdk_48_method_4_code 49 = .ok (.iload_n 1, 1) := by decide +kernel
theorem d19_50 : decode jdk_48_method_4_code 50 = .ok (.iload_n 2, 1) := by decide +kernel
theorem d19_51 : decode jdk_48_method_4_code 51 = .ok (.invokestatic 62, 3) := by decide +kernel
theorem d19_54 : decode jdk_48_method_4_code 54 = .ok (.goto 103, 3) := by decide +kernel
theorem d19_157 : decode jdk_48_method_4_code 157 = .ok (.ireturn, 1) := by decide +kernel
theorem d20_0 : decode jdk_48_method_5_code 0 = .ok (.iload_n 2, 1) := by decide +kernel
theorem d20_1 : decode jdk_48_method_5_code 1 = .ok (.iload_n 3, 1) := by decide +kernel
theorem d20_2 : decode jdk_48_method_5_code 2 = .ok (.iadd, 1) := by decide +kernel
theorem d20_3 : decode jdk_48_method_5_code 3 = .ok (.istore 4, 2) := by decide +kernel
theorem d20_5 : decode jdk_48_method_5_code 5 = .ok (.iload_n 2, 1) := by decide +kernel
theorem d20_6 : decode jdk_48_method_5_code 6 = .ok (.istore 5, 2) := by decide +kernel
theorem d20_8 : decode jdk_48_method_5_code 8 = .ok (.iload 5, 2) := by decide +kernel
theorem d20_10 : decode jdk_48_method_5_code 10 = .ok (.iload 4, 2) := by decide +kernel
theorem d20_12 : decode jdk_48_method_5_code 12 = .ok (.if_icmp .ge 23, 3) := by decide +kernel
theorem d20_15 : decode jdk_48_method_5_code 15 = .ok (.bipush 31, 2) := by decide +kernel
theorem d20_17 : decode jdk_48_method_5_code 17 = .ok (.iload_n 0, 1) := by decide +kernel
theorem d20_18 : decode jdk_48_method_5_code 18 = .ok (.imul, 1) := by decide +kernel
theorem d20_19 : decode jdk_48_method_5_code 19 = .ok (.aload_n 1, 1) := by decide +kernel
theorem d20_20 : decode jdk_48_method_5_code 20 = .ok (.iload 5, 2) := by decide +kernel
theorem d20_22 : decode jdk_48_method_5_code 22 = .ok (.baload, 1) := by decide +kernel
theorem d20_23 : decode jdk_48_method_5_code 23 = .ok (.sipush 255, 3) := by decide +kernel
theorem d20_26 : decode jdk_48_method_5_code 26 = .ok (.iand, 1) := by decide +kernel
theorem d20_27 : decode jdk_48_method_5_code 27 = .ok (.iadd, 1) := by decide +kernel
theorem d20_28 : decode jdk_48_method_5_code 28 = .ok (.istore_n 0, 1) := by decide +kernel
theorem d20_29 : decode jdk_48_method_5_code 29 = .ok (.iinc 5 1, 3) := by decide +kernel
theorem d20_32 : decode jdk_48_method_5_code 32 = .ok (.goto (-24), 3) := by decide +kernel
theorem d20_35 : decode jdk_48_method_5_code 35 = .ok (.iload_n 0, 1) := by decide +kernel
theorem d20_36 : decode jdk_48_method_5_code 36 = .ok (.ireturn, 1) := by decide +kernel
theorem d21_0 : decode jdk_33_method_23_code 0 = .ok (.aload_n 0, 1) := by decide +kernel
theorem d21_1 : decode jdk_33_method_23_code 1 = .ok (.invokespecial 202, 3) := by decide +kernel
theorem d21_4 : decode jdk_33_method_23_code 4 = .ok (.aload_n 0, 1) := by decide +kernel
theorem d21_5 : decode jdk_33_method_23_code 5 = .ok (.iload_n 1, 1) := by decide +kernel
theorem d21_6 : decode jdk_33_method_23_code 6 = .ok (.putfield 205, 3) := by decide +kernel
theorem d21_9 : decode jdk_33_method_23_code 9 = .ok (.return_, 1) := by decide +kernel
theorem d22_0 : decode jdk_18_method_1_code 0 = .ok (.aload_n 0, 1) := by decide +kernel
theorem d22_1 : decode jdk_18_method_1_code 1 = .ok (.invokespecial 1, 3) := by decide +kernel
theorem d22_4 : decode jdk_18_method_1_code 4 = .ok (.return_, 1) := by decide +kernel
theorem pd_0 : parseMethodDescriptor "([CIILjava/lang/Void;)V" = some ⟨[(.array .char), .int, .int, (.object "java/lang/Void")], none⟩ := by decide +kernel
theorem pd_1 : parseMethodDescriptor "(I[BII)I" = some ⟨[.int, (.array .byte), .int, .int], some .int⟩ := by decide +kernel
theorem pd_2 : parseMethodDescriptor "(Ljava/lang/Object;IIII)I" = some ⟨[(.object "java/lang/Object"), .int, .int, .int, .int], some .int⟩ := by decide +kernel
theorem pd_3 : parseMethodDescriptor "()Z" = some ⟨[], some .boolean⟩ := by decide +kernel
theorem pd_4 : parseMethodDescriptor "([B)I" = some ⟨[(.array .byte)], some .int⟩ := by decide +kernel
theorem pd_5 : parseMethodDescriptor "(I)I" = some ⟨[.int], some .int⟩ := by decide +kernel
theorem pd_6 : parseMethodDescriptor "()V" = some ⟨[], none⟩ := by decide +kernel
theorem pd_7 : parseMethodDescriptor "(I)V" = some ⟨[.int], none⟩ := by decide +kernel
theorem pd_8 : parseMethodDescriptor "()I" = some ⟨[], some .int⟩ := by decide +kernel
theorem pd_9 : parseMethodDescriptor "([Ljava/lang/Object;)I" = some ⟨[(.array (.object "java/lang/Object"))], some .int⟩ := by decide +kernel
theorem pd_10 : parseMethodDescriptor "(Ljava/lang/Object;Ljava/lang/String;)Ljava/lang/Object;" = some ⟨[(.object "java/lang/Object"), (.object "java/lang/String")], some (.object "java/lang/Object")⟩ := by decide +kernel
theorem pd_11 : parseMethodDescriptor "(I)Ljava/lang/Integer;" = some ⟨[.int], some (.object "java/lang/Integer")⟩ := by decide +kernel
theorem pd_12 : parseMethodDescriptor "(Ljava/lang/Object;)Z" = some ⟨[(.object "java/lang/Object")], some .boolean⟩ := by decide +kernel
theorem pd_13 : parseMethodDescriptor "(III)[C" = some ⟨[.int, .int, .int], some (.array .char)⟩ := by decide +kernel
theorem pd_14 : parseMethodDescriptor "([C)V" = some ⟨[(.array .char)], none⟩ := by decide +kernel
theorem pd_15 : parseMethodDescriptor "(Ljava/lang/String;I)V" = some ⟨[(.object "java/lang/String"), .int], none⟩ := by decide +kernel
theorem pn_8 : plainName "com/example/qrew/qrew/logic/Predicate" = true := by first | (simp [plainName, overriddenIn]; done) | decide +kernel
theorem pn_2 : plainName "com/example/qrew/qrew/logic/PredicateEqualsPinLaw" = true := by first | (simp [plainName, overriddenIn]; done) | decide +kernel
theorem pn_5 : plainName "java/lang/Integer" = true := by first | (simp [plainName, overriddenIn]; done) | decide +kernel
theorem pn_6 : plainName "java/lang/Number" = true := by first | (simp [plainName, overriddenIn]; done) | decide +kernel
theorem pn_0 : plainName "java/lang/String" = true := by first | (simp [plainName, overriddenIn]; done) | decide +kernel
theorem pn_4 : plainName "java/lang/StringLatin1" = true := by first | (simp [plainName, overriddenIn]; done) | decide +kernel
theorem pn_7 : plainName "java/util/Arrays" = true := by first | (simp [plainName, overriddenIn]; done) | decide +kernel
theorem pn_1 : plainName "java/util/Objects" = true := by first | (simp [plainName, overriddenIn]; done) | decide +kernel
theorem pn_3 : plainName "jdk/internal/util/ArraysSupport" = true := by first | (simp [plainName, overriddenIn]; done) | decide +kernel
/-- the first n of these chars (all three from 3 on) -/
def cs3 (n a b c : Int32) : List Int32 := if n = 0 then [] else if n = 1 then [a] else if n = 2 then [a, b] else [a, b, c]
theorem cs3_0 {n a b c : Int32} (h : n = 0) : cs3 n a b c = [] := if_pos h
theorem cs3_1 {n a b c : Int32} (h : ¬ n = 0) (h1 : n = 1) : cs3 n a b c = [a] := by unfold cs3; rw [if_neg h, if_pos h1]
theorem cs3_2 {n a b c : Int32} (h : ¬ n = 0) (h1 : ¬ n = 1) (h2 : n = 2) : cs3 n a b c = [a, b] := by unfold cs3; rw [if_neg h, if_neg h1, if_pos h2]
theorem cs3_3 {n a b c : Int32} (h : ¬ n = 0) (h1 : ¬ n = 1) (h2 : ¬ n = 2) : cs3 n a b c = [a, b, c] := by unfold cs3; rw [if_neg h, if_neg h1, if_neg h2]

section Own6
theorem mask3 (x : Int32) : (x &&& 3) = 0 ∨ (x &&& 3) = 1 ∨ (x &&& 3) = 2 ∨ (x &&& 3) = 3 := by
  have h : (x &&& 3).toBitVec.toNat < 4 := by
    simp only [Int32.toBitVec_and, BitVec.toNat_and]
    exact Nat.lt_succ_of_le Nat.and_le_right
  have e : (x &&& 3) = Int32.ofNat (x &&& 3).toBitVec.toNat := by
    apply Int32.toBitVec_inj.mp
    show _ = BitVec.ofNat 32 _
    rw [BitVec.ofNat_toNat]; simp
  have t : ∀ k : Fin 4, Int32.ofNat k.val = 0 ∨ Int32.ofNat k.val = 1 ∨ Int32.ofNat k.val = 2 ∨ Int32.ofNat k.val = 3 := by decide
  rw [e]; exact t ⟨_, h⟩
/-- one char for one low byte -/
theorem chrI (x y : Int32) : ((x &&& (255 : Int32)).toUInt32.toUInt16.toUInt32.toInt32) = ((y &&& (255 : Int32)).toUInt32.toUInt16.toUInt32.toInt32) ↔ (x &&& (255 : Int32)) = (y &&& (255 : Int32)) := by
  refine ⟨fun h => ?_, fun h => by rw [h]⟩
  have t : ∀ k : Fin 256, (Int32.ofNat k.val).toUInt32.toUInt16.toUInt32.toInt32 = Int32.ofNat k.val := by decide +kernel
  obtain ⟨k, e⟩ := mask255 x
  obtain ⟨k', e'⟩ := mask255 y
  rw [e, e'] at h ⊢
  rwa [t k, t k'] at h
theorem cs3_ne {n m a b c a' b' c' : Int32} (hn : n = 0 ∨ n = 1 ∨ n = 2 ∨ n = 3) (hm : m = 0 ∨ m = 1 ∨ m = 2 ∨ m = 3) (h : ¬ n = m) : ¬ cs3 n a b c = cs3 m a' b' c' := by
  rcases hn with rfl | rfl | rfl | rfl <;> rcases hm with rfl | rfl | rfl | rfl <;> first | exact absurd rfl h | (simp [cs3])
theorem cs3_e1 {a b c a' b' c' : Int32} : cs3 1 a b c = cs3 1 a' b' c' ↔ a = a' := by simp [cs3]
theorem cs3_e2 {a b c a' b' c' : Int32} : cs3 2 a b c = cs3 2 a' b' c' ↔ a = a' ∧ b = b' := by simp [cs3]
theorem cs3_e3 {a b c a' b' c' : Int32} : cs3 3 a b c = cs3 3 a' b' c' ↔ a = a' ∧ b = b' ∧ c = c' := by simp [cs3]
end Own6
section Own7
/-- the rest by 19 of what isn't negative -/
theorem rem_lt {x : Int32} {k : Int32} {n : Nat} (hx : ¬ x < 0) (hk : k.toInt = n) (hn : 0 < n) : ¬ x % k < 0 ∧ (x % k).toNatClampNeg < n := by
  rw [Int32.lt_iff_toInt_lt] at hx
  have e0 : (0 : Int32).toInt = 0 := rfl
  have e : (x % k).toInt = x.toInt.tmod k.toInt := Int32.toInt_mod _ _
  rw [hk] at e
  have p : x.toInt.tmod (n : Int) = x.toInt % (n : Int) := Int.tmod_eq_emod_of_nonneg (by omega)
  have p1 : 0 ≤ x.toInt % (n : Int) := Int.emod_nonneg _ (by omega)
  have p2 : x.toInt % (n : Int) < (n : Int) := Int.emod_lt_of_pos _ (by omega)
  refine ⟨by rw [Int32.lt_iff_toInt_lt, e0]; omega, ?_⟩
  show (x % k).toInt.toNat < n
  omega
theorem mask31 (x : Int32) : ¬ (x &&& (2147483647 : Int32)) < 0 := by
  rw [Int32.lt_iff_toInt_lt]
  have e : (x &&& (2147483647 : Int32)).toInt = (x &&& (2147483647 : Int32)).toBitVec.toInt := rfl
  have h : (x &&& (2147483647 : Int32)).toBitVec.toNat < 2147483648 := by
    simp only [Int32.toBitVec_and, BitVec.toNat_and]
    exact Nat.lt_succ_of_le Nat.and_le_right
  rw [e, BitVec.toInt_eq_toNat_of_lt (by omega)]
  have e0 : (0 : Int32).toInt = 0 := rfl
  omega
/-- a logical shift by one place or more isn't negative -/
theorem ushr_nn (x : Int32) (k : Nat) (hk : 0 < k) (h32 : k < 32) {y : Int32} (hy : (y &&& 31).toUInt32 = UInt32.ofNat k) : ¬ ((x.toUInt32 >>> (y &&& 31).toUInt32).toInt32) < 0 := by
  rw [hy, Int32.lt_iff_toInt_lt]
  have e0 : (0 : Int32).toInt = 0 := rfl
  have h1 : (x.toUInt32 >>> UInt32.ofNat k).toNat < 2147483648 := by
    rw [UInt32.toNat_shiftRight]
    have : (UInt32.ofNat k).toNat = k := by rw [UInt32.toNat_ofNat']; omega
    rw [this, Nat.mod_eq_of_lt h32, Nat.shiftRight_eq_div_pow]
    have hx := x.toUInt32.toNat_lt
    have : 2 ^ 1 ≤ 2 ^ k := Nat.pow_le_pow_right (by decide) hk
    have h2 : x.toUInt32.toNat / 2 ^ k ≤ x.toUInt32.toNat / 2 ^ 1 := Nat.div_le_div_left this (by decide)
    omega
  have e1 : ((x.toUInt32 >>> UInt32.ofNat k).toInt32).toInt = ((x.toUInt32 >>> UInt32.ofNat k).toBitVec).toInt := rfl
  rw [e1, BitVec.toInt_eq_toNat_of_lt (by show 2 * (x.toUInt32 >>> UInt32.ofNat k).toNat < _; omega)]
  omega
/-- a Latin-1 char changed in its low byte -/
theorem xorChr {x y z : Int32} (hx : ¬ x < 0 ∧ ¬ (255 : Int32) < x) (hy : ¬ y < 0 ∧ ¬ (255 : Int32) < y) (h : ((x ^^^ y).toUInt32.toUInt16.toUInt32.toInt32) = z) : (¬ z < 0 ∧ ¬ (255 : Int32) < z) ∧ nar .char z = z := by
  have r : ∀ x : Int32, (¬ x < 0 ∧ ¬ (255 : Int32) < x) → x &&& 255 = x := fun x hx => by
    rw [Int32.lt_iff_toInt_lt, Int32.lt_iff_toInt_lt] at hx
    have e0 : (0 : Int32).toInt = 0 := rfl
    have e1 : (255 : Int32).toInt = 255 := rfl
    obtain ⟨k, hk⟩ : ∃ k : Nat, x.toInt = k := ⟨x.toInt.toNat, by omega⟩
    have t : ∀ k : Fin 256, Int32.ofNat k.val &&& 255 = Int32.ofNat k.val := by decide +kernel
    have hx' : x = Int32.ofNat k := Int32.toInt_inj.mp (by rw [hk, Int32.toInt_ofNat_small (by omega)])
    rw [hx']; exact t ⟨k, by omega⟩
  have e : (x ^^^ y) = (x ^^^ y) &&& 255 := by
    rw [← r x hx, ← r y hy]
    apply Int32.toBitVec_inj.mp
    simp only [Int32.toBitVec_and, Int32.toBitVec_xor]
    ext i
    simp
    cases x.toBitVec[i] <;> cases y.toBitVec[i] <;> simp
  rw [e] at h
  exact chr255 h
theorem lat255 (x : Int32) : ¬ (x &&& (255 : Int32)) < 0 ∧ ¬ (255 : Int32) < (x &&& (255 : Int32)) := by
  have t : ∀ k : Fin 256, ¬ Int32.ofNat k.val < 0 ∧ ¬ (255 : Int32) < Int32.ofNat k.val := by decide +kernel
  obtain ⟨k, e⟩ := mask255 x
  rw [e]; exact t k
end Own7

section Own9
variable {p : Program} {l : Launch} {e : Env} {R rm : Room} {s : State} {m : MethodId} {args : Array Value} {below : List Frame} {meth : Method} {c : Code} {own nm : String} {bytes : ByteArray} {ml : Nat} {rt : Option FieldType} {Z : State} {a0 : Array Value} {EL : List (String × Nat)} {h0 : Heap} {ws : List Addr} {T : State} {h h' : Heap} {cells slots : Nat} {Q : Outcome → State → Prop} {pc : Nat} {Ls : Array Slot} {rest : List Value}
theorem nfTop {y : MethodName} (w : (Jvm.Cond.noSuperclass y.cls).before a0 Z = true) : ∀ vm0, Z.Warmed39 vm0 → NotFace (s.setVm vm0) y := fun vm0 hZ => nf_top (args := #[]) (mvT (s := s.setVm vm0) hZ w)
theorem Pos.bald (P : Pos p l e R s m args below meth c own nm bytes ml rt Z a0 EL h0 ws T h cells slots) {a : Addr} {kc : ClassId} {z j : Int32} {vs : List Value} {dv v : Value} (A : Arv Z h a kc .byte z vs dv) (hj0 : ¬ j < 0) (hlt : j.toNatClampNeg < z.toNatClampNeg) (hv : vs.getD j.toNatClampNeg dv = v) (hd : decode bytes pc = .ok (.baload, 1))
    (g : Go p e below Q (T.setTop (mkF m (pc + 1) Ls (v :: rest)))) : Go p e below Q (T.setTop (mkF m pc Ls (.int j :: .ref a :: rest))) := by
  obtain ⟨vm0, k0, locs, X, ⟨hx, hby, hml, hret, hlk, hnm, hh, hEL, hZs⟩, hZ, hown, hS, hk, eT, -⟩ := P
  obtain ⟨cl, Ar, q1, S, N, H, -⟩ := A
  have hin : ¬ (j < 0 ∨ cl.slots.size ≤ j.toNatClampNeg) := inb rfl hj0 S hlt
  exact g.of fun t k => X.baloadBytes hx (by rw [eT]; exact Ar.1) (State.isArrayOf_alike (T := s.setVm vm0) hZ.alike Ar.2.1) Ar.2.2 hin (H.at hin hv) (g := mkF m pc Ls (.int j :: .ref a :: rest)) rfl rfl (hb hby hd) _ k
/-- an element of a table of boxes that stood before the law -/
theorem Pos.bxld (P : Pos p l e R s m args below meth c own nm bytes ml rt Z a0 EL h0 ws T h cells slots) {a : Addr} {cc : Cell} {K d : String} {z j : Int32} {val : Int32 → Value} (B : Bxs Z a cc K d z val) (hj0 : ¬ j < 0) (hlt : j.toNatClampNeg < z.toNatClampNeg) (hd : decode bytes pc = .ok (.aaload, 1))
    (g : ∀ b : Addr, Exa Z h b K → Fld Z h b K "value" d (val j) → Go p e below Q (T.setTop (mkF m (pc + 1) Ls (.ref b :: rest)))) : Go p e below Q (T.setTop (mkF m pc Ls (.int j :: .ref a :: rest))) := by
  have O := P.old
  obtain ⟨vm0, k0, locs, X, ⟨hx, hby, hml, hret, hlk, hnm, hh, hEL, hZs⟩, hZ, hown, hS, hk, eT, -⟩ := P
  obtain ⟨Ar, S, N, H⟩ := B
  have hin : ¬ (j < 0 ∨ cc.slots.size ≤ j.toNatClampNeg) := inb rfl hj0 S hlt
  obtain ⟨b, hb1, hb2, hb3⟩ := H j hin
  have Ar' := Ar.ext O
  exact (g b (hb2.ext O) (hb3.ext O)).of fun t k => X.aaload hx (by rw [eT]; exact Ar'.1) (State.isArrayOf_alike (T := s.setVm vm0) hZ.alike Ar'.2.1) rfl Ar'.2.2 hin hb1 (g := mkF m pc Ls (.int j :: .ref a :: rest)) rfl rfl (hb hby hd) _ k
theorem insArv {t : Addr} {kb : ClassId} {ty : FieldType} {z : Int32} {vs : List Value} {d : Value} {K : String} (A : Arv Z h t kb ty z vs d) (hf : Z.vm.findClass K = some kb) : Ins Z h t K true := by
  obtain ⟨cl, ⟨h1, ⟨hs, -⟩, -⟩, rfl, -⟩ := A
  have : cl.vm.isStatics = false := by cases hv : cl.vm <;> simp_all [VmData.isStatics]
  exact ⟨cl, _, h1, hf, by simp [this, Vm.assignable_self]⟩
/-- a String of at most two chars whose hash isn't reckoned yet -/
def Sh (Z : State) (h : Heap) (x : Addr) (cs : List Int32) : Prop := Exa Z h x "java/lang/String" ∧ (∀ c ∈ cs, ¬ c < 0 ∧ ¬ (255 : Int32) < c) ∧ cs.length ≤ 2 ∧ Fld Z h x "java/lang/String" "coder" "B" (.int (0 : Int32)) ∧ Fld Z h x "java/lang/String" "hash" "I" (.int (0 : Int32)) ∧ Fld Z h x "java/lang/String" "hashIsZero" "Z" (.int (0 : Int32)) ∧
  ∃ (t : Addr) (kb : ClassId) (nz : Int32) (vs : List Value), Fld Z h x "java/lang/String" "value" "[B" (.ref t) ∧ Arv Z h t kb .byte nz vs (.int 0) ∧ nz = Int32.ofNat cs.length ∧ vs = (cs.map (fun c => c.toInt8.toInt32)).map Value.int ∧ (cs.length = 2 → Z.vm.findClass "[B" = some kb)
theorem Sh.lt {x : Addr} {cs : List Int32} (S : Sh Z h x cs) : x < h.size := S.1.lt
theorem Sh.ext {x : Addr} {cs : List Int32} (S : Sh Z h x cs) (E : Ext h h') : Sh Z h' x cs := by
  obtain ⟨s1, s2, s3, s4, s5, s6, t, kb, nz, vs, s7, s8, r⟩ := S
  exact ⟨s1.ext E, s2, s3, s4.ext E, s5.ext E, s6.ext E, t, kb, nz, vs, s7.ext E, s8.ext E, r⟩
theorem Sh.keep {x : Addr} {cs : List Int32} {ws : List Addr} (S : Sh Z h x cs) (K : Keep h h' ws) (q : ∀ a ∈ ws, x ≠ a ∧ NB Z h a) : Sh Z h' x cs := by
  obtain ⟨s1, s2, s3, s4, s5, s6, t, kb, nz, vs, s7, s8, r⟩ := S
  have n1 : x ∉ ws := fun m => (q x m).1 rfl
  have n2 : t ∉ ws := fun m => (q t m).2.ne s8 rfl
  exact ⟨s1.keep K, s2, s3, s4.keep K n1, s5.keep K n1, s6.keep K n1, t, kb, nz, vs, s7.keep K n1, s8.keep K n2, r⟩
theorem Sh.wr {x a : Addr} {cs : List Int32} {sl : Nat} {v : Value} (S : Sh Z h x cs) (W : Wr h h' a sl v) (q1 : x ≠ a) (q2 : NB Z h a) : Sh Z h' x cs := S.keep (Keep.of_wr W) (allS ⟨q1, q2⟩ all0)
theorem latFin {x : Int32} (hx : ¬ x < 0 ∧ ¬ (255 : Int32) < x) : ∃ k : Fin 256, x = Int32.ofNat k.val := by
  rw [Int32.lt_iff_toInt_lt, Int32.lt_iff_toInt_lt] at hx
  have e0 : (0 : Int32).toInt = 0 := rfl
  have e1 : (255 : Int32).toInt = 255 := rfl
  obtain ⟨k, hk⟩ : ∃ k : Nat, x.toInt = k := ⟨x.toInt.toNat, by omega⟩
  exact ⟨⟨k, by omega⟩, Int32.toInt_inj.mp (by rw [hk, Int32.toInt_ofNat_small (by show k < _; omega)])⟩
theorem chrLat {x : Int32} (hx : ¬ x < 0 ∧ ¬ (255 : Int32) < x) : x.toUInt32.toUInt16.toUInt32.toInt32 = x := by
  have t : ∀ k : Fin 256, (Int32.ofNat k.val).toUInt32.toUInt16.toUInt32.toInt32 = Int32.ofNat k.val := by decide +kernel
  obtain ⟨k, rfl⟩ := latFin hx
  exact t k
theorem narLat {x : Int32} (hx : ¬ x < 0 ∧ ¬ (255 : Int32) < x) : nar .char x = x := by
  have t : ∀ k : Fin 256, nar .char (Int32.ofNat k.val) = Int32.ofNat k.val := by decide +kernel
  obtain ⟨k, rfl⟩ := latFin hx
  exact t k
theorem rem33 (x : Int32) : ((x &&& (3 : Int32)) % (3 : Int32)) = 0 ∨ ((x &&& (3 : Int32)) % (3 : Int32)) = 1 ∨ ((x &&& (3 : Int32)) % (3 : Int32)) = 2 := by
  rcases mask3 x with q | q | q | q <;> rw [q] <;> decide
theorem up3 {x : Int32} (q : x = 0 ∨ x = 1 ∨ x = 2) : x = 0 ∨ x = 1 ∨ x = 2 ∨ x = 3 := by rcases q with q | q | q <;> simp [q]
end Own9

theorem nn128 {x : Int32} (hx : ¬ x < 0) : ¬ x < (-128 : Int32) := by
  rw [Int32.lt_iff_toInt_lt] at hx ⊢
  have e0 : (0 : Int32).toInt = 0 := rfl
  have e1 : (-128 : Int32).toInt = -128 := rfl
  omega
theorem ix128 {x : Int32} (hx : ¬ x < 0) (hy : ¬ (127 : Int32) < x) : ¬ (x + (128 : Int32)) < 0 ∧ (x + (128 : Int32)).toNatClampNeg < (256 : Int32).toNatClampNeg := by
  rw [Int32.lt_iff_toInt_lt] at hx hy
  have e0 : (0 : Int32).toInt = 0 := rfl
  have e1 : (127 : Int32).toInt = 127 := rfl
  have e2 : (128 : Int32).toInt = 128 := rfl
  have e : (x + (128 : Int32)).toInt = x.toInt + 128 := by rw [Int32.toInt_add, e2]; exact Int.bmod_eq_of_le (by omega) (by omega)
  refine ⟨by rw [Int32.lt_iff_toInt_lt, e, e0]; omega, ?_⟩
  show (x + (128 : Int32)).toInt.toNat < 256
  rw [e]; omega

def R_initE4 : Room := { frames := 1, cells := 4, slots := 8, locals := 12 }
def Q_initE4 (Z : State) (x : Addr) (h0 : Heap) (v : Option Value) (h : Heap) : Prop := v = none ∧ Exa Z h x "java/lang/String" ∧ Fld Z h x "java/lang/String" "coder" "B" (.int (0 : Int32)) ∧ Fld Z h x "java/lang/String" "hash" "I" (.int (0 : Int32)) ∧ Fld Z h x "java/lang/String" "hashIsZero" "Z" (.int (0 : Int32)) ∧ ∃ (t : Addr) (kb : ClassId), Fld Z h x "java/lang/String" "value" "[B" (.ref t) ∧ Arv Z h t kb .byte (0 : Int32) [] (.int 0)
set_option maxRecDepth 65536 in
set_option maxHeartbeats 40000000 in
theorem initE4 (l : Launch) (Z : State) (a0 : Array Value) (hw : ∀ d ∈ tables_1, d.before a0 Z = true) (EL : List (String × Nat)) (hEL : EW Z a0 EL) (zc : Int32) (S0 : Sta Z Z.heap "java/lang/String" "COMPACT_STRINGS" "Z" (.int zc)) (Pz : ¬ zc = 0) (wc : Addr) (cc : Cell) (SH : Sta Z Z.heap "java/lang/Integer$IntegerCache" "high" "I" (.int (127 : Int32))) (SC : Sta Z Z.heap "java/lang/Integer$IntegerCache" "cache" "[Ljava/lang/Integer;" (.ref wc)) (BX : Bxs Z wc cc "java/lang/Integer" "I" (256 : Int32) (fun j => .int (j - 128))) (x b : Addr) (h0 : Heap) (hO : Ext Z.heap h0) (E : Exa Z h0 x "java/lang/String") (V : Fld Z h0 x "java/lang/String" "value" "[B" .null) (C : Fld Z h0 x "java/lang/String" "coder" "B" (.int (0 : Int32))) (gx : Z.heap.size ≤ x) (hmem : ("java/lang/String", 7) ∈ EL) (Hh : Fld Z h0 x "java/lang/String" "hash" "I" (.int (0 : Int32))) (Hz : Fld Z h0 x "java/lang/String" "hashIsZero" "Z" (.int (0 : Int32))) :
    Con l Z EL [] (⟨"java/lang/String", "<init>", "([CIILjava/lang/Void;)V"⟩ : MethodName) jdk_42_method_149_code 6 none R_initE4 #[(.ref x), (.ref b), (.int (0 : Int32)), (.int (0 : Int32)), .null] h0 [x] (Q_initE4 Z x h0) := by
  refine Con.of (y := (⟨"java/lang/String", "<init>", "([CIILjava/lang/Void;)V"⟩ : MethodName)) (f0 := fun m => mkF m 0 #[.val (.ref x), .val (.ref b), .val (.int (0 : Int32)), .val (.int (0 : Int32)), .val .null, .unset] []) (plainFor_of_name pn_0) hEL hO (fun m => by skip <;> first | (simp [entryFrame, mkF, argsToLocals, Value.category, maxLocals]; done) | rfl) ?_
  intro p e s m below meth c s₁ P0
  show Go p e below _ (s₁.setTop (mkF m 0 #[.val (.ref x), .val (.ref b), .val (.int (0 : Int32)), .val (.int (0 : Int32)), .val .null, .unset] []))
  refine P0.xs (fun hA hx hy t k => XS.aloadN hA hx rfl (hb hy d3_0) rfl rfl  k) ?_
  show Go p e below _ (s₁.setTop (mkF m 1 #[.val (.ref x), .val (.ref b), .val (.int (0 : Int32)), .val (.int (0 : Int32)), .val .null, .unset] [(.ref x)]))
  refine P0.init0 (W := 0) (hw _ (List.mem_of_getElem? (i := 16) rfl)) (hw _ (List.mem_of_getElem? (i := 17) rfl)) (hw _ (List.mem_of_getElem? (i := 18) rfl)) d3_1 rfl (by decide) (Nat.le_of_eq rfl) (by decide) fun T1 P1 => ?_
  show Go p e below _ (T1.setTop (mkF m 4 #[.val (.ref x), .val (.ref b), .val (.int (0 : Int32)), .val (.int (0 : Int32)), .val .null, .unset] []))
  refine P1.xs (fun hA hx hy t k => XS.iloadN hA hx rfl (hb hy d3_4) rfl  k) ?_
  show Go p e below _ (T1.setTop (mkF m 5 #[.val (.ref x), .val (.ref b), .val (.int (0 : Int32)), .val (.int (0 : Int32)), .val .null, .unset] [(.int (0 : Int32))]))
  refine P1.xs (fun hA hx hy t k => XS.ifNo hA hx rfl (hb hy d3_5) rfl ((if0 _ _).trans (teq rfl).2) k) ?_
  show Go p e below _ (T1.setTop (mkF m 8 #[.val (.ref x), .val (.ref b), .val (.int (0 : Int32)), .val (.int (0 : Int32)), .val .null, .unset] []))
  refine P1.xs (fun hA hx hy t k => XS.aloadN hA hx rfl (hb hy d3_8) rfl rfl  k) ?_
  show Go p e below _ (T1.setTop (mkF m 9 #[.val (.ref x), .val (.ref b), .val (.int (0 : Int32)), .val (.int (0 : Int32)), .val .null, .unset] [(.ref x)]))
  refine P1.ldcR (hw _ (List.mem_of_getElem? (i := 19) rfl)) (wSt hw) hmem (vs := []) (z := (0 : Int32)) ⟨by decide, by decide⟩ (by decide) (by decide) d3_9 (n := 0) (by decide) (by decide) (by decide) (by decide) fun T2 h2 o2 b2 k2 P2 E2 A2 C2 V2 B2 => ?_
  show Go p e below _ (T2.setTop (mkF m 11 #[.val (.ref x), .val (.ref b), .val (.int (0 : Int32)), .val (.int (0 : Int32)), .val .null, .unset] [(.ref o2), (.ref x)]))
  refine P2.getF (host := "") (Or.inl (hw _ (List.mem_of_getElem? (i := 25) rfl))) Via.refl V2 d3_11 fun T3 P3 => ?_
  show Go p e below _ (T3.setTop (mkF m 14 #[.val (.ref x), .val (.ref b), .val (.int (0 : Int32)), .val (.int (0 : Int32)), .val .null, .unset] [(.ref b2), (.ref x)]))
  have Ec5 : Exa Z h2 x "java/lang/String" := (E.ext E2)
  have Fc6 : Fld Z h2 x "java/lang/String" "coder" "B" (.int (0 : Int32)) := (C.ext E2)
  have Fc7 : Fld Z h2 x "java/lang/String" "value" "[B" .null := (V.ext E2)
  have Fc8 : Fld Z h2 x "java/lang/String" "hash" "I" (.int (0 : Int32)) := (Hh.ext E2)
  have Fc9 : Fld Z h2 x "java/lang/String" "hashIsZero" "Z" (.int (0 : Int32)) := (Hz.ext E2)
  refine P3.putF (hw _ (List.mem_of_getElem? (i := 25) rfl)) Via.refl Fc7 Ec5 (Or.inr ⟨(hw _ (List.mem_of_getElem? (i := 21) rfl)), rfl, rfl⟩) (hw _ (List.mem_of_getElem? (i := 2) rfl)) (ty := (.array .byte)) (v' := (.ref b2)) (by decide) rfl rfl d3_14 (fun vm hs hal hr => hr.safe E.lt (safeNull hs E V)) gx (Or.inl (List.mem_of_getElem? (i := 0) rfl)) fun T4 h4 P4 W4 => ?_
  show Go p e below _ (T4.setTop (mkF m 17 #[.val (.ref x), .val (.ref b), .val (.int (0 : Int32)), .val (.int (0 : Int32)), .val .null, .unset] []))
  refine P4.xs (fun hA hx hy t k => XS.aloadN hA hx rfl (hb hy d3_17) rfl rfl  k) ?_
  show Go p e below _ (T4.setTop (mkF m 18 #[.val (.ref x), .val (.ref b), .val (.int (0 : Int32)), .val (.int (0 : Int32)), .val .null, .unset] [(.ref x)]))
  refine P4.ldcR (hw _ (List.mem_of_getElem? (i := 19) rfl)) (wSt hw) hmem (vs := []) (z := (0 : Int32)) ⟨by decide, by decide⟩ (by decide) (by decide) d3_18 (n := 0) (by decide) (by decide) (by decide) (by decide) fun T10 h10 o10 b10 k10 P10 E10 A10 C10 V10 B10 => ?_
  show Go p e below _ (T10.setTop (mkF m 20 #[.val (.ref x), .val (.ref b), .val (.int (0 : Int32)), .val (.int (0 : Int32)), .val .null, .unset] [(.ref o10), (.ref x)]))
  refine P10.getF (host := "") (Or.inl (hw _ (List.mem_of_getElem? (i := 26) rfl))) Via.refl C10 d3_20 fun T11 P11 => ?_
  show Go p e below _ (T11.setTop (mkF m 23 #[.val (.ref x), .val (.ref b), .val (.int (0 : Int32)), .val (.int (0 : Int32)), .val .null, .unset] [(.int (0 : Int32)), (.ref x)]))
  have Ec13 : Exa Z h10 x "java/lang/String" := ((Ec5.wr W4).ext E10)
  have Fc14 : Fld Z h10 x "java/lang/String" "coder" "B" (.int (0 : Int32)) := ((Fc6.other W4 (Or.inr (slot_ne (Or.inr (hw _ (List.mem_of_getElem? (i := 22) rfl))) (Or.inr (hw _ (List.mem_of_getElem? (i := 21) rfl))) (by decide) (t := .byte) (t' := (.array .byte)) (by decide) (by decide)))).ext E10)
  have Fc15 : Fld Z h10 x "java/lang/String" "value" "[B" (.ref b2) := ((Fc7.same W4).ext E10)
  have Fc16 : Fld Z h10 x "java/lang/String" "hash" "I" (.int (0 : Int32)) := ((Fc8.other W4 (Or.inr (slot_ne (Or.inl (hw _ (List.mem_of_getElem? (i := 69) rfl))) (Or.inr (hw _ (List.mem_of_getElem? (i := 21) rfl))) (by decide) (t := .int) (t' := (.array .byte)) (by decide) (by decide)))).ext E10)
  have Fc17 : Fld Z h10 x "java/lang/String" "hashIsZero" "Z" (.int (0 : Int32)) := ((Fc9.other W4 (Or.inr (slot_ne (Or.inl (hw _ (List.mem_of_getElem? (i := 71) rfl))) (Or.inr (hw _ (List.mem_of_getElem? (i := 21) rfl))) (by decide) (t := .boolean) (t' := (.array .byte)) (by decide) (by decide)))).ext E10)
  have Ac18 : Arv Z h10 b2 k2 .byte (0 : Int32) [] (.int 0) := ((B2.other W4 (Ne.symm (Exa.neArv (E.ext E2) B2 (hw _ (List.mem_of_getElem? (i := 2) rfl))))).ext E10)
  refine P11.putF (hw _ (List.mem_of_getElem? (i := 26) rfl)) Via.refl Fc14 Ec13 (Or.inr ⟨(hw _ (List.mem_of_getElem? (i := 22) rfl)), rfl, rfl⟩) (hw _ (List.mem_of_getElem? (i := 2) rfl)) (ty := .byte) (v' := (.int (0 : Int32))) (by decide) rfl rfl d3_23 (fun vm hs hal hr => hr.safe E.lt (safeNull hs E V)) gx (Or.inl (List.mem_of_getElem? (i := 0) rfl)) fun T12 h12 P12 W12 => ?_
  show Go p e below _ (T12.setTop (mkF m 26 #[.val (.ref x), .val (.ref b), .val (.int (0 : Int32)), .val (.int (0 : Int32)), .val .null, .unset] []))
  have Ec19 : Exa Z h12 x "java/lang/String" := (Ec13.wr W12)
  have Fc20 : Fld Z h12 x "java/lang/String" "coder" "B" (.int (0 : Int32)) := (Fc14.same W12)
  have Fc21 : Fld Z h12 x "java/lang/String" "value" "[B" (.ref b2) := (Fc15.other W12 (Or.inr (slot_ne (Or.inr (hw _ (List.mem_of_getElem? (i := 21) rfl))) (Or.inr (hw _ (List.mem_of_getElem? (i := 22) rfl))) (by decide) (t := (.array .byte)) (t' := .byte) (by decide) (by decide))))
  have Fc22 : Fld Z h12 x "java/lang/String" "hash" "I" (.int (0 : Int32)) := (Fc16.other W12 (Or.inr (slot_ne (Or.inl (hw _ (List.mem_of_getElem? (i := 69) rfl))) (Or.inr (hw _ (List.mem_of_getElem? (i := 22) rfl))) (by decide) (t := .int) (t' := .byte) (by decide) (by decide))))
  have Fc23 : Fld Z h12 x "java/lang/String" "hashIsZero" "Z" (.int (0 : Int32)) := (Fc17.other W12 (Or.inr (slot_ne (Or.inl (hw _ (List.mem_of_getElem? (i := 71) rfl))) (Or.inr (hw _ (List.mem_of_getElem? (i := 22) rfl))) (by decide) (t := .boolean) (t' := .byte) (by decide) (by decide))))
  have Ac24 : Arv Z h12 b2 k2 .byte (0 : Int32) [] (.int 0) := (Ac18.other W12 (Ne.symm (Exa.neArv ((Ec5.wr W4).ext E10) ((B2.other W4 (Ne.symm (Exa.neArv (E.ext E2) B2 (hw _ (List.mem_of_getElem? (i := 2) rfl))))).ext E10) (hw _ (List.mem_of_getElem? (i := 2) rfl)))))
  exact P12.retV rfl d3_26 (by decide) (by decide) ⟨rfl, Ec19, Fc20, Fc22, Fc23, b2, _, Fc21, Ac24⟩

def R_initE1 : Room := { frames := 2, cells := 4, slots := 8, locals := 29 }
def Q_initE1 (Z : State) (x : Addr) (h0 : Heap) (v : Option Value) (h : Heap) : Prop := v = none ∧ Exa Z h x "java/lang/String" ∧ Fld Z h x "java/lang/String" "coder" "B" (.int (0 : Int32)) ∧ Fld Z h x "java/lang/String" "hash" "I" (.int (0 : Int32)) ∧ Fld Z h x "java/lang/String" "hashIsZero" "Z" (.int (0 : Int32)) ∧ ∃ (t : Addr) (kb : ClassId), Fld Z h x "java/lang/String" "value" "[B" (.ref t) ∧ Arv Z h t kb .byte (0 : Int32) [] (.int 0)
set_option maxRecDepth 65536 in
set_option maxHeartbeats 40000000 in
theorem initE1 (l : Launch) (Z : State) (a0 : Array Value) (hw : ∀ d ∈ tables_1, d.before a0 Z = true) (EL : List (String × Nat)) (hEL : EW Z a0 EL) (zc : Int32) (S0 : Sta Z Z.heap "java/lang/String" "COMPACT_STRINGS" "Z" (.int zc)) (Pz : ¬ zc = 0) (wc : Addr) (cc : Cell) (SH : Sta Z Z.heap "java/lang/Integer$IntegerCache" "high" "I" (.int (127 : Int32))) (SC : Sta Z Z.heap "java/lang/Integer$IntegerCache" "cache" "[Ljava/lang/Integer;" (.ref wc)) (BX : Bxs Z wc cc "java/lang/Integer" "I" (256 : Int32) (fun j => .int (j - 128))) (x b : Addr) (kc : ClassId) (h0 : Heap) (hO : Ext Z.heap h0) (E : Exa Z h0 x "java/lang/String") (V : Fld Z h0 x "java/lang/String" "value" "[B" .null) (C : Fld Z h0 x "java/lang/String" "coder" "B" (.int (0 : Int32))) (gx : Z.heap.size ≤ x) (hmem : ("java/lang/String", 7) ∈ EL) (Hh : Fld Z h0 x "java/lang/String" "hash" "I" (.int (0 : Int32))) (Hz : Fld Z h0 x "java/lang/String" "hashIsZero" "Z" (.int (0 : Int32))) (A : Arv Z h0 b kc .char (0 : Int32) [] (.int (0 : Int32))) :
    Con l Z EL [] (⟨"java/lang/String", "<init>", "([C)V"⟩ : MethodName) jdk_42_method_3_code 2 none R_initE1 #[(.ref x), (.ref b)] h0 [x] (Q_initE1 Z x h0) := by
  refine Con.of (y := (⟨"java/lang/String", "<init>", "([C)V"⟩ : MethodName)) (f0 := fun m => mkF m 0 #[.val (.ref x), .val (.ref b)] []) (plainFor_of_name pn_0) hEL hO (fun m => by skip <;> first | (simp [entryFrame, mkF, argsToLocals, Value.category, maxLocals]; done) | rfl) ?_
  intro p e s m below meth c s₁ P0
  show Go p e below _ (s₁.setTop (mkF m 0 #[.val (.ref x), .val (.ref b)] []))
  refine P0.xs (fun hA hx hy t k => XS.aloadN hA hx rfl (hb hy d2_0) rfl rfl  k) ?_
  show Go p e below _ (s₁.setTop (mkF m 1 #[.val (.ref x), .val (.ref b)] [(.ref x)]))
  refine P0.xs (fun hA hx hy t k => XS.aloadN hA hx rfl (hb hy d2_1) rfl rfl  k) ?_
  show Go p e below _ (s₁.setTop (mkF m 2 #[.val (.ref x), .val (.ref b)] [(.ref b), (.ref x)]))
  refine P0.xs (fun hA hx hy t k => XS.iconst hA hx rfl (hb hy d2_2) k) ?_
  show Go p e below _ (s₁.setTop (mkF m 3 #[.val (.ref x), .val (.ref b)] [(.int (0 : Int32)), (.ref b), (.ref x)]))
  refine P0.xs (fun hA hx hy t k => XS.aloadN hA hx rfl (hb hy d2_3) rfl rfl  k) ?_
  show Go p e below _ (s₁.setTop (mkF m 4 #[.val (.ref x), .val (.ref b)] [(.ref b), (.int (0 : Int32)), (.ref b), (.ref x)]))
  refine P0.alen A d2_4 ?_
  show Go p e below _ (s₁.setTop (mkF m 5 #[.val (.ref x), .val (.ref b)] [(.int (0 : Int32)), (.int (0 : Int32)), (.ref b), (.ref x)]))
  refine P0.xs (fun hA hx hy t k => XS.aconstNull hA hx rfl (hb hy d2_5) k) ?_
  show Go p e below _ (s₁.setTop (mkF m 6 #[.val (.ref x), .val (.ref b)] [.null, (.int (0 : Int32)), (.int (0 : Int32)), (.ref b), (.ref x)]))
  refine P0.callI rfl (hw _ (List.mem_of_getElem? (i := 12) rfl)) (hw _ (List.mem_of_getElem? (i := 13) rfl)) (hw _ (List.mem_of_getElem? (i := 3) rfl)) (hw _ (List.mem_of_getElem? (i := 15) rfl)) (by decide) (initE4 l Z a0 hw EL hEL zc S0 Pz wc cc SH SC BX x b h0 P0.old E V C gx hmem Hh Hz) (W := 0) (by decide) (by decide) (by decide) (by decide) (allS (Or.inl (List.mem_of_getElem? (i := 0) rfl)) all0) pd_0 (argsL := [(.ref b), (.int (0 : Int32)), (.int (0 : Int32)), .null]) rfl rfl rfl (Nat.le_of_eq rfl) d2_6 fun v25 T25 h25 P25 K25 Q25 => ?_
  obtain ⟨rfl, E25, C25, Hh25, Hz25, b25, k25, V25, B25⟩ := Q25
  show Go p e below _ (T25.setTop (mkF m 9 #[.val (.ref x), .val (.ref b)] []))
  exact P25.retV rfl d2_9 (by decide) (by decide) ⟨rfl, E25, C25, Hh25, Hz25, b25, _, V25, B25⟩

def R_reqNN : Room := { frames := 0, cells := 0, slots := 0, locals := 0 }
def Q_reqNN (Z : State) (x : Addr) (h0 : Heap) (v : Option Value) (h : Heap) : Prop := v = some (.ref x) ∧ h = h0
set_option maxRecDepth 65536 in
set_option maxHeartbeats 40000000 in
theorem reqNN (l : Launch) (Z : State) (a0 : Array Value) (hw : ∀ d ∈ tables_1, d.before a0 Z = true) (EL : List (String × Nat)) (hEL : EW Z a0 EL) (zc : Int32) (S0 : Sta Z Z.heap "java/lang/String" "COMPACT_STRINGS" "Z" (.int zc)) (Pz : ¬ zc = 0) (wc : Addr) (cc : Cell) (SH : Sta Z Z.heap "java/lang/Integer$IntegerCache" "high" "I" (.int (127 : Int32))) (SC : Sta Z Z.heap "java/lang/Integer$IntegerCache" "cache" "[Ljava/lang/Integer;" (.ref wc)) (BX : Bxs Z wc cc "java/lang/Integer" "I" (256 : Int32) (fun j => .int (j - 128))) (x y : Addr) (h0 : Heap) (hO : Ext Z.heap h0)  :
    Con l Z EL [] (⟨"java/util/Objects", "requireNonNull", "(Ljava/lang/Object;Ljava/lang/String;)Ljava/lang/Object;"⟩ : MethodName) jdk_31_method_11_code 2 (some (.object "java/lang/Object")) R_reqNN #[(.ref x), (.ref y)] h0 [] (Q_reqNN Z x h0) := by
  refine Con.of (y := (⟨"java/util/Objects", "requireNonNull", "(Ljava/lang/Object;Ljava/lang/String;)Ljava/lang/Object;"⟩ : MethodName)) (f0 := fun m => mkF m 0 #[.val (.ref x), .val (.ref y)] []) (plainFor_of_name pn_1) hEL hO (fun m => by skip <;> first | (simp [entryFrame, mkF, argsToLocals, Value.category, maxLocals]; done) | rfl) ?_
  intro p e s m below meth c s₁ P0
  show Go p e below _ (s₁.setTop (mkF m 0 #[.val (.ref x), .val (.ref y)] []))
  refine P0.xs (fun hA hx hy t k => XS.aloadN hA hx rfl (hb hy d6_0) rfl rfl  k) ?_
  show Go p e below _ (s₁.setTop (mkF m 1 #[.val (.ref x), .val (.ref y)] [(.ref x)]))
  refine P0.xs (fun hA hx hy t k => XS.ifnonnullYes hA hx rfl (pc0 := 1) (pc' := 13) rfl (hb hy d6_1) rfl (by decide) (by decide) k) ?_
  show Go p e below _ (s₁.setTop (mkF m 13 #[.val (.ref x), .val (.ref y)] []))
  refine P0.xs (fun hA hx hy t k => XS.aloadN hA hx rfl (hb hy d6_13) rfl rfl  k) ?_
  show Go p e below _ (s₁.setTop (mkF m 14 #[.val (.ref x), .val (.ref y)] [(.ref x)]))
  exact P0.retR rfl rfl rfl d6_14 (by decide) (by decide) ⟨rfl, rfl⟩

def R_mChars0 : Room := { frames := 0, cells := 1, slots := 0, locals := 0 }
def Q_mChars0 (Z : State) (ca cb : Int32) (h0 : Heap) (v : Option Value) (h : Heap) : Prop := ∃ (x : Addr) (kc : ClassId), v = some (.ref x) ∧ h0.size ≤ x ∧ Arv Z h x kc .char (0 : Int32) [] (.int (0 : Int32))
set_option maxRecDepth 65536 in
set_option maxHeartbeats 40000000 in
theorem mChars0 (l : Launch) (Z : State) (a0 : Array Value) (hw : ∀ d ∈ tables_1, d.before a0 Z = true) (EL : List (String × Nat)) (hEL : EW Z a0 EL) (zc : Int32) (S0 : Sta Z Z.heap "java/lang/String" "COMPACT_STRINGS" "Z" (.int zc)) (Pz : ¬ zc = 0) (wc : Addr) (cc : Cell) (SH : Sta Z Z.heap "java/lang/Integer$IntegerCache" "high" "I" (.int (127 : Int32))) (SC : Sta Z Z.heap "java/lang/Integer$IntegerCache" "cache" "[Ljava/lang/Integer;" (.ref wc)) (BX : Bxs Z wc cc "java/lang/Integer" "I" (256 : Int32) (fun j => .int (j - 128))) (ca cb : Int32) (h0 : Heap) (hO : Ext Z.heap h0) (lca : ¬ ca < 0 ∧ ¬ (255 : Int32) < ca) (lcb : ¬ cb < 0 ∧ ¬ (255 : Int32) < cb) :
    Con l Z EL [] (⟨"com/example/qrew/qrew/logic/PredicateEqualsPinLaw", "chars", "(III)[C"⟩ : MethodName) method_2_code 4 (some (.array .char)) R_mChars0 #[(.int (0 : Int32)), (.int ca), (.int cb)] h0 [] (Q_mChars0 Z ca cb h0) := by
  refine Con.of (y := (⟨"com/example/qrew/qrew/logic/PredicateEqualsPinLaw", "chars", "(III)[C"⟩ : MethodName)) (f0 := fun m => mkF m 0 #[.val (.int (0 : Int32)), .val (.int ca), .val (.int cb), .unset] []) (plainFor_of_name pn_2) hEL hO (fun m => by skip <;> first | (simp [entryFrame, mkF, argsToLocals, Value.category, maxLocals]; done) | rfl) ?_
  intro p e s m below meth c s₁ P0
  show Go p e below _ (s₁.setTop (mkF m 0 #[.val (.int (0 : Int32)), .val (.int ca), .val (.int cb), .unset] []))
  refine P0.xs (fun hA hx hy t k => XS.iloadN hA hx rfl (hb hy d1_0) rfl  k) ?_
  show Go p e below _ (s₁.setTop (mkF m 1 #[.val (.int (0 : Int32)), .val (.int ca), .val (.int cb), .unset] [(.int (0 : Int32))]))
  refine P0.newP (aty := .char) (hw _ (List.mem_of_getElem? (i := 8) rfl)) d1_1 (by decide) (cap := 0) (by decide) (by decide) (by decide) (by decide) fun T26 h26 o26 k26 g26 P26 E26 A26 => ?_
  have gz_o26 : Z.heap.size ≤ o26 := Nat.le_trans P0.old.1 (Nat.le_of_eq g26.symm)
  have gw_o26 : h0.size ≤ o26 := Nat.le_trans P0.kept.1 (Nat.le_of_eq g26.symm)
  have V26 : Arv Z h26 o26 k26 .char (0 : Int32) [] (.int (0 : Int32)) := Arv.pad A26 (pad_rep [] (.int (0 : Int32)) 0)
  show Go p e below _ (T26.setTop (mkF m 3 #[.val (.int (0 : Int32)), .val (.int ca), .val (.int cb), .unset] [(.ref o26)]))
  refine P26.xs (fun hA hx hy t k => XS.astoreN hA hx rfl (hb hy d1_3) rfl rfl (l' := #[.val (.int (0 : Int32)), .val (.int ca), .val (.int cb), .val (.ref o26)]) rfl k) ?_
  show Go p e below _ (T26.setTop (mkF m 4 #[.val (.int (0 : Int32)), .val (.int ca), .val (.int cb), .val (.ref o26)] []))
  refine P26.xs (fun hA hx hy t k => XS.iloadN hA hx rfl (hb hy d1_4) rfl  k) ?_
  show Go p e below _ (T26.setTop (mkF m 5 #[.val (.int (0 : Int32)), .val (.int ca), .val (.int cb), .val (.ref o26)] [(.int (0 : Int32))]))
  refine P26.xs (fun hA hx hy t k => XS.ifYes hA hx rfl (pc0 := 5) (pc' := 13) rfl (hb hy d1_5) rfl ((if0 _ _).trans (flt (by decide)).2.2.2) (by decide) (by decide) k) ?_
  show Go p e below _ (T26.setTop (mkF m 13 #[.val (.int (0 : Int32)), .val (.int ca), .val (.int cb), .val (.ref o26)] []))
  refine P26.xs (fun hA hx hy t k => XS.iloadN hA hx rfl (hb hy d1_13) rfl  k) ?_
  show Go p e below _ (T26.setTop (mkF m 14 #[.val (.int (0 : Int32)), .val (.int ca), .val (.int cb), .val (.ref o26)] [(.int (0 : Int32))]))
  refine P26.xs (fun hA hx hy t k => XS.iconst hA hx rfl (hb hy d1_14) k) ?_
  show Go p e below _ (T26.setTop (mkF m 15 #[.val (.int (0 : Int32)), .val (.int ca), .val (.int cb), .val (.ref o26)] [(.int (1 : Int32)), (.int (0 : Int32))]))
  refine P26.xs (fun hA hx hy t k => XS.icmpYes hA hx rfl (pc0 := 15) (pc' := 23) rfl (hb hy d1_15) rfl (flt (by decide)).2.2.2 (by decide) (by decide) k) ?_
  show Go p e below _ (T26.setTop (mkF m 23 #[.val (.int (0 : Int32)), .val (.int ca), .val (.int cb), .val (.ref o26)] []))
  refine P26.xs (fun hA hx hy t k => XS.aloadN hA hx rfl (hb hy d1_23) rfl rfl  k) ?_
  show Go p e below _ (T26.setTop (mkF m 24 #[.val (.int (0 : Int32)), .val (.int ca), .val (.int cb), .val (.ref o26)] [(.ref o26)]))
  exact P26.retR rfl rfl rfl d1_24 (by decide) (by decide) ⟨o26, _, rfl, gw_o26, V26⟩

def R_mChars1 : Room := { frames := 0, cells := 1, slots := 1, locals := 0 }
def Q_mChars1 (Z : State) (ca cb : Int32) (h0 : Heap) (v : Option Value) (h : Heap) : Prop := ∃ (x : Addr) (kc : ClassId), v = some (.ref x) ∧ h0.size ≤ x ∧ Arv Z h x kc .char (1 : Int32) [(.int ca)] (.int (0 : Int32))
set_option maxRecDepth 65536 in
set_option maxHeartbeats 40000000 in
theorem mChars1 (l : Launch) (Z : State) (a0 : Array Value) (hw : ∀ d ∈ tables_1, d.before a0 Z = true) (EL : List (String × Nat)) (hEL : EW Z a0 EL) (zc : Int32) (S0 : Sta Z Z.heap "java/lang/String" "COMPACT_STRINGS" "Z" (.int zc)) (Pz : ¬ zc = 0) (wc : Addr) (cc : Cell) (SH : Sta Z Z.heap "java/lang/Integer$IntegerCache" "high" "I" (.int (127 : Int32))) (SC : Sta Z Z.heap "java/lang/Integer$IntegerCache" "cache" "[Ljava/lang/Integer;" (.ref wc)) (BX : Bxs Z wc cc "java/lang/Integer" "I" (256 : Int32) (fun j => .int (j - 128))) (ca cb : Int32) (h0 : Heap) (hO : Ext Z.heap h0) (lca : ¬ ca < 0 ∧ ¬ (255 : Int32) < ca) (lcb : ¬ cb < 0 ∧ ¬ (255 : Int32) < cb) :
    Con l Z EL [] (⟨"com/example/qrew/qrew/logic/PredicateEqualsPinLaw", "chars", "(III)[C"⟩ : MethodName) method_2_code 4 (some (.array .char)) R_mChars1 #[(.int (1 : Int32)), (.int ca), (.int cb)] h0 [] (Q_mChars1 Z ca cb h0) := by
  refine Con.of (y := (⟨"com/example/qrew/qrew/logic/PredicateEqualsPinLaw", "chars", "(III)[C"⟩ : MethodName)) (f0 := fun m => mkF m 0 #[.val (.int (1 : Int32)), .val (.int ca), .val (.int cb), .unset] []) (plainFor_of_name pn_2) hEL hO (fun m => by skip <;> first | (simp [entryFrame, mkF, argsToLocals, Value.category, maxLocals]; done) | rfl) ?_
  intro p e s m below meth c s₁ P0
  show Go p e below _ (s₁.setTop (mkF m 0 #[.val (.int (1 : Int32)), .val (.int ca), .val (.int cb), .unset] []))
  refine P0.xs (fun hA hx hy t k => XS.iloadN hA hx rfl (hb hy d1_0) rfl  k) ?_
  show Go p e below _ (s₁.setTop (mkF m 1 #[.val (.int (1 : Int32)), .val (.int ca), .val (.int cb), .unset] [(.int (1 : Int32))]))
  refine P0.newP (aty := .char) (hw _ (List.mem_of_getElem? (i := 8) rfl)) d1_1 (by decide) (cap := 1) (by decide) (by decide) (by decide) (by decide) fun T27 h27 o27 k27 g27 P27 E27 A27 => ?_
  have gz_o27 : Z.heap.size ≤ o27 := Nat.le_trans P0.old.1 (Nat.le_of_eq g27.symm)
  have gw_o27 : h0.size ≤ o27 := Nat.le_trans P0.kept.1 (Nat.le_of_eq g27.symm)
  have V27 : Arv Z h27 o27 k27 .char (1 : Int32) [(.int (0 : Int32))] (.int (0 : Int32)) := Arv.pad A27 (pad_rep [] (.int (0 : Int32)) 1)
  show Go p e below _ (T27.setTop (mkF m 3 #[.val (.int (1 : Int32)), .val (.int ca), .val (.int cb), .unset] [(.ref o27)]))
  refine P27.xs (fun hA hx hy t k => XS.astoreN hA hx rfl (hb hy d1_3) rfl rfl (l' := #[.val (.int (1 : Int32)), .val (.int ca), .val (.int cb), .val (.ref o27)]) rfl k) ?_
  show Go p e below _ (T27.setTop (mkF m 4 #[.val (.int (1 : Int32)), .val (.int ca), .val (.int cb), .val (.ref o27)] []))
  refine P27.xs (fun hA hx hy t k => XS.iloadN hA hx rfl (hb hy d1_4) rfl  k) ?_
  show Go p e below _ (T27.setTop (mkF m 5 #[.val (.int (1 : Int32)), .val (.int ca), .val (.int cb), .val (.ref o27)] [(.int (1 : Int32))]))
  refine P27.xs (fun hA hx hy t k => XS.ifNo hA hx rfl (hb hy d1_5) rfl ((if0 _ _).trans (tlt (by decide)).2.2.2) k) ?_
  show Go p e below _ (T27.setTop (mkF m 8 #[.val (.int (1 : Int32)), .val (.int ca), .val (.int cb), .val (.ref o27)] []))
  refine P27.xs (fun hA hx hy t k => XS.aloadN hA hx rfl (hb hy d1_8) rfl rfl  k) ?_
  show Go p e below _ (T27.setTop (mkF m 9 #[.val (.int (1 : Int32)), .val (.int ca), .val (.int cb), .val (.ref o27)] [(.ref o27)]))
  refine P27.xs (fun hA hx hy t k => XS.iconst hA hx rfl (hb hy d1_9) k) ?_
  show Go p e below _ (T27.setTop (mkF m 10 #[.val (.int (1 : Int32)), .val (.int ca), .val (.int cb), .val (.ref o27)] [(.int (0 : Int32)), (.ref o27)]))
  refine P27.xs (fun hA hx hy t k => XS.iloadN hA hx rfl (hb hy d1_10) rfl  k) ?_
  show Go p e below _ (T27.setTop (mkF m 11 #[.val (.int (1 : Int32)), .val (.int ca), .val (.int cb), .val (.ref o27)] [(.int ca), (.int (0 : Int32)), (.ref o27)]))
  refine P27.xs (fun hA hx hy t k => XS.i2c hA hx rfl (hb hy d1_11) rfl k) ?_
  show Go p e below _ (T27.setTop (mkF m 12 #[.val (.int (1 : Int32)), .val (.int ca), .val (.int cb), .val (.ref o27)] [(.int (ca.toUInt32.toUInt16.toUInt32.toInt32)), (.int (0 : Int32)), (.ref o27)]))
  rw [chrLat lca]
  show Go p e below _ (T27.setTop (mkF m 12 #[.val (.int (1 : Int32)), .val (.int ca), .val (.int cb), .val (.ref o27)] [(.int ca), (.int (0 : Int32)), (.ref o27)]))
  refine P27.stC V27 0 (by decide) (by decide) (by decide) (Nat.le_of_ble_eq_true rfl) (x' := ca) (narLat lca) d1_12 gz_o27 (Or.inr gw_o27) fun T28 h28 P28 W28 V28 => ?_
  have Va28 : Arv Z h28 o27 k27 .char (1 : Int32) [(.int ca)] (.int (0 : Int32)) := V28
  show Go p e below _ (T28.setTop (mkF m 13 #[.val (.int (1 : Int32)), .val (.int ca), .val (.int cb), .val (.ref o27)] []))
  refine P28.xs (fun hA hx hy t k => XS.iloadN hA hx rfl (hb hy d1_13) rfl  k) ?_
  show Go p e below _ (T28.setTop (mkF m 14 #[.val (.int (1 : Int32)), .val (.int ca), .val (.int cb), .val (.ref o27)] [(.int (1 : Int32))]))
  refine P28.xs (fun hA hx hy t k => XS.iconst hA hx rfl (hb hy d1_14) k) ?_
  show Go p e below _ (T28.setTop (mkF m 15 #[.val (.int (1 : Int32)), .val (.int ca), .val (.int cb), .val (.ref o27)] [(.int (1 : Int32)), (.int (1 : Int32))]))
  refine P28.xs (fun hA hx hy t k => XS.icmpYes hA hx rfl (pc0 := 15) (pc' := 23) rfl (hb hy d1_15) rfl (flt (by decide)).2.2.2 (by decide) (by decide) k) ?_
  show Go p e below _ (T28.setTop (mkF m 23 #[.val (.int (1 : Int32)), .val (.int ca), .val (.int cb), .val (.ref o27)] []))
  refine P28.xs (fun hA hx hy t k => XS.aloadN hA hx rfl (hb hy d1_23) rfl rfl  k) ?_
  show Go p e below _ (T28.setTop (mkF m 24 #[.val (.int (1 : Int32)), .val (.int ca), .val (.int cb), .val (.ref o27)] [(.ref o27)]))
  exact P28.retR rfl rfl rfl d1_24 (by decide) (by decide) ⟨o27, _, rfl, gw_o27, Va28⟩

def R_mChars2 : Room := { frames := 0, cells := 1, slots := 2, locals := 0 }
def Q_mChars2 (Z : State) (ca cb : Int32) (h0 : Heap) (v : Option Value) (h : Heap) : Prop := ∃ (x : Addr) (kc : ClassId), v = some (.ref x) ∧ h0.size ≤ x ∧ Arv Z h x kc .char (2 : Int32) [(.int ca), (.int cb)] (.int (0 : Int32))
set_option maxRecDepth 65536 in
set_option maxHeartbeats 40000000 in
theorem mChars2 (l : Launch) (Z : State) (a0 : Array Value) (hw : ∀ d ∈ tables_1, d.before a0 Z = true) (EL : List (String × Nat)) (hEL : EW Z a0 EL) (zc : Int32) (S0 : Sta Z Z.heap "java/lang/String" "COMPACT_STRINGS" "Z" (.int zc)) (Pz : ¬ zc = 0) (wc : Addr) (cc : Cell) (SH : Sta Z Z.heap "java/lang/Integer$IntegerCache" "high" "I" (.int (127 : Int32))) (SC : Sta Z Z.heap "java/lang/Integer$IntegerCache" "cache" "[Ljava/lang/Integer;" (.ref wc)) (BX : Bxs Z wc cc "java/lang/Integer" "I" (256 : Int32) (fun j => .int (j - 128))) (ca cb : Int32) (h0 : Heap) (hO : Ext Z.heap h0) (lca : ¬ ca < 0 ∧ ¬ (255 : Int32) < ca) (lcb : ¬ cb < 0 ∧ ¬ (255 : Int32) < cb) :
    Con l Z EL [] (⟨"com/example/qrew/qrew/logic/PredicateEqualsPinLaw", "chars", "(III)[C"⟩ : MethodName) method_2_code 4 (some (.array .char)) R_mChars2 #[(.int (2 : Int32)), (.int ca), (.int cb)] h0 [] (Q_mChars2 Z ca cb h0) := by
  refine Con.of (y := (⟨"com/example/qrew/qrew/logic/PredicateEqualsPinLaw", "chars", "(III)[C"⟩ : MethodName)) (f0 := fun m => mkF m 0 #[.val (.int (2 : Int32)), .val (.int ca), .val (.int cb), .unset] []) (plainFor_of_name pn_2) hEL hO (fun m => by skip <;> first | (simp [entryFrame, mkF, argsToLocals, Value.category, maxLocals]; done) | rfl) ?_
  intro p e s m below meth c s₁ P0
  show Go p e below _ (s₁.setTop (mkF m 0 #[.val (.int (2 : Int32)), .val (.int ca), .val (.int cb), .unset] []))
  refine P0.xs (fun hA hx hy t k => XS.iloadN hA hx rfl (hb hy d1_0) rfl  k) ?_
  show Go p e below _ (s₁.setTop (mkF m 1 #[.val (.int (2 : Int32)), .val (.int ca), .val (.int cb), .unset] [(.int (2 : Int32))]))
  refine P0.newP (aty := .char) (hw _ (List.mem_of_getElem? (i := 8) rfl)) d1_1 (by decide) (cap := 2) (by decide) (by decide) (by decide) (by decide) fun T29 h29 o29 k29 g29 P29 E29 A29 => ?_
  have gz_o29 : Z.heap.size ≤ o29 := Nat.le_trans P0.old.1 (Nat.le_of_eq g29.symm)
  have gw_o29 : h0.size ≤ o29 := Nat.le_trans P0.kept.1 (Nat.le_of_eq g29.symm)
  have V29 : Arv Z h29 o29 k29 .char (2 : Int32) [(.int (0 : Int32)), (.int (0 : Int32))] (.int (0 : Int32)) := Arv.pad A29 (pad_rep [] (.int (0 : Int32)) 2)
  show Go p e below _ (T29.setTop (mkF m 3 #[.val (.int (2 : Int32)), .val (.int ca), .val (.int cb), .unset] [(.ref o29)]))
  refine P29.xs (fun hA hx hy t k => XS.astoreN hA hx rfl (hb hy d1_3) rfl rfl (l' := #[.val (.int (2 : Int32)), .val (.int ca), .val (.int cb), .val (.ref o29)]) rfl k) ?_
  show Go p e below _ (T29.setTop (mkF m 4 #[.val (.int (2 : Int32)), .val (.int ca), .val (.int cb), .val (.ref o29)] []))
  refine P29.xs (fun hA hx hy t k => XS.iloadN hA hx rfl (hb hy d1_4) rfl  k) ?_
  show Go p e below _ (T29.setTop (mkF m 5 #[.val (.int (2 : Int32)), .val (.int ca), .val (.int cb), .val (.ref o29)] [(.int (2 : Int32))]))
  refine P29.xs (fun hA hx hy t k => XS.ifNo hA hx rfl (hb hy d1_5) rfl ((if0 _ _).trans (tlt (by decide)).2.2.2) k) ?_
  show Go p e below _ (T29.setTop (mkF m 8 #[.val (.int (2 : Int32)), .val (.int ca), .val (.int cb), .val (.ref o29)] []))
  refine P29.xs (fun hA hx hy t k => XS.aloadN hA hx rfl (hb hy d1_8) rfl rfl  k) ?_
  show Go p e below _ (T29.setTop (mkF m 9 #[.val (.int (2 : Int32)), .val (.int ca), .val (.int cb), .val (.ref o29)] [(.ref o29)]))
  refine P29.xs (fun hA hx hy t k => XS.iconst hA hx rfl (hb hy d1_9) k) ?_
  show Go p e below _ (T29.setTop (mkF m 10 #[.val (.int (2 : Int32)), .val (.int ca), .val (.int cb), .val (.ref o29)] [(.int (0 : Int32)), (.ref o29)]))
  refine P29.xs (fun hA hx hy t k => XS.iloadN hA hx rfl (hb hy d1_10) rfl  k) ?_
  show Go p e below _ (T29.setTop (mkF m 11 #[.val (.int (2 : Int32)), .val (.int ca), .val (.int cb), .val (.ref o29)] [(.int ca), (.int (0 : Int32)), (.ref o29)]))
  refine P29.xs (fun hA hx hy t k => XS.i2c hA hx rfl (hb hy d1_11) rfl k) ?_
  show Go p e below _ (T29.setTop (mkF m 12 #[.val (.int (2 : Int32)), .val (.int ca), .val (.int cb), .val (.ref o29)] [(.int (ca.toUInt32.toUInt16.toUInt32.toInt32)), (.int (0 : Int32)), (.ref o29)]))
  rw [chrLat lca]
  show Go p e below _ (T29.setTop (mkF m 12 #[.val (.int (2 : Int32)), .val (.int ca), .val (.int cb), .val (.ref o29)] [(.int ca), (.int (0 : Int32)), (.ref o29)]))
  refine P29.stC V29 0 (by decide) (by decide) (by decide) (Nat.le_of_ble_eq_true rfl) (x' := ca) (narLat lca) d1_12 gz_o29 (Or.inr gw_o29) fun T30 h30 P30 W30 V30 => ?_
  have Va30 : Arv Z h30 o29 k29 .char (2 : Int32) [(.int ca), (.int (0 : Int32))] (.int (0 : Int32)) := V30
  show Go p e below _ (T30.setTop (mkF m 13 #[.val (.int (2 : Int32)), .val (.int ca), .val (.int cb), .val (.ref o29)] []))
  refine P30.xs (fun hA hx hy t k => XS.iloadN hA hx rfl (hb hy d1_13) rfl  k) ?_
  show Go p e below _ (T30.setTop (mkF m 14 #[.val (.int (2 : Int32)), .val (.int ca), .val (.int cb), .val (.ref o29)] [(.int (2 : Int32))]))
  refine P30.xs (fun hA hx hy t k => XS.iconst hA hx rfl (hb hy d1_14) k) ?_
  show Go p e below _ (T30.setTop (mkF m 15 #[.val (.int (2 : Int32)), .val (.int ca), .val (.int cb), .val (.ref o29)] [(.int (1 : Int32)), (.int (2 : Int32))]))
  refine P30.xs (fun hA hx hy t k => XS.icmpNo hA hx rfl (hb hy d1_15) rfl (tlt (by decide)).2.2.2 k) ?_
  show Go p e below _ (T30.setTop (mkF m 18 #[.val (.int (2 : Int32)), .val (.int ca), .val (.int cb), .val (.ref o29)] []))
  refine P30.xs (fun hA hx hy t k => XS.aloadN hA hx rfl (hb hy d1_18) rfl rfl  k) ?_
  show Go p e below _ (T30.setTop (mkF m 19 #[.val (.int (2 : Int32)), .val (.int ca), .val (.int cb), .val (.ref o29)] [(.ref o29)]))
  refine P30.xs (fun hA hx hy t k => XS.iconst hA hx rfl (hb hy d1_19) k) ?_
  show Go p e below _ (T30.setTop (mkF m 20 #[.val (.int (2 : Int32)), .val (.int ca), .val (.int cb), .val (.ref o29)] [(.int (1 : Int32)), (.ref o29)]))
  refine P30.xs (fun hA hx hy t k => XS.iloadN hA hx rfl (hb hy d1_20) rfl  k) ?_
  show Go p e below _ (T30.setTop (mkF m 21 #[.val (.int (2 : Int32)), .val (.int ca), .val (.int cb), .val (.ref o29)] [(.int cb), (.int (1 : Int32)), (.ref o29)]))
  refine P30.xs (fun hA hx hy t k => XS.i2c hA hx rfl (hb hy d1_21) rfl k) ?_
  show Go p e below _ (T30.setTop (mkF m 22 #[.val (.int (2 : Int32)), .val (.int ca), .val (.int cb), .val (.ref o29)] [(.int (cb.toUInt32.toUInt16.toUInt32.toInt32)), (.int (1 : Int32)), (.ref o29)]))
  rw [chrLat lcb]
  show Go p e below _ (T30.setTop (mkF m 22 #[.val (.int (2 : Int32)), .val (.int ca), .val (.int cb), .val (.ref o29)] [(.int cb), (.int (1 : Int32)), (.ref o29)]))
  refine P30.stC Va30 1 (by decide) (by decide) (by decide) (Nat.le_of_ble_eq_true rfl) (x' := cb) (narLat lcb) d1_22 gz_o29 (Or.inr gw_o29) fun T31 h31 P31 W31 V31 => ?_
  have Va31 : Arv Z h31 o29 k29 .char (2 : Int32) [(.int ca), (.int cb)] (.int (0 : Int32)) := V31
  show Go p e below _ (T31.setTop (mkF m 23 #[.val (.int (2 : Int32)), .val (.int ca), .val (.int cb), .val (.ref o29)] []))
  refine P31.xs (fun hA hx hy t k => XS.aloadN hA hx rfl (hb hy d1_23) rfl rfl  k) ?_
  show Go p e below _ (T31.setTop (mkF m 24 #[.val (.int (2 : Int32)), .val (.int ca), .val (.int cb), .val (.ref o29)] [(.ref o29)]))
  exact P31.retR rfl rfl rfl d1_24 (by decide) (by decide) ⟨o29, _, rfl, gw_o29, Va31⟩

def R_mSgn : Room := { frames := 0, cells := 0, slots := 0, locals := 0 }
def Q_mSgn (Z : State)  (h0 : Heap) (v : Option Value) (h : Heap) : Prop := ∃ iv : Int32, v = some (.int iv) ∧ h = h0
set_option maxRecDepth 65536 in
set_option maxHeartbeats 40000000 in
theorem mSgn (l : Launch) (Z : State) (a0 : Array Value) (hw : ∀ d ∈ tables_1, d.before a0 Z = true) (EL : List (String × Nat)) (hEL : EW Z a0 EL) (zc : Int32) (S0 : Sta Z Z.heap "java/lang/String" "COMPACT_STRINGS" "Z" (.int zc)) (Pz : ¬ zc = 0) (wc : Addr) (cc : Cell) (SH : Sta Z Z.heap "java/lang/Integer$IntegerCache" "high" "I" (.int (127 : Int32))) (SC : Sta Z Z.heap "java/lang/Integer$IntegerCache" "cache" "[Ljava/lang/Integer;" (.ref wc)) (BX : Bxs Z wc cc "java/lang/Integer" "I" (256 : Int32) (fun j => .int (j - 128))) (tb : Addr) (kb : ClassId) (ca cb : Int32) (h0 : Heap) (hO : Ext Z.heap h0) (A : Arv Z h0 tb kb .byte (2 : Int32) [(.int ca), (.int cb)] (.int 0)) :
    Con l Z EL [] (⟨"jdk/internal/util/ArraysSupport", "signedHashCode", "(I[BII)I"⟩ : MethodName) jdk_48_method_5_code 6 (some .int) R_mSgn #[(.int (0 : Int32)), (.ref tb), (.int (0 : Int32)), (.int (2 : Int32))] h0 [] (Q_mSgn Z  h0) := by
  refine Con.of (y := (⟨"jdk/internal/util/ArraysSupport", "signedHashCode", "(I[BII)I"⟩ : MethodName)) (f0 := fun m => mkF m 0 #[.val (.int (0 : Int32)), .val (.ref tb), .val (.int (0 : Int32)), .val (.int (2 : Int32)), .unset, .unset] []) (plainFor_of_name pn_3) hEL hO (fun m => by skip <;> first | (simp [entryFrame, mkF, argsToLocals, Value.category, maxLocals]; done) | rfl) ?_
  intro p e s m below meth c s₁ P0
  show Go p e below _ (s₁.setTop (mkF m 0 #[.val (.int (0 : Int32)), .val (.ref tb), .val (.int (0 : Int32)), .val (.int (2 : Int32)), .unset, .unset] []))
  refine P0.xs (fun hA hx hy t k => XS.iloadN hA hx rfl (hb hy d20_0) rfl  k) ?_
  show Go p e below _ (s₁.setTop (mkF m 1 #[.val (.int (0 : Int32)), .val (.ref tb), .val (.int (0 : Int32)), .val (.int (2 : Int32)), .unset, .unset] [(.int (0 : Int32))]))
  refine P0.xs (fun hA hx hy t k => XS.iloadN hA hx rfl (hb hy d20_1) rfl  k) ?_
  show Go p e below _ (s₁.setTop (mkF m 2 #[.val (.int (0 : Int32)), .val (.ref tb), .val (.int (0 : Int32)), .val (.int (2 : Int32)), .unset, .unset] [(.int (2 : Int32)), (.int (0 : Int32))]))
  refine P0.xs (fun hA hx hy t k => XS.iadd hA hx rfl (hb hy d20_2) rfl k) ?_
  show Go p e below _ (s₁.setTop (mkF m 3 #[.val (.int (0 : Int32)), .val (.ref tb), .val (.int (0 : Int32)), .val (.int (2 : Int32)), .unset, .unset] [(.int (2 : Int32))]))
  refine P0.xs (fun hA hx hy t k => XS.istore hA hx rfl (hb hy d20_3) rfl (l' := #[.val (.int (0 : Int32)), .val (.ref tb), .val (.int (0 : Int32)), .val (.int (2 : Int32)), .val (.int (2 : Int32)), .unset]) rfl k) ?_
  show Go p e below _ (s₁.setTop (mkF m 5 #[.val (.int (0 : Int32)), .val (.ref tb), .val (.int (0 : Int32)), .val (.int (2 : Int32)), .val (.int (2 : Int32)), .unset] []))
  refine P0.xs (fun hA hx hy t k => XS.iloadN hA hx rfl (hb hy d20_5) rfl  k) ?_
  show Go p e below _ (s₁.setTop (mkF m 6 #[.val (.int (0 : Int32)), .val (.ref tb), .val (.int (0 : Int32)), .val (.int (2 : Int32)), .val (.int (2 : Int32)), .unset] [(.int (0 : Int32))]))
  refine P0.xs (fun hA hx hy t k => XS.istore hA hx rfl (hb hy d20_6) rfl (l' := #[.val (.int (0 : Int32)), .val (.ref tb), .val (.int (0 : Int32)), .val (.int (2 : Int32)), .val (.int (2 : Int32)), .val (.int (0 : Int32))]) rfl k) ?_
  show Go p e below _ (s₁.setTop (mkF m 8 #[.val (.int (0 : Int32)), .val (.ref tb), .val (.int (0 : Int32)), .val (.int (2 : Int32)), .val (.int (2 : Int32)), .val (.int (0 : Int32))] []))
  refine P0.xs (fun hA hx hy t k => XS.iload hA hx rfl (hb hy d20_8) rfl  k) ?_
  show Go p e below _ (s₁.setTop (mkF m 10 #[.val (.int (0 : Int32)), .val (.ref tb), .val (.int (0 : Int32)), .val (.int (2 : Int32)), .val (.int (2 : Int32)), .val (.int (0 : Int32))] [(.int (0 : Int32))]))
  refine P0.xs (fun hA hx hy t k => XS.iload hA hx rfl (hb hy d20_10) rfl  k) ?_
  show Go p e below _ (s₁.setTop (mkF m 12 #[.val (.int (0 : Int32)), .val (.ref tb), .val (.int (0 : Int32)), .val (.int (2 : Int32)), .val (.int (2 : Int32)), .val (.int (0 : Int32))] [(.int (2 : Int32)), (.int (0 : Int32))]))
  refine P0.xs (fun hA hx hy t k => XS.icmpNo hA hx rfl (hb hy d20_12) rfl (tlt (by decide)).2.1 k) ?_
  show Go p e below _ (s₁.setTop (mkF m 15 #[.val (.int (0 : Int32)), .val (.ref tb), .val (.int (0 : Int32)), .val (.int (2 : Int32)), .val (.int (2 : Int32)), .val (.int (0 : Int32))] []))
  refine P0.xs (fun hA hx hy t k => XS.bipush hA hx rfl (hb hy d20_15) k) ?_
  show Go p e below _ (s₁.setTop (mkF m 17 #[.val (.int (0 : Int32)), .val (.ref tb), .val (.int (0 : Int32)), .val (.int (2 : Int32)), .val (.int (2 : Int32)), .val (.int (0 : Int32))] [(.int (31 : Int32))]))
  refine P0.xs (fun hA hx hy t k => XS.iloadN hA hx rfl (hb hy d20_17) rfl  k) ?_
  show Go p e below _ (s₁.setTop (mkF m 18 #[.val (.int (0 : Int32)), .val (.ref tb), .val (.int (0 : Int32)), .val (.int (2 : Int32)), .val (.int (2 : Int32)), .val (.int (0 : Int32))] [(.int (0 : Int32)), (.int (31 : Int32))]))
  refine P0.xs (fun hA hx hy t k => XS.imul hA hx rfl (hb hy d20_18) rfl k) ?_
  show Go p e below _ (s₁.setTop (mkF m 19 #[.val (.int (0 : Int32)), .val (.ref tb), .val (.int (0 : Int32)), .val (.int (2 : Int32)), .val (.int (2 : Int32)), .val (.int (0 : Int32))] [(.int ((31 : Int32) * (0 : Int32)))]))
  refine P0.xs (fun hA hx hy t k => XS.aloadN hA hx rfl (hb hy d20_19) rfl rfl  k) ?_
  show Go p e below _ (s₁.setTop (mkF m 20 #[.val (.int (0 : Int32)), .val (.ref tb), .val (.int (0 : Int32)), .val (.int (2 : Int32)), .val (.int (2 : Int32)), .val (.int (0 : Int32))] [(.ref tb), (.int ((31 : Int32) * (0 : Int32)))]))
  refine P0.xs (fun hA hx hy t k => XS.iload hA hx rfl (hb hy d20_20) rfl  k) ?_
  show Go p e below _ (s₁.setTop (mkF m 22 #[.val (.int (0 : Int32)), .val (.ref tb), .val (.int (0 : Int32)), .val (.int (2 : Int32)), .val (.int (2 : Int32)), .val (.int (0 : Int32))] [(.int (0 : Int32)), (.ref tb), (.int ((31 : Int32) * (0 : Int32)))]))
  refine P0.bald A (by decide) (by decide) (v := (.int ca)) rfl d20_22 ?_
  show Go p e below _ (s₁.setTop (mkF m 23 #[.val (.int (0 : Int32)), .val (.ref tb), .val (.int (0 : Int32)), .val (.int (2 : Int32)), .val (.int (2 : Int32)), .val (.int (0 : Int32))] [(.int ca), (.int ((31 : Int32) * (0 : Int32)))]))
  refine P0.xs (fun hA hx hy t k => XS.sipush hA hx rfl (hb hy d20_23) k) ?_
  show Go p e below _ (s₁.setTop (mkF m 26 #[.val (.int (0 : Int32)), .val (.ref tb), .val (.int (0 : Int32)), .val (.int (2 : Int32)), .val (.int (2 : Int32)), .val (.int (0 : Int32))] [(.int (255 : Int32)), (.int ca), (.int ((31 : Int32) * (0 : Int32)))]))
  refine P0.xs (fun hA hx hy t k => XS.iand hA hx rfl (hb hy d20_26) rfl k) ?_
  show Go p e below _ (s₁.setTop (mkF m 27 #[.val (.int (0 : Int32)), .val (.ref tb), .val (.int (0 : Int32)), .val (.int (2 : Int32)), .val (.int (2 : Int32)), .val (.int (0 : Int32))] [(.int (ca &&& (255 : Int32))), (.int ((31 : Int32) * (0 : Int32)))]))
  refine P0.xs (fun hA hx hy t k => XS.iadd hA hx rfl (hb hy d20_27) rfl k) ?_
  show Go p e below _ (s₁.setTop (mkF m 28 #[.val (.int (0 : Int32)), .val (.ref tb), .val (.int (0 : Int32)), .val (.int (2 : Int32)), .val (.int (2 : Int32)), .val (.int (0 : Int32))] [(.int (((31 : Int32) * (0 : Int32)) + (ca &&& (255 : Int32))))]))
  refine P0.xs (fun hA hx hy t k => XS.istoreN hA hx rfl (hb hy d20_28) rfl (l' := #[.val (.int (((31 : Int32) * (0 : Int32)) + (ca &&& (255 : Int32)))), .val (.ref tb), .val (.int (0 : Int32)), .val (.int (2 : Int32)), .val (.int (2 : Int32)), .val (.int (0 : Int32))]) rfl k) ?_
  show Go p e below _ (s₁.setTop (mkF m 29 #[.val (.int (((31 : Int32) * (0 : Int32)) + (ca &&& (255 : Int32)))), .val (.ref tb), .val (.int (0 : Int32)), .val (.int (2 : Int32)), .val (.int (2 : Int32)), .val (.int (0 : Int32))] []))
  refine P0.xs (fun hA hx hy t k => XS.iinc hA hx rfl (hb hy d20_29) rfl (l' := #[.val (.int (((31 : Int32) * (0 : Int32)) + (ca &&& (255 : Int32)))), .val (.ref tb), .val (.int (0 : Int32)), .val (.int (2 : Int32)), .val (.int (2 : Int32)), .val (.int (1 : Int32))]) rfl k) ?_
  show Go p e below _ (s₁.setTop (mkF m 32 #[.val (.int (((31 : Int32) * (0 : Int32)) + (ca &&& (255 : Int32)))), .val (.ref tb), .val (.int (0 : Int32)), .val (.int (2 : Int32)), .val (.int (2 : Int32)), .val (.int (1 : Int32))] []))
  refine P0.xs (fun hA hx hy t k => XS.goto hA hx rfl (pc0 := 32) (pc' := 8) rfl (hb hy d20_32) (by decide) (by decide) k) ?_
  show Go p e below _ (s₁.setTop (mkF m 8 #[.val (.int (((31 : Int32) * (0 : Int32)) + (ca &&& (255 : Int32)))), .val (.ref tb), .val (.int (0 : Int32)), .val (.int (2 : Int32)), .val (.int (2 : Int32)), .val (.int (1 : Int32))] []))
  refine P0.xs (fun hA hx hy t k => XS.iload hA hx rfl (hb hy d20_8) rfl  k) ?_
  show Go p e below _ (s₁.setTop (mkF m 10 #[.val (.int (((31 : Int32) * (0 : Int32)) + (ca &&& (255 : Int32)))), .val (.ref tb), .val (.int (0 : Int32)), .val (.int (2 : Int32)), .val (.int (2 : Int32)), .val (.int (1 : Int32))] [(.int (1 : Int32))]))
  refine P0.xs (fun hA hx hy t k => XS.iload hA hx rfl (hb hy d20_10) rfl  k) ?_
  show Go p e below _ (s₁.setTop (mkF m 12 #[.val (.int (((31 : Int32) * (0 : Int32)) + (ca &&& (255 : Int32)))), .val (.ref tb), .val (.int (0 : Int32)), .val (.int (2 : Int32)), .val (.int (2 : Int32)), .val (.int (1 : Int32))] [(.int (2 : Int32)), (.int (1 : Int32))]))
  refine P0.xs (fun hA hx hy t k => XS.icmpNo hA hx rfl (hb hy d20_12) rfl (tlt (by decide)).2.1 k) ?_
  show Go p e below _ (s₁.setTop (mkF m 15 #[.val (.int (((31 : Int32) * (0 : Int32)) + (ca &&& (255 : Int32)))), .val (.ref tb), .val (.int (0 : Int32)), .val (.int (2 : Int32)), .val (.int (2 : Int32)), .val (.int (1 : Int32))] []))
  refine P0.xs (fun hA hx hy t k => XS.bipush hA hx rfl (hb hy d20_15) k) ?_
  show Go p e below _ (s₁.setTop (mkF m 17 #[.val (.int (((31 : Int32) * (0 : Int32)) + (ca &&& (255 : Int32)))), .val (.ref tb), .val (.int (0 : Int32)), .val (.int (2 : Int32)), .val (.int (2 : Int32)), .val (.int (1 : Int32))] [(.int (31 : Int32))]))
  refine P0.xs (fun hA hx hy t k => XS.iloadN hA hx rfl (hb hy d20_17) rfl  k) ?_
  show Go p e below _ (s₁.setTop (mkF m 18 #[.val (.int (((31 : Int32) * (0 : Int32)) + (ca &&& (255 : Int32)))), .val (.ref tb), .val (.int (0 : Int32)), .val (.int (2 : Int32)), .val (.int (2 : Int32)), .val (.int (1 : Int32))] [(.int (((31 : Int32) * (0 : Int32)) + (ca &&& (255 : Int32)))), (.int (31 : Int32))]))
  refine P0.xs (fun hA hx hy t k => XS.imul hA hx rfl (hb hy d20_18) rfl k) ?_
  show Go p e below _ (s₁.setTop (mkF m 19 #[.val (.int (((31 : Int32) * (0 : Int32)) + (ca &&& (255 : Int32)))), .val (.ref tb), .val (.int (0 : Int32)), .val (.int (2 : Int32)), .val (.int (2 : Int32)), .val (.int (1 : Int32))] [(.int ((31 : Int32) * (((31 : Int32) * (0 : Int32)) + (ca &&& (255 : Int32)))))]))
  refine P0.xs (fun hA hx hy t k => XS.aloadN hA hx rfl (hb hy d20_19) rfl rfl  k) ?_
  show Go p e below _ (s₁.setTop (mkF m 20 #[.val (.int (((31 : Int32) * (0 : Int32)) + (ca &&& (255 : Int32)))), .val (.ref tb), .val (.int (0 : Int32)), .val (.int (2 : Int32)), .val (.int (2 : Int32)), .val (.int (1 : Int32))] [(.ref tb), (.int ((31 : Int32) * (((31 : Int32) * (0 : Int32)) + (ca &&& (255 : Int32)))))]))
  refine P0.xs (fun hA hx hy t k => XS.iload hA hx rfl (hb hy d20_20) rfl  k) ?_
  show Go p e below _ (s₁.setTop (mkF m 22 #[.val (.int (((31 : Int32) * (0 : Int32)) + (ca &&& (255 : Int32)))), .val (.ref tb), .val (.int (0 : Int32)), .val (.int (2 : Int32)), .val (.int (2 : Int32)), .val (.int (1 : Int32))] [(.int (1 : Int32)), (.ref tb), (.int ((31 : Int32) * (((31 : Int32) * (0 : Int32)) + (ca &&& (255 : Int32)))))]))
  refine P0.bald A (by decide) (by decide) (v := (.int cb)) rfl d20_22 ?_
  show Go p e below _ (s₁.setTop (mkF m 23 #[.val (.int (((31 : Int32) * (0 : Int32)) + (ca &&& (255 : Int32)))), .val (.ref tb), .val (.int (0 : Int32)), .val (.int (2 : Int32)), .val (.int (2 : Int32)), .val (.int (1 : Int32))] [(.int cb), (.int ((31 : Int32) * (((31 : Int32) * (0 : Int32)) + (ca &&& (255 : Int32)))))]))
  refine P0.xs (fun hA hx hy t k => XS.sipush hA hx rfl (hb hy d20_23) k) ?_
  show Go p e below _ (s₁.setTop (mkF m 26 #[.val (.int (((31 : Int32) * (0 : Int32)) + (ca &&& (255 : Int32)))), .val (.ref tb), .val (.int (0 : Int32)), .val (.int (2 : Int32)), .val (.int (2 : Int32)), .val (.int (1 : Int32))] [(.int (255 : Int32)), (.int cb), (.int ((31 : Int32) * (((31 : Int32) * (0 : Int32)) + (ca &&& (255 : Int32)))))]))
  refine P0.xs (fun hA hx hy t k => XS.iand hA hx rfl (hb hy d20_26) rfl k) ?_
  show Go p e below _ (s₁.setTop (mkF m 27 #[.val (.int (((31 : Int32) * (0 : Int32)) + (ca &&& (255 : Int32)))), .val (.ref tb), .val (.int (0 : Int32)), .val (.int (2 : Int32)), .val (.int (2 : Int32)), .val (.int (1 : Int32))] [(.int (cb &&& (255 : Int32))), (.int ((31 : Int32) * (((31 : Int32) * (0 : Int32)) + (ca &&& (255 : Int32)))))]))
  refine P0.xs (fun hA hx hy t k => XS.iadd hA hx rfl (hb hy d20_27) rfl k) ?_
  show Go p e below _ (s₁.setTop (mkF m 28 #[.val (.int (((31 : Int32) * (0 : Int32)) + (ca &&& (255 : Int32)))), .val (.ref tb), .val (.int (0 : Int32)), .val (.int (2 : Int32)), .val (.int (2 : Int32)), .val (.int (1 : Int32))] [(.int (((31 : Int32) * (((31 : Int32) * (0 : Int32)) + (ca &&& (255 : Int32)))) + (cb &&& (255 : Int32))))]))
  refine P0.xs (fun hA hx hy t k => XS.istoreN hA hx rfl (hb hy d20_28) rfl (l' := #[.val (.int (((31 : Int32) * (((31 : Int32) * (0 : Int32)) + (ca &&& (255 : Int32)))) + (cb &&& (255 : Int32)))), .val (.ref tb), .val (.int (0 : Int32)), .val (.int (2 : Int32)), .val (.int (2 : Int32)), .val (.int (1 : Int32))]) rfl k) ?_
  show Go p e below _ (s₁.setTop (mkF m 29 #[.val (.int (((31 : Int32) * (((31 : Int32) * (0 : Int32)) + (ca &&& (255 : Int32)))) + (cb &&& (255 : Int32)))), .val (.ref tb), .val (.int (0 : Int32)), .val (.int (2 : Int32)), .val (.int (2 : Int32)), .val (.int (1 : Int32))] []))
  refine P0.xs (fun hA hx hy t k => XS.iinc hA hx rfl (hb hy d20_29) rfl (l' := #[.val (.int (((31 : Int32) * (((31 : Int32) * (0 : Int32)) + (ca &&& (255 : Int32)))) + (cb &&& (255 : Int32)))), .val (.ref tb), .val (.int (0 : Int32)), .val (.int (2 : Int32)), .val (.int (2 : Int32)), .val (.int (2 : Int32))]) rfl k) ?_
  show Go p e below _ (s₁.setTop (mkF m 32 #[.val (.int (((31 : Int32) * (((31 : Int32) * (0 : Int32)) + (ca &&& (255 : Int32)))) + (cb &&& (255 : Int32)))), .val (.ref tb), .val (.int (0 : Int32)), .val (.int (2 : Int32)), .val (.int (2 : Int32)), .val (.int (2 : Int32))] []))
  refine P0.xs (fun hA hx hy t k => XS.goto hA hx rfl (pc0 := 32) (pc' := 8) rfl (hb hy d20_32) (by decide) (by decide) k) ?_
  show Go p e below _ (s₁.setTop (mkF m 8 #[.val (.int (((31 : Int32) * (((31 : Int32) * (0 : Int32)) + (ca &&& (255 : Int32)))) + (cb &&& (255 : Int32)))), .val (.ref tb), .val (.int (0 : Int32)), .val (.int (2 : Int32)), .val (.int (2 : Int32)), .val (.int (2 : Int32))] []))
  refine P0.xs (fun hA hx hy t k => XS.iload hA hx rfl (hb hy d20_8) rfl  k) ?_
  show Go p e below _ (s₁.setTop (mkF m 10 #[.val (.int (((31 : Int32) * (((31 : Int32) * (0 : Int32)) + (ca &&& (255 : Int32)))) + (cb &&& (255 : Int32)))), .val (.ref tb), .val (.int (0 : Int32)), .val (.int (2 : Int32)), .val (.int (2 : Int32)), .val (.int (2 : Int32))] [(.int (2 : Int32))]))
  refine P0.xs (fun hA hx hy t k => XS.iload hA hx rfl (hb hy d20_10) rfl  k) ?_
  show Go p e below _ (s₁.setTop (mkF m 12 #[.val (.int (((31 : Int32) * (((31 : Int32) * (0 : Int32)) + (ca &&& (255 : Int32)))) + (cb &&& (255 : Int32)))), .val (.ref tb), .val (.int (0 : Int32)), .val (.int (2 : Int32)), .val (.int (2 : Int32)), .val (.int (2 : Int32))] [(.int (2 : Int32)), (.int (2 : Int32))]))
  refine P0.xs (fun hA hx hy t k => XS.icmpYes hA hx rfl (pc0 := 12) (pc' := 35) rfl (hb hy d20_12) rfl (flt (by decide)).2.1 (by decide) (by decide) k) ?_
  show Go p e below _ (s₁.setTop (mkF m 35 #[.val (.int (((31 : Int32) * (((31 : Int32) * (0 : Int32)) + (ca &&& (255 : Int32)))) + (cb &&& (255 : Int32)))), .val (.ref tb), .val (.int (0 : Int32)), .val (.int (2 : Int32)), .val (.int (2 : Int32)), .val (.int (2 : Int32))] []))
  refine P0.xs (fun hA hx hy t k => XS.iloadN hA hx rfl (hb hy d20_35) rfl  k) ?_
  show Go p e below _ (s₁.setTop (mkF m 36 #[.val (.int (((31 : Int32) * (((31 : Int32) * (0 : Int32)) + (ca &&& (255 : Int32)))) + (cb &&& (255 : Int32)))), .val (.ref tb), .val (.int (0 : Int32)), .val (.int (2 : Int32)), .val (.int (2 : Int32)), .val (.int (2 : Int32))] [(.int (((31 : Int32) * (((31 : Int32) * (0 : Int32)) + (ca &&& (255 : Int32)))) + (cb &&& (255 : Int32))))]))
  exact P0.retI rfl d20_36 (by decide) (by decide) ⟨_, rfl, rfl⟩

def R_mVec : Room := { frames := 1, cells := 0, slots := 0, locals := 17 }
def Q_mVec (Z : State)  (h0 : Heap) (v : Option Value) (h : Heap) : Prop := ∃ iv : Int32, v = some (.int iv) ∧ h = h0
set_option maxRecDepth 65536 in
set_option maxHeartbeats 40000000 in
theorem mVec (l : Launch) (Z : State) (a0 : Array Value) (hw : ∀ d ∈ tables_1, d.before a0 Z = true) (EL : List (String × Nat)) (hEL : EW Z a0 EL) (zc : Int32) (S0 : Sta Z Z.heap "java/lang/String" "COMPACT_STRINGS" "Z" (.int zc)) (Pz : ¬ zc = 0) (wc : Addr) (cc : Cell) (SH : Sta Z Z.heap "java/lang/Integer$IntegerCache" "high" "I" (.int (127 : Int32))) (SC : Sta Z Z.heap "java/lang/Integer$IntegerCache" "cache" "[Ljava/lang/Integer;" (.ref wc)) (BX : Bxs Z wc cc "java/lang/Integer" "I" (256 : Int32) (fun j => .int (j - 128))) (tb : Addr) (kb : ClassId) (ca cb : Int32) (h0 : Heap) (hO : Ext Z.heap h0) (A : Arv Z h0 tb kb .byte (2 : Int32) [(.int ca), (.int cb)] (.int 0)) (hf : Z.vm.findClass "[B" = some kb) :
    Con l Z EL [] (⟨"jdk/internal/util/ArraysSupport", "vectorizedHashCode", "(Ljava/lang/Object;IIII)I"⟩ : MethodName) jdk_48_method_4_code 5 (some .int) R_mVec #[(.ref tb), (.int (0 : Int32)), (.int (2 : Int32)), (.int (0 : Int32)), (.int (4 : Int32))] h0 [] (Q_mVec Z  h0) := by
  refine Con.of (y := (⟨"jdk/internal/util/ArraysSupport", "vectorizedHashCode", "(Ljava/lang/Object;IIII)I"⟩ : MethodName)) (f0 := fun m => mkF m 0 #[.val (.ref tb), .val (.int (0 : Int32)), .val (.int (2 : Int32)), .val (.int (0 : Int32)), .val (.int (4 : Int32))] []) (plainFor_of_name pn_3) hEL hO (fun m => by skip <;> first | (simp [entryFrame, mkF, argsToLocals, Value.category, maxLocals]; done) | rfl) ?_
  intro p e s m below meth c s₁ P0
  show Go p e below _ (s₁.setTop (mkF m 0 #[.val (.ref tb), .val (.int (0 : Int32)), .val (.int (2 : Int32)), .val (.int (0 : Int32)), .val (.int (4 : Int32))] []))
  refine P0.xs (fun hA hx hy t k => XS.iload hA hx rfl (hb hy d19_0) rfl  k) ?_
  show Go p e below _ (s₁.setTop (mkF m 2 #[.val (.ref tb), .val (.int (0 : Int32)), .val (.int (2 : Int32)), .val (.int (0 : Int32)), .val (.int (4 : Int32))] [(.int (4 : Int32))]))
  refine P0.xs (fun hA hx hy t k => XS.tswIn hA hx rfl (pc0 := 2) (pc' := 44) rfl (hb hy d19_2) rfl (by decide) (o := 42) (by decide) (by decide) (by decide) k) ?_
  show Go p e below _ (s₁.setTop (mkF m 44 #[.val (.ref tb), .val (.int (0 : Int32)), .val (.int (2 : Int32)), .val (.int (0 : Int32)), .val (.int (4 : Int32))] []))
  refine P0.xs (fun hA hx hy t k => XS.iloadN hA hx rfl (hb hy d19_44) rfl  k) ?_
  show Go p e below _ (s₁.setTop (mkF m 45 #[.val (.ref tb), .val (.int (0 : Int32)), .val (.int (2 : Int32)), .val (.int (0 : Int32)), .val (.int (4 : Int32))] [(.int (0 : Int32))]))
  refine P0.xs (fun hA hx hy t k => XS.aloadN hA hx rfl (hb hy d19_45) rfl rfl  k) ?_
  show Go p e below _ (s₁.setTop (mkF m 46 #[.val (.ref tb), .val (.int (0 : Int32)), .val (.int (2 : Int32)), .val (.int (0 : Int32)), .val (.int (4 : Int32))] [(.ref tb), (.int (0 : Int32))]))
  refine P0.cast (hw _ (List.mem_of_getElem? (i := 113) rfl)) (insArv A hf) d19_46 fun T32 P32 => ?_
  show Go p e below _ (T32.setTop (mkF m 49 #[.val (.ref tb), .val (.int (0 : Int32)), .val (.int (2 : Int32)), .val (.int (0 : Int32)), .val (.int (4 : Int32))] [(.ref tb), (.int (0 : Int32))]))
  refine P32.xs (fun hA hx hy t k => XS.iloadN hA hx rfl (hb hy d19_49) rfl  k) ?_
  show Go p e below _ (T32.setTop (mkF m 50 #[.val (.ref tb), .val (.int (0 : Int32)), .val (.int (2 : Int32)), .val (.int (0 : Int32)), .val (.int (4 : Int32))] [(.int (0 : Int32)), (.ref tb), (.int (0 : Int32))]))
  refine P32.xs (fun hA hx hy t k => XS.iloadN hA hx rfl (hb hy d19_50) rfl  k) ?_
  show Go p e below _ (T32.setTop (mkF m 51 #[.val (.ref tb), .val (.int (0 : Int32)), .val (.int (2 : Int32)), .val (.int (0 : Int32)), .val (.int (4 : Int32))] [(.int (2 : Int32)), (.int (0 : Int32)), (.ref tb), (.int (0 : Int32))]))
  refine P32.callS (hw _ (List.mem_of_getElem? (i := 115) rfl)) (hw _ (List.mem_of_getElem? (i := 116) rfl)) (hw _ (List.mem_of_getElem? (i := 111) rfl)) (hw _ (List.mem_of_getElem? (i := 117) rfl)) (by decide) (mSgn l Z a0 hw EL hEL zc S0 Pz wc cc SH SC BX tb kb ca cb h0 P32.old A) (W := 0) (by decide) (by decide) (by decide) (by decide) all0 pd_1 (argsL := [(.int (0 : Int32)), (.ref tb), (.int (0 : Int32)), (.int (2 : Int32))]) rfl rfl rfl (Nat.le_of_eq rfl) d19_51 fun v33 T33 h33 P33 K33 Q33 => ?_
  obtain ⟨iv33, rfl, hh33⟩ := Q33
  rw [hh33] at P33
  show Go p e below _ (T33.setTop (mkF m 54 #[.val (.ref tb), .val (.int (0 : Int32)), .val (.int (2 : Int32)), .val (.int (0 : Int32)), .val (.int (4 : Int32))] [(.int iv33)]))
  refine P33.xs (fun hA hx hy t k => XS.goto hA hx rfl (pc0 := 54) (pc' := 157) rfl (hb hy d19_54) (by decide) (by decide) k) ?_
  show Go p e below _ (T33.setTop (mkF m 157 #[.val (.ref tb), .val (.int (0 : Int32)), .val (.int (2 : Int32)), .val (.int (0 : Int32)), .val (.int (4 : Int32))] [(.int iv33)]))
  exact P33.retI rfl d19_157 (by decide) (by decide) ⟨_, rfl, rfl⟩

def R_mLat0 : Room := { frames := 0, cells := 0, slots := 0, locals := 0 }
def Q_mLat0 (Z : State)  (h0 : Heap) (v : Option Value) (h : Heap) : Prop := ∃ iv : Int32, v = some (.int iv) ∧ h = h0
set_option maxRecDepth 65536 in
set_option maxHeartbeats 40000000 in
theorem mLat0 (l : Launch) (Z : State) (a0 : Array Value) (hw : ∀ d ∈ tables_1, d.before a0 Z = true) (EL : List (String × Nat)) (hEL : EW Z a0 EL) (zc : Int32) (S0 : Sta Z Z.heap "java/lang/String" "COMPACT_STRINGS" "Z" (.int zc)) (Pz : ¬ zc = 0) (wc : Addr) (cc : Cell) (SH : Sta Z Z.heap "java/lang/Integer$IntegerCache" "high" "I" (.int (127 : Int32))) (SC : Sta Z Z.heap "java/lang/Integer$IntegerCache" "cache" "[Ljava/lang/Integer;" (.ref wc)) (BX : Bxs Z wc cc "java/lang/Integer" "I" (256 : Int32) (fun j => .int (j - 128))) (tb : Addr) (kb : ClassId) (h0 : Heap) (hO : Ext Z.heap h0) (A : Arv Z h0 tb kb .byte (0 : Int32) [] (.int 0)) :
    Con l Z EL [] (⟨"java/lang/StringLatin1", "hashCode", "([B)I"⟩ : MethodName) jdk_43_method_21_code 1 (some .int) R_mLat0 #[(.ref tb)] h0 [] (Q_mLat0 Z  h0) := by
  refine Con.of (y := (⟨"java/lang/StringLatin1", "hashCode", "([B)I"⟩ : MethodName)) (f0 := fun m => mkF m 0 #[.val (.ref tb)] []) (plainFor_of_name pn_4) hEL hO (fun m => by skip <;> first | (simp [entryFrame, mkF, argsToLocals, Value.category, maxLocals]; done) | rfl) ?_
  intro p e s m below meth c s₁ P0
  show Go p e below _ (s₁.setTop (mkF m 0 #[.val (.ref tb)] []))
  refine P0.xs (fun hA hx hy t k => XS.aloadN hA hx rfl (hb hy d12_0) rfl rfl  k) ?_
  show Go p e below _ (s₁.setTop (mkF m 1 #[.val (.ref tb)] [(.ref tb)]))
  refine P0.alen A d12_1 ?_
  show Go p e below _ (s₁.setTop (mkF m 2 #[.val (.ref tb)] [(.int (0 : Int32))]))
  refine P0.st (fun vm0 locs X hx hy t k => X.lookupswitchHit hx (g := (mkF m 2 #[.val (.ref tb)] [(.int (0 : Int32))])) rfl rfl (hb hy d12_2) (by decide) (a := 0) (off := 26) (by decide) (show (0 : Int) ≤ ((2 : Nat) : Int) + (26) from by decide) _ k) ?_
  show Go p e below _ (s₁.setTop (mkF m 28 #[.val (.ref tb)] []))
  refine P0.xs (fun hA hx hy t k => XS.iconst hA hx rfl (hb hy d12_28) k) ?_
  show Go p e below _ (s₁.setTop (mkF m 29 #[.val (.ref tb)] [(.int (0 : Int32))]))
  refine P0.xs (fun hA hx hy t k => XS.goto hA hx rfl (pc0 := 29) (pc' := 51) rfl (hb hy d12_29) (by decide) (by decide) k) ?_
  show Go p e below _ (s₁.setTop (mkF m 51 #[.val (.ref tb)] [(.int (0 : Int32))]))
  exact P0.retI rfl d12_51 (by decide) (by decide) ⟨_, rfl, rfl⟩

def R_mLat1 : Room := { frames := 0, cells := 0, slots := 0, locals := 0 }
def Q_mLat1 (Z : State)  (h0 : Heap) (v : Option Value) (h : Heap) : Prop := ∃ iv : Int32, v = some (.int iv) ∧ h = h0
set_option maxRecDepth 65536 in
set_option maxHeartbeats 40000000 in
theorem mLat1 (l : Launch) (Z : State) (a0 : Array Value) (hw : ∀ d ∈ tables_1, d.before a0 Z = true) (EL : List (String × Nat)) (hEL : EW Z a0 EL) (zc : Int32) (S0 : Sta Z Z.heap "java/lang/String" "COMPACT_STRINGS" "Z" (.int zc)) (Pz : ¬ zc = 0) (wc : Addr) (cc : Cell) (SH : Sta Z Z.heap "java/lang/Integer$IntegerCache" "high" "I" (.int (127 : Int32))) (SC : Sta Z Z.heap "java/lang/Integer$IntegerCache" "cache" "[Ljava/lang/Integer;" (.ref wc)) (BX : Bxs Z wc cc "java/lang/Integer" "I" (256 : Int32) (fun j => .int (j - 128))) (tb : Addr) (kb : ClassId) (ca : Int32) (h0 : Heap) (hO : Ext Z.heap h0) (A : Arv Z h0 tb kb .byte (1 : Int32) [(.int ca)] (.int 0)) :
    Con l Z EL [] (⟨"java/lang/StringLatin1", "hashCode", "([B)I"⟩ : MethodName) jdk_43_method_21_code 1 (some .int) R_mLat1 #[(.ref tb)] h0 [] (Q_mLat1 Z  h0) := by
  refine Con.of (y := (⟨"java/lang/StringLatin1", "hashCode", "([B)I"⟩ : MethodName)) (f0 := fun m => mkF m 0 #[.val (.ref tb)] []) (plainFor_of_name pn_4) hEL hO (fun m => by skip <;> first | (simp [entryFrame, mkF, argsToLocals, Value.category, maxLocals]; done) | rfl) ?_
  intro p e s m below meth c s₁ P0
  show Go p e below _ (s₁.setTop (mkF m 0 #[.val (.ref tb)] []))
  refine P0.xs (fun hA hx hy t k => XS.aloadN hA hx rfl (hb hy d12_0) rfl rfl  k) ?_
  show Go p e below _ (s₁.setTop (mkF m 1 #[.val (.ref tb)] [(.ref tb)]))
  refine P0.alen A d12_1 ?_
  show Go p e below _ (s₁.setTop (mkF m 2 #[.val (.ref tb)] [(.int (1 : Int32))]))
  refine P0.st (fun vm0 locs X hx hy t k => X.lookupswitchHit hx (g := (mkF m 2 #[.val (.ref tb)] [(.int (1 : Int32))])) rfl rfl (hb hy d12_2) (by decide) (a := 1) (off := 30) (by decide) (show (0 : Int) ≤ ((2 : Nat) : Int) + (30) from by decide) _ k) ?_
  show Go p e below _ (s₁.setTop (mkF m 32 #[.val (.ref tb)] []))
  refine P0.xs (fun hA hx hy t k => XS.aloadN hA hx rfl (hb hy d12_32) rfl rfl  k) ?_
  show Go p e below _ (s₁.setTop (mkF m 33 #[.val (.ref tb)] [(.ref tb)]))
  refine P0.xs (fun hA hx hy t k => XS.iconst hA hx rfl (hb hy d12_33) k) ?_
  show Go p e below _ (s₁.setTop (mkF m 34 #[.val (.ref tb)] [(.int (0 : Int32)), (.ref tb)]))
  refine P0.bald A (by decide) (by decide) (v := (.int ca)) rfl d12_34 ?_
  show Go p e below _ (s₁.setTop (mkF m 35 #[.val (.ref tb)] [(.int ca)]))
  refine P0.xs (fun hA hx hy t k => XS.sipush hA hx rfl (hb hy d12_35) k) ?_
  show Go p e below _ (s₁.setTop (mkF m 38 #[.val (.ref tb)] [(.int (255 : Int32)), (.int ca)]))
  refine P0.xs (fun hA hx hy t k => XS.iand hA hx rfl (hb hy d12_38) rfl k) ?_
  show Go p e below _ (s₁.setTop (mkF m 39 #[.val (.ref tb)] [(.int (ca &&& (255 : Int32)))]))
  refine P0.xs (fun hA hx hy t k => XS.goto hA hx rfl (pc0 := 39) (pc' := 51) rfl (hb hy d12_39) (by decide) (by decide) k) ?_
  show Go p e below _ (s₁.setTop (mkF m 51 #[.val (.ref tb)] [(.int (ca &&& (255 : Int32)))]))
  exact P0.retI rfl d12_51 (by decide) (by decide) ⟨_, rfl, rfl⟩

def R_mLat2 : Room := { frames := 2, cells := 0, slots := 0, locals := 33 }
def Q_mLat2 (Z : State)  (h0 : Heap) (v : Option Value) (h : Heap) : Prop := ∃ iv : Int32, v = some (.int iv) ∧ h = h0
set_option maxRecDepth 65536 in
set_option maxHeartbeats 40000000 in
theorem mLat2 (l : Launch) (Z : State) (a0 : Array Value) (hw : ∀ d ∈ tables_1, d.before a0 Z = true) (EL : List (String × Nat)) (hEL : EW Z a0 EL) (zc : Int32) (S0 : Sta Z Z.heap "java/lang/String" "COMPACT_STRINGS" "Z" (.int zc)) (Pz : ¬ zc = 0) (wc : Addr) (cc : Cell) (SH : Sta Z Z.heap "java/lang/Integer$IntegerCache" "high" "I" (.int (127 : Int32))) (SC : Sta Z Z.heap "java/lang/Integer$IntegerCache" "cache" "[Ljava/lang/Integer;" (.ref wc)) (BX : Bxs Z wc cc "java/lang/Integer" "I" (256 : Int32) (fun j => .int (j - 128))) (tb : Addr) (kb : ClassId) (ca cb : Int32) (h0 : Heap) (hO : Ext Z.heap h0) (A : Arv Z h0 tb kb .byte (2 : Int32) [(.int ca), (.int cb)] (.int 0)) (hf : Z.vm.findClass "[B" = some kb) :
    Con l Z EL [] (⟨"java/lang/StringLatin1", "hashCode", "([B)I"⟩ : MethodName) jdk_43_method_21_code 1 (some .int) R_mLat2 #[(.ref tb)] h0 [] (Q_mLat2 Z  h0) := by
  refine Con.of (y := (⟨"java/lang/StringLatin1", "hashCode", "([B)I"⟩ : MethodName)) (f0 := fun m => mkF m 0 #[.val (.ref tb)] []) (plainFor_of_name pn_4) hEL hO (fun m => by skip <;> first | (simp [entryFrame, mkF, argsToLocals, Value.category, maxLocals]; done) | rfl) ?_
  intro p e s m below meth c s₁ P0
  show Go p e below _ (s₁.setTop (mkF m 0 #[.val (.ref tb)] []))
  refine P0.xs (fun hA hx hy t k => XS.aloadN hA hx rfl (hb hy d12_0) rfl rfl  k) ?_
  show Go p e below _ (s₁.setTop (mkF m 1 #[.val (.ref tb)] [(.ref tb)]))
  refine P0.alen A d12_1 ?_
  show Go p e below _ (s₁.setTop (mkF m 2 #[.val (.ref tb)] [(.int (2 : Int32))]))
  refine P0.st (fun vm0 locs X hx hy t k => X.lookupswitchMiss hx (g := (mkF m 2 #[.val (.ref tb)] [(.int (2 : Int32))])) rfl rfl (hb hy d12_2) (by decide) (by decide) (show (0 : Int) ≤ ((2 : Nat) : Int) + (40) from by decide) _ k) ?_
  show Go p e below _ (s₁.setTop (mkF m 42 #[.val (.ref tb)] []))
  refine P0.xs (fun hA hx hy t k => XS.aloadN hA hx rfl (hb hy d12_42) rfl rfl  k) ?_
  show Go p e below _ (s₁.setTop (mkF m 43 #[.val (.ref tb)] [(.ref tb)]))
  refine P0.xs (fun hA hx hy t k => XS.iconst hA hx rfl (hb hy d12_43) k) ?_
  show Go p e below _ (s₁.setTop (mkF m 44 #[.val (.ref tb)] [(.int (0 : Int32)), (.ref tb)]))
  refine P0.xs (fun hA hx hy t k => XS.aloadN hA hx rfl (hb hy d12_44) rfl rfl  k) ?_
  show Go p e below _ (s₁.setTop (mkF m 45 #[.val (.ref tb)] [(.ref tb), (.int (0 : Int32)), (.ref tb)]))
  refine P0.alen A d12_45 ?_
  show Go p e below _ (s₁.setTop (mkF m 46 #[.val (.ref tb)] [(.int (2 : Int32)), (.int (0 : Int32)), (.ref tb)]))
  refine P0.xs (fun hA hx hy t k => XS.iconst hA hx rfl (hb hy d12_46) k) ?_
  show Go p e below _ (s₁.setTop (mkF m 47 #[.val (.ref tb)] [(.int (0 : Int32)), (.int (2 : Int32)), (.int (0 : Int32)), (.ref tb)]))
  refine P0.xs (fun hA hx hy t k => XS.iconst hA hx rfl (hb hy d12_47) k) ?_
  show Go p e below _ (s₁.setTop (mkF m 48 #[.val (.ref tb)] [(.int (4 : Int32)), (.int (0 : Int32)), (.int (2 : Int32)), (.int (0 : Int32)), (.ref tb)]))
  refine P0.callS (hw _ (List.mem_of_getElem? (i := 109) rfl)) (hw _ (List.mem_of_getElem? (i := 110) rfl)) (hw _ (List.mem_of_getElem? (i := 111) rfl)) (hw _ (List.mem_of_getElem? (i := 112) rfl)) (by decide) (mVec l Z a0 hw EL hEL zc S0 Pz wc cc SH SC BX tb kb ca cb h0 P0.old A hf) (W := 0) (by decide) (by decide) (by decide) (by decide) all0 pd_2 (argsL := [(.ref tb), (.int (0 : Int32)), (.int (2 : Int32)), (.int (0 : Int32)), (.int (4 : Int32))]) rfl rfl rfl (Nat.le_of_eq rfl) d12_48 fun v34 T34 h34 P34 K34 Q34 => ?_
  obtain ⟨iv34, rfl, hh34⟩ := Q34
  rw [hh34] at P34
  show Go p e below _ (T34.setTop (mkF m 51 #[.val (.ref tb)] [(.int iv34)]))
  exact P34.retI rfl d12_51 (by decide) (by decide) ⟨_, rfl, rfl⟩

def R_mIsL : Room := { frames := 0, cells := 0, slots := 0, locals := 0 }
def Q_mIsL (Z : State)  (h0 : Heap) (v : Option Value) (h : Heap) : Prop := v = some (.int (1 : Int32)) ∧ h = h0
set_option maxRecDepth 65536 in
set_option maxHeartbeats 40000000 in
theorem mIsL (l : Launch) (Z : State) (a0 : Array Value) (hw : ∀ d ∈ tables_1, d.before a0 Z = true) (EL : List (String × Nat)) (hEL : EW Z a0 EL) (zc : Int32) (S0 : Sta Z Z.heap "java/lang/String" "COMPACT_STRINGS" "Z" (.int zc)) (Pz : ¬ zc = 0) (wc : Addr) (cc : Cell) (SH : Sta Z Z.heap "java/lang/Integer$IntegerCache" "high" "I" (.int (127 : Int32))) (SC : Sta Z Z.heap "java/lang/Integer$IntegerCache" "cache" "[Ljava/lang/Integer;" (.ref wc)) (BX : Bxs Z wc cc "java/lang/Integer" "I" (256 : Int32) (fun j => .int (j - 128))) (x : Addr) (h0 : Heap) (hO : Ext Z.heap h0) (C : Fld Z h0 x "java/lang/String" "coder" "B" (.int (0 : Int32))) :
    Con l Z EL [] (⟨"java/lang/String", "isLatin1", "()Z"⟩ : MethodName) jdk_42_method_154_code 1 (some .boolean) R_mIsL #[(.ref x)] h0 [] (Q_mIsL Z  h0) := by
  refine Con.of (y := (⟨"java/lang/String", "isLatin1", "()Z"⟩ : MethodName)) (f0 := fun m => mkF m 0 #[.val (.ref x)] []) (plainFor_of_name pn_0) hEL hO (fun m => by skip <;> first | (simp [entryFrame, mkF, argsToLocals, Value.category, maxLocals]; done) | rfl) ?_
  intro p e s m below meth c s₁ P0
  show Go p e below _ (s₁.setTop (mkF m 0 #[.val (.ref x)] []))
  refine P0.getS (host := "") (Or.inl (hw _ (List.mem_of_getElem? (i := 77) rfl))) Via.refl S0 d11_0 fun T35 P35 => ?_
  show Go p e below _ (T35.setTop (mkF m 3 #[.val (.ref x)] [(.int zc)]))
  refine P35.xs (fun hA hx hy t k => XS.ifNo hA hx rfl (hb hy d11_3) rfl ((if0 _ _).trans (feq Pz).1) k) ?_
  show Go p e below _ (T35.setTop (mkF m 6 #[.val (.ref x)] []))
  refine P35.xs (fun hA hx hy t k => XS.aloadN hA hx rfl (hb hy d11_6) rfl rfl  k) ?_
  show Go p e below _ (T35.setTop (mkF m 7 #[.val (.ref x)] [(.ref x)]))
  refine P35.getF (host := "") (Or.inl (hw _ (List.mem_of_getElem? (i := 26) rfl))) Via.refl C d11_7 fun T36 P36 => ?_
  show Go p e below _ (T36.setTop (mkF m 10 #[.val (.ref x)] [(.int (0 : Int32))]))
  refine P36.xs (fun hA hx hy t k => XS.ifNo hA hx rfl (hb hy d11_10) rfl ((if0 _ _).trans (teq rfl).2) k) ?_
  show Go p e below _ (T36.setTop (mkF m 13 #[.val (.ref x)] []))
  refine P36.xs (fun hA hx hy t k => XS.iconst hA hx rfl (hb hy d11_13) k) ?_
  show Go p e below _ (T36.setTop (mkF m 14 #[.val (.ref x)] [(.int (1 : Int32))]))
  refine P36.xs (fun hA hx hy t k => XS.goto hA hx rfl (pc0 := 14) (pc' := 18) rfl (hb hy d11_14) (by decide) (by decide) k) ?_
  show Go p e below _ (T36.setTop (mkF m 18 #[.val (.ref x)] [(.int (1 : Int32))]))
  exact P36.retN (t := .boolean) rfl (by simp) d11_18 (by decide) (by decide) ⟨rfl, rfl⟩

def R_mSH : Room := { frames := 3, cells := 0, slots := 0, locals := 45 }
def Q_mSH (Z : State) (x : Addr) (cs : List Int32) (h0 : Heap) (v : Option Value) (h : Heap) : Prop := ∃ iv : Int32, v = some (.int iv) ∧ Str Z h x cs
set_option maxRecDepth 65536 in
set_option maxHeartbeats 40000000 in
theorem mSH (l : Launch) (Z : State) (a0 : Array Value) (hw : ∀ d ∈ tables_1, d.before a0 Z = true) (EL : List (String × Nat)) (hEL : EW Z a0 []) (zc : Int32) (S0 : Sta Z Z.heap "java/lang/String" "COMPACT_STRINGS" "Z" (.int zc)) (Pz : ¬ zc = 0) (wc : Addr) (cc : Cell) (SH : Sta Z Z.heap "java/lang/Integer$IntegerCache" "high" "I" (.int (127 : Int32))) (SC : Sta Z Z.heap "java/lang/Integer$IntegerCache" "cache" "[Ljava/lang/Integer;" (.ref wc)) (BX : Bxs Z wc cc "java/lang/Integer" "I" (256 : Int32) (fun j => .int (j - 128))) (x : Addr) (cs : List Int32) (h0 : Heap) (hO : Ext Z.heap h0) (Ss : Sh Z h0 x cs) (gx : Z.heap.size ≤ x) :
    Con l Z [] [] (⟨"java/lang/String", "hashCode", "()I"⟩ : MethodName) jdk_42_method_78_code 2 (some .int) R_mSH #[(.ref x)] h0 [x] (Q_mSH Z x cs h0) := by
  refine Con.of (y := (⟨"java/lang/String", "hashCode", "()I"⟩ : MethodName)) (f0 := fun m => mkF m 0 #[.val (.ref x), .unset] []) (plainFor_of_name pn_0) hEL hO (fun m => by skip <;> first | (simp [entryFrame, mkF, argsToLocals, Value.category, maxLocals]; done) | rfl) ?_
  intro p e s m below meth c s₁ P0
  show Go p e below _ (s₁.setTop (mkF m 0 #[.val (.ref x), .unset] []))
  obtain ⟨E, hlat, hlen, C, Hh, Hz, t, kb, nz, vs, Fv, A, rfl, rfl, hf⟩ := Ss
  rcases cs with _ | ⟨ca, _ | ⟨cb, _ | ⟨cc', rr⟩⟩⟩
  · have A1 : Arv Z h0 t kb .byte (0 : Int32) [] (.int 0) := A
    have ntx : t ≠ x := Ne.symm (Exa.neArv E A (hw _ (List.mem_of_getElem? (i := 2) rfl)))
    show Go p e below _ (s₁.setTop (mkF m 0 #[.val (.ref x), .unset] []))
    refine P0.xs (fun hA hx hy t k => XS.aloadN hA hx rfl (hb hy d10_0) rfl rfl  k) ?_
    show Go p e below _ (s₁.setTop (mkF m 1 #[.val (.ref x), .unset] [(.ref x)]))
    refine P0.getF (host := "") (Or.inl (hw _ (List.mem_of_getElem? (i := 68) rfl))) Via.refl Hh d10_1 fun T37 P37 => ?_
    show Go p e below _ (T37.setTop (mkF m 4 #[.val (.ref x), .unset] [(.int (0 : Int32))]))
    refine P37.xs (fun hA hx hy t k => XS.istoreN hA hx rfl (hb hy d10_4) rfl (l' := #[.val (.ref x), .val (.int (0 : Int32))]) rfl k) ?_
    show Go p e below _ (T37.setTop (mkF m 5 #[.val (.ref x), .val (.int (0 : Int32))] []))
    refine P37.xs (fun hA hx hy t k => XS.iloadN hA hx rfl (hb hy d10_5) rfl  k) ?_
    show Go p e below _ (T37.setTop (mkF m 6 #[.val (.ref x), .val (.int (0 : Int32))] [(.int (0 : Int32))]))
    refine P37.xs (fun hA hx hy t k => XS.ifNo hA hx rfl (hb hy d10_6) rfl ((if0 _ _).trans (teq (by decide)).2) k) ?_
    show Go p e below _ (T37.setTop (mkF m 9 #[.val (.ref x), .val (.int (0 : Int32))] []))
    refine P37.xs (fun hA hx hy t k => XS.aloadN hA hx rfl (hb hy d10_9) rfl rfl  k) ?_
    show Go p e below _ (T37.setTop (mkF m 10 #[.val (.ref x), .val (.int (0 : Int32))] [(.ref x)]))
    refine P37.getF (host := "") (Or.inl (hw _ (List.mem_of_getElem? (i := 70) rfl))) Via.refl Hz d10_10 fun T38 P38 => ?_
    show Go p e below _ (T38.setTop (mkF m 13 #[.val (.ref x), .val (.int (0 : Int32))] [(.int (0 : Int32))]))
    refine P38.xs (fun hA hx hy t k => XS.ifNo hA hx rfl (hb hy d10_13) rfl ((if0 _ _).trans (teq (by decide)).2) k) ?_
    show Go p e below _ (T38.setTop (mkF m 16 #[.val (.ref x), .val (.int (0 : Int32))] []))
    refine P38.xs (fun hA hx hy t k => XS.aloadN hA hx rfl (hb hy d10_16) rfl rfl  k) ?_
    show Go p e below _ (T38.setTop (mkF m 17 #[.val (.ref x), .val (.int (0 : Int32))] [(.ref x)]))
    refine P38.callV (hw _ (List.mem_of_getElem? (i := 72) rfl)) (hw _ (List.mem_of_getElem? (i := 73) rfl)) (hw _ (List.mem_of_getElem? (i := 75) rfl)) (nfOf (hw _ (List.mem_of_getElem? (i := 75) rfl))) (hw _ (List.mem_of_getElem? (i := 74) rfl)) (hw _ (List.mem_of_getElem? (i := 3) rfl)) (hw _ (List.mem_of_getElem? (i := 76) rfl)) (by decide) E (mIsL l Z a0 hw [] hEL zc S0 Pz wc cc SH SC BX x h0 P38.old C) (W := 0) (by decide) (by decide) (by decide) (by decide) all0 pd_3 (argsL := []) rfl rfl rfl (Nat.le_of_eq rfl) d10_17 fun v39 T39 h39 P39 K39 Q39 => ?_
    obtain ⟨hv39, hh39⟩ := Q39
    subst hv39
    rw [hh39] at P39
    show Go p e below _ (T39.setTop (mkF m 20 #[.val (.ref x), .val (.int (0 : Int32))] [(.int (1 : Int32))]))
    refine P39.xs (fun hA hx hy t k => XS.ifNo hA hx rfl (hb hy d10_20) rfl ((if0 _ _).trans (feq (by decide)).1) k) ?_
    show Go p e below _ (T39.setTop (mkF m 23 #[.val (.ref x), .val (.int (0 : Int32))] []))
    refine P39.xs (fun hA hx hy t k => XS.aloadN hA hx rfl (hb hy d10_23) rfl rfl  k) ?_
    show Go p e below _ (T39.setTop (mkF m 24 #[.val (.ref x), .val (.int (0 : Int32))] [(.ref x)]))
    refine P39.getF (host := "") (Or.inl (hw _ (List.mem_of_getElem? (i := 25) rfl))) Via.refl Fv d10_24 fun T40 P40 => ?_
    show Go p e below _ (T40.setTop (mkF m 27 #[.val (.ref x), .val (.int (0 : Int32))] [(.ref t)]))
    refine P40.callS (hw _ (List.mem_of_getElem? (i := 78) rfl)) (hw _ (List.mem_of_getElem? (i := 79) rfl)) (hw _ (List.mem_of_getElem? (i := 80) rfl)) (hw _ (List.mem_of_getElem? (i := 81) rfl)) (by decide) (mLat0 l Z a0 hw [] hEL zc S0 Pz wc cc SH SC BX t kb  h0 P40.old A1) (W := 0) (by decide) (by decide) (by decide) (by decide) all0 pd_4 (argsL := [(.ref t)]) rfl rfl rfl (Nat.le_of_eq rfl) d10_27 fun v41 T41 h41 P41 K41 Q41 => ?_
    obtain ⟨iv41, rfl, hh41⟩ := Q41
    rw [hh41] at P41
    show Go p e below _ (T41.setTop (mkF m 30 #[.val (.ref x), .val (.int (0 : Int32))] [(.int iv41)]))
    refine P41.xs (fun hA hx hy t k => XS.goto hA hx rfl (pc0 := 30) (pc' := 40) rfl (hb hy d10_30) (by decide) (by decide) k) ?_
    show Go p e below _ (T41.setTop (mkF m 40 #[.val (.ref x), .val (.int (0 : Int32))] [(.int iv41)]))
    refine P41.xs (fun hA hx hy t k => XS.istoreN hA hx rfl (hb hy d10_40) rfl (l' := #[.val (.ref x), .val (.int iv41)]) rfl k) ?_
    show Go p e below _ (T41.setTop (mkF m 41 #[.val (.ref x), .val (.int iv41)] []))
    refine P41.xs (fun hA hx hy t k => XS.iloadN hA hx rfl (hb hy d10_41) rfl  k) ?_
    show Go p e below _ (T41.setTop (mkF m 42 #[.val (.ref x), .val (.int iv41)] [(.int iv41)]))
    by_cases hz : iv41 = 0
    · refine P41.xs (fun hA hx hy t k => XS.ifNo hA hx rfl (hb hy d10_42) rfl ((if0 _ _).trans (teq hz).2) k) ?_
      show Go p e below _ (T41.setTop (mkF m 45 #[.val (.ref x), .val (.int iv41)] []))
      refine P41.xs (fun hA hx hy t k => XS.aloadN hA hx rfl (hb hy d10_45) rfl rfl  k) ?_
      show Go p e below _ (T41.setTop (mkF m 46 #[.val (.ref x), .val (.int iv41)] [(.ref x)]))
      refine P41.xs (fun hA hx hy t k => XS.iconst hA hx rfl (hb hy d10_46) k) ?_
      show Go p e below _ (T41.setTop (mkF m 47 #[.val (.ref x), .val (.int iv41)] [(.int (1 : Int32)), (.ref x)]))
      refine P41.putF (hw _ (List.mem_of_getElem? (i := 70) rfl)) Via.refl Hz E (Or.inl (hw _ (List.mem_of_getElem? (i := 71) rfl))) (hw _ (List.mem_of_getElem? (i := 2) rfl)) (ty := .boolean) (v' := (.int (1 : Int32))) (by decide) rfl rfl d10_47 (fun _ _ _ _ => safeNil) gx (Or.inl (List.mem_of_getElem? (i := 0) rfl)) fun T42 h42 P42 W42 => ?_
      show Go p e below _ (T42.setTop (mkF m 50 #[.val (.ref x), .val (.int iv41)] []))
      refine P42.xs (fun hA hx hy t k => XS.goto hA hx rfl (pc0 := 50) (pc' := 58) rfl (hb hy d10_50) (by decide) (by decide) k) ?_
      show Go p e below _ (T42.setTop (mkF m 58 #[.val (.ref x), .val (.int iv41)] []))
      refine P42.xs (fun hA hx hy t k => XS.iloadN hA hx rfl (hb hy d10_58) rfl  k) ?_
      show Go p e below _ (T42.setTop (mkF m 59 #[.val (.ref x), .val (.int iv41)] [(.int iv41)]))
      have Ec43 : Exa Z h42 x "java/lang/String" := (E.wr W42)
      have Fc44 : Fld Z h42 x "java/lang/String" "coder" "B" (.int (0 : Int32)) := (C.other W42 (Or.inr (slot_ne (Or.inr (hw _ (List.mem_of_getElem? (i := 22) rfl))) (Or.inl (hw _ (List.mem_of_getElem? (i := 71) rfl))) (by decide) (t := .byte) (t' := .boolean) (by decide) (by decide))))
      have Fc45 : Fld Z h42 x "java/lang/String" "hash" "I" (.int (0 : Int32)) := (Hh.other W42 (Or.inr (slot_ne (Or.inl (hw _ (List.mem_of_getElem? (i := 69) rfl))) (Or.inl (hw _ (List.mem_of_getElem? (i := 71) rfl))) (by decide) (t := .int) (t' := .boolean) (by decide) (by decide))))
      have Fc46 : Fld Z h42 x "java/lang/String" "hashIsZero" "Z" (.int (1 : Int32)) := (Hz.same W42)
      have Fc47 : Fld Z h42 x "java/lang/String" "value" "[B" (.ref t) := (Fv.other W42 (Or.inr (slot_ne (Or.inr (hw _ (List.mem_of_getElem? (i := 21) rfl))) (Or.inl (hw _ (List.mem_of_getElem? (i := 71) rfl))) (by decide) (t := (.array .byte)) (t' := .boolean) (by decide) (by decide))))
      have Ac48 : Arv Z h42 t kb .byte (0 : Int32) [] (.int 0) := (A1.other W42 ntx)
      exact P42.retI rfl d10_59 (by decide) (by decide) ⟨_, rfl, strOf (n := 0) rfl hlat (by decide) Ec43 Fc44 Fc47 Ac48⟩
    · refine P41.xs (fun hA hx hy t k => XS.ifYes hA hx rfl (pc0 := 42) (pc' := 53) rfl (hb hy d10_42) rfl ((if0 _ _).trans (feq hz).2) (by decide) (by decide) k) ?_
      show Go p e below _ (T41.setTop (mkF m 53 #[.val (.ref x), .val (.int iv41)] []))
      refine P41.xs (fun hA hx hy t k => XS.aloadN hA hx rfl (hb hy d10_53) rfl rfl  k) ?_
      show Go p e below _ (T41.setTop (mkF m 54 #[.val (.ref x), .val (.int iv41)] [(.ref x)]))
      refine P41.xs (fun hA hx hy t k => XS.iloadN hA hx rfl (hb hy d10_54) rfl  k) ?_
      show Go p e below _ (T41.setTop (mkF m 55 #[.val (.ref x), .val (.int iv41)] [(.int iv41), (.ref x)]))
      refine P41.putF (hw _ (List.mem_of_getElem? (i := 68) rfl)) Via.refl Hh E (Or.inl (hw _ (List.mem_of_getElem? (i := 69) rfl))) (hw _ (List.mem_of_getElem? (i := 2) rfl)) (ty := .int) (v' := (.int iv41)) (by decide) rfl rfl d10_55 (fun _ _ _ _ => safeNil) gx (Or.inl (List.mem_of_getElem? (i := 0) rfl)) fun T49 h49 P49 W49 => ?_
      show Go p e below _ (T49.setTop (mkF m 58 #[.val (.ref x), .val (.int iv41)] []))
      refine P49.xs (fun hA hx hy t k => XS.iloadN hA hx rfl (hb hy d10_58) rfl  k) ?_
      show Go p e below _ (T49.setTop (mkF m 59 #[.val (.ref x), .val (.int iv41)] [(.int iv41)]))
      have Ec50 : Exa Z h49 x "java/lang/String" := (E.wr W49)
      have Fc51 : Fld Z h49 x "java/lang/String" "coder" "B" (.int (0 : Int32)) := (C.other W49 (Or.inr (slot_ne (Or.inr (hw _ (List.mem_of_getElem? (i := 22) rfl))) (Or.inl (hw _ (List.mem_of_getElem? (i := 69) rfl))) (by decide) (t := .byte) (t' := .int) (by decide) (by decide))))
      have Fc52 : Fld Z h49 x "java/lang/String" "hash" "I" (.int iv41) := (Hh.same W49)
      have Fc53 : Fld Z h49 x "java/lang/String" "hashIsZero" "Z" (.int (0 : Int32)) := (Hz.other W49 (Or.inr (slot_ne (Or.inl (hw _ (List.mem_of_getElem? (i := 71) rfl))) (Or.inl (hw _ (List.mem_of_getElem? (i := 69) rfl))) (by decide) (t := .boolean) (t' := .int) (by decide) (by decide))))
      have Fc54 : Fld Z h49 x "java/lang/String" "value" "[B" (.ref t) := (Fv.other W49 (Or.inr (slot_ne (Or.inr (hw _ (List.mem_of_getElem? (i := 21) rfl))) (Or.inl (hw _ (List.mem_of_getElem? (i := 69) rfl))) (by decide) (t := (.array .byte)) (t' := .int) (by decide) (by decide))))
      have Ac55 : Arv Z h49 t kb .byte (0 : Int32) [] (.int 0) := (A1.other W49 ntx)
      exact P49.retI rfl d10_59 (by decide) (by decide) ⟨_, rfl, strOf (n := 0) rfl hlat (by decide) Ec50 Fc51 Fc54 Ac55⟩
  · have A1 : Arv Z h0 t kb .byte (1 : Int32) [(.int (ca.toInt8.toInt32))] (.int 0) := A
    have ntx : t ≠ x := Ne.symm (Exa.neArv E A (hw _ (List.mem_of_getElem? (i := 2) rfl)))
    show Go p e below _ (s₁.setTop (mkF m 0 #[.val (.ref x), .unset] []))
    refine P0.xs (fun hA hx hy t k => XS.aloadN hA hx rfl (hb hy d10_0) rfl rfl  k) ?_
    show Go p e below _ (s₁.setTop (mkF m 1 #[.val (.ref x), .unset] [(.ref x)]))
    refine P0.getF (host := "") (Or.inl (hw _ (List.mem_of_getElem? (i := 68) rfl))) Via.refl Hh d10_1 fun T56 P56 => ?_
    show Go p e below _ (T56.setTop (mkF m 4 #[.val (.ref x), .unset] [(.int (0 : Int32))]))
    refine P56.xs (fun hA hx hy t k => XS.istoreN hA hx rfl (hb hy d10_4) rfl (l' := #[.val (.ref x), .val (.int (0 : Int32))]) rfl k) ?_
    show Go p e below _ (T56.setTop (mkF m 5 #[.val (.ref x), .val (.int (0 : Int32))] []))
    refine P56.xs (fun hA hx hy t k => XS.iloadN hA hx rfl (hb hy d10_5) rfl  k) ?_
    show Go p e below _ (T56.setTop (mkF m 6 #[.val (.ref x), .val (.int (0 : Int32))] [(.int (0 : Int32))]))
    refine P56.xs (fun hA hx hy t k => XS.ifNo hA hx rfl (hb hy d10_6) rfl ((if0 _ _).trans (teq (by decide)).2) k) ?_
    show Go p e below _ (T56.setTop (mkF m 9 #[.val (.ref x), .val (.int (0 : Int32))] []))
    refine P56.xs (fun hA hx hy t k => XS.aloadN hA hx rfl (hb hy d10_9) rfl rfl  k) ?_
    show Go p e below _ (T56.setTop (mkF m 10 #[.val (.ref x), .val (.int (0 : Int32))] [(.ref x)]))
    refine P56.getF (host := "") (Or.inl (hw _ (List.mem_of_getElem? (i := 70) rfl))) Via.refl Hz d10_10 fun T57 P57 => ?_
    show Go p e below _ (T57.setTop (mkF m 13 #[.val (.ref x), .val (.int (0 : Int32))] [(.int (0 : Int32))]))
    refine P57.xs (fun hA hx hy t k => XS.ifNo hA hx rfl (hb hy d10_13) rfl ((if0 _ _).trans (teq (by decide)).2) k) ?_
    show Go p e below _ (T57.setTop (mkF m 16 #[.val (.ref x), .val (.int (0 : Int32))] []))
    refine P57.xs (fun hA hx hy t k => XS.aloadN hA hx rfl (hb hy d10_16) rfl rfl  k) ?_
    show Go p e below _ (T57.setTop (mkF m 17 #[.val (.ref x), .val (.int (0 : Int32))] [(.ref x)]))
    refine P57.callV (hw _ (List.mem_of_getElem? (i := 72) rfl)) (hw _ (List.mem_of_getElem? (i := 73) rfl)) (hw _ (List.mem_of_getElem? (i := 75) rfl)) (nfOf (hw _ (List.mem_of_getElem? (i := 75) rfl))) (hw _ (List.mem_of_getElem? (i := 74) rfl)) (hw _ (List.mem_of_getElem? (i := 3) rfl)) (hw _ (List.mem_of_getElem? (i := 76) rfl)) (by decide) E (mIsL l Z a0 hw [] hEL zc S0 Pz wc cc SH SC BX x h0 P57.old C) (W := 0) (by decide) (by decide) (by decide) (by decide) all0 pd_3 (argsL := []) rfl rfl rfl (Nat.le_of_eq rfl) d10_17 fun v58 T58 h58 P58 K58 Q58 => ?_
    obtain ⟨hv58, hh58⟩ := Q58
    subst hv58
    rw [hh58] at P58
    show Go p e below _ (T58.setTop (mkF m 20 #[.val (.ref x), .val (.int (0 : Int32))] [(.int (1 : Int32))]))
    refine P58.xs (fun hA hx hy t k => XS.ifNo hA hx rfl (hb hy d10_20) rfl ((if0 _ _).trans (feq (by decide)).1) k) ?_
    show Go p e below _ (T58.setTop (mkF m 23 #[.val (.ref x), .val (.int (0 : Int32))] []))
    refine P58.xs (fun hA hx hy t k => XS.aloadN hA hx rfl (hb hy d10_23) rfl rfl  k) ?_
    show Go p e below _ (T58.setTop (mkF m 24 #[.val (.ref x), .val (.int (0 : Int32))] [(.ref x)]))
    refine P58.getF (host := "") (Or.inl (hw _ (List.mem_of_getElem? (i := 25) rfl))) Via.refl Fv d10_24 fun T59 P59 => ?_
    show Go p e below _ (T59.setTop (mkF m 27 #[.val (.ref x), .val (.int (0 : Int32))] [(.ref t)]))
    refine P59.callS (hw _ (List.mem_of_getElem? (i := 78) rfl)) (hw _ (List.mem_of_getElem? (i := 79) rfl)) (hw _ (List.mem_of_getElem? (i := 80) rfl)) (hw _ (List.mem_of_getElem? (i := 81) rfl)) (by decide) (mLat1 l Z a0 hw [] hEL zc S0 Pz wc cc SH SC BX t kb (ca.toInt8.toInt32) h0 P59.old A1) (W := 0) (by decide) (by decide) (by decide) (by decide) all0 pd_4 (argsL := [(.ref t)]) rfl rfl rfl (Nat.le_of_eq rfl) d10_27 fun v60 T60 h60 P60 K60 Q60 => ?_
    obtain ⟨iv60, rfl, hh60⟩ := Q60
    rw [hh60] at P60
    show Go p e below _ (T60.setTop (mkF m 30 #[.val (.ref x), .val (.int (0 : Int32))] [(.int iv60)]))
    refine P60.xs (fun hA hx hy t k => XS.goto hA hx rfl (pc0 := 30) (pc' := 40) rfl (hb hy d10_30) (by decide) (by decide) k) ?_
    show Go p e below _ (T60.setTop (mkF m 40 #[.val (.ref x), .val (.int (0 : Int32))] [(.int iv60)]))
    refine P60.xs (fun hA hx hy t k => XS.istoreN hA hx rfl (hb hy d10_40) rfl (l' := #[.val (.ref x), .val (.int iv60)]) rfl k) ?_
    show Go p e below _ (T60.setTop (mkF m 41 #[.val (.ref x), .val (.int iv60)] []))
    refine P60.xs (fun hA hx hy t k => XS.iloadN hA hx rfl (hb hy d10_41) rfl  k) ?_
    show Go p e below _ (T60.setTop (mkF m 42 #[.val (.ref x), .val (.int iv60)] [(.int iv60)]))
    by_cases hz : iv60 = 0
    · refine P60.xs (fun hA hx hy t k => XS.ifNo hA hx rfl (hb hy d10_42) rfl ((if0 _ _).trans (teq hz).2) k) ?_
      show Go p e below _ (T60.setTop (mkF m 45 #[.val (.ref x), .val (.int iv60)] []))
      refine P60.xs (fun hA hx hy t k => XS.aloadN hA hx rfl (hb hy d10_45) rfl rfl  k) ?_
      show Go p e below _ (T60.setTop (mkF m 46 #[.val (.ref x), .val (.int iv60)] [(.ref x)]))
      refine P60.xs (fun hA hx hy t k => XS.iconst hA hx rfl (hb hy d10_46) k) ?_
      show Go p e below _ (T60.setTop (mkF m 47 #[.val (.ref x), .val (.int iv60)] [(.int (1 : Int32)), (.ref x)]))
      refine P60.putF (hw _ (List.mem_of_getElem? (i := 70) rfl)) Via.refl Hz E (Or.inl (hw _ (List.mem_of_getElem? (i := 71) rfl))) (hw _ (List.mem_of_getElem? (i := 2) rfl)) (ty := .boolean) (v' := (.int (1 : Int32))) (by decide) rfl rfl d10_47 (fun _ _ _ _ => safeNil) gx (Or.inl (List.mem_of_getElem? (i := 0) rfl)) fun T61 h61 P61 W61 => ?_
      show Go p e below _ (T61.setTop (mkF m 50 #[.val (.ref x), .val (.int iv60)] []))
      refine P61.xs (fun hA hx hy t k => XS.goto hA hx rfl (pc0 := 50) (pc' := 58) rfl (hb hy d10_50) (by decide) (by decide) k) ?_
      show Go p e below _ (T61.setTop (mkF m 58 #[.val (.ref x), .val (.int iv60)] []))
      refine P61.xs (fun hA hx hy t k => XS.iloadN hA hx rfl (hb hy d10_58) rfl  k) ?_
      show Go p e below _ (T61.setTop (mkF m 59 #[.val (.ref x), .val (.int iv60)] [(.int iv60)]))
      have Ec62 : Exa Z h61 x "java/lang/String" := (E.wr W61)
      have Fc63 : Fld Z h61 x "java/lang/String" "coder" "B" (.int (0 : Int32)) := (C.other W61 (Or.inr (slot_ne (Or.inr (hw _ (List.mem_of_getElem? (i := 22) rfl))) (Or.inl (hw _ (List.mem_of_getElem? (i := 71) rfl))) (by decide) (t := .byte) (t' := .boolean) (by decide) (by decide))))
      have Fc64 : Fld Z h61 x "java/lang/String" "hash" "I" (.int (0 : Int32)) := (Hh.other W61 (Or.inr (slot_ne (Or.inl (hw _ (List.mem_of_getElem? (i := 69) rfl))) (Or.inl (hw _ (List.mem_of_getElem? (i := 71) rfl))) (by decide) (t := .int) (t' := .boolean) (by decide) (by decide))))
      have Fc65 : Fld Z h61 x "java/lang/String" "hashIsZero" "Z" (.int (1 : Int32)) := (Hz.same W61)
      have Fc66 : Fld Z h61 x "java/lang/String" "value" "[B" (.ref t) := (Fv.other W61 (Or.inr (slot_ne (Or.inr (hw _ (List.mem_of_getElem? (i := 21) rfl))) (Or.inl (hw _ (List.mem_of_getElem? (i := 71) rfl))) (by decide) (t := (.array .byte)) (t' := .boolean) (by decide) (by decide))))
      have Ac67 : Arv Z h61 t kb .byte (1 : Int32) [(.int (ca.toInt8.toInt32))] (.int 0) := (A1.other W61 ntx)
      exact P61.retI rfl d10_59 (by decide) (by decide) ⟨_, rfl, strOf (n := 1) rfl hlat (by decide) Ec62 Fc63 Fc66 Ac67⟩
    · refine P60.xs (fun hA hx hy t k => XS.ifYes hA hx rfl (pc0 := 42) (pc' := 53) rfl (hb hy d10_42) rfl ((if0 _ _).trans (feq hz).2) (by decide) (by decide) k) ?_
      show Go p e below _ (T60.setTop (mkF m 53 #[.val (.ref x), .val (.int iv60)] []))
      refine P60.xs (fun hA hx hy t k => XS.aloadN hA hx rfl (hb hy d10_53) rfl rfl  k) ?_
      show Go p e below _ (T60.setTop (mkF m 54 #[.val (.ref x), .val (.int iv60)] [(.ref x)]))
      refine P60.xs (fun hA hx hy t k => XS.iloadN hA hx rfl (hb hy d10_54) rfl  k) ?_
      show Go p e below _ (T60.setTop (mkF m 55 #[.val (.ref x), .val (.int iv60)] [(.int iv60), (.ref x)]))
      refine P60.putF (hw _ (List.mem_of_getElem? (i := 68) rfl)) Via.refl Hh E (Or.inl (hw _ (List.mem_of_getElem? (i := 69) rfl))) (hw _ (List.mem_of_getElem? (i := 2) rfl)) (ty := .int) (v' := (.int iv60)) (by decide) rfl rfl d10_55 (fun _ _ _ _ => safeNil) gx (Or.inl (List.mem_of_getElem? (i := 0) rfl)) fun T68 h68 P68 W68 => ?_
      show Go p e below _ (T68.setTop (mkF m 58 #[.val (.ref x), .val (.int iv60)] []))
      refine P68.xs (fun hA hx hy t k => XS.iloadN hA hx rfl (hb hy d10_58) rfl  k) ?_
      show Go p e below _ (T68.setTop (mkF m 59 #[.val (.ref x), .val (.int iv60)] [(.int iv60)]))
      have Ec69 : Exa Z h68 x "java/lang/String" := (E.wr W68)
      have Fc70 : Fld Z h68 x "java/lang/String" "coder" "B" (.int (0 : Int32)) := (C.other W68 (Or.inr (slot_ne (Or.inr (hw _ (List.mem_of_getElem? (i := 22) rfl))) (Or.inl (hw _ (List.mem_of_getElem? (i := 69) rfl))) (by decide) (t := .byte) (t' := .int) (by decide) (by decide))))
      have Fc71 : Fld Z h68 x "java/lang/String" "hash" "I" (.int iv60) := (Hh.same W68)
      have Fc72 : Fld Z h68 x "java/lang/String" "hashIsZero" "Z" (.int (0 : Int32)) := (Hz.other W68 (Or.inr (slot_ne (Or.inl (hw _ (List.mem_of_getElem? (i := 71) rfl))) (Or.inl (hw _ (List.mem_of_getElem? (i := 69) rfl))) (by decide) (t := .boolean) (t' := .int) (by decide) (by decide))))
      have Fc73 : Fld Z h68 x "java/lang/String" "value" "[B" (.ref t) := (Fv.other W68 (Or.inr (slot_ne (Or.inr (hw _ (List.mem_of_getElem? (i := 21) rfl))) (Or.inl (hw _ (List.mem_of_getElem? (i := 69) rfl))) (by decide) (t := (.array .byte)) (t' := .int) (by decide) (by decide))))
      have Ac74 : Arv Z h68 t kb .byte (1 : Int32) [(.int (ca.toInt8.toInt32))] (.int 0) := (A1.other W68 ntx)
      exact P68.retI rfl d10_59 (by decide) (by decide) ⟨_, rfl, strOf (n := 1) rfl hlat (by decide) Ec69 Fc70 Fc73 Ac74⟩
  · have A1 : Arv Z h0 t kb .byte (2 : Int32) [(.int (ca.toInt8.toInt32)), (.int (cb.toInt8.toInt32))] (.int 0) := A
    have ntx : t ≠ x := Ne.symm (Exa.neArv E A (hw _ (List.mem_of_getElem? (i := 2) rfl)))
    show Go p e below _ (s₁.setTop (mkF m 0 #[.val (.ref x), .unset] []))
    refine P0.xs (fun hA hx hy t k => XS.aloadN hA hx rfl (hb hy d10_0) rfl rfl  k) ?_
    show Go p e below _ (s₁.setTop (mkF m 1 #[.val (.ref x), .unset] [(.ref x)]))
    refine P0.getF (host := "") (Or.inl (hw _ (List.mem_of_getElem? (i := 68) rfl))) Via.refl Hh d10_1 fun T75 P75 => ?_
    show Go p e below _ (T75.setTop (mkF m 4 #[.val (.ref x), .unset] [(.int (0 : Int32))]))
    refine P75.xs (fun hA hx hy t k => XS.istoreN hA hx rfl (hb hy d10_4) rfl (l' := #[.val (.ref x), .val (.int (0 : Int32))]) rfl k) ?_
    show Go p e below _ (T75.setTop (mkF m 5 #[.val (.ref x), .val (.int (0 : Int32))] []))
    refine P75.xs (fun hA hx hy t k => XS.iloadN hA hx rfl (hb hy d10_5) rfl  k) ?_
    show Go p e below _ (T75.setTop (mkF m 6 #[.val (.ref x), .val (.int (0 : Int32))] [(.int (0 : Int32))]))
    refine P75.xs (fun hA hx hy t k => XS.ifNo hA hx rfl (hb hy d10_6) rfl ((if0 _ _).trans (teq (by decide)).2) k) ?_
    show Go p e below _ (T75.setTop (mkF m 9 #[.val (.ref x), .val (.int (0 : Int32))] []))
    refine P75.xs (fun hA hx hy t k => XS.aloadN hA hx rfl (hb hy d10_9) rfl rfl  k) ?_
    show Go p e below _ (T75.setTop (mkF m 10 #[.val (.ref x), .val (.int (0 : Int32))] [(.ref x)]))
    refine P75.getF (host := "") (Or.inl (hw _ (List.mem_of_getElem? (i := 70) rfl))) Via.refl Hz d10_10 fun T76 P76 => ?_
    show Go p e below _ (T76.setTop (mkF m 13 #[.val (.ref x), .val (.int (0 : Int32))] [(.int (0 : Int32))]))
    refine P76.xs (fun hA hx hy t k => XS.ifNo hA hx rfl (hb hy d10_13) rfl ((if0 _ _).trans (teq (by decide)).2) k) ?_
    show Go p e below _ (T76.setTop (mkF m 16 #[.val (.ref x), .val (.int (0 : Int32))] []))
    refine P76.xs (fun hA hx hy t k => XS.aloadN hA hx rfl (hb hy d10_16) rfl rfl  k) ?_
    show Go p e below _ (T76.setTop (mkF m 17 #[.val (.ref x), .val (.int (0 : Int32))] [(.ref x)]))
    refine P76.callV (hw _ (List.mem_of_getElem? (i := 72) rfl)) (hw _ (List.mem_of_getElem? (i := 73) rfl)) (hw _ (List.mem_of_getElem? (i := 75) rfl)) (nfOf (hw _ (List.mem_of_getElem? (i := 75) rfl))) (hw _ (List.mem_of_getElem? (i := 74) rfl)) (hw _ (List.mem_of_getElem? (i := 3) rfl)) (hw _ (List.mem_of_getElem? (i := 76) rfl)) (by decide) E (mIsL l Z a0 hw [] hEL zc S0 Pz wc cc SH SC BX x h0 P76.old C) (W := 0) (by decide) (by decide) (by decide) (by decide) all0 pd_3 (argsL := []) rfl rfl rfl (Nat.le_of_eq rfl) d10_17 fun v77 T77 h77 P77 K77 Q77 => ?_
    obtain ⟨hv77, hh77⟩ := Q77
    subst hv77
    rw [hh77] at P77
    show Go p e below _ (T77.setTop (mkF m 20 #[.val (.ref x), .val (.int (0 : Int32))] [(.int (1 : Int32))]))
    refine P77.xs (fun hA hx hy t k => XS.ifNo hA hx rfl (hb hy d10_20) rfl ((if0 _ _).trans (feq (by decide)).1) k) ?_
    show Go p e below _ (T77.setTop (mkF m 23 #[.val (.ref x), .val (.int (0 : Int32))] []))
    refine P77.xs (fun hA hx hy t k => XS.aloadN hA hx rfl (hb hy d10_23) rfl rfl  k) ?_
    show Go p e below _ (T77.setTop (mkF m 24 #[.val (.ref x), .val (.int (0 : Int32))] [(.ref x)]))
    refine P77.getF (host := "") (Or.inl (hw _ (List.mem_of_getElem? (i := 25) rfl))) Via.refl Fv d10_24 fun T78 P78 => ?_
    show Go p e below _ (T78.setTop (mkF m 27 #[.val (.ref x), .val (.int (0 : Int32))] [(.ref t)]))
    refine P78.callS (hw _ (List.mem_of_getElem? (i := 78) rfl)) (hw _ (List.mem_of_getElem? (i := 79) rfl)) (hw _ (List.mem_of_getElem? (i := 80) rfl)) (hw _ (List.mem_of_getElem? (i := 81) rfl)) (by decide) (mLat2 l Z a0 hw [] hEL zc S0 Pz wc cc SH SC BX t kb (ca.toInt8.toInt32) (cb.toInt8.toInt32) h0 P78.old A1 (hf rfl)) (W := 0) (by decide) (by decide) (by decide) (by decide) all0 pd_4 (argsL := [(.ref t)]) rfl rfl rfl (Nat.le_of_eq rfl) d10_27 fun v79 T79 h79 P79 K79 Q79 => ?_
    obtain ⟨iv79, rfl, hh79⟩ := Q79
    rw [hh79] at P79
    show Go p e below _ (T79.setTop (mkF m 30 #[.val (.ref x), .val (.int (0 : Int32))] [(.int iv79)]))
    refine P79.xs (fun hA hx hy t k => XS.goto hA hx rfl (pc0 := 30) (pc' := 40) rfl (hb hy d10_30) (by decide) (by decide) k) ?_
    show Go p e below _ (T79.setTop (mkF m 40 #[.val (.ref x), .val (.int (0 : Int32))] [(.int iv79)]))
    refine P79.xs (fun hA hx hy t k => XS.istoreN hA hx rfl (hb hy d10_40) rfl (l' := #[.val (.ref x), .val (.int iv79)]) rfl k) ?_
    show Go p e below _ (T79.setTop (mkF m 41 #[.val (.ref x), .val (.int iv79)] []))
    refine P79.xs (fun hA hx hy t k => XS.iloadN hA hx rfl (hb hy d10_41) rfl  k) ?_
    show Go p e below _ (T79.setTop (mkF m 42 #[.val (.ref x), .val (.int iv79)] [(.int iv79)]))
    by_cases hz : iv79 = 0
    · refine P79.xs (fun hA hx hy t k => XS.ifNo hA hx rfl (hb hy d10_42) rfl ((if0 _ _).trans (teq hz).2) k) ?_
      show Go p e below _ (T79.setTop (mkF m 45 #[.val (.ref x), .val (.int iv79)] []))
      refine P79.xs (fun hA hx hy t k => XS.aloadN hA hx rfl (hb hy d10_45) rfl rfl  k) ?_
      show Go p e below _ (T79.setTop (mkF m 46 #[.val (.ref x), .val (.int iv79)] [(.ref x)]))
      refine P79.xs (fun hA hx hy t k => XS.iconst hA hx rfl (hb hy d10_46) k) ?_
      show Go p e below _ (T79.setTop (mkF m 47 #[.val (.ref x), .val (.int iv79)] [(.int (1 : Int32)), (.ref x)]))
      refine P79.putF (hw _ (List.mem_of_getElem? (i := 70) rfl)) Via.refl Hz E (Or.inl (hw _ (List.mem_of_getElem? (i := 71) rfl))) (hw _ (List.mem_of_getElem? (i := 2) rfl)) (ty := .boolean) (v' := (.int (1 : Int32))) (by decide) rfl rfl d10_47 (fun _ _ _ _ => safeNil) gx (Or.inl (List.mem_of_getElem? (i := 0) rfl)) fun T80 h80 P80 W80 => ?_
      show Go p e below _ (T80.setTop (mkF m 50 #[.val (.ref x), .val (.int iv79)] []))
      refine P80.xs (fun hA hx hy t k => XS.goto hA hx rfl (pc0 := 50) (pc' := 58) rfl (hb hy d10_50) (by decide) (by decide) k) ?_
      show Go p e below _ (T80.setTop (mkF m 58 #[.val (.ref x), .val (.int iv79)] []))
      refine P80.xs (fun hA hx hy t k => XS.iloadN hA hx rfl (hb hy d10_58) rfl  k) ?_
      show Go p e below _ (T80.setTop (mkF m 59 #[.val (.ref x), .val (.int iv79)] [(.int iv79)]))
      have Ec81 : Exa Z h80 x "java/lang/String" := (E.wr W80)
      have Fc82 : Fld Z h80 x "java/lang/String" "coder" "B" (.int (0 : Int32)) := (C.other W80 (Or.inr (slot_ne (Or.inr (hw _ (List.mem_of_getElem? (i := 22) rfl))) (Or.inl (hw _ (List.mem_of_getElem? (i := 71) rfl))) (by decide) (t := .byte) (t' := .boolean) (by decide) (by decide))))
      have Fc83 : Fld Z h80 x "java/lang/String" "hash" "I" (.int (0 : Int32)) := (Hh.other W80 (Or.inr (slot_ne (Or.inl (hw _ (List.mem_of_getElem? (i := 69) rfl))) (Or.inl (hw _ (List.mem_of_getElem? (i := 71) rfl))) (by decide) (t := .int) (t' := .boolean) (by decide) (by decide))))
      have Fc84 : Fld Z h80 x "java/lang/String" "hashIsZero" "Z" (.int (1 : Int32)) := (Hz.same W80)
      have Fc85 : Fld Z h80 x "java/lang/String" "value" "[B" (.ref t) := (Fv.other W80 (Or.inr (slot_ne (Or.inr (hw _ (List.mem_of_getElem? (i := 21) rfl))) (Or.inl (hw _ (List.mem_of_getElem? (i := 71) rfl))) (by decide) (t := (.array .byte)) (t' := .boolean) (by decide) (by decide))))
      have Ac86 : Arv Z h80 t kb .byte (2 : Int32) [(.int (ca.toInt8.toInt32)), (.int (cb.toInt8.toInt32))] (.int 0) := (A1.other W80 ntx)
      exact P80.retI rfl d10_59 (by decide) (by decide) ⟨_, rfl, strOf (n := 2) rfl hlat (by decide) Ec81 Fc82 Fc85 Ac86⟩
    · refine P79.xs (fun hA hx hy t k => XS.ifYes hA hx rfl (pc0 := 42) (pc' := 53) rfl (hb hy d10_42) rfl ((if0 _ _).trans (feq hz).2) (by decide) (by decide) k) ?_
      show Go p e below _ (T79.setTop (mkF m 53 #[.val (.ref x), .val (.int iv79)] []))
      refine P79.xs (fun hA hx hy t k => XS.aloadN hA hx rfl (hb hy d10_53) rfl rfl  k) ?_
      show Go p e below _ (T79.setTop (mkF m 54 #[.val (.ref x), .val (.int iv79)] [(.ref x)]))
      refine P79.xs (fun hA hx hy t k => XS.iloadN hA hx rfl (hb hy d10_54) rfl  k) ?_
      show Go p e below _ (T79.setTop (mkF m 55 #[.val (.ref x), .val (.int iv79)] [(.int iv79), (.ref x)]))
      refine P79.putF (hw _ (List.mem_of_getElem? (i := 68) rfl)) Via.refl Hh E (Or.inl (hw _ (List.mem_of_getElem? (i := 69) rfl))) (hw _ (List.mem_of_getElem? (i := 2) rfl)) (ty := .int) (v' := (.int iv79)) (by decide) rfl rfl d10_55 (fun _ _ _ _ => safeNil) gx (Or.inl (List.mem_of_getElem? (i := 0) rfl)) fun T87 h87 P87 W87 => ?_
      show Go p e below _ (T87.setTop (mkF m 58 #[.val (.ref x), .val (.int iv79)] []))
      refine P87.xs (fun hA hx hy t k => XS.iloadN hA hx rfl (hb hy d10_58) rfl  k) ?_
      show Go p e below _ (T87.setTop (mkF m 59 #[.val (.ref x), .val (.int iv79)] [(.int iv79)]))
      have Ec88 : Exa Z h87 x "java/lang/String" := (E.wr W87)
      have Fc89 : Fld Z h87 x "java/lang/String" "coder" "B" (.int (0 : Int32)) := (C.other W87 (Or.inr (slot_ne (Or.inr (hw _ (List.mem_of_getElem? (i := 22) rfl))) (Or.inl (hw _ (List.mem_of_getElem? (i := 69) rfl))) (by decide) (t := .byte) (t' := .int) (by decide) (by decide))))
      have Fc90 : Fld Z h87 x "java/lang/String" "hash" "I" (.int iv79) := (Hh.same W87)
      have Fc91 : Fld Z h87 x "java/lang/String" "hashIsZero" "Z" (.int (0 : Int32)) := (Hz.other W87 (Or.inr (slot_ne (Or.inl (hw _ (List.mem_of_getElem? (i := 71) rfl))) (Or.inl (hw _ (List.mem_of_getElem? (i := 69) rfl))) (by decide) (t := .boolean) (t' := .int) (by decide) (by decide))))
      have Fc92 : Fld Z h87 x "java/lang/String" "value" "[B" (.ref t) := (Fv.other W87 (Or.inr (slot_ne (Or.inr (hw _ (List.mem_of_getElem? (i := 21) rfl))) (Or.inl (hw _ (List.mem_of_getElem? (i := 69) rfl))) (by decide) (t := (.array .byte)) (t' := .int) (by decide) (by decide))))
      have Ac93 : Arv Z h87 t kb .byte (2 : Int32) [(.int (ca.toInt8.toInt32)), (.int (cb.toInt8.toInt32))] (.int 0) := (A1.other W87 ntx)
      exact P87.retI rfl d10_59 (by decide) (by decide) ⟨_, rfl, strOf (n := 2) rfl hlat (by decide) Ec88 Fc89 Fc92 Ac93⟩
  · exact absurd hlen (by simp)

def R_mIH1 : Room := { frames := 0, cells := 0, slots := 0, locals := 0 }
def Q_mIH1 (Z : State) (iv : Int32) (h0 : Heap) (v : Option Value) (h : Heap) : Prop := v = some (.int iv) ∧ h = h0
set_option maxRecDepth 65536 in
set_option maxHeartbeats 40000000 in
theorem mIH1 (l : Launch) (Z : State) (a0 : Array Value) (hw : ∀ d ∈ tables_1, d.before a0 Z = true) (EL : List (String × Nat)) (hEL : EW Z a0 EL) (zc : Int32) (S0 : Sta Z Z.heap "java/lang/String" "COMPACT_STRINGS" "Z" (.int zc)) (Pz : ¬ zc = 0) (wc : Addr) (cc : Cell) (SH : Sta Z Z.heap "java/lang/Integer$IntegerCache" "high" "I" (.int (127 : Int32))) (SC : Sta Z Z.heap "java/lang/Integer$IntegerCache" "cache" "[Ljava/lang/Integer;" (.ref wc)) (BX : Bxs Z wc cc "java/lang/Integer" "I" (256 : Int32) (fun j => .int (j - 128))) (iv : Int32) (h0 : Heap) (hO : Ext Z.heap h0)  :
    Con l Z EL [] (⟨"java/lang/Integer", "hashCode", "(I)I"⟩ : MethodName) jdk_33_method_33_code 1 (some .int) R_mIH1 #[(.int iv)] h0 [] (Q_mIH1 Z iv h0) := by
  refine Con.of (y := (⟨"java/lang/Integer", "hashCode", "(I)I"⟩ : MethodName)) (f0 := fun m => mkF m 0 #[.val (.int iv)] []) (plainFor_of_name pn_5) hEL hO (fun m => by skip <;> first | (simp [entryFrame, mkF, argsToLocals, Value.category, maxLocals]; done) | rfl) ?_
  intro p e s m below meth c s₁ P0
  show Go p e below _ (s₁.setTop (mkF m 0 #[.val (.int iv)] []))
  refine P0.xs (fun hA hx hy t k => XS.iloadN hA hx rfl (hb hy d14_0) rfl  k) ?_
  show Go p e below _ (s₁.setTop (mkF m 1 #[.val (.int iv)] [(.int iv)]))
  exact P0.retI rfl d14_1 (by decide) (by decide) ⟨rfl, rfl⟩

def R_mIH : Room := { frames := 1, cells := 0, slots := 0, locals := 12 }
def Q_mIH (Z : State) (iv : Int32) (h0 : Heap) (v : Option Value) (h : Heap) : Prop := v = some (.int iv) ∧ h = h0
set_option maxRecDepth 65536 in
set_option maxHeartbeats 40000000 in
theorem mIH (l : Launch) (Z : State) (a0 : Array Value) (hw : ∀ d ∈ tables_1, d.before a0 Z = true) (EL : List (String × Nat)) (hEL : EW Z a0 EL) (zc : Int32) (S0 : Sta Z Z.heap "java/lang/String" "COMPACT_STRINGS" "Z" (.int zc)) (Pz : ¬ zc = 0) (wc : Addr) (cc : Cell) (SH : Sta Z Z.heap "java/lang/Integer$IntegerCache" "high" "I" (.int (127 : Int32))) (SC : Sta Z Z.heap "java/lang/Integer$IntegerCache" "cache" "[Ljava/lang/Integer;" (.ref wc)) (BX : Bxs Z wc cc "java/lang/Integer" "I" (256 : Int32) (fun j => .int (j - 128))) (o : Addr) (iv : Int32) (h0 : Heap) (hO : Ext Z.heap h0) (F : Fld Z h0 o "java/lang/Integer" "value" "I" (.int iv)) :
    Con l Z EL [] (⟨"java/lang/Integer", "hashCode", "()I"⟩ : MethodName) jdk_33_method_32_code 1 (some .int) R_mIH #[(.ref o)] h0 [] (Q_mIH Z iv h0) := by
  refine Con.of (y := (⟨"java/lang/Integer", "hashCode", "()I"⟩ : MethodName)) (f0 := fun m => mkF m 0 #[.val (.ref o)] []) (plainFor_of_name pn_5) hEL hO (fun m => by skip <;> first | (simp [entryFrame, mkF, argsToLocals, Value.category, maxLocals]; done) | rfl) ?_
  intro p e s m below meth c s₁ P0
  show Go p e below _ (s₁.setTop (mkF m 0 #[.val (.ref o)] []))
  refine P0.xs (fun hA hx hy t k => XS.aloadN hA hx rfl (hb hy d13_0) rfl rfl  k) ?_
  show Go p e below _ (s₁.setTop (mkF m 1 #[.val (.ref o)] [(.ref o)]))
  refine P0.getF (host := "") (Or.inl (hw _ (List.mem_of_getElem? (i := 85) rfl))) Via.refl F d13_1 fun T94 P94 => ?_
  show Go p e below _ (T94.setTop (mkF m 4 #[.val (.ref o)] [(.int iv)]))
  refine P94.callS (hw _ (List.mem_of_getElem? (i := 87) rfl)) (hw _ (List.mem_of_getElem? (i := 88) rfl)) (hw _ (List.mem_of_getElem? (i := 49) rfl)) (hw _ (List.mem_of_getElem? (i := 89) rfl)) (by decide) (mIH1 l Z a0 hw EL hEL zc S0 Pz wc cc SH SC BX iv h0 P94.old) (W := 0) (by decide) (by decide) (by decide) (by decide) all0 pd_5 (argsL := [(.int iv)]) rfl rfl rfl (Nat.le_of_eq rfl) d13_4 fun v95 T95 h95 P95 K95 Q95 => ?_
  obtain ⟨hv95, hh95⟩ := Q95
  subst hv95
  rw [hh95] at P95
  show Go p e below _ (T95.setTop (mkF m 7 #[.val (.ref o)] [(.int iv)]))
  exact P95.retI rfl d13_7 (by decide) (by decide) ⟨rfl, rfl⟩

def R_mNum : Room := { frames := 1, cells := 0, slots := 0, locals := 12 }
def Q_mNum (Z : State)  (h0 : Heap) (v : Option Value) (h : Heap) : Prop := v = none ∧ h = h0
set_option maxRecDepth 65536 in
set_option maxHeartbeats 40000000 in
theorem mNum (l : Launch) (Z : State) (a0 : Array Value) (hw : ∀ d ∈ tables_1, d.before a0 Z = true) (EL : List (String × Nat)) (hEL : EW Z a0 EL) (zc : Int32) (S0 : Sta Z Z.heap "java/lang/String" "COMPACT_STRINGS" "Z" (.int zc)) (Pz : ¬ zc = 0) (wc : Addr) (cc : Cell) (SH : Sta Z Z.heap "java/lang/Integer$IntegerCache" "high" "I" (.int (127 : Int32))) (SC : Sta Z Z.heap "java/lang/Integer$IntegerCache" "cache" "[Ljava/lang/Integer;" (.ref wc)) (BX : Bxs Z wc cc "java/lang/Integer" "I" (256 : Int32) (fun j => .int (j - 128))) (o : Addr) (h0 : Heap) (hO : Ext Z.heap h0)  :
    Con l Z EL [] (⟨"java/lang/Number", "<init>", "()V"⟩ : MethodName) jdk_18_method_1_code 1 none R_mNum #[(.ref o)] h0 [] (Q_mNum Z  h0) := by
  refine Con.of (y := (⟨"java/lang/Number", "<init>", "()V"⟩ : MethodName)) (f0 := fun m => mkF m 0 #[.val (.ref o)] []) (plainFor_of_name pn_6) hEL hO (fun m => by skip <;> first | (simp [entryFrame, mkF, argsToLocals, Value.category, maxLocals]; done) | rfl) ?_
  intro p e s m below meth c s₁ P0
  show Go p e below _ (s₁.setTop (mkF m 0 #[.val (.ref o)] []))
  refine P0.xs (fun hA hx hy t k => XS.aloadN hA hx rfl (hb hy d22_0) rfl rfl  k) ?_
  show Go p e below _ (s₁.setTop (mkF m 1 #[.val (.ref o)] [(.ref o)]))
  refine P0.init0 (W := 0) (hw _ (List.mem_of_getElem? (i := 130) rfl)) (hw _ (List.mem_of_getElem? (i := 17) rfl)) (hw _ (List.mem_of_getElem? (i := 18) rfl)) d22_1 rfl (by decide) (Nat.le_of_eq rfl) (by decide) fun T96 P96 => ?_
  show Go p e below _ (T96.setTop (mkF m 4 #[.val (.ref o)] []))
  exact P96.retV rfl d22_4 (by decide) (by decide) ⟨rfl, rfl⟩

def R_mInt : Room := { frames := 2, cells := 0, slots := 0, locals := 24 }
def Q_mInt (Z : State) (o : Addr) (ar : Int32) (h0 : Heap) (v : Option Value) (h : Heap) : Prop := v = none ∧ Exa Z h o "java/lang/Integer" ∧ Fld Z h o "java/lang/Integer" "value" "I" (.int ar)
set_option maxRecDepth 65536 in
set_option maxHeartbeats 40000000 in
theorem mInt (l : Launch) (Z : State) (a0 : Array Value) (hw : ∀ d ∈ tables_1, d.before a0 Z = true) (EL : List (String × Nat)) (hEL : EW Z a0 EL) (zc : Int32) (S0 : Sta Z Z.heap "java/lang/String" "COMPACT_STRINGS" "Z" (.int zc)) (Pz : ¬ zc = 0) (wc : Addr) (cc : Cell) (SH : Sta Z Z.heap "java/lang/Integer$IntegerCache" "high" "I" (.int (127 : Int32))) (SC : Sta Z Z.heap "java/lang/Integer$IntegerCache" "cache" "[Ljava/lang/Integer;" (.ref wc)) (BX : Bxs Z wc cc "java/lang/Integer" "I" (256 : Int32) (fun j => .int (j - 128))) (o : Addr) (ar : Int32) (h0 : Heap) (hO : Ext Z.heap h0) (E : Exa Z h0 o "java/lang/Integer") (F : Fld Z h0 o "java/lang/Integer" "value" "I" (.int (0 : Int32))) (go : Z.heap.size ≤ o) :
    Con l Z EL [] (⟨"java/lang/Integer", "<init>", "(I)V"⟩ : MethodName) jdk_33_method_23_code 2 none R_mInt #[(.ref o), (.int ar)] h0 [o] (Q_mInt Z o ar h0) := by
  refine Con.of (y := (⟨"java/lang/Integer", "<init>", "(I)V"⟩ : MethodName)) (f0 := fun m => mkF m 0 #[.val (.ref o), .val (.int ar)] []) (plainFor_of_name pn_5) hEL hO (fun m => by skip <;> first | (simp [entryFrame, mkF, argsToLocals, Value.category, maxLocals]; done) | rfl) ?_
  intro p e s m below meth c s₁ P0
  show Go p e below _ (s₁.setTop (mkF m 0 #[.val (.ref o), .val (.int ar)] []))
  refine P0.xs (fun hA hx hy t k => XS.aloadN hA hx rfl (hb hy d21_0) rfl rfl  k) ?_
  show Go p e below _ (s₁.setTop (mkF m 1 #[.val (.ref o), .val (.int ar)] [(.ref o)]))
  refine P0.callI rfl (hw _ (List.mem_of_getElem? (i := 124) rfl)) (hw _ (List.mem_of_getElem? (i := 125) rfl)) (hw _ (List.mem_of_getElem? (i := 128) rfl)) (hw _ (List.mem_of_getElem? (i := 129) rfl)) (by decide) (mNum l Z a0 hw EL hEL zc S0 Pz wc cc SH SC BX o h0 P0.old) (W := 0) (by decide) (by decide) (by decide) (by decide) all0 pd_6 (argsL := []) rfl rfl rfl (Nat.le_of_eq rfl) d21_1 fun v97 T97 h97 P97 K97 Q97 => ?_
  obtain ⟨hv97, hh97⟩ := Q97
  subst hv97
  rw [hh97] at P97
  show Go p e below _ (T97.setTop (mkF m 4 #[.val (.ref o), .val (.int ar)] []))
  refine P97.xs (fun hA hx hy t k => XS.aloadN hA hx rfl (hb hy d21_4) rfl rfl  k) ?_
  show Go p e below _ (T97.setTop (mkF m 5 #[.val (.ref o), .val (.int ar)] [(.ref o)]))
  refine P97.xs (fun hA hx hy t k => XS.iloadN hA hx rfl (hb hy d21_5) rfl  k) ?_
  show Go p e below _ (T97.setTop (mkF m 6 #[.val (.ref o), .val (.int ar)] [(.int ar), (.ref o)]))
  refine P97.putF (hw _ (List.mem_of_getElem? (i := 85) rfl)) Via.refl F E (Or.inr ⟨(hw _ (List.mem_of_getElem? (i := 86) rfl)), rfl, rfl⟩) (hw _ (List.mem_of_getElem? (i := 119) rfl)) (ty := .int) (v' := (.int ar)) (by decide) rfl rfl d21_6 (fun vm _ hal _ => Safe.exa hal E (by decide) (by decide)) go (Or.inl (List.mem_of_getElem? (i := 0) rfl)) fun T98 h98 P98 W98 => ?_
  show Go p e below _ (T98.setTop (mkF m 9 #[.val (.ref o), .val (.int ar)] []))
  have Ec99 : Exa Z h98 o "java/lang/Integer" := (E.wr W98)
  have Fc100 : Fld Z h98 o "java/lang/Integer" "value" "I" (.int ar) := (F.same W98)
  exact P98.retV rfl d21_9 (by decide) (by decide) ⟨rfl, Ec99, Fc100⟩

def R_mVal : Room := { frames := 3, cells := 1, slots := 1, locals := 38 }
def Q_mVal (Z : State)  (h0 : Heap) (v : Option Value) (h : Heap) : Prop := ∃ (x : Addr) (iv : Int32), v = some (.ref x) ∧ Exa Z h x "java/lang/Integer" ∧ Fld Z h x "java/lang/Integer" "value" "I" (.int iv)
set_option maxRecDepth 65536 in
set_option maxHeartbeats 40000000 in
theorem mVal (l : Launch) (Z : State) (a0 : Array Value) (hw : ∀ d ∈ tables_1, d.before a0 Z = true) (EL : List (String × Nat)) (hEL : EW Z a0 EL) (zc : Int32) (S0 : Sta Z Z.heap "java/lang/String" "COMPACT_STRINGS" "Z" (.int zc)) (Pz : ¬ zc = 0) (wc : Addr) (cc : Cell) (SH : Sta Z Z.heap "java/lang/Integer$IntegerCache" "high" "I" (.int (127 : Int32))) (SC : Sta Z Z.heap "java/lang/Integer$IntegerCache" "cache" "[Ljava/lang/Integer;" (.ref wc)) (BX : Bxs Z wc cc "java/lang/Integer" "I" (256 : Int32) (fun j => .int (j - 128))) (ar : Int32) (h0 : Heap) (hO : Ext Z.heap h0) (har : ¬ ar < 0) :
    Con l Z EL [] (⟨"java/lang/Integer", "valueOf", "(I)Ljava/lang/Integer;"⟩ : MethodName) jdk_33_method_22_code 1 (some (.object "java/lang/Integer")) R_mVal #[(.int ar)] h0 [] (Q_mVal Z  h0) := by
  refine Con.of (y := (⟨"java/lang/Integer", "valueOf", "(I)Ljava/lang/Integer;"⟩ : MethodName)) (f0 := fun m => mkF m 0 #[.val (.int ar)] []) (plainFor_of_name pn_5) hEL hO (fun m => by skip <;> first | (simp [entryFrame, mkF, argsToLocals, Value.category, maxLocals]; done) | rfl) ?_
  intro p e s m below meth c s₁ P0
  show Go p e below _ (s₁.setTop (mkF m 0 #[.val (.int ar)] []))
  refine P0.xs (fun hA hx hy t k => XS.iloadN hA hx rfl (hb hy d7_0) rfl  k) ?_
  show Go p e below _ (s₁.setTop (mkF m 1 #[.val (.int ar)] [(.int ar)]))
  refine P0.xs (fun hA hx hy t k => XS.bipush hA hx rfl (hb hy d7_1) k) ?_
  show Go p e below _ (s₁.setTop (mkF m 3 #[.val (.int ar)] [(.int (-128 : Int32)), (.int ar)]))
  refine P0.xs (fun hA hx hy t k => XS.icmpNo hA hx rfl (hb hy d7_3) rfl (flt (nn128 har)).1 k) ?_
  show Go p e below _ (s₁.setTop (mkF m 6 #[.val (.int ar)] []))
  refine P0.xs (fun hA hx hy t k => XS.iloadN hA hx rfl (hb hy d7_6) rfl  k) ?_
  show Go p e below _ (s₁.setTop (mkF m 7 #[.val (.int ar)] [(.int ar)]))
  refine P0.getS (host := "") (Or.inl (hw _ (List.mem_of_getElem? (i := 51) rfl))) Via.refl SH d7_7 fun T101 P101 => ?_
  show Go p e below _ (T101.setTop (mkF m 10 #[.val (.int ar)] [(.int (127 : Int32)), (.int ar)]))
  by_cases hg : (127 : Int32) < ar
  · refine P101.xs (fun hA hx hy t k => XS.icmpYes hA hx rfl (pc0 := 10) (pc' := 23) rfl (hb hy d7_10) rfl (tlt hg).2.2.1 (by decide) (by decide) k) ?_
    show Go p e below _ (T101.setTop (mkF m 23 #[.val (.int ar)] []))
    refine P101.newO (hw _ (List.mem_of_getElem? (i := 118) rfl)) (hw _ (List.mem_of_getElem? (i := 119) rfl)) (hw _ (List.mem_of_getElem? (i := 49) rfl)) d7_23 (by decide) (by decide) fun T102 h102 o102 g102 P102 E102 A102 D102 => ?_
    have gz_o102 : Z.heap.size ≤ o102 := Nat.le_trans P101.old.1 (Nat.le_of_eq g102.symm)
    have gw_o102 : h0.size ≤ o102 := Nat.le_trans P101.kept.1 (Nat.le_of_eq g102.symm)
    have F102_value : Fld Z h102 o102 "java/lang/Integer" "value" "I" (.int (0 : Int32)) := D102 (Or.inr (hw _ (List.mem_of_getElem? (i := 86) rfl))) (ty := .int) (by decide)
    show Go p e below _ (T102.setTop (mkF m 26 #[.val (.int ar)] [(.ref o102)]))
    refine P102.xs (fun hA hx hy t k => XS.dup hA hx rfl (hb hy d7_26) rfl rfl k) ?_
    show Go p e below _ (T102.setTop (mkF m 27 #[.val (.int ar)] [(.ref o102), (.ref o102)]))
    refine P102.xs (fun hA hx hy t k => XS.iloadN hA hx rfl (hb hy d7_27) rfl  k) ?_
    show Go p e below _ (T102.setTop (mkF m 28 #[.val (.int ar)] [(.int ar), (.ref o102), (.ref o102)]))
    refine P102.callI rfl (hw _ (List.mem_of_getElem? (i := 120) rfl)) (hw _ (List.mem_of_getElem? (i := 121) rfl)) (hw _ (List.mem_of_getElem? (i := 49) rfl)) (hw _ (List.mem_of_getElem? (i := 123) rfl)) (by decide) (mInt l Z a0 hw EL hEL zc S0 Pz wc cc SH SC BX o102 ar h102 P102.old A102 F102_value gz_o102) (W := 1) (by decide) (by decide) (by decide) (by decide) (allS (Or.inr gw_o102) all0) pd_7 (argsL := [(.int ar)]) rfl rfl rfl (Nat.le_of_eq rfl) d7_28 fun v103 T103 h103 P103 K103 Q103 => ?_
    obtain ⟨rfl, E103, F103⟩ := Q103
    show Go p e below _ (T103.setTop (mkF m 31 #[.val (.int ar)] [(.ref o102)]))
    exact P103.retR rfl rfl rfl d7_31 (by decide) (by decide) ⟨o102, _, rfl, E103, F103⟩
  · refine P101.xs (fun hA hx hy t k => XS.icmpNo hA hx rfl (hb hy d7_10) rfl (flt hg).2.2.1 k) ?_
    show Go p e below _ (T101.setTop (mkF m 13 #[.val (.int ar)] []))
    refine P101.getS (host := "") (Or.inl (hw _ (List.mem_of_getElem? (i := 53) rfl))) Via.refl SC d7_13 fun T104 P104 => ?_
    show Go p e below _ (T104.setTop (mkF m 16 #[.val (.int ar)] [(.ref wc)]))
    refine P104.xs (fun hA hx hy t k => XS.iloadN hA hx rfl (hb hy d7_16) rfl  k) ?_
    show Go p e below _ (T104.setTop (mkF m 17 #[.val (.int ar)] [(.int ar), (.ref wc)]))
    refine P104.xs (fun hA hx hy t k => XS.sipush hA hx rfl (hb hy d7_17) k) ?_
    show Go p e below _ (T104.setTop (mkF m 20 #[.val (.int ar)] [(.int (128 : Int32)), (.int ar), (.ref wc)]))
    refine P104.xs (fun hA hx hy t k => XS.iadd hA hx rfl (hb hy d7_20) rfl k) ?_
    show Go p e below _ (T104.setTop (mkF m 21 #[.val (.int ar)] [(.int (ar + (128 : Int32))), (.ref wc)]))
    refine P104.bxld BX (ix128 har hg).1 (ix128 har hg).2 d7_21 fun bx Eb Fb => ?_
    show Go p e below _ (T104.setTop (mkF m 22 #[.val (.int ar)] [(.ref bx)]))
    exact P104.retR rfl rfl rfl d7_22 (by decide) (by decide) ⟨bx, _, rfl, Eb, Fb⟩

def R_mAH : Room := { frames := 4, cells := 0, slots := 0, locals := 59 }
def Q_mAH (Z : State) (x : Addr) (cs : List Int32) (h0 : Heap) (v : Option Value) (h : Heap) : Prop := ∃ iv : Int32, v = some (.int iv) ∧ Str Z h x cs
set_option maxRecDepth 65536 in
set_option maxHeartbeats 40000000 in
theorem mAH (l : Launch) (Z : State) (a0 : Array Value) (hw : ∀ d ∈ tables_1, d.before a0 Z = true) (EL : List (String × Nat)) (hEL : EW Z a0 []) (zc : Int32) (S0 : Sta Z Z.heap "java/lang/String" "COMPACT_STRINGS" "Z" (.int zc)) (Pz : ¬ zc = 0) (wc : Addr) (cc : Cell) (SH : Sta Z Z.heap "java/lang/Integer$IntegerCache" "high" "I" (.int (127 : Int32))) (SC : Sta Z Z.heap "java/lang/Integer$IntegerCache" "cache" "[Ljava/lang/Integer;" (.ref wc)) (BX : Bxs Z wc cc "java/lang/Integer" "I" (256 : Int32) (fun j => .int (j - 128))) (r x io : Addr) (kc : ClassId) (iv : Int32) (cs : List Int32) (h0 : Heap) (hO : Ext Z.heap h0) (A : Arv Z h0 r kc (.object "java/lang/Object") (2 : Int32) [(.ref x), (.ref io)] .null) (Ss : Sh Z h0 x cs) (Ei : Exa Z h0 io "java/lang/Integer") (Fi : Fld Z h0 io "java/lang/Integer" "value" "I" (.int iv)) (gx : Z.heap.size ≤ x) :
    Con l Z [] [] (⟨"java/util/Arrays", "hashCode", "([Ljava/lang/Object;)I"⟩ : MethodName) jdk_65_method_157_code 6 (some .int) R_mAH #[(.ref r)] h0 [x] (Q_mAH Z x cs h0) := by
  refine Con.of (y := (⟨"java/util/Arrays", "hashCode", "([Ljava/lang/Object;)I"⟩ : MethodName)) (f0 := fun m => mkF m 0 #[.val (.ref r), .unset, .unset, .unset, .unset, .unset] []) (plainFor_of_name pn_7) hEL hO (fun m => by skip <;> first | (simp [entryFrame, mkF, argsToLocals, Value.category, maxLocals]; done) | rfl) ?_
  intro p e s m below meth c s₁ P0
  show Go p e below _ (s₁.setTop (mkF m 0 #[.val (.ref r), .unset, .unset, .unset, .unset, .unset] []))
  refine P0.xs (fun hA hx hy t k => XS.aloadN hA hx rfl (hb hy d9_0) rfl rfl  k) ?_
  show Go p e below _ (s₁.setTop (mkF m 1 #[.val (.ref r), .unset, .unset, .unset, .unset, .unset] [(.ref r)]))
  refine P0.xs (fun hA hx hy t k => XS.ifnonnullYes hA hx rfl (pc0 := 1) (pc' := 6) rfl (hb hy d9_1) rfl (by decide) (by decide) k) ?_
  show Go p e below _ (s₁.setTop (mkF m 6 #[.val (.ref r), .unset, .unset, .unset, .unset, .unset] []))
  refine P0.xs (fun hA hx hy t k => XS.iconst hA hx rfl (hb hy d9_6) k) ?_
  show Go p e below _ (s₁.setTop (mkF m 7 #[.val (.ref r), .unset, .unset, .unset, .unset, .unset] [(.int (1 : Int32))]))
  refine P0.xs (fun hA hx hy t k => XS.istoreN hA hx rfl (hb hy d9_7) rfl (l' := #[.val (.ref r), .val (.int (1 : Int32)), .unset, .unset, .unset, .unset]) rfl k) ?_
  show Go p e below _ (s₁.setTop (mkF m 8 #[.val (.ref r), .val (.int (1 : Int32)), .unset, .unset, .unset, .unset] []))
  refine P0.xs (fun hA hx hy t k => XS.aloadN hA hx rfl (hb hy d9_8) rfl rfl  k) ?_
  show Go p e below _ (s₁.setTop (mkF m 9 #[.val (.ref r), .val (.int (1 : Int32)), .unset, .unset, .unset, .unset] [(.ref r)]))
  refine P0.xs (fun hA hx hy t k => XS.astoreN hA hx rfl (hb hy d9_9) rfl rfl (l' := #[.val (.ref r), .val (.int (1 : Int32)), .val (.ref r), .unset, .unset, .unset]) rfl k) ?_
  show Go p e below _ (s₁.setTop (mkF m 10 #[.val (.ref r), .val (.int (1 : Int32)), .val (.ref r), .unset, .unset, .unset] []))
  refine P0.xs (fun hA hx hy t k => XS.aloadN hA hx rfl (hb hy d9_10) rfl rfl  k) ?_
  show Go p e below _ (s₁.setTop (mkF m 11 #[.val (.ref r), .val (.int (1 : Int32)), .val (.ref r), .unset, .unset, .unset] [(.ref r)]))
  refine P0.alen A d9_11 ?_
  show Go p e below _ (s₁.setTop (mkF m 12 #[.val (.ref r), .val (.int (1 : Int32)), .val (.ref r), .unset, .unset, .unset] [(.int (2 : Int32))]))
  refine P0.xs (fun hA hx hy t k => XS.istoreN hA hx rfl (hb hy d9_12) rfl (l' := #[.val (.ref r), .val (.int (1 : Int32)), .val (.ref r), .val (.int (2 : Int32)), .unset, .unset]) rfl k) ?_
  show Go p e below _ (s₁.setTop (mkF m 13 #[.val (.ref r), .val (.int (1 : Int32)), .val (.ref r), .val (.int (2 : Int32)), .unset, .unset] []))
  refine P0.xs (fun hA hx hy t k => XS.iconst hA hx rfl (hb hy d9_13) k) ?_
  show Go p e below _ (s₁.setTop (mkF m 14 #[.val (.ref r), .val (.int (1 : Int32)), .val (.ref r), .val (.int (2 : Int32)), .unset, .unset] [(.int (0 : Int32))]))
  refine P0.xs (fun hA hx hy t k => XS.istore hA hx rfl (hb hy d9_14) rfl (l' := #[.val (.ref r), .val (.int (1 : Int32)), .val (.ref r), .val (.int (2 : Int32)), .val (.int (0 : Int32)), .unset]) rfl k) ?_
  show Go p e below _ (s₁.setTop (mkF m 16 #[.val (.ref r), .val (.int (1 : Int32)), .val (.ref r), .val (.int (2 : Int32)), .val (.int (0 : Int32)), .unset] []))
  refine P0.xs (fun hA hx hy t k => XS.iload hA hx rfl (hb hy d9_16) rfl  k) ?_
  show Go p e below _ (s₁.setTop (mkF m 18 #[.val (.ref r), .val (.int (1 : Int32)), .val (.ref r), .val (.int (2 : Int32)), .val (.int (0 : Int32)), .unset] [(.int (0 : Int32))]))
  refine P0.xs (fun hA hx hy t k => XS.iloadN hA hx rfl (hb hy d9_18) rfl  k) ?_
  show Go p e below _ (s₁.setTop (mkF m 19 #[.val (.ref r), .val (.int (1 : Int32)), .val (.ref r), .val (.int (2 : Int32)), .val (.int (0 : Int32)), .unset] [(.int (2 : Int32)), (.int (0 : Int32))]))
  refine P0.xs (fun hA hx hy t k => XS.icmpNo hA hx rfl (hb hy d9_19) rfl (tlt (by decide)).2.1 k) ?_
  show Go p e below _ (s₁.setTop (mkF m 22 #[.val (.ref r), .val (.int (1 : Int32)), .val (.ref r), .val (.int (2 : Int32)), .val (.int (0 : Int32)), .unset] []))
  refine P0.xs (fun hA hx hy t k => XS.aloadN hA hx rfl (hb hy d9_22) rfl rfl  k) ?_
  show Go p e below _ (s₁.setTop (mkF m 23 #[.val (.ref r), .val (.int (1 : Int32)), .val (.ref r), .val (.int (2 : Int32)), .val (.int (0 : Int32)), .unset] [(.ref r)]))
  refine P0.xs (fun hA hx hy t k => XS.iload hA hx rfl (hb hy d9_23) rfl  k) ?_
  show Go p e below _ (s₁.setTop (mkF m 25 #[.val (.ref r), .val (.int (1 : Int32)), .val (.ref r), .val (.int (2 : Int32)), .val (.int (0 : Int32)), .unset] [(.int (0 : Int32)), (.ref r)]))
  refine P0.aald A rfl (by decide) (by decide) (v := (.ref x)) rfl d9_25 ?_
  show Go p e below _ (s₁.setTop (mkF m 26 #[.val (.ref r), .val (.int (1 : Int32)), .val (.ref r), .val (.int (2 : Int32)), .val (.int (0 : Int32)), .unset] [(.ref x)]))
  refine P0.xs (fun hA hx hy t k => XS.astore hA hx rfl (hb hy d9_26) rfl rfl (l' := #[.val (.ref r), .val (.int (1 : Int32)), .val (.ref r), .val (.int (2 : Int32)), .val (.int (0 : Int32)), .val (.ref x)]) rfl k) ?_
  show Go p e below _ (s₁.setTop (mkF m 28 #[.val (.ref r), .val (.int (1 : Int32)), .val (.ref r), .val (.int (2 : Int32)), .val (.int (0 : Int32)), .val (.ref x)] []))
  refine P0.xs (fun hA hx hy t k => XS.bipush hA hx rfl (hb hy d9_28) k) ?_
  show Go p e below _ (s₁.setTop (mkF m 30 #[.val (.ref r), .val (.int (1 : Int32)), .val (.ref r), .val (.int (2 : Int32)), .val (.int (0 : Int32)), .val (.ref x)] [(.int (31 : Int32))]))
  refine P0.xs (fun hA hx hy t k => XS.iloadN hA hx rfl (hb hy d9_30) rfl  k) ?_
  show Go p e below _ (s₁.setTop (mkF m 31 #[.val (.ref r), .val (.int (1 : Int32)), .val (.ref r), .val (.int (2 : Int32)), .val (.int (0 : Int32)), .val (.ref x)] [(.int (1 : Int32)), (.int (31 : Int32))]))
  refine P0.xs (fun hA hx hy t k => XS.imul hA hx rfl (hb hy d9_31) rfl k) ?_
  show Go p e below _ (s₁.setTop (mkF m 32 #[.val (.ref r), .val (.int (1 : Int32)), .val (.ref r), .val (.int (2 : Int32)), .val (.int (0 : Int32)), .val (.ref x)] [(.int ((31 : Int32) * (1 : Int32)))]))
  refine P0.xs (fun hA hx hy t k => XS.aload hA hx rfl (hb hy d9_32) rfl rfl  k) ?_
  show Go p e below _ (s₁.setTop (mkF m 34 #[.val (.ref r), .val (.int (1 : Int32)), .val (.ref r), .val (.int (2 : Int32)), .val (.int (0 : Int32)), .val (.ref x)] [(.ref x), (.int ((31 : Int32) * (1 : Int32)))]))
  refine P0.xs (fun hA hx hy t k => XS.ifnonnullYes hA hx rfl (pc0 := 34) (pc' := 41) rfl (hb hy d9_34) rfl (by decide) (by decide) k) ?_
  show Go p e below _ (s₁.setTop (mkF m 41 #[.val (.ref r), .val (.int (1 : Int32)), .val (.ref r), .val (.int (2 : Int32)), .val (.int (0 : Int32)), .val (.ref x)] [(.int ((31 : Int32) * (1 : Int32)))]))
  refine P0.xs (fun hA hx hy t k => XS.aload hA hx rfl (hb hy d9_41) rfl rfl  k) ?_
  show Go p e below _ (s₁.setTop (mkF m 43 #[.val (.ref r), .val (.int (1 : Int32)), .val (.ref r), .val (.int (2 : Int32)), .val (.int (0 : Int32)), .val (.ref x)] [(.ref x), (.int ((31 : Int32) * (1 : Int32)))]))
  have Ec106 : Exa Z h0 x "java/lang/String" := Ss.1
  refine P0.callV (hw _ (List.mem_of_getElem? (i := 62) rfl)) (hw _ (List.mem_of_getElem? (i := 63) rfl)) (hw _ (List.mem_of_getElem? (i := 65) rfl)) (nfTop (hw _ (List.mem_of_getElem? (i := 141) rfl))) (hw _ (List.mem_of_getElem? (i := 66) rfl)) (hw _ (List.mem_of_getElem? (i := 3) rfl)) (hw _ (List.mem_of_getElem? (i := 67) rfl)) (by decide) Ec106 (mSH l Z a0 hw [] hEL zc S0 Pz wc cc SH SC BX x cs h0 P0.old Ss gx) (W := 1) (by decide) (by decide) (by decide) (by decide) (allS (Or.inl (List.mem_of_getElem? (i := 0) rfl)) all0) pd_8 (argsL := []) rfl rfl rfl (Nat.le_of_eq rfl) d9_43 fun v105 T105 h105 P105 K105 Q105 => ?_
  obtain ⟨iv105, rfl, Ss105⟩ := Q105
  show Go p e below _ (T105.setTop (mkF m 46 #[.val (.ref r), .val (.int (1 : Int32)), .val (.ref r), .val (.int (2 : Int32)), .val (.int (0 : Int32)), .val (.ref x)] [(.int iv105), (.int ((31 : Int32) * (1 : Int32)))]))
  refine P105.xs (fun hA hx hy t k => XS.iadd hA hx rfl (hb hy d9_46) rfl k) ?_
  show Go p e below _ (T105.setTop (mkF m 47 #[.val (.ref r), .val (.int (1 : Int32)), .val (.ref r), .val (.int (2 : Int32)), .val (.int (0 : Int32)), .val (.ref x)] [(.int (((31 : Int32) * (1 : Int32)) + iv105))]))
  refine P105.xs (fun hA hx hy t k => XS.istoreN hA hx rfl (hb hy d9_47) rfl (l' := #[.val (.ref r), .val (.int (((31 : Int32) * (1 : Int32)) + iv105)), .val (.ref r), .val (.int (2 : Int32)), .val (.int (0 : Int32)), .val (.ref x)]) rfl k) ?_
  show Go p e below _ (T105.setTop (mkF m 48 #[.val (.ref r), .val (.int (((31 : Int32) * (1 : Int32)) + iv105)), .val (.ref r), .val (.int (2 : Int32)), .val (.int (0 : Int32)), .val (.ref x)] []))
  refine P105.xs (fun hA hx hy t k => XS.iinc hA hx rfl (hb hy d9_48) rfl (l' := #[.val (.ref r), .val (.int (((31 : Int32) * (1 : Int32)) + iv105)), .val (.ref r), .val (.int (2 : Int32)), .val (.int (1 : Int32)), .val (.ref x)]) rfl k) ?_
  show Go p e below _ (T105.setTop (mkF m 51 #[.val (.ref r), .val (.int (((31 : Int32) * (1 : Int32)) + iv105)), .val (.ref r), .val (.int (2 : Int32)), .val (.int (1 : Int32)), .val (.ref x)] []))
  refine P105.xs (fun hA hx hy t k => XS.goto hA hx rfl (pc0 := 51) (pc' := 16) rfl (hb hy d9_51) (by decide) (by decide) k) ?_
  show Go p e below _ (T105.setTop (mkF m 16 #[.val (.ref r), .val (.int (((31 : Int32) * (1 : Int32)) + iv105)), .val (.ref r), .val (.int (2 : Int32)), .val (.int (1 : Int32)), .val (.ref x)] []))
  refine P105.xs (fun hA hx hy t k => XS.iload hA hx rfl (hb hy d9_16) rfl  k) ?_
  show Go p e below _ (T105.setTop (mkF m 18 #[.val (.ref r), .val (.int (((31 : Int32) * (1 : Int32)) + iv105)), .val (.ref r), .val (.int (2 : Int32)), .val (.int (1 : Int32)), .val (.ref x)] [(.int (1 : Int32))]))
  refine P105.xs (fun hA hx hy t k => XS.iloadN hA hx rfl (hb hy d9_18) rfl  k) ?_
  show Go p e below _ (T105.setTop (mkF m 19 #[.val (.ref r), .val (.int (((31 : Int32) * (1 : Int32)) + iv105)), .val (.ref r), .val (.int (2 : Int32)), .val (.int (1 : Int32)), .val (.ref x)] [(.int (2 : Int32)), (.int (1 : Int32))]))
  refine P105.xs (fun hA hx hy t k => XS.icmpNo hA hx rfl (hb hy d9_19) rfl (tlt (by decide)).2.1 k) ?_
  show Go p e below _ (T105.setTop (mkF m 22 #[.val (.ref r), .val (.int (((31 : Int32) * (1 : Int32)) + iv105)), .val (.ref r), .val (.int (2 : Int32)), .val (.int (1 : Int32)), .val (.ref x)] []))
  refine P105.xs (fun hA hx hy t k => XS.aloadN hA hx rfl (hb hy d9_22) rfl rfl  k) ?_
  show Go p e below _ (T105.setTop (mkF m 23 #[.val (.ref r), .val (.int (((31 : Int32) * (1 : Int32)) + iv105)), .val (.ref r), .val (.int (2 : Int32)), .val (.int (1 : Int32)), .val (.ref x)] [(.ref r)]))
  refine P105.xs (fun hA hx hy t k => XS.iload hA hx rfl (hb hy d9_23) rfl  k) ?_
  show Go p e below _ (T105.setTop (mkF m 25 #[.val (.ref r), .val (.int (((31 : Int32) * (1 : Int32)) + iv105)), .val (.ref r), .val (.int (2 : Int32)), .val (.int (1 : Int32)), .val (.ref x)] [(.int (1 : Int32)), (.ref r)]))
  refine P105.aald (A.keep K105 (ninS (Ne.symm (Exa.neArv Ss.1 A (hw _ (List.mem_of_getElem? (i := 2) rfl)))) nin0)) rfl (by decide) (by decide) (v := (.ref io)) rfl d9_25 ?_
  show Go p e below _ (T105.setTop (mkF m 26 #[.val (.ref r), .val (.int (((31 : Int32) * (1 : Int32)) + iv105)), .val (.ref r), .val (.int (2 : Int32)), .val (.int (1 : Int32)), .val (.ref x)] [(.ref io)]))
  refine P105.xs (fun hA hx hy t k => XS.astore hA hx rfl (hb hy d9_26) rfl rfl (l' := #[.val (.ref r), .val (.int (((31 : Int32) * (1 : Int32)) + iv105)), .val (.ref r), .val (.int (2 : Int32)), .val (.int (1 : Int32)), .val (.ref io)]) rfl k) ?_
  show Go p e below _ (T105.setTop (mkF m 28 #[.val (.ref r), .val (.int (((31 : Int32) * (1 : Int32)) + iv105)), .val (.ref r), .val (.int (2 : Int32)), .val (.int (1 : Int32)), .val (.ref io)] []))
  refine P105.xs (fun hA hx hy t k => XS.bipush hA hx rfl (hb hy d9_28) k) ?_
  show Go p e below _ (T105.setTop (mkF m 30 #[.val (.ref r), .val (.int (((31 : Int32) * (1 : Int32)) + iv105)), .val (.ref r), .val (.int (2 : Int32)), .val (.int (1 : Int32)), .val (.ref io)] [(.int (31 : Int32))]))
  refine P105.xs (fun hA hx hy t k => XS.iloadN hA hx rfl (hb hy d9_30) rfl  k) ?_
  show Go p e below _ (T105.setTop (mkF m 31 #[.val (.ref r), .val (.int (((31 : Int32) * (1 : Int32)) + iv105)), .val (.ref r), .val (.int (2 : Int32)), .val (.int (1 : Int32)), .val (.ref io)] [(.int (((31 : Int32) * (1 : Int32)) + iv105)), (.int (31 : Int32))]))
  refine P105.xs (fun hA hx hy t k => XS.imul hA hx rfl (hb hy d9_31) rfl k) ?_
  show Go p e below _ (T105.setTop (mkF m 32 #[.val (.ref r), .val (.int (((31 : Int32) * (1 : Int32)) + iv105)), .val (.ref r), .val (.int (2 : Int32)), .val (.int (1 : Int32)), .val (.ref io)] [(.int ((31 : Int32) * (((31 : Int32) * (1 : Int32)) + iv105)))]))
  refine P105.xs (fun hA hx hy t k => XS.aload hA hx rfl (hb hy d9_32) rfl rfl  k) ?_
  show Go p e below _ (T105.setTop (mkF m 34 #[.val (.ref r), .val (.int (((31 : Int32) * (1 : Int32)) + iv105)), .val (.ref r), .val (.int (2 : Int32)), .val (.int (1 : Int32)), .val (.ref io)] [(.ref io), (.int ((31 : Int32) * (((31 : Int32) * (1 : Int32)) + iv105)))]))
  refine P105.xs (fun hA hx hy t k => XS.ifnonnullYes hA hx rfl (pc0 := 34) (pc' := 41) rfl (hb hy d9_34) rfl (by decide) (by decide) k) ?_
  show Go p e below _ (T105.setTop (mkF m 41 #[.val (.ref r), .val (.int (((31 : Int32) * (1 : Int32)) + iv105)), .val (.ref r), .val (.int (2 : Int32)), .val (.int (1 : Int32)), .val (.ref io)] [(.int ((31 : Int32) * (((31 : Int32) * (1 : Int32)) + iv105)))]))
  refine P105.xs (fun hA hx hy t k => XS.aload hA hx rfl (hb hy d9_41) rfl rfl  k) ?_
  show Go p e below _ (T105.setTop (mkF m 43 #[.val (.ref r), .val (.int (((31 : Int32) * (1 : Int32)) + iv105)), .val (.ref r), .val (.int (2 : Int32)), .val (.int (1 : Int32)), .val (.ref io)] [(.ref io), (.int ((31 : Int32) * (((31 : Int32) * (1 : Int32)) + iv105)))]))
  have Ec108 : Exa Z h105 x "java/lang/String" := Ss105.1
  have Ec109 : Exa Z h105 io "java/lang/Integer" := (Ei.keep K105)
  have Fc110 : Fld Z h105 io "java/lang/Integer" "value" "I" (.int iv) := (Fi.keep K105 (ninS (Exa.ne Ei Ss.1 (by decide)) nin0))
  have Ac111 : Arv Z h105 r kc (.object "java/lang/Object") (2 : Int32) [(.ref x), (.ref io)] .null := (A.keep K105 (ninS (Ne.symm (Exa.neArv Ss.1 A (hw _ (List.mem_of_getElem? (i := 2) rfl)))) nin0))
  refine P105.callV (hw _ (List.mem_of_getElem? (i := 62) rfl)) (hw _ (List.mem_of_getElem? (i := 63) rfl)) (hw _ (List.mem_of_getElem? (i := 82) rfl)) (nfTop (hw _ (List.mem_of_getElem? (i := 141) rfl))) (hw _ (List.mem_of_getElem? (i := 83) rfl)) (hw _ (List.mem_of_getElem? (i := 49) rfl)) (hw _ (List.mem_of_getElem? (i := 84) rfl)) (by decide) Ec109 (mIH l Z a0 hw [] hEL zc S0 Pz wc cc SH SC BX io iv h105 P105.old Fc110) (W := 1) (by decide) (by decide) (by decide) (by decide) all0 pd_8 (argsL := []) rfl rfl rfl (Nat.le_of_eq rfl) d9_43 fun v107 T107 h107 P107 K107 Q107 => ?_
  obtain ⟨hv107, hh107⟩ := Q107
  subst hv107
  rw [hh107] at P107
  show Go p e below _ (T107.setTop (mkF m 46 #[.val (.ref r), .val (.int (((31 : Int32) * (1 : Int32)) + iv105)), .val (.ref r), .val (.int (2 : Int32)), .val (.int (1 : Int32)), .val (.ref io)] [(.int iv), (.int ((31 : Int32) * (((31 : Int32) * (1 : Int32)) + iv105)))]))
  refine P107.xs (fun hA hx hy t k => XS.iadd hA hx rfl (hb hy d9_46) rfl k) ?_
  show Go p e below _ (T107.setTop (mkF m 47 #[.val (.ref r), .val (.int (((31 : Int32) * (1 : Int32)) + iv105)), .val (.ref r), .val (.int (2 : Int32)), .val (.int (1 : Int32)), .val (.ref io)] [(.int (((31 : Int32) * (((31 : Int32) * (1 : Int32)) + iv105)) + iv))]))
  refine P107.xs (fun hA hx hy t k => XS.istoreN hA hx rfl (hb hy d9_47) rfl (l' := #[.val (.ref r), .val (.int (((31 : Int32) * (((31 : Int32) * (1 : Int32)) + iv105)) + iv)), .val (.ref r), .val (.int (2 : Int32)), .val (.int (1 : Int32)), .val (.ref io)]) rfl k) ?_
  show Go p e below _ (T107.setTop (mkF m 48 #[.val (.ref r), .val (.int (((31 : Int32) * (((31 : Int32) * (1 : Int32)) + iv105)) + iv)), .val (.ref r), .val (.int (2 : Int32)), .val (.int (1 : Int32)), .val (.ref io)] []))
  refine P107.xs (fun hA hx hy t k => XS.iinc hA hx rfl (hb hy d9_48) rfl (l' := #[.val (.ref r), .val (.int (((31 : Int32) * (((31 : Int32) * (1 : Int32)) + iv105)) + iv)), .val (.ref r), .val (.int (2 : Int32)), .val (.int (2 : Int32)), .val (.ref io)]) rfl k) ?_
  show Go p e below _ (T107.setTop (mkF m 51 #[.val (.ref r), .val (.int (((31 : Int32) * (((31 : Int32) * (1 : Int32)) + iv105)) + iv)), .val (.ref r), .val (.int (2 : Int32)), .val (.int (2 : Int32)), .val (.ref io)] []))
  refine P107.xs (fun hA hx hy t k => XS.goto hA hx rfl (pc0 := 51) (pc' := 16) rfl (hb hy d9_51) (by decide) (by decide) k) ?_
  show Go p e below _ (T107.setTop (mkF m 16 #[.val (.ref r), .val (.int (((31 : Int32) * (((31 : Int32) * (1 : Int32)) + iv105)) + iv)), .val (.ref r), .val (.int (2 : Int32)), .val (.int (2 : Int32)), .val (.ref io)] []))
  refine P107.xs (fun hA hx hy t k => XS.iload hA hx rfl (hb hy d9_16) rfl  k) ?_
  show Go p e below _ (T107.setTop (mkF m 18 #[.val (.ref r), .val (.int (((31 : Int32) * (((31 : Int32) * (1 : Int32)) + iv105)) + iv)), .val (.ref r), .val (.int (2 : Int32)), .val (.int (2 : Int32)), .val (.ref io)] [(.int (2 : Int32))]))
  refine P107.xs (fun hA hx hy t k => XS.iloadN hA hx rfl (hb hy d9_18) rfl  k) ?_
  show Go p e below _ (T107.setTop (mkF m 19 #[.val (.ref r), .val (.int (((31 : Int32) * (((31 : Int32) * (1 : Int32)) + iv105)) + iv)), .val (.ref r), .val (.int (2 : Int32)), .val (.int (2 : Int32)), .val (.ref io)] [(.int (2 : Int32)), (.int (2 : Int32))]))
  refine P107.xs (fun hA hx hy t k => XS.icmpYes hA hx rfl (pc0 := 19) (pc' := 54) rfl (hb hy d9_19) rfl (flt (by decide)).2.1 (by decide) (by decide) k) ?_
  show Go p e below _ (T107.setTop (mkF m 54 #[.val (.ref r), .val (.int (((31 : Int32) * (((31 : Int32) * (1 : Int32)) + iv105)) + iv)), .val (.ref r), .val (.int (2 : Int32)), .val (.int (2 : Int32)), .val (.ref io)] []))
  refine P107.xs (fun hA hx hy t k => XS.iloadN hA hx rfl (hb hy d9_54) rfl  k) ?_
  show Go p e below _ (T107.setTop (mkF m 55 #[.val (.ref r), .val (.int (((31 : Int32) * (((31 : Int32) * (1 : Int32)) + iv105)) + iv)), .val (.ref r), .val (.int (2 : Int32)), .val (.int (2 : Int32)), .val (.ref io)] [(.int (((31 : Int32) * (((31 : Int32) * (1 : Int32)) + iv105)) + iv))]))
  exact P107.retI rfl d9_55 (by decide) (by decide) ⟨_, rfl, Ss105⟩

def R_mOH : Room := { frames := 5, cells := 0, slots := 0, locals := 76 }
def Q_mOH (Z : State) (x : Addr) (cs : List Int32) (h0 : Heap) (v : Option Value) (h : Heap) : Prop := ∃ iv : Int32, v = some (.int iv) ∧ Str Z h x cs
set_option maxRecDepth 65536 in
set_option maxHeartbeats 40000000 in
theorem mOH (l : Launch) (Z : State) (a0 : Array Value) (hw : ∀ d ∈ tables_1, d.before a0 Z = true) (EL : List (String × Nat)) (hEL : EW Z a0 []) (zc : Int32) (S0 : Sta Z Z.heap "java/lang/String" "COMPACT_STRINGS" "Z" (.int zc)) (Pz : ¬ zc = 0) (wc : Addr) (cc : Cell) (SH : Sta Z Z.heap "java/lang/Integer$IntegerCache" "high" "I" (.int (127 : Int32))) (SC : Sta Z Z.heap "java/lang/Integer$IntegerCache" "cache" "[Ljava/lang/Integer;" (.ref wc)) (BX : Bxs Z wc cc "java/lang/Integer" "I" (256 : Int32) (fun j => .int (j - 128))) (r x io : Addr) (kc : ClassId) (iv : Int32) (cs : List Int32) (h0 : Heap) (hO : Ext Z.heap h0) (A : Arv Z h0 r kc (.object "java/lang/Object") (2 : Int32) [(.ref x), (.ref io)] .null) (Ss : Sh Z h0 x cs) (Ei : Exa Z h0 io "java/lang/Integer") (Fi : Fld Z h0 io "java/lang/Integer" "value" "I" (.int iv)) (gx : Z.heap.size ≤ x) :
    Con l Z [] [] (⟨"java/util/Objects", "hash", "([Ljava/lang/Object;)I"⟩ : MethodName) jdk_31_method_5_code 1 (some .int) R_mOH #[(.ref r)] h0 [x] (Q_mOH Z x cs h0) := by
  refine Con.of (y := (⟨"java/util/Objects", "hash", "([Ljava/lang/Object;)I"⟩ : MethodName)) (f0 := fun m => mkF m 0 #[.val (.ref r)] []) (plainFor_of_name pn_1) hEL hO (fun m => by skip <;> first | (simp [entryFrame, mkF, argsToLocals, Value.category, maxLocals]; done) | rfl) ?_
  intro p e s m below meth c s₁ P0
  show Go p e below _ (s₁.setTop (mkF m 0 #[.val (.ref r)] []))
  refine P0.xs (fun hA hx hy t k => XS.aloadN hA hx rfl (hb hy d8_0) rfl rfl  k) ?_
  show Go p e below _ (s₁.setTop (mkF m 1 #[.val (.ref r)] [(.ref r)]))
  have Ec113 : Exa Z h0 x "java/lang/String" := Ss.1
  refine P0.callS (hw _ (List.mem_of_getElem? (i := 58) rfl)) (hw _ (List.mem_of_getElem? (i := 59) rfl)) (hw _ (List.mem_of_getElem? (i := 60) rfl)) (hw _ (List.mem_of_getElem? (i := 61) rfl)) (by decide) (mAH l Z a0 hw [] hEL zc S0 Pz wc cc SH SC BX r x io kc iv cs h0 P0.old A Ss Ei Fi gx) (W := 0) (by decide) (by decide) (by decide) (by decide) (allS (Or.inl (List.mem_of_getElem? (i := 0) rfl)) all0) pd_9 (argsL := [(.ref r)]) rfl rfl rfl (Nat.le_of_eq rfl) d8_1 fun v112 T112 h112 P112 K112 Q112 => ?_
  obtain ⟨iv112, rfl, Ss112⟩ := Q112
  show Go p e below _ (T112.setTop (mkF m 4 #[.val (.ref r)] [(.int iv112)]))
  exact P112.retI rfl d8_4 (by decide) (by decide) ⟨_, rfl, Ss112⟩

def R_mPred : Room := { frames := 6, cells := 4, slots := 23, locals := 89 }
def Q_mPred (Z : State) (o x : Addr) (ar : Int32) (cs : List Int32) (h0 : Heap) (v : Option Value) (h : Heap) : Prop := v = none ∧ Exa Z h o "com/example/qrew/qrew/logic/Predicate" ∧ Fld Z h o "com/example/qrew/qrew/logic/Predicate" "name" "Ljava/lang/String;" (.ref x) ∧ Fld Z h o "com/example/qrew/qrew/logic/Predicate" "arity" "I" (.int ar) ∧ Str Z h x cs
set_option maxRecDepth 65536 in
set_option maxHeartbeats 40000000 in
theorem mPred (l : Launch) (Z : State) (a0 : Array Value) (hw : ∀ d ∈ tables_1, d.before a0 Z = true) (EL : List (String × Nat)) (hEL : EW Z a0 []) (zc : Int32) (S0 : Sta Z Z.heap "java/lang/String" "COMPACT_STRINGS" "Z" (.int zc)) (Pz : ¬ zc = 0) (wc : Addr) (cc : Cell) (SH : Sta Z Z.heap "java/lang/Integer$IntegerCache" "high" "I" (.int (127 : Int32))) (SC : Sta Z Z.heap "java/lang/Integer$IntegerCache" "cache" "[Ljava/lang/Integer;" (.ref wc)) (BX : Bxs Z wc cc "java/lang/Integer" "I" (256 : Int32) (fun j => .int (j - 128))) (o x : Addr) (ar : Int32) (cs : List Int32) (h0 : Heap) (hO : Ext Z.heap h0) (E : Exa Z h0 o "com/example/qrew/qrew/logic/Predicate") (F_name : Fld Z h0 o "com/example/qrew/qrew/logic/Predicate" "name" "Ljava/lang/String;" .null) (F_arity : Fld Z h0 o "com/example/qrew/qrew/logic/Predicate" "arity" "I" (.int (0 : Int32))) (F_hash : Fld Z h0 o "com/example/qrew/qrew/logic/Predicate" "hash" "I" (.int (0 : Int32))) (go : Z.heap.size ≤ o) (gx : Z.heap.size ≤ x) (har : ¬ ar < 0) (Ss : Sh Z h0 x cs) :
    Con l Z [] [] (⟨"com/example/qrew/qrew/logic/Predicate", "<init>", "(Ljava/lang/String;I)V"⟩ : MethodName) prog_22_method_1_code 3 none R_mPred #[(.ref o), (.ref x), (.int ar)] h0 [o, x] (Q_mPred Z o x ar cs h0) := by
  refine Con.of (y := (⟨"com/example/qrew/qrew/logic/Predicate", "<init>", "(Ljava/lang/String;I)V"⟩ : MethodName)) (f0 := fun m => mkF m 0 #[.val (.ref o), .val (.ref x), .val (.int ar)] []) (plainFor_of_name pn_8) hEL hO (fun m => by skip <;> first | (simp [entryFrame, mkF, argsToLocals, Value.category, maxLocals]; done) | rfl) ?_
  intro p e s m below meth c s₁ P0
  show Go p e below _ (s₁.setTop (mkF m 0 #[.val (.ref o), .val (.ref x), .val (.int ar)] []))
  refine P0.xs (fun hA hx hy t k => XS.aloadN hA hx rfl (hb hy d5_0) rfl rfl  k) ?_
  show Go p e below _ (s₁.setTop (mkF m 1 #[.val (.ref o), .val (.ref x), .val (.int ar)] [(.ref o)]))
  refine P0.init0 (W := 0) (hw _ (List.mem_of_getElem? (i := 33) rfl)) (hw _ (List.mem_of_getElem? (i := 17) rfl)) (hw _ (List.mem_of_getElem? (i := 18) rfl)) d5_1 rfl (by decide) (Nat.le_of_eq rfl) (by decide) fun T114 P114 => ?_
  show Go p e below _ (T114.setTop (mkF m 4 #[.val (.ref o), .val (.ref x), .val (.int ar)] []))
  refine P114.xs (fun hA hx hy t k => XS.iloadN hA hx rfl (hb hy d5_4) rfl  k) ?_
  show Go p e below _ (T114.setTop (mkF m 5 #[.val (.ref o), .val (.ref x), .val (.int ar)] [(.int ar)]))
  refine P114.xs (fun hA hx hy t k => XS.ifYes hA hx rfl (pc0 := 5) (pc' := 23) rfl (hb hy d5_5) rfl ((if0 _ _).trans (flt har).2.1) (by decide) (by decide) k) ?_
  show Go p e below _ (T114.setTop (mkF m 23 #[.val (.ref o), .val (.ref x), .val (.int ar)] []))
  refine P114.xs (fun hA hx hy t k => XS.aloadN hA hx rfl (hb hy d5_23) rfl rfl  k) ?_
  show Go p e below _ (T114.setTop (mkF m 24 #[.val (.ref o), .val (.ref x), .val (.int ar)] [(.ref o)]))
  refine P114.xs (fun hA hx hy t k => XS.aloadN hA hx rfl (hb hy d5_24) rfl rfl  k) ?_
  show Go p e below _ (T114.setTop (mkF m 25 #[.val (.ref o), .val (.ref x), .val (.int ar)] [(.ref x), (.ref o)]))
  refine P114.ldcO (hw _ (List.mem_of_getElem? (i := 34) rfl)) (wSt hw) d5_25 (n := 16) (by decide) (by decide) (by decide) (by decide) fun T115 h115 o115 P115 E115 => ?_
  show Go p e below _ (T115.setTop (mkF m 27 #[.val (.ref o), .val (.ref x), .val (.int ar)] [(.ref o115), (.ref x), (.ref o)]))
  have Ec117 : Exa Z h115 o "com/example/qrew/qrew/logic/Predicate" := (E.ext E115)
  have Ec118 : Exa Z h115 x "java/lang/String" := (Ss.1.ext E115)
  have Fc119 : Fld Z h115 o "com/example/qrew/qrew/logic/Predicate" "name" "Ljava/lang/String;" .null := (F_name.ext E115)
  have Fc120 : Fld Z h115 o "com/example/qrew/qrew/logic/Predicate" "arity" "I" (.int (0 : Int32)) := (F_arity.ext E115)
  have Fc121 : Fld Z h115 o "com/example/qrew/qrew/logic/Predicate" "hash" "I" (.int (0 : Int32)) := (F_hash.ext E115)
  have Sc122 : Sh Z h115 x cs := (Ss.ext E115)
  refine P115.callS (hw _ (List.mem_of_getElem? (i := 35) rfl)) (hw _ (List.mem_of_getElem? (i := 36) rfl)) (hw _ (List.mem_of_getElem? (i := 37) rfl)) (hw _ (List.mem_of_getElem? (i := 38) rfl)) (by decide) (reqNN l Z a0 hw [] hEL zc S0 Pz wc cc SH SC BX x o115 h115 P115.old) (W := 1) (by decide) (by decide) (by decide) (by decide) all0 pd_10 (argsL := [(.ref x), (.ref o115)]) rfl rfl rfl (Nat.le_of_eq rfl) d5_27 fun v116 T116 h116 P116 K116 Q116 => ?_
  obtain ⟨hv116, hh116⟩ := Q116
  subst hv116
  rw [hh116] at P116
  show Go p e below _ (T116.setTop (mkF m 30 #[.val (.ref o), .val (.ref x), .val (.int ar)] [(.ref x), (.ref o)]))
  refine P116.cast (hw _ (List.mem_of_getElem? (i := 39) rfl)) (Ins.self Ec118) d5_30 fun T123 P123 => ?_
  show Go p e below _ (T123.setTop (mkF m 33 #[.val (.ref o), .val (.ref x), .val (.int ar)] [(.ref x), (.ref o)]))
  refine P123.putF (hw _ (List.mem_of_getElem? (i := 40) rfl)) Via.refl Fc119 Ec117 (Or.inr ⟨(hw _ (List.mem_of_getElem? (i := 41) rfl)), rfl, rfl⟩) (hw _ (List.mem_of_getElem? (i := 28) rfl)) (ty := (.object "java/lang/String")) (v' := (.ref x)) (by decide) rfl rfl d5_33 (fun _ _ _ _ => safeNil) go (Or.inl (List.mem_of_getElem? (i := 0) rfl)) fun T124 h124 P124 W124 => ?_
  show Go p e below _ (T124.setTop (mkF m 36 #[.val (.ref o), .val (.ref x), .val (.int ar)] []))
  refine P124.xs (fun hA hx hy t k => XS.aloadN hA hx rfl (hb hy d5_36) rfl rfl  k) ?_
  show Go p e below _ (T124.setTop (mkF m 37 #[.val (.ref o), .val (.ref x), .val (.int ar)] [(.ref o)]))
  refine P124.xs (fun hA hx hy t k => XS.iloadN hA hx rfl (hb hy d5_37) rfl  k) ?_
  show Go p e below _ (T124.setTop (mkF m 38 #[.val (.ref o), .val (.ref x), .val (.int ar)] [(.int ar), (.ref o)]))
  have Ec126 : Exa Z h124 o "com/example/qrew/qrew/logic/Predicate" := (Ec117.wr W124)
  have Ec127 : Exa Z h124 x "java/lang/String" := (Ec118.wr W124)
  have Fc128 : Fld Z h124 o "com/example/qrew/qrew/logic/Predicate" "name" "Ljava/lang/String;" (.ref x) := (Fc119.same W124)
  have Fc129 : Fld Z h124 o "com/example/qrew/qrew/logic/Predicate" "arity" "I" (.int (0 : Int32)) := (Fc120.other W124 (Or.inr (slot_ne (Or.inr (hw _ (List.mem_of_getElem? (i := 43) rfl))) (Or.inr (hw _ (List.mem_of_getElem? (i := 41) rfl))) (by decide) (t := .int) (t' := (.object "java/lang/String")) (by decide) (by decide))))
  have Fc130 : Fld Z h124 o "com/example/qrew/qrew/logic/Predicate" "hash" "I" (.int (0 : Int32)) := (Fc121.other W124 (Or.inr (slot_ne (Or.inr (hw _ (List.mem_of_getElem? (i := 91) rfl))) (Or.inr (hw _ (List.mem_of_getElem? (i := 41) rfl))) (by decide) (t := .int) (t' := (.object "java/lang/String")) (by decide) (by decide))))
  have Sc131 : Sh Z h124 x cs := (Sc122.wr W124 (Exa.ne Ss.1 E (by decide)) (nbE Ec117 (hw _ (List.mem_of_getElem? (i := 28) rfl))))
  refine P124.putF (hw _ (List.mem_of_getElem? (i := 42) rfl)) Via.refl Fc129 Ec126 (Or.inr ⟨(hw _ (List.mem_of_getElem? (i := 43) rfl)), rfl, rfl⟩) (hw _ (List.mem_of_getElem? (i := 28) rfl)) (ty := .int) (v' := (.int ar)) (by decide) rfl rfl d5_38 (fun _ _ _ _ => safeNil) go (Or.inl (List.mem_of_getElem? (i := 0) rfl)) fun T125 h125 P125 W125 => ?_
  show Go p e below _ (T125.setTop (mkF m 41 #[.val (.ref o), .val (.ref x), .val (.int ar)] []))
  refine P125.xs (fun hA hx hy t k => XS.aloadN hA hx rfl (hb hy d5_41) rfl rfl  k) ?_
  show Go p e below _ (T125.setTop (mkF m 42 #[.val (.ref o), .val (.ref x), .val (.int ar)] [(.ref o)]))
  refine P125.xs (fun hA hx hy t k => XS.iconst hA hx rfl (hb hy d5_42) k) ?_
  show Go p e below _ (T125.setTop (mkF m 43 #[.val (.ref o), .val (.ref x), .val (.int ar)] [(.int (2 : Int32)), (.ref o)]))
  refine P125.newR (hw _ (List.mem_of_getElem? (i := 44) rfl)) (hw _ (List.mem_of_getElem? (i := 45) rfl)) d5_43 (by decide) (cap := 2) (by decide) (by decide) (by decide) (by decide) fun T132 h132 o132 k132 g132 P132 E132 A132 O132 => ?_
  have ne_o_o132 : o ≠ o132 := Nat.ne_of_lt (Nat.lt_of_lt_of_le (Ec126.wr W125).lt (Nat.le_of_eq g132.symm))
  have ne_x_o132 : x ≠ o132 := Nat.ne_of_lt (Nat.lt_of_lt_of_le (Ec127.wr W125).lt (Nat.le_of_eq g132.symm))
  have gz_o132 : Z.heap.size ≤ o132 := Nat.le_trans P125.old.1 (Nat.le_of_eq g132.symm)
  have gw_o132 : h0.size ≤ o132 := Nat.le_trans P125.kept.1 (Nat.le_of_eq g132.symm)
  have V132 : Arv Z h132 o132 k132 (.object "java/lang/Object") (2 : Int32) [.null, .null] .null := Arv.pad A132 (pad_rep [] .null 2)
  show Go p e below _ (T132.setTop (mkF m 46 #[.val (.ref o), .val (.ref x), .val (.int ar)] [(.ref o132), (.ref o)]))
  refine P132.xs (fun hA hx hy t k => XS.dup hA hx rfl (hb hy d5_46) rfl rfl k) ?_
  show Go p e below _ (T132.setTop (mkF m 47 #[.val (.ref o), .val (.ref x), .val (.int ar)] [(.ref o132), (.ref o132), (.ref o)]))
  refine P132.xs (fun hA hx hy t k => XS.iconst hA hx rfl (hb hy d5_47) k) ?_
  show Go p e below _ (T132.setTop (mkF m 48 #[.val (.ref o), .val (.ref x), .val (.int ar)] [(.int (0 : Int32)), (.ref o132), (.ref o132), (.ref o)]))
  refine P132.xs (fun hA hx hy t k => XS.aloadN hA hx rfl (hb hy d5_48) rfl rfl  k) ?_
  show Go p e below _ (T132.setTop (mkF m 49 #[.val (.ref o), .val (.ref x), .val (.int ar)] [(.ref x), (.int (0 : Int32)), (.ref o132), (.ref o132), (.ref o)]))
  have Ec134 : Exa Z h132 o "com/example/qrew/qrew/logic/Predicate" := ((Ec126.wr W125).ext E132)
  have Ec135 : Exa Z h132 x "java/lang/String" := ((Ec127.wr W125).ext E132)
  have Fc136 : Fld Z h132 o "com/example/qrew/qrew/logic/Predicate" "name" "Ljava/lang/String;" (.ref x) := ((Fc128.other W125 (Or.inr (slot_ne (Or.inr (hw _ (List.mem_of_getElem? (i := 41) rfl))) (Or.inr (hw _ (List.mem_of_getElem? (i := 43) rfl))) (by decide) (t := (.object "java/lang/String")) (t' := .int) (by decide) (by decide)))).ext E132)
  have Fc137 : Fld Z h132 o "com/example/qrew/qrew/logic/Predicate" "arity" "I" (.int ar) := ((Fc129.same W125).ext E132)
  have Fc138 : Fld Z h132 o "com/example/qrew/qrew/logic/Predicate" "hash" "I" (.int (0 : Int32)) := ((Fc130.other W125 (Or.inr (slot_ne (Or.inr (hw _ (List.mem_of_getElem? (i := 91) rfl))) (Or.inr (hw _ (List.mem_of_getElem? (i := 43) rfl))) (by decide) (t := .int) (t' := .int) (by decide) (by decide)))).ext E132)
  have Sc139 : Sh Z h132 x cs := ((Sc131.wr W125 (Exa.ne Ss.1 E (by decide)) (nbE Ec126 (hw _ (List.mem_of_getElem? (i := 28) rfl)))).ext E132)
  refine P132.stR V132 O132 (Ins.of_exa Ec135 (hw _ (List.mem_of_getElem? (i := 46) rfl))) 0 (by decide) (by decide) (by decide) (Nat.le_of_ble_eq_true rfl) d5_49 gz_o132 (Or.inr gw_o132) fun T133 h133 P133 W133 V133 => ?_
  have Va133 : Arv Z h133 o132 k132 (.object "java/lang/Object") (2 : Int32) [(.ref x), .null] .null := V133
  show Go p e below _ (T133.setTop (mkF m 50 #[.val (.ref o), .val (.ref x), .val (.int ar)] [(.ref o132), (.ref o)]))
  refine P133.xs (fun hA hx hy t k => XS.dup hA hx rfl (hb hy d5_50) rfl rfl k) ?_
  show Go p e below _ (T133.setTop (mkF m 51 #[.val (.ref o), .val (.ref x), .val (.int ar)] [(.ref o132), (.ref o132), (.ref o)]))
  refine P133.xs (fun hA hx hy t k => XS.iconst hA hx rfl (hb hy d5_51) k) ?_
  show Go p e below _ (T133.setTop (mkF m 52 #[.val (.ref o), .val (.ref x), .val (.int ar)] [(.int (1 : Int32)), (.ref o132), (.ref o132), (.ref o)]))
  refine P133.xs (fun hA hx hy t k => XS.iloadN hA hx rfl (hb hy d5_52) rfl  k) ?_
  show Go p e below _ (T133.setTop (mkF m 53 #[.val (.ref o), .val (.ref x), .val (.int ar)] [(.int ar), (.int (1 : Int32)), (.ref o132), (.ref o132), (.ref o)]))
  have Ec141 : Exa Z h133 o "com/example/qrew/qrew/logic/Predicate" := (Ec134.wr W133)
  have Ec142 : Exa Z h133 x "java/lang/String" := (Ec135.wr W133)
  have Fc143 : Fld Z h133 o "com/example/qrew/qrew/logic/Predicate" "name" "Ljava/lang/String;" (.ref x) := (Fc136.other W133 (Or.inl ne_o_o132))
  have Fc144 : Fld Z h133 o "com/example/qrew/qrew/logic/Predicate" "arity" "I" (.int ar) := (Fc137.other W133 (Or.inl ne_o_o132))
  have Fc145 : Fld Z h133 o "com/example/qrew/qrew/logic/Predicate" "hash" "I" (.int (0 : Int32)) := (Fc138.other W133 (Or.inl ne_o_o132))
  have Sc146 : Sh Z h133 x cs := (Sc139.wr W133 ne_x_o132 (nbA V132 nofun))
  refine P133.callS (hw _ (List.mem_of_getElem? (i := 47) rfl)) (hw _ (List.mem_of_getElem? (i := 48) rfl)) (hw _ (List.mem_of_getElem? (i := 49) rfl)) (hw _ (List.mem_of_getElem? (i := 50) rfl)) (by decide) (mVal l Z a0 hw [] hEL zc S0 Pz wc cc SH SC BX ar h133 P133.old har) (W := 4) (by decide) (by decide) (by decide) (by decide) all0 pd_11 (argsL := [(.int ar)]) rfl rfl rfl (Nat.le_of_eq rfl) d5_53 fun v140 T140 h140 P140 K140 Q140 => ?_
  obtain ⟨bx140, iv140, rfl, Eb140, Fb140⟩ := Q140
  have Ec147 : Exa Z h140 o "com/example/qrew/qrew/logic/Predicate" := (Ec141.keep K140)
  have Ec148 : Exa Z h140 x "java/lang/String" := (Ec142.keep K140)
  have Fc149 : Fld Z h140 o "com/example/qrew/qrew/logic/Predicate" "name" "Ljava/lang/String;" (.ref x) := (Fc143.keep K140 nin0)
  have Fc150 : Fld Z h140 o "com/example/qrew/qrew/logic/Predicate" "arity" "I" (.int ar) := (Fc144.keep K140 nin0)
  have Fc151 : Fld Z h140 o "com/example/qrew/qrew/logic/Predicate" "hash" "I" (.int (0 : Int32)) := (Fc145.keep K140 nin0)
  have Ac152 : Arv Z h140 o132 k132 (.object "java/lang/Object") (2 : Int32) [(.ref x), .null] .null := (Va133.keep K140 nin0)
  have Sc153 : Sh Z h140 x cs := (Sc146.keep K140 all0)
  have ne_o_bx140 : o ≠ bx140 := (Exa.ne Ec147 Eb140 (by decide))
  have ne_x_bx140 : x ≠ bx140 := (Exa.ne Ec148 Eb140 (by decide))
  have ne_o132_bx140 : o132 ≠ bx140 := (Ne.symm (Exa.neArv Eb140 Ac152 (hw _ (List.mem_of_getElem? (i := 119) rfl))))
  show Go p e below _ (T140.setTop (mkF m 56 #[.val (.ref o), .val (.ref x), .val (.int ar)] [(.ref bx140), (.int (1 : Int32)), (.ref o132), (.ref o132), (.ref o)]))
  refine P140.stR Ac152 O132 (Ins.of_exa Eb140 (hw _ (List.mem_of_getElem? (i := 54) rfl))) 1 (by decide) (by decide) (by decide) (Nat.le_of_ble_eq_true rfl) d5_56 gz_o132 (Or.inr gw_o132) fun T154 h154 P154 W154 V154 => ?_
  have Va154 : Arv Z h154 o132 k132 (.object "java/lang/Object") (2 : Int32) [(.ref x), (.ref bx140)] .null := V154
  show Go p e below _ (T154.setTop (mkF m 57 #[.val (.ref o), .val (.ref x), .val (.int ar)] [(.ref o132), (.ref o)]))
  have Ec156 : Exa Z h154 o "com/example/qrew/qrew/logic/Predicate" := (Ec147.wr W154)
  have Ec157 : Exa Z h154 x "java/lang/String" := (Ec148.wr W154)
  have Ec158 : Exa Z h154 bx140 "java/lang/Integer" := (Eb140.wr W154)
  have Fc159 : Fld Z h154 o "com/example/qrew/qrew/logic/Predicate" "name" "Ljava/lang/String;" (.ref x) := (Fc149.other W154 (Or.inl ne_o_o132))
  have Fc160 : Fld Z h154 o "com/example/qrew/qrew/logic/Predicate" "arity" "I" (.int ar) := (Fc150.other W154 (Or.inl ne_o_o132))
  have Fc161 : Fld Z h154 o "com/example/qrew/qrew/logic/Predicate" "hash" "I" (.int (0 : Int32)) := (Fc151.other W154 (Or.inl ne_o_o132))
  have Fc162 : Fld Z h154 bx140 "java/lang/Integer" "value" "I" (.int iv140) := (Fb140.other W154 (Or.inl (Ne.symm ne_o132_bx140)))
  have Sc163 : Sh Z h154 x cs := (Sc153.wr W154 ne_x_o132 (nbA Ac152 nofun))
  refine P154.callS (hw _ (List.mem_of_getElem? (i := 55) rfl)) (hw _ (List.mem_of_getElem? (i := 56) rfl)) (hw _ (List.mem_of_getElem? (i := 37) rfl)) (hw _ (List.mem_of_getElem? (i := 57) rfl)) (by decide) (mOH l Z a0 hw [] hEL zc S0 Pz wc cc SH SC BX o132 x bx140 k132 iv140 cs h154 P154.old Va154 Sc163 Ec158 Fc162 gx) (W := 1) (by decide) (by decide) (by decide) (by decide) (allS (Or.inl (List.mem_of_getElem? (i := 1) rfl)) all0) pd_9 (argsL := [(.ref o132)]) rfl rfl rfl (Nat.le_of_eq rfl) d5_57 fun v155 T155 h155 P155 K155 Q155 => ?_
  obtain ⟨iv155, rfl, Ss155⟩ := Q155
  show Go p e below _ (T155.setTop (mkF m 60 #[.val (.ref o), .val (.ref x), .val (.int ar)] [(.int iv155), (.ref o)]))
  have Ec165 : Exa Z h155 o "com/example/qrew/qrew/logic/Predicate" := (Ec156.keep K155)
  have Ec166 : Exa Z h155 x "java/lang/String" := Ss155.1
  have Ec167 : Exa Z h155 bx140 "java/lang/Integer" := (Ec158.keep K155)
  have Fc168 : Fld Z h155 o "com/example/qrew/qrew/logic/Predicate" "name" "Ljava/lang/String;" (.ref x) := (Fc159.keep K155 (ninS (Ne.symm (Exa.ne Ss.1 E (by decide))) nin0))
  have Fc169 : Fld Z h155 o "com/example/qrew/qrew/logic/Predicate" "arity" "I" (.int ar) := (Fc160.keep K155 (ninS (Ne.symm (Exa.ne Ss.1 E (by decide))) nin0))
  have Fc170 : Fld Z h155 o "com/example/qrew/qrew/logic/Predicate" "hash" "I" (.int (0 : Int32)) := (Fc161.keep K155 (ninS (Ne.symm (Exa.ne Ss.1 E (by decide))) nin0))
  have Fc171 : Fld Z h155 bx140 "java/lang/Integer" "value" "I" (.int iv140) := (Fc162.keep K155 (ninS (Ne.symm ne_x_bx140) nin0))
  have Ac172 : Arv Z h155 o132 k132 (.object "java/lang/Object") (2 : Int32) [(.ref x), (.ref bx140)] .null := (Va154.keep K155 (ninS (Ne.symm ne_x_o132) nin0))
  refine P155.putF (hw _ (List.mem_of_getElem? (i := 90) rfl)) Via.refl Fc170 Ec165 (Or.inr ⟨(hw _ (List.mem_of_getElem? (i := 91) rfl)), rfl, rfl⟩) (hw _ (List.mem_of_getElem? (i := 28) rfl)) (ty := .int) (v' := (.int iv155)) (by decide) rfl rfl d5_60 (fun _ _ _ _ => safeNil) go (Or.inl (List.mem_of_getElem? (i := 0) rfl)) fun T164 h164 P164 W164 => ?_
  show Go p e below _ (T164.setTop (mkF m 63 #[.val (.ref o), .val (.ref x), .val (.int ar)] []))
  have Ec173 : Exa Z h164 o "com/example/qrew/qrew/logic/Predicate" := (Ec165.wr W164)
  have Ec174 : Exa Z h164 x "java/lang/String" := (Ec166.wr W164)
  have Ec175 : Exa Z h164 bx140 "java/lang/Integer" := (Ec167.wr W164)
  have Fc176 : Fld Z h164 o "com/example/qrew/qrew/logic/Predicate" "name" "Ljava/lang/String;" (.ref x) := (Fc168.other W164 (Or.inr (slot_ne (Or.inr (hw _ (List.mem_of_getElem? (i := 41) rfl))) (Or.inr (hw _ (List.mem_of_getElem? (i := 91) rfl))) (by decide) (t := (.object "java/lang/String")) (t' := .int) (by decide) (by decide))))
  have Fc177 : Fld Z h164 o "com/example/qrew/qrew/logic/Predicate" "arity" "I" (.int ar) := (Fc169.other W164 (Or.inr (slot_ne (Or.inr (hw _ (List.mem_of_getElem? (i := 43) rfl))) (Or.inr (hw _ (List.mem_of_getElem? (i := 91) rfl))) (by decide) (t := .int) (t' := .int) (by decide) (by decide))))
  have Fc178 : Fld Z h164 o "com/example/qrew/qrew/logic/Predicate" "hash" "I" (.int iv155) := (Fc170.same W164)
  have Fc179 : Fld Z h164 bx140 "java/lang/Integer" "value" "I" (.int iv140) := (Fc171.other W164 (Or.inl (Ne.symm ne_o_bx140)))
  have Ac180 : Arv Z h164 o132 k132 (.object "java/lang/Object") (2 : Int32) [(.ref x), (.ref bx140)] .null := (Ac172.other W164 (Ne.symm ne_o_o132))
  have Sc181 : Str Z h164 x cs := (Ss155.wr W164 (Exa.ne Ss.1 E (by decide)) (nbE Ec165 (hw _ (List.mem_of_getElem? (i := 28) rfl))))
  exact P164.retV rfl d5_63 (by decide) (by decide) ⟨rfl, Ec173, Fc176, Fc177, Sc181⟩

def R_eqN : Room := { frames := 0, cells := 0, slots := 0, locals := 0 }
def Q_eqN (Z : State)  (h0 : Heap) (v : Option Value) (h : Heap) : Prop := v = some (.int (0 : Int32)) ∧ h = h0
set_option maxRecDepth 65536 in
set_option maxHeartbeats 40000000 in
theorem eqN (l : Launch) (Z : State) (a0 : Array Value) (hw : ∀ d ∈ tables_1, d.before a0 Z = true) (EL : List (String × Nat)) (hEL : EW Z a0 EL) (zc : Int32) (S0 : Sta Z Z.heap "java/lang/String" "COMPACT_STRINGS" "Z" (.int zc)) (Pz : ¬ zc = 0) (wc : Addr) (cc : Cell) (SH : Sta Z Z.heap "java/lang/Integer$IntegerCache" "high" "I" (.int (127 : Int32))) (SC : Sta Z Z.heap "java/lang/Integer$IntegerCache" "cache" "[Ljava/lang/Integer;" (.ref wc)) (BX : Bxs Z wc cc "java/lang/Integer" "I" (256 : Int32) (fun j => .int (j - 128))) (o : Addr) (h0 : Heap) (hO : Ext Z.heap h0)  :
    Con l Z EL [] (⟨"com/example/qrew/qrew/logic/Predicate", "equals", "(Ljava/lang/Object;)Z"⟩ : MethodName) prog_22_method_4_code 3 (some .boolean) R_eqN #[(.ref o), .null] h0 [] (Q_eqN Z  h0) := by
  refine Con.of (y := (⟨"com/example/qrew/qrew/logic/Predicate", "equals", "(Ljava/lang/Object;)Z"⟩ : MethodName)) (f0 := fun m => mkF m 0 #[.val (.ref o), .val .null, .unset] []) (plainFor_of_name pn_8) hEL hO (fun m => by skip <;> first | (simp [entryFrame, mkF, argsToLocals, Value.category, maxLocals]; done) | rfl) ?_
  intro p e s m below meth c s₁ P0
  show Go p e below _ (s₁.setTop (mkF m 0 #[.val (.ref o), .val .null, .unset] []))
  refine P0.xs (fun hA hx hy t k => XS.aloadN hA hx rfl (hb hy d15_0) rfl rfl  k) ?_
  show Go p e below _ (s₁.setTop (mkF m 1 #[.val (.ref o), .val .null, .unset] [.null]))
  refine P0.inst0 d15_1 ?_
  show Go p e below _ (s₁.setTop (mkF m 4 #[.val (.ref o), .val .null, .unset] [(.int (0 : Int32))]))
  refine P0.xs (fun hA hx hy t k => XS.ifYes hA hx rfl (pc0 := 4) (pc' := 41) rfl (hb hy d15_4) rfl ((if0 _ _).trans (teq rfl).1) (by decide) (by decide) k) ?_
  show Go p e below _ (s₁.setTop (mkF m 41 #[.val (.ref o), .val .null, .unset] []))
  refine P0.xs (fun hA hx hy t k => XS.iconst hA hx rfl (hb hy d15_41) k) ?_
  show Go p e below _ (s₁.setTop (mkF m 42 #[.val (.ref o), .val .null, .unset] [(.int (0 : Int32))]))
  exact P0.retN (t := .boolean) rfl (by simp) d15_42 (by decide) (by decide) ⟨rfl, rfl⟩

def R_eqS : Room := { frames := 0, cells := 0, slots := 0, locals := 0 }
def Q_eqS (Z : State)  (h0 : Heap) (v : Option Value) (h : Heap) : Prop := v = some (.int (0 : Int32)) ∧ h = h0
set_option maxRecDepth 65536 in
set_option maxHeartbeats 40000000 in
theorem eqS (l : Launch) (Z : State) (a0 : Array Value) (hw : ∀ d ∈ tables_1, d.before a0 Z = true) (EL : List (String × Nat)) (hEL : EW Z a0 EL) (zc : Int32) (S0 : Sta Z Z.heap "java/lang/String" "COMPACT_STRINGS" "Z" (.int zc)) (Pz : ¬ zc = 0) (wc : Addr) (cc : Cell) (SH : Sta Z Z.heap "java/lang/Integer$IntegerCache" "high" "I" (.int (127 : Int32))) (SC : Sta Z Z.heap "java/lang/Integer$IntegerCache" "cache" "[Ljava/lang/Integer;" (.ref wc)) (BX : Bxs Z wc cc "java/lang/Integer" "I" (256 : Int32) (fun j => .int (j - 128))) (o y : Addr) (h0 : Heap) (hO : Ext Z.heap h0) (Ey : Exa Z h0 y "java/lang/String") :
    Con l Z EL [] (⟨"com/example/qrew/qrew/logic/Predicate", "equals", "(Ljava/lang/Object;)Z"⟩ : MethodName) prog_22_method_4_code 3 (some .boolean) R_eqS #[(.ref o), (.ref y)] h0 [] (Q_eqS Z  h0) := by
  refine Con.of (y := (⟨"com/example/qrew/qrew/logic/Predicate", "equals", "(Ljava/lang/Object;)Z"⟩ : MethodName)) (f0 := fun m => mkF m 0 #[.val (.ref o), .val (.ref y), .unset] []) (plainFor_of_name pn_8) hEL hO (fun m => by skip <;> first | (simp [entryFrame, mkF, argsToLocals, Value.category, maxLocals]; done) | rfl) ?_
  intro p e s m below meth c s₁ P0
  show Go p e below _ (s₁.setTop (mkF m 0 #[.val (.ref o), .val (.ref y), .unset] []))
  refine P0.xs (fun hA hx hy t k => XS.aloadN hA hx rfl (hb hy d15_0) rfl rfl  k) ?_
  show Go p e below _ (s₁.setTop (mkF m 1 #[.val (.ref o), .val (.ref y), .unset] [(.ref y)]))
  refine P0.instN (hw _ (List.mem_of_getElem? (i := 97) rfl)) Ey (noAsg (hw _ (List.mem_of_getElem? (i := 140) rfl)) (hw _ (List.mem_of_getElem? (i := 141) rfl)) (hw _ (List.mem_of_getElem? (i := 28) rfl)) (by decide) (by decide)) d15_1 fun T183 P183 => ?_
  show Go p e below _ (T183.setTop (mkF m 4 #[.val (.ref o), .val (.ref y), .unset] [(.int (0 : Int32))]))
  refine P183.xs (fun hA hx hy t k => XS.ifYes hA hx rfl (pc0 := 4) (pc' := 41) rfl (hb hy d15_4) rfl ((if0 _ _).trans (teq rfl).1) (by decide) (by decide) k) ?_
  show Go p e below _ (T183.setTop (mkF m 41 #[.val (.ref o), .val (.ref y), .unset] []))
  refine P183.xs (fun hA hx hy t k => XS.iconst hA hx rfl (hb hy d15_41) k) ?_
  show Go p e below _ (T183.setTop (mkF m 42 #[.val (.ref o), .val (.ref y), .unset] [(.int (0 : Int32))]))
  exact P183.retN (t := .boolean) rfl (by simp) d15_42 (by decide) (by decide) ⟨rfl, rfl⟩

def R_eqC : Room := { frames := 2, cells := 0, slots := 0, locals := 28 }
def Q_eqC (Z : State) (r1 r2 : Int32) (cs ds : List Int32) (h0 : Heap) (v : Option Value) (h : Heap) : Prop := ((v = some (.int 1) ∧ (r1 = r2 ∧ cs = ds)) ∨ (v = some (.int 0) ∧ ¬ (r1 = r2 ∧ cs = ds))) ∧ h = h0
set_option maxRecDepth 65536 in
set_option maxHeartbeats 40000000 in
theorem eqC (l : Launch) (Z : State) (a0 : Array Value) (hw : ∀ d ∈ tables_1, d.before a0 Z = true) (EL : List (String × Nat)) (hEL : EW Z a0 EL) (zc : Int32) (S0 : Sta Z Z.heap "java/lang/String" "COMPACT_STRINGS" "Z" (.int zc)) (Pz : ¬ zc = 0) (wc : Addr) (cc : Cell) (SH : Sta Z Z.heap "java/lang/Integer$IntegerCache" "high" "I" (.int (127 : Int32))) (SC : Sta Z Z.heap "java/lang/Integer$IntegerCache" "cache" "[Ljava/lang/Integer;" (.ref wc)) (BX : Bxs Z wc cc "java/lang/Integer" "I" (256 : Int32) (fun j => .int (j - 128))) (o y sx t : Addr) (r1 r2 : Int32) (cs ds : List Int32) (h0 : Heap) (hO : Ext Z.heap h0) (Ey : Exa Z h0 y "com/example/qrew/qrew/logic/Predicate") (Fno : Fld Z h0 o "com/example/qrew/qrew/logic/Predicate" "name" "Ljava/lang/String;" (.ref sx)) (Fao : Fld Z h0 o "com/example/qrew/qrew/logic/Predicate" "arity" "I" (.int r1)) (Fny : Fld Z h0 y "com/example/qrew/qrew/logic/Predicate" "name" "Ljava/lang/String;" (.ref t)) (Fay : Fld Z h0 y "com/example/qrew/qrew/logic/Predicate" "arity" "I" (.int r2)) (Ss : Str Z h0 sx cs) (St : Str Z h0 t ds) :
    Con l Z EL [] (⟨"com/example/qrew/qrew/logic/Predicate", "equals", "(Ljava/lang/Object;)Z"⟩ : MethodName) prog_22_method_4_code 3 (some .boolean) R_eqC #[(.ref o), (.ref y)] h0 [] (Q_eqC Z r1 r2 cs ds h0) := by
  refine Con.of (y := (⟨"com/example/qrew/qrew/logic/Predicate", "equals", "(Ljava/lang/Object;)Z"⟩ : MethodName)) (f0 := fun m => mkF m 0 #[.val (.ref o), .val (.ref y), .unset] []) (plainFor_of_name pn_8) hEL hO (fun m => by skip <;> first | (simp [entryFrame, mkF, argsToLocals, Value.category, maxLocals]; done) | rfl) ?_
  intro p e s m below meth c s₁ P0
  show Go p e below _ (s₁.setTop (mkF m 0 #[.val (.ref o), .val (.ref y), .unset] []))
  refine P0.xs (fun hA hx hy t k => XS.aloadN hA hx rfl (hb hy d15_0) rfl rfl  k) ?_
  show Go p e below _ (s₁.setTop (mkF m 1 #[.val (.ref o), .val (.ref y), .unset] [(.ref y)]))
  refine P0.inst (hw _ (List.mem_of_getElem? (i := 97) rfl)) (Ins.self Ey) d15_1 fun T184 P184 => ?_
  show Go p e below _ (T184.setTop (mkF m 4 #[.val (.ref o), .val (.ref y), .unset] [(.int (1 : Int32))]))
  refine P184.xs (fun hA hx hy t k => XS.ifNo hA hx rfl (hb hy d15_4) rfl ((if0 _ _).trans (feq (by decide)).1) k) ?_
  show Go p e below _ (T184.setTop (mkF m 7 #[.val (.ref o), .val (.ref y), .unset] []))
  refine P184.xs (fun hA hx hy t k => XS.aloadN hA hx rfl (hb hy d15_7) rfl rfl  k) ?_
  show Go p e below _ (T184.setTop (mkF m 8 #[.val (.ref o), .val (.ref y), .unset] [(.ref y)]))
  refine P184.cast (hw _ (List.mem_of_getElem? (i := 97) rfl)) (Ins.self Ey) d15_8 fun T185 P185 => ?_
  show Go p e below _ (T185.setTop (mkF m 11 #[.val (.ref o), .val (.ref y), .unset] [(.ref y)]))
  refine P185.xs (fun hA hx hy t k => XS.astoreN hA hx rfl (hb hy d15_11) rfl rfl (l' := #[.val (.ref o), .val (.ref y), .val (.ref y)]) rfl k) ?_
  show Go p e below _ (T185.setTop (mkF m 12 #[.val (.ref o), .val (.ref y), .val (.ref y)] []))
  refine P185.xs (fun hA hx hy t k => XS.aloadN hA hx rfl (hb hy d15_12) rfl rfl  k) ?_
  show Go p e below _ (T185.setTop (mkF m 13 #[.val (.ref o), .val (.ref y), .val (.ref y)] [(.ref o)]))
  refine P185.getF (host := "") (Or.inl (hw _ (List.mem_of_getElem? (i := 42) rfl))) Via.refl Fao d15_13 fun T186 P186 => ?_
  show Go p e below _ (T186.setTop (mkF m 16 #[.val (.ref o), .val (.ref y), .val (.ref y)] [(.int r1)]))
  refine P186.xs (fun hA hx hy t k => XS.aloadN hA hx rfl (hb hy d15_16) rfl rfl  k) ?_
  show Go p e below _ (T186.setTop (mkF m 17 #[.val (.ref o), .val (.ref y), .val (.ref y)] [(.ref y), (.int r1)]))
  refine P186.getF (host := "") (Or.inl (hw _ (List.mem_of_getElem? (i := 42) rfl))) Via.refl Fay d15_17 fun T187 P187 => ?_
  show Go p e below _ (T187.setTop (mkF m 20 #[.val (.ref o), .val (.ref y), .val (.ref y)] [(.int r2), (.int r1)]))
  by_cases hl : r1 = r2
  · refine P187.xs (fun hA hx hy t k => XS.icmpNo hA hx rfl (hb hy d15_20) rfl (teq hl).2 k) ?_
    show Go p e below _ (T187.setTop (mkF m 23 #[.val (.ref o), .val (.ref y), .val (.ref y)] []))
    refine P187.xs (fun hA hx hy t k => XS.aloadN hA hx rfl (hb hy d15_23) rfl rfl  k) ?_
    show Go p e below _ (T187.setTop (mkF m 24 #[.val (.ref o), .val (.ref y), .val (.ref y)] [(.ref o)]))
    refine P187.getF (host := "") (Or.inl (hw _ (List.mem_of_getElem? (i := 40) rfl))) Via.refl Fno d15_24 fun T188 P188 => ?_
    show Go p e below _ (T188.setTop (mkF m 27 #[.val (.ref o), .val (.ref y), .val (.ref y)] [(.ref sx)]))
    refine P188.xs (fun hA hx hy t k => XS.aloadN hA hx rfl (hb hy d15_27) rfl rfl  k) ?_
    show Go p e below _ (T188.setTop (mkF m 28 #[.val (.ref o), .val (.ref y), .val (.ref y)] [(.ref y), (.ref sx)]))
    refine P188.getF (host := "") (Or.inl (hw _ (List.mem_of_getElem? (i := 40) rfl))) Via.refl Fny d15_28 fun T189 P189 => ?_
    show Go p e below _ (T189.setTop (mkF m 31 #[.val (.ref o), .val (.ref y), .val (.ref y)] [(.ref t), (.ref sx)]))
    have Ec190 : Exa Z h0 sx "java/lang/String" := Ss.1
    have Ec191 : Exa Z h0 t "java/lang/String" := St.1
    refine P189.strEq (W := 0) (hw _ (List.mem_of_getElem? (i := 131) rfl)) (hw _ (List.mem_of_getElem? (i := 132) rfl)) (hw _ (List.mem_of_getElem? (i := 134) rfl)) (nfOf (hw _ (List.mem_of_getElem? (i := 134) rfl))) (hw _ (List.mem_of_getElem? (i := 133) rfl)) (by decide) (wEq hw) (hw _ (List.mem_of_getElem? (i := 2) rfl)) S0 Pz Ss St (by decide) (by decide) (by decide) (by decide) pd_12 rfl rfl (Nat.le_of_eq rfl) d15_31 (fun T192 P192 hq => ?_) (fun T193 P193 hq => ?_)
    · show Go p e below _ (T192.setTop (mkF m 34 #[.val (.ref o), .val (.ref y), .val (.ref y)] [(.int (1 : Int32))]))
      refine P192.xs (fun hA hx hy t k => XS.ifNo hA hx rfl (hb hy d15_34) rfl ((if0 _ _).trans (feq (by decide)).1) k) ?_
      show Go p e below _ (T192.setTop (mkF m 37 #[.val (.ref o), .val (.ref y), .val (.ref y)] []))
      refine P192.xs (fun hA hx hy t k => XS.iconst hA hx rfl (hb hy d15_37) k) ?_
      show Go p e below _ (T192.setTop (mkF m 38 #[.val (.ref o), .val (.ref y), .val (.ref y)] [(.int (1 : Int32))]))
      refine P192.xs (fun hA hx hy t k => XS.goto hA hx rfl (pc0 := 38) (pc' := 42) rfl (hb hy d15_38) (by decide) (by decide) k) ?_
      show Go p e below _ (T192.setTop (mkF m 42 #[.val (.ref o), .val (.ref y), .val (.ref y)] [(.int (1 : Int32))]))
      exact P192.retN (t := .boolean) rfl (by simp) d15_42 (by decide) (by decide) ⟨Or.inl ⟨rfl, hl, hq⟩, rfl⟩
    · show Go p e below _ (T193.setTop (mkF m 34 #[.val (.ref o), .val (.ref y), .val (.ref y)] [(.int (0 : Int32))]))
      refine P193.xs (fun hA hx hy t k => XS.ifYes hA hx rfl (pc0 := 34) (pc' := 41) rfl (hb hy d15_34) rfl ((if0 _ _).trans (teq rfl).1) (by decide) (by decide) k) ?_
      show Go p e below _ (T193.setTop (mkF m 41 #[.val (.ref o), .val (.ref y), .val (.ref y)] []))
      refine P193.xs (fun hA hx hy t k => XS.iconst hA hx rfl (hb hy d15_41) k) ?_
      show Go p e below _ (T193.setTop (mkF m 42 #[.val (.ref o), .val (.ref y), .val (.ref y)] [(.int (0 : Int32))]))
      exact P193.retN (t := .boolean) rfl (by simp) d15_42 (by decide) (by decide) ⟨Or.inr ⟨rfl, fun g => hq g.2⟩, rfl⟩
  · refine P187.xs (fun hA hx hy t k => XS.icmpYes hA hx rfl (pc0 := 20) (pc' := 41) rfl (hb hy d15_20) rfl (feq hl).2 (by decide) (by decide) k) ?_
    show Go p e below _ (T187.setTop (mkF m 41 #[.val (.ref o), .val (.ref y), .val (.ref y)] []))
    refine P187.xs (fun hA hx hy t k => XS.iconst hA hx rfl (hb hy d15_41) k) ?_
    show Go p e below _ (T187.setTop (mkF m 42 #[.val (.ref o), .val (.ref y), .val (.ref y)] [(.int (0 : Int32))]))
    exact P187.retN (t := .boolean) rfl (by simp) d15_42 (by decide) (by decide) ⟨Or.inr ⟨rfl, fun g => hl g.1⟩, rfl⟩

def Q_mLaw (Z : State)  (h0 : Heap) (v : Option Value) (h : Heap) : Prop := v = some (.int 1)
set_option maxRecDepth 65536 in
set_option maxHeartbeats 40000000 in
theorem mLaw (l : Launch) (Z : State) (a0 : Array Value) (hw : ∀ d ∈ tables_1, d.before a0 Z = true) (hEL : EW Z a0 EL0) (zc : Int32) (S0 : Sta Z Z.heap "java/lang/String" "COMPACT_STRINGS" "Z" (.int zc)) (Pz : ¬ zc = 0) (wc : Addr) (cc : Cell) (SH : Sta Z Z.heap "java/lang/Integer$IntegerCache" "high" "I" (.int (127 : Int32))) (SC : Sta Z Z.heap "java/lang/Integer$IntegerCache" "cache" "[Ljava/lang/Integer;" (.ref wc)) (BX : Bxs Z wc cc "java/lang/Integer" "I" (256 : Int32) (fun j => .int (j - 128))) (p0 p1 p2 p3 p4 : Int32) (h0 : Heap) (hO : Ext Z.heap h0)  :
    ConL l Z EL0 [] tables_1 x code maxLocals ret room_1 #[(.int p0), (.int p1), (.int p2), (.int p3), (.int p4)] h0 [] (Q_mLaw Z  h0) := by
  refine ConL.of (y := (⟨"com/example/qrew/qrew/logic/PredicateEqualsPinLaw", "law", "(IIIII)Z"⟩ : MethodName)) (f0 := fun m => mkF m 0 #[.val (.int p0), .val (.int p1), .val (.int p2), .val (.int p3), .val (.int p4), .unset, .unset, .unset, .unset, .unset, .unset, .unset, .unset, .unset, .unset, .unset, .unset, .unset, .unset, .unset] []) (plainFor_of_name pn_2) hEL hO (fun m => by skip <;> first | (simp [entryFrame, mkF, argsToLocals, Value.category, maxLocals]; done) | rfl) ?_
  intro p e s m below meth c s₁ P0
  show Go p e below _ (s₁.setTop (mkF m 0 #[.val (.int p0), .val (.int p1), .val (.int p2), .val (.int p3), .val (.int p4), .unset, .unset, .unset, .unset, .unset, .unset, .unset, .unset, .unset, .unset, .unset, .unset, .unset, .unset, .unset] []))
  refine P0.xs (fun hA hx hy t k => XS.iload hA hx rfl (hb hy at_0) rfl  k) ?_
  show Go p e below _ (s₁.setTop (mkF m 2 #[.val (.int p0), .val (.int p1), .val (.int p2), .val (.int p3), .val (.int p4), .unset, .unset, .unset, .unset, .unset, .unset, .unset, .unset, .unset, .unset, .unset, .unset, .unset, .unset, .unset] [(.int p4)]))
  refine P0.xs (fun hA hx hy t k => XS.iconst hA hx rfl (hb hy at_2) k) ?_
  show Go p e below _ (s₁.setTop (mkF m 3 #[.val (.int p0), .val (.int p1), .val (.int p2), .val (.int p3), .val (.int p4), .unset, .unset, .unset, .unset, .unset, .unset, .unset, .unset, .unset, .unset, .unset, .unset, .unset, .unset, .unset] [(.int (3 : Int32)), (.int p4)]))
  refine P0.xs (fun hA hx hy t k => XS.iand hA hx rfl (hb hy at_3) rfl k) ?_
  show Go p e below _ (s₁.setTop (mkF m 4 #[.val (.int p0), .val (.int p1), .val (.int p2), .val (.int p3), .val (.int p4), .unset, .unset, .unset, .unset, .unset, .unset, .unset, .unset, .unset, .unset, .unset, .unset, .unset, .unset, .unset] [(.int (p4 &&& (3 : Int32)))]))
  refine P0.xs (fun hA hx hy t k => XS.iconst hA hx rfl (hb hy at_4) k) ?_
  show Go p e below _ (s₁.setTop (mkF m 5 #[.val (.int p0), .val (.int p1), .val (.int p2), .val (.int p3), .val (.int p4), .unset, .unset, .unset, .unset, .unset, .unset, .unset, .unset, .unset, .unset, .unset, .unset, .unset, .unset, .unset] [(.int (3 : Int32)), (.int (p4 &&& (3 : Int32)))]))
  refine P0.st (fun vm0 locs X hx hy t k => Jvm.RoadKit.iremM X hx rfl (hb hy at_5) rfl (by decide) k) ?_
  show Go p e below _ (s₁.setTop (mkF m 6 #[.val (.int p0), .val (.int p1), .val (.int p2), .val (.int p3), .val (.int p4), .unset, .unset, .unset, .unset, .unset, .unset, .unset, .unset, .unset, .unset, .unset, .unset, .unset, .unset, .unset] [(.int ((p4 &&& (3 : Int32)) % (3 : Int32)))]))
  have hla := rem33 p4
  generalize hgla : ((p4 &&& (3 : Int32)) % (3 : Int32)) = la at hla ⊢
  show Go p e below _ (s₁.setTop (mkF m 6 #[.val (.int p0), .val (.int p1), .val (.int p2), .val (.int p3), .val (.int p4), .unset, .unset, .unset, .unset, .unset, .unset, .unset, .unset, .unset, .unset, .unset, .unset, .unset, .unset, .unset] [(.int la)]))
  refine P0.xs (fun hA hx hy t k => XS.istore hA hx rfl (hb hy at_6) rfl (l' := #[.val (.int p0), .val (.int p1), .val (.int p2), .val (.int p3), .val (.int p4), .val (.int la), .unset, .unset, .unset, .unset, .unset, .unset, .unset, .unset, .unset, .unset, .unset, .unset, .unset, .unset]) rfl k) ?_
  show Go p e below _ (s₁.setTop (mkF m 8 #[.val (.int p0), .val (.int p1), .val (.int p2), .val (.int p3), .val (.int p4), .val (.int la), .unset, .unset, .unset, .unset, .unset, .unset, .unset, .unset, .unset, .unset, .unset, .unset, .unset, .unset] []))
  refine P0.xs (fun hA hx hy t k => XS.iload hA hx rfl (hb hy at_8) rfl  k) ?_
  show Go p e below _ (s₁.setTop (mkF m 10 #[.val (.int p0), .val (.int p1), .val (.int p2), .val (.int p3), .val (.int p4), .val (.int la), .unset, .unset, .unset, .unset, .unset, .unset, .unset, .unset, .unset, .unset, .unset, .unset, .unset, .unset] [(.int p4)]))
  refine P0.xs (fun hA hx hy t k => XS.bipush hA hx rfl (hb hy at_10) k) ?_
  show Go p e below _ (s₁.setTop (mkF m 12 #[.val (.int p0), .val (.int p1), .val (.int p2), .val (.int p3), .val (.int p4), .val (.int la), .unset, .unset, .unset, .unset, .unset, .unset, .unset, .unset, .unset, .unset, .unset, .unset, .unset, .unset] [(.int (7 : Int32)), (.int p4)]))
  refine P0.xs (fun hA hx hy t k => XS.iushr hA hx rfl (hb hy at_12) rfl k) ?_
  show Go p e below _ (s₁.setTop (mkF m 13 #[.val (.int p0), .val (.int p1), .val (.int p2), .val (.int p3), .val (.int p4), .val (.int la), .unset, .unset, .unset, .unset, .unset, .unset, .unset, .unset, .unset, .unset, .unset, .unset, .unset, .unset] [(.int ((p4.toUInt32 >>> ((7 : Int32) &&& 31).toUInt32).toInt32))]))
  refine P0.xs (fun hA hx hy t k => XS.iconst hA hx rfl (hb hy at_13) k) ?_
  show Go p e below _ (s₁.setTop (mkF m 14 #[.val (.int p0), .val (.int p1), .val (.int p2), .val (.int p3), .val (.int p4), .val (.int la), .unset, .unset, .unset, .unset, .unset, .unset, .unset, .unset, .unset, .unset, .unset, .unset, .unset, .unset] [(.int (1 : Int32)), (.int ((p4.toUInt32 >>> ((7 : Int32) &&& 31).toUInt32).toInt32))]))
  refine P0.xs (fun hA hx hy t k => XS.iand hA hx rfl (hb hy at_14) rfl k) ?_
  show Go p e below _ (s₁.setTop (mkF m 15 #[.val (.int p0), .val (.int p1), .val (.int p2), .val (.int p3), .val (.int p4), .val (.int la), .unset, .unset, .unset, .unset, .unset, .unset, .unset, .unset, .unset, .unset, .unset, .unset, .unset, .unset] [(.int (((p4.toUInt32 >>> ((7 : Int32) &&& 31).toUInt32).toInt32) &&& (1 : Int32)))]))
  suffices j1 : ∀ (T194 : State) (h194 : Heap) (lb : Int32), (lb = 0 ∨ lb = 1 ∨ lb = 2) → Pos p l e room_1 s m #[(.int p0), (.int p1), (.int p2), (.int p3), (.int p4)] below meth c "com/example/qrew/qrew/logic/PredicateEqualsPinLaw" "law" code maxLocals ret Z a0 EL0 h0 [] T194 h194 0 0 → Go p e below (Fini Z [] h0 [] room_1 (Q_mLaw Z  h0) s) (T194.setTop (mkF m 31 #[.val (.int p0), .val (.int p1), .val (.int p2), .val (.int p3), .val (.int p4), .val (.int la), .unset, .unset, .unset, .unset, .unset, .unset, .unset, .unset, .unset, .unset, .unset, .unset, .unset, .unset] [(.int lb)])) by
    by_cases hk : (((p4.toUInt32 >>> ((7 : Int32) &&& 31).toUInt32).toInt32) &&& (1 : Int32)) = 0
    · refine P0.xs (fun hA hx hy t k => XS.ifYes hA hx rfl (pc0 := 15) (pc' := 23) rfl (hb hy at_15) rfl ((if0 _ _).trans (teq hk).1) (by decide) (by decide) k) ?_
      show Go p e below _ (s₁.setTop (mkF m 23 #[.val (.int p0), .val (.int p1), .val (.int p2), .val (.int p3), .val (.int p4), .val (.int la), .unset, .unset, .unset, .unset, .unset, .unset, .unset, .unset, .unset, .unset, .unset, .unset, .unset, .unset] []))
      refine P0.xs (fun hA hx hy t k => XS.iload hA hx rfl (hb hy at_23) rfl  k) ?_
      show Go p e below _ (s₁.setTop (mkF m 25 #[.val (.int p0), .val (.int p1), .val (.int p2), .val (.int p3), .val (.int p4), .val (.int la), .unset, .unset, .unset, .unset, .unset, .unset, .unset, .unset, .unset, .unset, .unset, .unset, .unset, .unset] [(.int p4)]))
      refine P0.xs (fun hA hx hy t k => XS.iconst hA hx rfl (hb hy at_25) k) ?_
      show Go p e below _ (s₁.setTop (mkF m 26 #[.val (.int p0), .val (.int p1), .val (.int p2), .val (.int p3), .val (.int p4), .val (.int la), .unset, .unset, .unset, .unset, .unset, .unset, .unset, .unset, .unset, .unset, .unset, .unset, .unset, .unset] [(.int (2 : Int32)), (.int p4)]))
      refine P0.xs (fun hA hx hy t k => XS.iushr hA hx rfl (hb hy at_26) rfl k) ?_
      show Go p e below _ (s₁.setTop (mkF m 27 #[.val (.int p0), .val (.int p1), .val (.int p2), .val (.int p3), .val (.int p4), .val (.int la), .unset, .unset, .unset, .unset, .unset, .unset, .unset, .unset, .unset, .unset, .unset, .unset, .unset, .unset] [(.int ((p4.toUInt32 >>> ((2 : Int32) &&& 31).toUInt32).toInt32))]))
      refine P0.xs (fun hA hx hy t k => XS.iconst hA hx rfl (hb hy at_27) k) ?_
      show Go p e below _ (s₁.setTop (mkF m 28 #[.val (.int p0), .val (.int p1), .val (.int p2), .val (.int p3), .val (.int p4), .val (.int la), .unset, .unset, .unset, .unset, .unset, .unset, .unset, .unset, .unset, .unset, .unset, .unset, .unset, .unset] [(.int (3 : Int32)), (.int ((p4.toUInt32 >>> ((2 : Int32) &&& 31).toUInt32).toInt32))]))
      refine P0.xs (fun hA hx hy t k => XS.iand hA hx rfl (hb hy at_28) rfl k) ?_
      show Go p e below _ (s₁.setTop (mkF m 29 #[.val (.int p0), .val (.int p1), .val (.int p2), .val (.int p3), .val (.int p4), .val (.int la), .unset, .unset, .unset, .unset, .unset, .unset, .unset, .unset, .unset, .unset, .unset, .unset, .unset, .unset] [(.int (((p4.toUInt32 >>> ((2 : Int32) &&& 31).toUInt32).toInt32) &&& (3 : Int32)))]))
      refine P0.xs (fun hA hx hy t k => XS.iconst hA hx rfl (hb hy at_29) k) ?_
      show Go p e below _ (s₁.setTop (mkF m 30 #[.val (.int p0), .val (.int p1), .val (.int p2), .val (.int p3), .val (.int p4), .val (.int la), .unset, .unset, .unset, .unset, .unset, .unset, .unset, .unset, .unset, .unset, .unset, .unset, .unset, .unset] [(.int (3 : Int32)), (.int (((p4.toUInt32 >>> ((2 : Int32) &&& 31).toUInt32).toInt32) &&& (3 : Int32)))]))
      refine P0.st (fun vm0 locs X hx hy t k => Jvm.RoadKit.iremM X hx rfl (hb hy at_30) rfl (by decide) k) ?_
      show Go p e below _ (s₁.setTop (mkF m 31 #[.val (.int p0), .val (.int p1), .val (.int p2), .val (.int p3), .val (.int p4), .val (.int la), .unset, .unset, .unset, .unset, .unset, .unset, .unset, .unset, .unset, .unset, .unset, .unset, .unset, .unset] [(.int ((((p4.toUInt32 >>> ((2 : Int32) &&& 31).toUInt32).toInt32) &&& (3 : Int32)) % (3 : Int32)))]))
      exact j1 _ _ _ (rem33 _) (P0.wider (by decide) (by decide)) 
    · refine P0.xs (fun hA hx hy t k => XS.ifNo hA hx rfl (hb hy at_15) rfl ((if0 _ _).trans (feq hk).1) k) ?_
      show Go p e below _ (s₁.setTop (mkF m 18 #[.val (.int p0), .val (.int p1), .val (.int p2), .val (.int p3), .val (.int p4), .val (.int la), .unset, .unset, .unset, .unset, .unset, .unset, .unset, .unset, .unset, .unset, .unset, .unset, .unset, .unset] []))
      refine P0.xs (fun hA hx hy t k => XS.iload hA hx rfl (hb hy at_18) rfl  k) ?_
      show Go p e below _ (s₁.setTop (mkF m 20 #[.val (.int p0), .val (.int p1), .val (.int p2), .val (.int p3), .val (.int p4), .val (.int la), .unset, .unset, .unset, .unset, .unset, .unset, .unset, .unset, .unset, .unset, .unset, .unset, .unset, .unset] [(.int la)]))
      refine P0.xs (fun hA hx hy t k => XS.goto hA hx rfl (pc0 := 20) (pc' := 31) rfl (hb hy at_20) (by decide) (by decide) k) ?_
      show Go p e below _ (s₁.setTop (mkF m 31 #[.val (.int p0), .val (.int p1), .val (.int p2), .val (.int p3), .val (.int p4), .val (.int la), .unset, .unset, .unset, .unset, .unset, .unset, .unset, .unset, .unset, .unset, .unset, .unset, .unset, .unset] [(.int la)]))
      exact j1 _ _ _ hla (P0.wider (by decide) (by decide)) 
  intro T194 h194 lb hlb P194 
  show Go p e below _ (T194.setTop (mkF m 31 #[.val (.int p0), .val (.int p1), .val (.int p2), .val (.int p3), .val (.int p4), .val (.int la), .unset, .unset, .unset, .unset, .unset, .unset, .unset, .unset, .unset, .unset, .unset, .unset, .unset, .unset] [(.int lb)]))
  refine P194.xs (fun hA hx hy t k => XS.istore hA hx rfl (hb hy at_31) rfl (l' := #[.val (.int p0), .val (.int p1), .val (.int p2), .val (.int p3), .val (.int p4), .val (.int la), .val (.int lb), .unset, .unset, .unset, .unset, .unset, .unset, .unset, .unset, .unset, .unset, .unset, .unset, .unset]) rfl k) ?_
  show Go p e below _ (T194.setTop (mkF m 33 #[.val (.int p0), .val (.int p1), .val (.int p2), .val (.int p3), .val (.int p4), .val (.int la), .val (.int lb), .unset, .unset, .unset, .unset, .unset, .unset, .unset, .unset, .unset, .unset, .unset, .unset, .unset] []))
  refine P194.xs (fun hA hx hy t k => XS.iloadN hA hx rfl (hb hy at_33) rfl  k) ?_
  show Go p e below _ (T194.setTop (mkF m 34 #[.val (.int p0), .val (.int p1), .val (.int p2), .val (.int p3), .val (.int p4), .val (.int la), .val (.int lb), .unset, .unset, .unset, .unset, .unset, .unset, .unset, .unset, .unset, .unset, .unset, .unset, .unset] [(.int p0)]))
  refine P194.xs (fun hA hx hy t k => XS.sipush hA hx rfl (hb hy at_34) k) ?_
  show Go p e below _ (T194.setTop (mkF m 37 #[.val (.int p0), .val (.int p1), .val (.int p2), .val (.int p3), .val (.int p4), .val (.int la), .val (.int lb), .unset, .unset, .unset, .unset, .unset, .unset, .unset, .unset, .unset, .unset, .unset, .unset, .unset] [(.int (255 : Int32)), (.int p0)]))
  refine P194.xs (fun hA hx hy t k => XS.iand hA hx rfl (hb hy at_37) rfl k) ?_
  show Go p e below _ (T194.setTop (mkF m 38 #[.val (.int p0), .val (.int p1), .val (.int p2), .val (.int p3), .val (.int p4), .val (.int la), .val (.int lb), .unset, .unset, .unset, .unset, .unset, .unset, .unset, .unset, .unset, .unset, .unset, .unset, .unset] [(.int (p0 &&& (255 : Int32)))]))
  have hca := lat255 (p0)
  generalize hgca : (p0 &&& (255 : Int32)) = ca at hca ⊢
  show Go p e below _ (T194.setTop (mkF m 38 #[.val (.int p0), .val (.int p1), .val (.int p2), .val (.int p3), .val (.int p4), .val (.int la), .val (.int lb), .unset, .unset, .unset, .unset, .unset, .unset, .unset, .unset, .unset, .unset, .unset, .unset, .unset] [(.int ca)]))
  refine P194.xs (fun hA hx hy t k => XS.istore hA hx rfl (hb hy at_38) rfl (l' := #[.val (.int p0), .val (.int p1), .val (.int p2), .val (.int p3), .val (.int p4), .val (.int la), .val (.int lb), .val (.int ca), .unset, .unset, .unset, .unset, .unset, .unset, .unset, .unset, .unset, .unset, .unset, .unset]) rfl k) ?_
  show Go p e below _ (T194.setTop (mkF m 40 #[.val (.int p0), .val (.int p1), .val (.int p2), .val (.int p3), .val (.int p4), .val (.int la), .val (.int lb), .val (.int ca), .unset, .unset, .unset, .unset, .unset, .unset, .unset, .unset, .unset, .unset, .unset, .unset] []))
  refine P194.xs (fun hA hx hy t k => XS.iloadN hA hx rfl (hb hy at_40) rfl  k) ?_
  show Go p e below _ (T194.setTop (mkF m 41 #[.val (.int p0), .val (.int p1), .val (.int p2), .val (.int p3), .val (.int p4), .val (.int la), .val (.int lb), .val (.int ca), .unset, .unset, .unset, .unset, .unset, .unset, .unset, .unset, .unset, .unset, .unset, .unset] [(.int p0)]))
  refine P194.xs (fun hA hx hy t k => XS.bipush hA hx rfl (hb hy at_41) k) ?_
  show Go p e below _ (T194.setTop (mkF m 43 #[.val (.int p0), .val (.int p1), .val (.int p2), .val (.int p3), .val (.int p4), .val (.int la), .val (.int lb), .val (.int ca), .unset, .unset, .unset, .unset, .unset, .unset, .unset, .unset, .unset, .unset, .unset, .unset] [(.int (8 : Int32)), (.int p0)]))
  refine P194.xs (fun hA hx hy t k => XS.iushr hA hx rfl (hb hy at_43) rfl k) ?_
  show Go p e below _ (T194.setTop (mkF m 44 #[.val (.int p0), .val (.int p1), .val (.int p2), .val (.int p3), .val (.int p4), .val (.int la), .val (.int lb), .val (.int ca), .unset, .unset, .unset, .unset, .unset, .unset, .unset, .unset, .unset, .unset, .unset, .unset] [(.int ((p0.toUInt32 >>> ((8 : Int32) &&& 31).toUInt32).toInt32))]))
  refine P194.xs (fun hA hx hy t k => XS.sipush hA hx rfl (hb hy at_44) k) ?_
  show Go p e below _ (T194.setTop (mkF m 47 #[.val (.int p0), .val (.int p1), .val (.int p2), .val (.int p3), .val (.int p4), .val (.int la), .val (.int lb), .val (.int ca), .unset, .unset, .unset, .unset, .unset, .unset, .unset, .unset, .unset, .unset, .unset, .unset] [(.int (255 : Int32)), (.int ((p0.toUInt32 >>> ((8 : Int32) &&& 31).toUInt32).toInt32))]))
  refine P194.xs (fun hA hx hy t k => XS.iand hA hx rfl (hb hy at_47) rfl k) ?_
  show Go p e below _ (T194.setTop (mkF m 48 #[.val (.int p0), .val (.int p1), .val (.int p2), .val (.int p3), .val (.int p4), .val (.int la), .val (.int lb), .val (.int ca), .unset, .unset, .unset, .unset, .unset, .unset, .unset, .unset, .unset, .unset, .unset, .unset] [(.int (((p0.toUInt32 >>> ((8 : Int32) &&& 31).toUInt32).toInt32) &&& (255 : Int32)))]))
  have hcb := lat255 (((p0.toUInt32 >>> ((8 : Int32) &&& 31).toUInt32).toInt32))
  generalize hgcb : (((p0.toUInt32 >>> ((8 : Int32) &&& 31).toUInt32).toInt32) &&& (255 : Int32)) = cb at hcb ⊢
  show Go p e below _ (T194.setTop (mkF m 48 #[.val (.int p0), .val (.int p1), .val (.int p2), .val (.int p3), .val (.int p4), .val (.int la), .val (.int lb), .val (.int ca), .unset, .unset, .unset, .unset, .unset, .unset, .unset, .unset, .unset, .unset, .unset, .unset] [(.int cb)]))
  refine P194.xs (fun hA hx hy t k => XS.istore hA hx rfl (hb hy at_48) rfl (l' := #[.val (.int p0), .val (.int p1), .val (.int p2), .val (.int p3), .val (.int p4), .val (.int la), .val (.int lb), .val (.int ca), .val (.int cb), .unset, .unset, .unset, .unset, .unset, .unset, .unset, .unset, .unset, .unset, .unset]) rfl k) ?_
  show Go p e below _ (T194.setTop (mkF m 50 #[.val (.int p0), .val (.int p1), .val (.int p2), .val (.int p3), .val (.int p4), .val (.int la), .val (.int lb), .val (.int ca), .val (.int cb), .unset, .unset, .unset, .unset, .unset, .unset, .unset, .unset, .unset, .unset, .unset] []))
  refine P194.xs (fun hA hx hy t k => XS.iload hA hx rfl (hb hy at_50) rfl  k) ?_
  show Go p e below _ (T194.setTop (mkF m 52 #[.val (.int p0), .val (.int p1), .val (.int p2), .val (.int p3), .val (.int p4), .val (.int la), .val (.int lb), .val (.int ca), .val (.int cb), .unset, .unset, .unset, .unset, .unset, .unset, .unset, .unset, .unset, .unset, .unset] [(.int p4)]))
  refine P194.xs (fun hA hx hy t k => XS.iconst hA hx rfl (hb hy at_52) k) ?_
  show Go p e below _ (T194.setTop (mkF m 53 #[.val (.int p0), .val (.int p1), .val (.int p2), .val (.int p3), .val (.int p4), .val (.int la), .val (.int lb), .val (.int ca), .val (.int cb), .unset, .unset, .unset, .unset, .unset, .unset, .unset, .unset, .unset, .unset, .unset] [(.int (4 : Int32)), (.int p4)]))
  refine P194.xs (fun hA hx hy t k => XS.iushr hA hx rfl (hb hy at_53) rfl k) ?_
  show Go p e below _ (T194.setTop (mkF m 54 #[.val (.int p0), .val (.int p1), .val (.int p2), .val (.int p3), .val (.int p4), .val (.int la), .val (.int lb), .val (.int ca), .val (.int cb), .unset, .unset, .unset, .unset, .unset, .unset, .unset, .unset, .unset, .unset, .unset] [(.int ((p4.toUInt32 >>> ((4 : Int32) &&& 31).toUInt32).toInt32))]))
  refine P194.xs (fun hA hx hy t k => XS.iconst hA hx rfl (hb hy at_54) k) ?_
  show Go p e below _ (T194.setTop (mkF m 55 #[.val (.int p0), .val (.int p1), .val (.int p2), .val (.int p3), .val (.int p4), .val (.int la), .val (.int lb), .val (.int ca), .val (.int cb), .unset, .unset, .unset, .unset, .unset, .unset, .unset, .unset, .unset, .unset, .unset] [(.int (1 : Int32)), (.int ((p4.toUInt32 >>> ((4 : Int32) &&& 31).toUInt32).toInt32))]))
  refine P194.xs (fun hA hx hy t k => XS.iand hA hx rfl (hb hy at_55) rfl k) ?_
  show Go p e below _ (T194.setTop (mkF m 56 #[.val (.int p0), .val (.int p1), .val (.int p2), .val (.int p3), .val (.int p4), .val (.int la), .val (.int lb), .val (.int ca), .val (.int cb), .unset, .unset, .unset, .unset, .unset, .unset, .unset, .unset, .unset, .unset, .unset] [(.int (((p4.toUInt32 >>> ((4 : Int32) &&& 31).toUInt32).toInt32) &&& (1 : Int32)))]))
  suffices j2 : ∀ (T195 : State) (h195 : Heap) (da : Int32), (¬ da < 0 ∧ ¬ (255 : Int32) < da) → Pos p l e room_1 s m #[(.int p0), (.int p1), (.int p2), (.int p3), (.int p4)] below meth c "com/example/qrew/qrew/logic/PredicateEqualsPinLaw" "law" code maxLocals ret Z a0 EL0 h0 [] T195 h195 0 0 → Go p e below (Fini Z [] h0 [] room_1 (Q_mLaw Z  h0) s) (T195.setTop (mkF m 69 #[.val (.int p0), .val (.int p1), .val (.int p2), .val (.int p3), .val (.int p4), .val (.int la), .val (.int lb), .val (.int ca), .val (.int cb), .unset, .unset, .unset, .unset, .unset, .unset, .unset, .unset, .unset, .unset, .unset] [(.int da)])) by
    by_cases hk : (((p4.toUInt32 >>> ((4 : Int32) &&& 31).toUInt32).toInt32) &&& (1 : Int32)) = 0
    · refine P194.xs (fun hA hx hy t k => XS.ifYes hA hx rfl (pc0 := 56) (pc' := 64) rfl (hb hy at_56) rfl ((if0 _ _).trans (teq hk).1) (by decide) (by decide) k) ?_
      show Go p e below _ (T194.setTop (mkF m 64 #[.val (.int p0), .val (.int p1), .val (.int p2), .val (.int p3), .val (.int p4), .val (.int la), .val (.int lb), .val (.int ca), .val (.int cb), .unset, .unset, .unset, .unset, .unset, .unset, .unset, .unset, .unset, .unset, .unset] []))
      refine P194.xs (fun hA hx hy t k => XS.iloadN hA hx rfl (hb hy at_64) rfl  k) ?_
      show Go p e below _ (T194.setTop (mkF m 65 #[.val (.int p0), .val (.int p1), .val (.int p2), .val (.int p3), .val (.int p4), .val (.int la), .val (.int lb), .val (.int ca), .val (.int cb), .unset, .unset, .unset, .unset, .unset, .unset, .unset, .unset, .unset, .unset, .unset] [(.int p1)]))
      refine P194.xs (fun hA hx hy t k => XS.sipush hA hx rfl (hb hy at_65) k) ?_
      show Go p e below _ (T194.setTop (mkF m 68 #[.val (.int p0), .val (.int p1), .val (.int p2), .val (.int p3), .val (.int p4), .val (.int la), .val (.int lb), .val (.int ca), .val (.int cb), .unset, .unset, .unset, .unset, .unset, .unset, .unset, .unset, .unset, .unset, .unset] [(.int (255 : Int32)), (.int p1)]))
      refine P194.xs (fun hA hx hy t k => XS.iand hA hx rfl (hb hy at_68) rfl k) ?_
      show Go p e below _ (T194.setTop (mkF m 69 #[.val (.int p0), .val (.int p1), .val (.int p2), .val (.int p3), .val (.int p4), .val (.int la), .val (.int lb), .val (.int ca), .val (.int cb), .unset, .unset, .unset, .unset, .unset, .unset, .unset, .unset, .unset, .unset, .unset] [(.int (p1 &&& (255 : Int32)))]))
      exact j2 _ _ _ (lat255 _) (P194.wider (by decide) (by decide)) 
    · refine P194.xs (fun hA hx hy t k => XS.ifNo hA hx rfl (hb hy at_56) rfl ((if0 _ _).trans (feq hk).1) k) ?_
      show Go p e below _ (T194.setTop (mkF m 59 #[.val (.int p0), .val (.int p1), .val (.int p2), .val (.int p3), .val (.int p4), .val (.int la), .val (.int lb), .val (.int ca), .val (.int cb), .unset, .unset, .unset, .unset, .unset, .unset, .unset, .unset, .unset, .unset, .unset] []))
      refine P194.xs (fun hA hx hy t k => XS.iload hA hx rfl (hb hy at_59) rfl  k) ?_
      show Go p e below _ (T194.setTop (mkF m 61 #[.val (.int p0), .val (.int p1), .val (.int p2), .val (.int p3), .val (.int p4), .val (.int la), .val (.int lb), .val (.int ca), .val (.int cb), .unset, .unset, .unset, .unset, .unset, .unset, .unset, .unset, .unset, .unset, .unset] [(.int ca)]))
      refine P194.xs (fun hA hx hy t k => XS.goto hA hx rfl (pc0 := 61) (pc' := 69) rfl (hb hy at_61) (by decide) (by decide) k) ?_
      show Go p e below _ (T194.setTop (mkF m 69 #[.val (.int p0), .val (.int p1), .val (.int p2), .val (.int p3), .val (.int p4), .val (.int la), .val (.int lb), .val (.int ca), .val (.int cb), .unset, .unset, .unset, .unset, .unset, .unset, .unset, .unset, .unset, .unset, .unset] [(.int ca)]))
      exact j2 _ _ _ hca (P194.wider (by decide) (by decide)) 
  intro T195 h195 da hda P195 
  show Go p e below _ (T195.setTop (mkF m 69 #[.val (.int p0), .val (.int p1), .val (.int p2), .val (.int p3), .val (.int p4), .val (.int la), .val (.int lb), .val (.int ca), .val (.int cb), .unset, .unset, .unset, .unset, .unset, .unset, .unset, .unset, .unset, .unset, .unset] [(.int da)]))
  refine P195.xs (fun hA hx hy t k => XS.istore hA hx rfl (hb hy at_69) rfl (l' := #[.val (.int p0), .val (.int p1), .val (.int p2), .val (.int p3), .val (.int p4), .val (.int la), .val (.int lb), .val (.int ca), .val (.int cb), .val (.int da), .unset, .unset, .unset, .unset, .unset, .unset, .unset, .unset, .unset, .unset]) rfl k) ?_
  show Go p e below _ (T195.setTop (mkF m 71 #[.val (.int p0), .val (.int p1), .val (.int p2), .val (.int p3), .val (.int p4), .val (.int la), .val (.int lb), .val (.int ca), .val (.int cb), .val (.int da), .unset, .unset, .unset, .unset, .unset, .unset, .unset, .unset, .unset, .unset] []))
  refine P195.xs (fun hA hx hy t k => XS.iload hA hx rfl (hb hy at_71) rfl  k) ?_
  show Go p e below _ (T195.setTop (mkF m 73 #[.val (.int p0), .val (.int p1), .val (.int p2), .val (.int p3), .val (.int p4), .val (.int la), .val (.int lb), .val (.int ca), .val (.int cb), .val (.int da), .unset, .unset, .unset, .unset, .unset, .unset, .unset, .unset, .unset, .unset] [(.int p4)]))
  refine P195.xs (fun hA hx hy t k => XS.iconst hA hx rfl (hb hy at_73) k) ?_
  show Go p e below _ (T195.setTop (mkF m 74 #[.val (.int p0), .val (.int p1), .val (.int p2), .val (.int p3), .val (.int p4), .val (.int la), .val (.int lb), .val (.int ca), .val (.int cb), .val (.int da), .unset, .unset, .unset, .unset, .unset, .unset, .unset, .unset, .unset, .unset] [(.int (5 : Int32)), (.int p4)]))
  refine P195.xs (fun hA hx hy t k => XS.iushr hA hx rfl (hb hy at_74) rfl k) ?_
  show Go p e below _ (T195.setTop (mkF m 75 #[.val (.int p0), .val (.int p1), .val (.int p2), .val (.int p3), .val (.int p4), .val (.int la), .val (.int lb), .val (.int ca), .val (.int cb), .val (.int da), .unset, .unset, .unset, .unset, .unset, .unset, .unset, .unset, .unset, .unset] [(.int ((p4.toUInt32 >>> ((5 : Int32) &&& 31).toUInt32).toInt32))]))
  refine P195.xs (fun hA hx hy t k => XS.iconst hA hx rfl (hb hy at_75) k) ?_
  show Go p e below _ (T195.setTop (mkF m 76 #[.val (.int p0), .val (.int p1), .val (.int p2), .val (.int p3), .val (.int p4), .val (.int la), .val (.int lb), .val (.int ca), .val (.int cb), .val (.int da), .unset, .unset, .unset, .unset, .unset, .unset, .unset, .unset, .unset, .unset] [(.int (1 : Int32)), (.int ((p4.toUInt32 >>> ((5 : Int32) &&& 31).toUInt32).toInt32))]))
  refine P195.xs (fun hA hx hy t k => XS.iand hA hx rfl (hb hy at_76) rfl k) ?_
  show Go p e below _ (T195.setTop (mkF m 77 #[.val (.int p0), .val (.int p1), .val (.int p2), .val (.int p3), .val (.int p4), .val (.int la), .val (.int lb), .val (.int ca), .val (.int cb), .val (.int da), .unset, .unset, .unset, .unset, .unset, .unset, .unset, .unset, .unset, .unset] [(.int (((p4.toUInt32 >>> ((5 : Int32) &&& 31).toUInt32).toInt32) &&& (1 : Int32)))]))
  suffices j3 : ∀ (T196 : State) (h196 : Heap) (db : Int32), (¬ db < 0 ∧ ¬ (255 : Int32) < db) → Pos p l e room_1 s m #[(.int p0), (.int p1), (.int p2), (.int p3), (.int p4)] below meth c "com/example/qrew/qrew/logic/PredicateEqualsPinLaw" "law" code maxLocals ret Z a0 EL0 h0 [] T196 h196 0 0 → Go p e below (Fini Z [] h0 [] room_1 (Q_mLaw Z  h0) s) (T196.setTop (mkF m 93 #[.val (.int p0), .val (.int p1), .val (.int p2), .val (.int p3), .val (.int p4), .val (.int la), .val (.int lb), .val (.int ca), .val (.int cb), .val (.int da), .unset, .unset, .unset, .unset, .unset, .unset, .unset, .unset, .unset, .unset] [(.int db)])) by
    by_cases hk : (((p4.toUInt32 >>> ((5 : Int32) &&& 31).toUInt32).toInt32) &&& (1 : Int32)) = 0
    · refine P195.xs (fun hA hx hy t k => XS.ifYes hA hx rfl (pc0 := 77) (pc' := 85) rfl (hb hy at_77) rfl ((if0 _ _).trans (teq hk).1) (by decide) (by decide) k) ?_
      show Go p e below _ (T195.setTop (mkF m 85 #[.val (.int p0), .val (.int p1), .val (.int p2), .val (.int p3), .val (.int p4), .val (.int la), .val (.int lb), .val (.int ca), .val (.int cb), .val (.int da), .unset, .unset, .unset, .unset, .unset, .unset, .unset, .unset, .unset, .unset] []))
      refine P195.xs (fun hA hx hy t k => XS.iloadN hA hx rfl (hb hy at_85) rfl  k) ?_
      show Go p e below _ (T195.setTop (mkF m 86 #[.val (.int p0), .val (.int p1), .val (.int p2), .val (.int p3), .val (.int p4), .val (.int la), .val (.int lb), .val (.int ca), .val (.int cb), .val (.int da), .unset, .unset, .unset, .unset, .unset, .unset, .unset, .unset, .unset, .unset] [(.int p1)]))
      refine P195.xs (fun hA hx hy t k => XS.bipush hA hx rfl (hb hy at_86) k) ?_
      show Go p e below _ (T195.setTop (mkF m 88 #[.val (.int p0), .val (.int p1), .val (.int p2), .val (.int p3), .val (.int p4), .val (.int la), .val (.int lb), .val (.int ca), .val (.int cb), .val (.int da), .unset, .unset, .unset, .unset, .unset, .unset, .unset, .unset, .unset, .unset] [(.int (8 : Int32)), (.int p1)]))
      refine P195.xs (fun hA hx hy t k => XS.iushr hA hx rfl (hb hy at_88) rfl k) ?_
      show Go p e below _ (T195.setTop (mkF m 89 #[.val (.int p0), .val (.int p1), .val (.int p2), .val (.int p3), .val (.int p4), .val (.int la), .val (.int lb), .val (.int ca), .val (.int cb), .val (.int da), .unset, .unset, .unset, .unset, .unset, .unset, .unset, .unset, .unset, .unset] [(.int ((p1.toUInt32 >>> ((8 : Int32) &&& 31).toUInt32).toInt32))]))
      refine P195.xs (fun hA hx hy t k => XS.sipush hA hx rfl (hb hy at_89) k) ?_
      show Go p e below _ (T195.setTop (mkF m 92 #[.val (.int p0), .val (.int p1), .val (.int p2), .val (.int p3), .val (.int p4), .val (.int la), .val (.int lb), .val (.int ca), .val (.int cb), .val (.int da), .unset, .unset, .unset, .unset, .unset, .unset, .unset, .unset, .unset, .unset] [(.int (255 : Int32)), (.int ((p1.toUInt32 >>> ((8 : Int32) &&& 31).toUInt32).toInt32))]))
      refine P195.xs (fun hA hx hy t k => XS.iand hA hx rfl (hb hy at_92) rfl k) ?_
      show Go p e below _ (T195.setTop (mkF m 93 #[.val (.int p0), .val (.int p1), .val (.int p2), .val (.int p3), .val (.int p4), .val (.int la), .val (.int lb), .val (.int ca), .val (.int cb), .val (.int da), .unset, .unset, .unset, .unset, .unset, .unset, .unset, .unset, .unset, .unset] [(.int (((p1.toUInt32 >>> ((8 : Int32) &&& 31).toUInt32).toInt32) &&& (255 : Int32)))]))
      exact j3 _ _ _ (lat255 _) (P195.wider (by decide) (by decide)) 
    · refine P195.xs (fun hA hx hy t k => XS.ifNo hA hx rfl (hb hy at_77) rfl ((if0 _ _).trans (feq hk).1) k) ?_
      show Go p e below _ (T195.setTop (mkF m 80 #[.val (.int p0), .val (.int p1), .val (.int p2), .val (.int p3), .val (.int p4), .val (.int la), .val (.int lb), .val (.int ca), .val (.int cb), .val (.int da), .unset, .unset, .unset, .unset, .unset, .unset, .unset, .unset, .unset, .unset] []))
      refine P195.xs (fun hA hx hy t k => XS.iload hA hx rfl (hb hy at_80) rfl  k) ?_
      show Go p e below _ (T195.setTop (mkF m 82 #[.val (.int p0), .val (.int p1), .val (.int p2), .val (.int p3), .val (.int p4), .val (.int la), .val (.int lb), .val (.int ca), .val (.int cb), .val (.int da), .unset, .unset, .unset, .unset, .unset, .unset, .unset, .unset, .unset, .unset] [(.int cb)]))
      refine P195.xs (fun hA hx hy t k => XS.goto hA hx rfl (pc0 := 82) (pc' := 93) rfl (hb hy at_82) (by decide) (by decide) k) ?_
      show Go p e below _ (T195.setTop (mkF m 93 #[.val (.int p0), .val (.int p1), .val (.int p2), .val (.int p3), .val (.int p4), .val (.int la), .val (.int lb), .val (.int ca), .val (.int cb), .val (.int da), .unset, .unset, .unset, .unset, .unset, .unset, .unset, .unset, .unset, .unset] [(.int cb)]))
      exact j3 _ _ _ hcb (P195.wider (by decide) (by decide)) 
  intro T196 h196 db hdb P196 
  show Go p e below _ (T196.setTop (mkF m 93 #[.val (.int p0), .val (.int p1), .val (.int p2), .val (.int p3), .val (.int p4), .val (.int la), .val (.int lb), .val (.int ca), .val (.int cb), .val (.int da), .unset, .unset, .unset, .unset, .unset, .unset, .unset, .unset, .unset, .unset] [(.int db)]))
  refine P196.xs (fun hA hx hy t k => XS.istore hA hx rfl (hb hy at_93) rfl (l' := #[.val (.int p0), .val (.int p1), .val (.int p2), .val (.int p3), .val (.int p4), .val (.int la), .val (.int lb), .val (.int ca), .val (.int cb), .val (.int da), .val (.int db), .unset, .unset, .unset, .unset, .unset, .unset, .unset, .unset, .unset]) rfl k) ?_
  show Go p e below _ (T196.setTop (mkF m 95 #[.val (.int p0), .val (.int p1), .val (.int p2), .val (.int p3), .val (.int p4), .val (.int la), .val (.int lb), .val (.int ca), .val (.int cb), .val (.int da), .val (.int db), .unset, .unset, .unset, .unset, .unset, .unset, .unset, .unset, .unset] []))
  refine P196.xs (fun hA hx hy t k => XS.iloadN hA hx rfl (hb hy at_95) rfl  k) ?_
  show Go p e below _ (T196.setTop (mkF m 96 #[.val (.int p0), .val (.int p1), .val (.int p2), .val (.int p3), .val (.int p4), .val (.int la), .val (.int lb), .val (.int ca), .val (.int cb), .val (.int da), .val (.int db), .unset, .unset, .unset, .unset, .unset, .unset, .unset, .unset, .unset] [(.int p2)]))
  refine P196.ldcI (hw _ (List.mem_of_getElem? (i := 0) rfl)) at_96 ?_
  show Go p e below _ (T196.setTop (mkF m 98 #[.val (.int p0), .val (.int p1), .val (.int p2), .val (.int p3), .val (.int p4), .val (.int la), .val (.int lb), .val (.int ca), .val (.int cb), .val (.int da), .val (.int db), .unset, .unset, .unset, .unset, .unset, .unset, .unset, .unset, .unset] [(.int (2147483647 : Int32)), (.int p2)]))
  refine P196.xs (fun hA hx hy t k => XS.iand hA hx rfl (hb hy at_98) rfl k) ?_
  show Go p e below _ (T196.setTop (mkF m 99 #[.val (.int p0), .val (.int p1), .val (.int p2), .val (.int p3), .val (.int p4), .val (.int la), .val (.int lb), .val (.int ca), .val (.int cb), .val (.int da), .val (.int db), .unset, .unset, .unset, .unset, .unset, .unset, .unset, .unset, .unset] [(.int (p2 &&& (2147483647 : Int32)))]))
  have har1 := mask31 p2
  generalize hgar1 : (p2 &&& (2147483647 : Int32)) = ar1 at har1 ⊢
  show Go p e below _ (T196.setTop (mkF m 99 #[.val (.int p0), .val (.int p1), .val (.int p2), .val (.int p3), .val (.int p4), .val (.int la), .val (.int lb), .val (.int ca), .val (.int cb), .val (.int da), .val (.int db), .unset, .unset, .unset, .unset, .unset, .unset, .unset, .unset, .unset] [(.int ar1)]))
  refine P196.xs (fun hA hx hy t k => XS.istore hA hx rfl (hb hy at_99) rfl (l' := #[.val (.int p0), .val (.int p1), .val (.int p2), .val (.int p3), .val (.int p4), .val (.int la), .val (.int lb), .val (.int ca), .val (.int cb), .val (.int da), .val (.int db), .val (.int ar1), .unset, .unset, .unset, .unset, .unset, .unset, .unset, .unset]) rfl k) ?_
  show Go p e below _ (T196.setTop (mkF m 101 #[.val (.int p0), .val (.int p1), .val (.int p2), .val (.int p3), .val (.int p4), .val (.int la), .val (.int lb), .val (.int ca), .val (.int cb), .val (.int da), .val (.int db), .val (.int ar1), .unset, .unset, .unset, .unset, .unset, .unset, .unset, .unset] []))
  refine P196.xs (fun hA hx hy t k => XS.iload hA hx rfl (hb hy at_101) rfl  k) ?_
  show Go p e below _ (T196.setTop (mkF m 103 #[.val (.int p0), .val (.int p1), .val (.int p2), .val (.int p3), .val (.int p4), .val (.int la), .val (.int lb), .val (.int ca), .val (.int cb), .val (.int da), .val (.int db), .val (.int ar1), .unset, .unset, .unset, .unset, .unset, .unset, .unset, .unset] [(.int p4)]))
  refine P196.xs (fun hA hx hy t k => XS.bipush hA hx rfl (hb hy at_103) k) ?_
  show Go p e below _ (T196.setTop (mkF m 105 #[.val (.int p0), .val (.int p1), .val (.int p2), .val (.int p3), .val (.int p4), .val (.int la), .val (.int lb), .val (.int ca), .val (.int cb), .val (.int da), .val (.int db), .val (.int ar1), .unset, .unset, .unset, .unset, .unset, .unset, .unset, .unset] [(.int (6 : Int32)), (.int p4)]))
  refine P196.xs (fun hA hx hy t k => XS.iushr hA hx rfl (hb hy at_105) rfl k) ?_
  show Go p e below _ (T196.setTop (mkF m 106 #[.val (.int p0), .val (.int p1), .val (.int p2), .val (.int p3), .val (.int p4), .val (.int la), .val (.int lb), .val (.int ca), .val (.int cb), .val (.int da), .val (.int db), .val (.int ar1), .unset, .unset, .unset, .unset, .unset, .unset, .unset, .unset] [(.int ((p4.toUInt32 >>> ((6 : Int32) &&& 31).toUInt32).toInt32))]))
  refine P196.xs (fun hA hx hy t k => XS.iconst hA hx rfl (hb hy at_106) k) ?_
  show Go p e below _ (T196.setTop (mkF m 107 #[.val (.int p0), .val (.int p1), .val (.int p2), .val (.int p3), .val (.int p4), .val (.int la), .val (.int lb), .val (.int ca), .val (.int cb), .val (.int da), .val (.int db), .val (.int ar1), .unset, .unset, .unset, .unset, .unset, .unset, .unset, .unset] [(.int (1 : Int32)), (.int ((p4.toUInt32 >>> ((6 : Int32) &&& 31).toUInt32).toInt32))]))
  refine P196.xs (fun hA hx hy t k => XS.iand hA hx rfl (hb hy at_107) rfl k) ?_
  show Go p e below _ (T196.setTop (mkF m 108 #[.val (.int p0), .val (.int p1), .val (.int p2), .val (.int p3), .val (.int p4), .val (.int la), .val (.int lb), .val (.int ca), .val (.int cb), .val (.int da), .val (.int db), .val (.int ar1), .unset, .unset, .unset, .unset, .unset, .unset, .unset, .unset] [(.int (((p4.toUInt32 >>> ((6 : Int32) &&& 31).toUInt32).toInt32) &&& (1 : Int32)))]))
  suffices j4 : ∀ (T197 : State) (h197 : Heap) (ar2 : Int32), (¬ ar2 < 0) → Pos p l e room_1 s m #[(.int p0), (.int p1), (.int p2), (.int p3), (.int p4)] below meth c "com/example/qrew/qrew/logic/PredicateEqualsPinLaw" "law" code maxLocals ret Z a0 EL0 h0 [] T197 h197 0 0 → Go p e below (Fini Z [] h0 [] room_1 (Q_mLaw Z  h0) s) (T197.setTop (mkF m 120 #[.val (.int p0), .val (.int p1), .val (.int p2), .val (.int p3), .val (.int p4), .val (.int la), .val (.int lb), .val (.int ca), .val (.int cb), .val (.int da), .val (.int db), .val (.int ar1), .unset, .unset, .unset, .unset, .unset, .unset, .unset, .unset] [(.int ar2)])) by
    by_cases hk : (((p4.toUInt32 >>> ((6 : Int32) &&& 31).toUInt32).toInt32) &&& (1 : Int32)) = 0
    · refine P196.xs (fun hA hx hy t k => XS.ifYes hA hx rfl (pc0 := 108) (pc' := 116) rfl (hb hy at_108) rfl ((if0 _ _).trans (teq hk).1) (by decide) (by decide) k) ?_
      show Go p e below _ (T196.setTop (mkF m 116 #[.val (.int p0), .val (.int p1), .val (.int p2), .val (.int p3), .val (.int p4), .val (.int la), .val (.int lb), .val (.int ca), .val (.int cb), .val (.int da), .val (.int db), .val (.int ar1), .unset, .unset, .unset, .unset, .unset, .unset, .unset, .unset] []))
      refine P196.xs (fun hA hx hy t k => XS.iloadN hA hx rfl (hb hy at_116) rfl  k) ?_
      show Go p e below _ (T196.setTop (mkF m 117 #[.val (.int p0), .val (.int p1), .val (.int p2), .val (.int p3), .val (.int p4), .val (.int la), .val (.int lb), .val (.int ca), .val (.int cb), .val (.int da), .val (.int db), .val (.int ar1), .unset, .unset, .unset, .unset, .unset, .unset, .unset, .unset] [(.int p3)]))
      refine P196.ldcI (hw _ (List.mem_of_getElem? (i := 0) rfl)) at_117 ?_
      show Go p e below _ (T196.setTop (mkF m 119 #[.val (.int p0), .val (.int p1), .val (.int p2), .val (.int p3), .val (.int p4), .val (.int la), .val (.int lb), .val (.int ca), .val (.int cb), .val (.int da), .val (.int db), .val (.int ar1), .unset, .unset, .unset, .unset, .unset, .unset, .unset, .unset] [(.int (2147483647 : Int32)), (.int p3)]))
      refine P196.xs (fun hA hx hy t k => XS.iand hA hx rfl (hb hy at_119) rfl k) ?_
      show Go p e below _ (T196.setTop (mkF m 120 #[.val (.int p0), .val (.int p1), .val (.int p2), .val (.int p3), .val (.int p4), .val (.int la), .val (.int lb), .val (.int ca), .val (.int cb), .val (.int da), .val (.int db), .val (.int ar1), .unset, .unset, .unset, .unset, .unset, .unset, .unset, .unset] [(.int (p3 &&& (2147483647 : Int32)))]))
      exact j4 _ _ _ (mask31 _) (P196.wider (by decide) (by decide)) 
    · refine P196.xs (fun hA hx hy t k => XS.ifNo hA hx rfl (hb hy at_108) rfl ((if0 _ _).trans (feq hk).1) k) ?_
      show Go p e below _ (T196.setTop (mkF m 111 #[.val (.int p0), .val (.int p1), .val (.int p2), .val (.int p3), .val (.int p4), .val (.int la), .val (.int lb), .val (.int ca), .val (.int cb), .val (.int da), .val (.int db), .val (.int ar1), .unset, .unset, .unset, .unset, .unset, .unset, .unset, .unset] []))
      refine P196.xs (fun hA hx hy t k => XS.iload hA hx rfl (hb hy at_111) rfl  k) ?_
      show Go p e below _ (T196.setTop (mkF m 113 #[.val (.int p0), .val (.int p1), .val (.int p2), .val (.int p3), .val (.int p4), .val (.int la), .val (.int lb), .val (.int ca), .val (.int cb), .val (.int da), .val (.int db), .val (.int ar1), .unset, .unset, .unset, .unset, .unset, .unset, .unset, .unset] [(.int ar1)]))
      refine P196.xs (fun hA hx hy t k => XS.goto hA hx rfl (pc0 := 113) (pc' := 120) rfl (hb hy at_113) (by decide) (by decide) k) ?_
      show Go p e below _ (T196.setTop (mkF m 120 #[.val (.int p0), .val (.int p1), .val (.int p2), .val (.int p3), .val (.int p4), .val (.int la), .val (.int lb), .val (.int ca), .val (.int cb), .val (.int da), .val (.int db), .val (.int ar1), .unset, .unset, .unset, .unset, .unset, .unset, .unset, .unset] [(.int ar1)]))
      exact j4 _ _ _ har1 (P196.wider (by decide) (by decide)) 
  intro T197 h197 ar2 har2 P197 
  show Go p e below _ (T197.setTop (mkF m 120 #[.val (.int p0), .val (.int p1), .val (.int p2), .val (.int p3), .val (.int p4), .val (.int la), .val (.int lb), .val (.int ca), .val (.int cb), .val (.int da), .val (.int db), .val (.int ar1), .unset, .unset, .unset, .unset, .unset, .unset, .unset, .unset] [(.int ar2)]))
  refine P197.xs (fun hA hx hy t k => XS.istore hA hx rfl (hb hy at_120) rfl (l' := #[.val (.int p0), .val (.int p1), .val (.int p2), .val (.int p3), .val (.int p4), .val (.int la), .val (.int lb), .val (.int ca), .val (.int cb), .val (.int da), .val (.int db), .val (.int ar1), .val (.int ar2), .unset, .unset, .unset, .unset, .unset, .unset, .unset]) rfl k) ?_
  show Go p e below _ (T197.setTop (mkF m 122 #[.val (.int p0), .val (.int p1), .val (.int p2), .val (.int p3), .val (.int p4), .val (.int la), .val (.int lb), .val (.int ca), .val (.int cb), .val (.int da), .val (.int db), .val (.int ar1), .val (.int ar2), .unset, .unset, .unset, .unset, .unset, .unset, .unset] []))
  have lca := hca
  have lcb := hcb
  have lda := hda
  have ldb := hdb
  suffices j5 : ∀ (T198 : State) (h198 : Heap) (x1 : Addr), (Z.heap.size ≤ x1) → (h0.size ≤ x1) → Pos p l e room_1 s m #[(.int p0), (.int p1), (.int p2), (.int p3), (.int p4)] below meth c "com/example/qrew/qrew/logic/PredicateEqualsPinLaw" "law" code maxLocals ret Z a0 EL0 h0 [] T198 h198 6 16 → Sh Z h198 x1 (cs3 la ca cb 0) → Go p e below (Fini Z [] h0 [] room_1 (Q_mLaw Z  h0) s) (T198.setTop (mkF m 138 #[.val (.int p0), .val (.int p1), .val (.int p2), .val (.int p3), .val (.int p4), .val (.int la), .val (.int lb), .val (.int ca), .val (.int cb), .val (.int da), .val (.int db), .val (.int ar1), .val (.int ar2), .unset, .unset, .unset, .unset, .unset, .unset, .unset] [(.ref x1)])) by
    rcases hla with rfl | rfl | rfl
    · show Go p e below _ (T197.setTop (mkF m 122 #[.val (.int p0), .val (.int p1), .val (.int p2), .val (.int p3), .val (.int p4), .val (.int (0 : Int32)), .val (.int lb), .val (.int ca), .val (.int cb), .val (.int da), .val (.int db), .val (.int ar1), .val (.int ar2), .unset, .unset, .unset, .unset, .unset, .unset, .unset] []))
      refine P197.newO (hw _ (List.mem_of_getElem? (i := 1) rfl)) (hw _ (List.mem_of_getElem? (i := 2) rfl)) (hw _ (List.mem_of_getElem? (i := 3) rfl)) at_122 (by decide) (by decide) fun T199 h199 o199 g199 P199 E199 A199 D199 => ?_
      have gz_o199 : Z.heap.size ≤ o199 := Nat.le_trans P197.old.1 (Nat.le_of_eq g199.symm)
      have gw_o199 : h0.size ≤ o199 := Nat.le_trans P197.kept.1 (Nat.le_of_eq g199.symm)
      have F199_value : Fld Z h199 o199 "java/lang/String" "value" "[B" .null := D199 (Or.inr (hw _ (List.mem_of_getElem? (i := 21) rfl))) (ty := (.array .byte)) (by decide)
      have F199_coder : Fld Z h199 o199 "java/lang/String" "coder" "B" (.int (0 : Int32)) := D199 (Or.inr (hw _ (List.mem_of_getElem? (i := 22) rfl))) (ty := .byte) (by decide)
      have F199_hash : Fld Z h199 o199 "java/lang/String" "hash" "I" (.int (0 : Int32)) := D199 (Or.inl (hw _ (List.mem_of_getElem? (i := 69) rfl))) (ty := .int) (by decide)
      have F199_hashIsZero : Fld Z h199 o199 "java/lang/String" "hashIsZero" "Z" (.int (0 : Int32)) := D199 (Or.inl (hw _ (List.mem_of_getElem? (i := 71) rfl))) (ty := .boolean) (by decide)
      show Go p e below _ (T199.setTop (mkF m 125 #[.val (.int p0), .val (.int p1), .val (.int p2), .val (.int p3), .val (.int p4), .val (.int (0 : Int32)), .val (.int lb), .val (.int ca), .val (.int cb), .val (.int da), .val (.int db), .val (.int ar1), .val (.int ar2), .unset, .unset, .unset, .unset, .unset, .unset, .unset] [(.ref o199)]))
      refine P199.xs (fun hA hx hy t k => XS.dup hA hx rfl (hb hy at_125) rfl rfl k) ?_
      show Go p e below _ (T199.setTop (mkF m 126 #[.val (.int p0), .val (.int p1), .val (.int p2), .val (.int p3), .val (.int p4), .val (.int (0 : Int32)), .val (.int lb), .val (.int ca), .val (.int cb), .val (.int da), .val (.int db), .val (.int ar1), .val (.int ar2), .unset, .unset, .unset, .unset, .unset, .unset, .unset] [(.ref o199), (.ref o199)]))
      refine P199.xs (fun hA hx hy t k => XS.iload hA hx rfl (hb hy at_126) rfl  k) ?_
      show Go p e below _ (T199.setTop (mkF m 128 #[.val (.int p0), .val (.int p1), .val (.int p2), .val (.int p3), .val (.int p4), .val (.int (0 : Int32)), .val (.int lb), .val (.int ca), .val (.int cb), .val (.int da), .val (.int db), .val (.int ar1), .val (.int ar2), .unset, .unset, .unset, .unset, .unset, .unset, .unset] [(.int (0 : Int32)), (.ref o199), (.ref o199)]))
      refine P199.xs (fun hA hx hy t k => XS.iload hA hx rfl (hb hy at_128) rfl  k) ?_
      show Go p e below _ (T199.setTop (mkF m 130 #[.val (.int p0), .val (.int p1), .val (.int p2), .val (.int p3), .val (.int p4), .val (.int (0 : Int32)), .val (.int lb), .val (.int ca), .val (.int cb), .val (.int da), .val (.int db), .val (.int ar1), .val (.int ar2), .unset, .unset, .unset, .unset, .unset, .unset, .unset] [(.int ca), (.int (0 : Int32)), (.ref o199), (.ref o199)]))
      refine P199.xs (fun hA hx hy t k => XS.iload hA hx rfl (hb hy at_130) rfl  k) ?_
      show Go p e below _ (T199.setTop (mkF m 132 #[.val (.int p0), .val (.int p1), .val (.int p2), .val (.int p3), .val (.int p4), .val (.int (0 : Int32)), .val (.int lb), .val (.int ca), .val (.int cb), .val (.int da), .val (.int db), .val (.int ar1), .val (.int ar2), .unset, .unset, .unset, .unset, .unset, .unset, .unset] [(.int cb), (.int ca), (.int (0 : Int32)), (.ref o199), (.ref o199)]))
      refine P199.callS (hw _ (List.mem_of_getElem? (i := 4) rfl)) (hw _ (List.mem_of_getElem? (i := 5) rfl)) (hw _ (List.mem_of_getElem? (i := 6) rfl)) (hw _ (List.mem_of_getElem? (i := 7) rfl)) (by decide) (mChars0 l Z a0 hw EL0 hEL zc S0 Pz wc cc SH SC BX ca cb h199 P199.old lca lcb) (W := 2) (by decide) (by decide) (by decide) (by decide) all0 pd_13 (argsL := [(.int (0 : Int32)), (.int ca), (.int cb)]) rfl rfl rfl (Nat.le_of_eq rfl) at_132 fun v200 T200 h200 P200 K200 Q200 => ?_
      obtain ⟨o200, k200, rfl, g200, A200⟩ := Q200
      have ne_o199_o200 : o199 ≠ o200 := Nat.ne_of_lt (Nat.lt_of_lt_of_le A199.lt g200)
      have gz_o200 : Z.heap.size ≤ o200 := Nat.le_trans P199.old.1 g200
      have gw_o200 : h0.size ≤ o200 := Nat.le_trans P199.kept.1 g200
      show Go p e below _ (T200.setTop (mkF m 135 #[.val (.int p0), .val (.int p1), .val (.int p2), .val (.int p3), .val (.int p4), .val (.int (0 : Int32)), .val (.int lb), .val (.int ca), .val (.int cb), .val (.int da), .val (.int db), .val (.int ar1), .val (.int ar2), .unset, .unset, .unset, .unset, .unset, .unset, .unset] [(.ref o200), (.ref o199), (.ref o199)]))
      have Ec201 : Exa Z h200 o199 "java/lang/String" := (A199.keep K200)
      have Fc202 : Fld Z h200 o199 "java/lang/String" "value" "[B" .null := (F199_value.keep K200 nin0)
      have Fc203 : Fld Z h200 o199 "java/lang/String" "coder" "B" (.int (0 : Int32)) := (F199_coder.keep K200 nin0)
      have Fc204 : Fld Z h200 o199 "java/lang/String" "hash" "I" (.int (0 : Int32)) := (F199_hash.keep K200 nin0)
      have Fc205 : Fld Z h200 o199 "java/lang/String" "hashIsZero" "Z" (.int (0 : Int32)) := (F199_hashIsZero.keep K200 nin0)
      have hmem : ("java/lang/String", 7) ∈ EL0 := (by decide)
      refine P200.callI rfl (hw _ (List.mem_of_getElem? (i := 9) rfl)) (hw _ (List.mem_of_getElem? (i := 10) rfl)) (hw _ (List.mem_of_getElem? (i := 3) rfl)) (hw _ (List.mem_of_getElem? (i := 11) rfl)) (by decide) (initE1 l Z a0 hw EL0 hEL zc S0 Pz wc cc SH SC BX o199 o200 k200 h200 P200.old Ec201 Fc202 Fc203 gz_o199 hmem Fc204 Fc205 A200) (W := 1) (by decide) (by decide) (by decide) (by decide) (allS (Or.inr gw_o199) all0) pd_14 (argsL := [(.ref o200)]) rfl rfl rfl (Nat.le_of_eq rfl) at_135 fun v206 T206 h206 P206 K206 Q206 => ?_
      obtain ⟨rfl, E206, C206, Hh206, Hz206, b206, k206, V206, B206⟩ := Q206
      show Go p e below _ (T206.setTop (mkF m 138 #[.val (.int p0), .val (.int p1), .val (.int p2), .val (.int p3), .val (.int p4), .val (.int (0 : Int32)), .val (.int lb), .val (.int ca), .val (.int cb), .val (.int da), .val (.int db), .val (.int ar1), .val (.int ar2), .unset, .unset, .unset, .unset, .unset, .unset, .unset] [(.ref o199)]))
      have Sh207 : Sh Z h206 o199 [] := ⟨E206, lat0, (by decide), C206, Hh206, Hz206, b206, _, _, _, V206, B206, rfl, rfl, (fun q => absurd q (by decide))⟩
      have Ac208 : Arv Z h206 o200 k200 .char (0 : Int32) [] (.int (0 : Int32)) := (A200.keep K206 (ninS (Ne.symm ne_o199_o200) nin0))
      exact j5 _ _ _ gz_o199 gw_o199 (P206.wider (by decide) (by decide)) (by rw [cs3_0 (n := 0) rfl]; exact Sh207)
    · show Go p e below _ (T197.setTop (mkF m 122 #[.val (.int p0), .val (.int p1), .val (.int p2), .val (.int p3), .val (.int p4), .val (.int (1 : Int32)), .val (.int lb), .val (.int ca), .val (.int cb), .val (.int da), .val (.int db), .val (.int ar1), .val (.int ar2), .unset, .unset, .unset, .unset, .unset, .unset, .unset] []))
      refine P197.newO (hw _ (List.mem_of_getElem? (i := 1) rfl)) (hw _ (List.mem_of_getElem? (i := 2) rfl)) (hw _ (List.mem_of_getElem? (i := 3) rfl)) at_122 (by decide) (by decide) fun T209 h209 o209 g209 P209 E209 A209 D209 => ?_
      have gz_o209 : Z.heap.size ≤ o209 := Nat.le_trans P197.old.1 (Nat.le_of_eq g209.symm)
      have gw_o209 : h0.size ≤ o209 := Nat.le_trans P197.kept.1 (Nat.le_of_eq g209.symm)
      have F209_value : Fld Z h209 o209 "java/lang/String" "value" "[B" .null := D209 (Or.inr (hw _ (List.mem_of_getElem? (i := 21) rfl))) (ty := (.array .byte)) (by decide)
      have F209_coder : Fld Z h209 o209 "java/lang/String" "coder" "B" (.int (0 : Int32)) := D209 (Or.inr (hw _ (List.mem_of_getElem? (i := 22) rfl))) (ty := .byte) (by decide)
      have F209_hash : Fld Z h209 o209 "java/lang/String" "hash" "I" (.int (0 : Int32)) := D209 (Or.inl (hw _ (List.mem_of_getElem? (i := 69) rfl))) (ty := .int) (by decide)
      have F209_hashIsZero : Fld Z h209 o209 "java/lang/String" "hashIsZero" "Z" (.int (0 : Int32)) := D209 (Or.inl (hw _ (List.mem_of_getElem? (i := 71) rfl))) (ty := .boolean) (by decide)
      show Go p e below _ (T209.setTop (mkF m 125 #[.val (.int p0), .val (.int p1), .val (.int p2), .val (.int p3), .val (.int p4), .val (.int (1 : Int32)), .val (.int lb), .val (.int ca), .val (.int cb), .val (.int da), .val (.int db), .val (.int ar1), .val (.int ar2), .unset, .unset, .unset, .unset, .unset, .unset, .unset] [(.ref o209)]))
      refine P209.xs (fun hA hx hy t k => XS.dup hA hx rfl (hb hy at_125) rfl rfl k) ?_
      show Go p e below _ (T209.setTop (mkF m 126 #[.val (.int p0), .val (.int p1), .val (.int p2), .val (.int p3), .val (.int p4), .val (.int (1 : Int32)), .val (.int lb), .val (.int ca), .val (.int cb), .val (.int da), .val (.int db), .val (.int ar1), .val (.int ar2), .unset, .unset, .unset, .unset, .unset, .unset, .unset] [(.ref o209), (.ref o209)]))
      refine P209.xs (fun hA hx hy t k => XS.iload hA hx rfl (hb hy at_126) rfl  k) ?_
      show Go p e below _ (T209.setTop (mkF m 128 #[.val (.int p0), .val (.int p1), .val (.int p2), .val (.int p3), .val (.int p4), .val (.int (1 : Int32)), .val (.int lb), .val (.int ca), .val (.int cb), .val (.int da), .val (.int db), .val (.int ar1), .val (.int ar2), .unset, .unset, .unset, .unset, .unset, .unset, .unset] [(.int (1 : Int32)), (.ref o209), (.ref o209)]))
      refine P209.xs (fun hA hx hy t k => XS.iload hA hx rfl (hb hy at_128) rfl  k) ?_
      show Go p e below _ (T209.setTop (mkF m 130 #[.val (.int p0), .val (.int p1), .val (.int p2), .val (.int p3), .val (.int p4), .val (.int (1 : Int32)), .val (.int lb), .val (.int ca), .val (.int cb), .val (.int da), .val (.int db), .val (.int ar1), .val (.int ar2), .unset, .unset, .unset, .unset, .unset, .unset, .unset] [(.int ca), (.int (1 : Int32)), (.ref o209), (.ref o209)]))
      refine P209.xs (fun hA hx hy t k => XS.iload hA hx rfl (hb hy at_130) rfl  k) ?_
      show Go p e below _ (T209.setTop (mkF m 132 #[.val (.int p0), .val (.int p1), .val (.int p2), .val (.int p3), .val (.int p4), .val (.int (1 : Int32)), .val (.int lb), .val (.int ca), .val (.int cb), .val (.int da), .val (.int db), .val (.int ar1), .val (.int ar2), .unset, .unset, .unset, .unset, .unset, .unset, .unset] [(.int cb), (.int ca), (.int (1 : Int32)), (.ref o209), (.ref o209)]))
      refine P209.callS (hw _ (List.mem_of_getElem? (i := 4) rfl)) (hw _ (List.mem_of_getElem? (i := 5) rfl)) (hw _ (List.mem_of_getElem? (i := 6) rfl)) (hw _ (List.mem_of_getElem? (i := 7) rfl)) (by decide) (mChars1 l Z a0 hw EL0 hEL zc S0 Pz wc cc SH SC BX ca cb h209 P209.old lca lcb) (W := 2) (by decide) (by decide) (by decide) (by decide) all0 pd_13 (argsL := [(.int (1 : Int32)), (.int ca), (.int cb)]) rfl rfl rfl (Nat.le_of_eq rfl) at_132 fun v210 T210 h210 P210 K210 Q210 => ?_
      obtain ⟨o210, k210, rfl, g210, A210⟩ := Q210
      have ne_o209_o210 : o209 ≠ o210 := Nat.ne_of_lt (Nat.lt_of_lt_of_le A209.lt g210)
      have gz_o210 : Z.heap.size ≤ o210 := Nat.le_trans P209.old.1 g210
      have gw_o210 : h0.size ≤ o210 := Nat.le_trans P209.kept.1 g210
      show Go p e below _ (T210.setTop (mkF m 135 #[.val (.int p0), .val (.int p1), .val (.int p2), .val (.int p3), .val (.int p4), .val (.int (1 : Int32)), .val (.int lb), .val (.int ca), .val (.int cb), .val (.int da), .val (.int db), .val (.int ar1), .val (.int ar2), .unset, .unset, .unset, .unset, .unset, .unset, .unset] [(.ref o210), (.ref o209), (.ref o209)]))
      have Ec211 : Exa Z h210 o209 "java/lang/String" := (A209.keep K210)
      have Fc212 : Fld Z h210 o209 "java/lang/String" "value" "[B" .null := (F209_value.keep K210 nin0)
      have Fc213 : Fld Z h210 o209 "java/lang/String" "coder" "B" (.int (0 : Int32)) := (F209_coder.keep K210 nin0)
      have Fc214 : Fld Z h210 o209 "java/lang/String" "hash" "I" (.int (0 : Int32)) := (F209_hash.keep K210 nin0)
      have Fc215 : Fld Z h210 o209 "java/lang/String" "hashIsZero" "Z" (.int (0 : Int32)) := (F209_hashIsZero.keep K210 nin0)
      have hlat216 : ∀ c ∈ ([ca] : List Int32), ¬ c < 0 ∧ ¬ (255 : Int32) < c := (latS lca lat0)
      refine P210.specB (W := 1) (dc := 1) (dn := 1) (ws' := [o209]) (Qx := StrChars.Road.QA Z o209 (1 : Int32) ([ca] : List Int32) h210) rfl (hw _ (List.mem_of_getElem? (i := 9) rfl)) (hw _ (List.mem_of_getElem? (i := 10) rfl)) (hw _ (List.mem_of_getElem? (i := 11) rfl)) (by decide) (fun vm0 hZ => StrChars.Road.backArv (W := 1) hZ (wStr hw) (kI := 4) (hw _ (List.mem_of_getElem? (i := 2) rfl)) (cs := ([ca] : List Int32)) Ec211 Fc212 Fc213 A210 (S0.ext P210.old) Pz rfl (Nat.le_of_ble_eq_true rfl) (Nat.le_of_ble_eq_true rfl) (fun c hc => (hlat216 c hc).2) (by decide) (by decide)) rfl (fun v h' L q => ⟨fun y hy => by rw [q.2.1 y hy]; exact gz_o209, q.2.2.1⟩) (by decide) (by decide) (allS ⟨(Or.inr gw_o209), gz_o209⟩ all0) (fun vm hs hal hr => safe1 (safeNull hal Ec211 Fc212)) pd_14 (argsL := [(.ref o210)]) rfl rfl rfl (Nat.le_of_eq rfl) at_135 fun v216 T216 h216 L216 P216 Q216 => ?_
      obtain ⟨rfl, -, K216, -, E216, V216, C216, ⟨k216, f216, B216⟩, G216⟩ := Q216
      have Sh216 : Sh Z h216 o209 ([ca] : List Int32) := ⟨E216, hlat216, (Nat.le_of_ble_eq_true rfl), C216, (G216 _ _ _ _ Fc214 (slot_ne (Or.inl (hw _ (List.mem_of_getElem? (i := 69) rfl))) (Or.inr (hw _ (List.mem_of_getElem? (i := 21) rfl))) (by decide) (t := .int) (t' := (.array .byte)) (by decide) (by decide)) (slot_ne (Or.inl (hw _ (List.mem_of_getElem? (i := 69) rfl))) (Or.inr (hw _ (List.mem_of_getElem? (i := 22) rfl))) (by decide) (t := .int) (t' := .byte) (by decide) (by decide))), (G216 _ _ _ _ Fc215 (slot_ne (Or.inl (hw _ (List.mem_of_getElem? (i := 71) rfl))) (Or.inr (hw _ (List.mem_of_getElem? (i := 21) rfl))) (by decide) (t := .boolean) (t' := (.array .byte)) (by decide) (by decide)) (slot_ne (Or.inl (hw _ (List.mem_of_getElem? (i := 71) rfl))) (Or.inr (hw _ (List.mem_of_getElem? (i := 22) rfl))) (by decide) (t := .boolean) (t' := .byte) (by decide) (by decide))), _, k216, _, _, V216, B216, rfl, rfl, (fun _ => f216)⟩
      show Go p e below _ (T216.setTop (mkF m 138 #[.val (.int p0), .val (.int p1), .val (.int p2), .val (.int p3), .val (.int p4), .val (.int (1 : Int32)), .val (.int lb), .val (.int ca), .val (.int cb), .val (.int da), .val (.int db), .val (.int ar1), .val (.int ar2), .unset, .unset, .unset, .unset, .unset, .unset, .unset] [(.ref o209)]))
      have Ac217 : Arv Z h216 o210 k210 .char (1 : Int32) [(.int ca)] (.int (0 : Int32)) := (A210.keep K216 (ninS (Ne.symm ne_o209_o210) nin0))
      exact j5 _ _ _ gz_o209 gw_o209 (P216.wider (by decide) (by decide)) (by rw [cs3_1 (n := 1) (by decide) rfl]; exact Sh216)
    · show Go p e below _ (T197.setTop (mkF m 122 #[.val (.int p0), .val (.int p1), .val (.int p2), .val (.int p3), .val (.int p4), .val (.int (2 : Int32)), .val (.int lb), .val (.int ca), .val (.int cb), .val (.int da), .val (.int db), .val (.int ar1), .val (.int ar2), .unset, .unset, .unset, .unset, .unset, .unset, .unset] []))
      refine P197.newO (hw _ (List.mem_of_getElem? (i := 1) rfl)) (hw _ (List.mem_of_getElem? (i := 2) rfl)) (hw _ (List.mem_of_getElem? (i := 3) rfl)) at_122 (by decide) (by decide) fun T218 h218 o218 g218 P218 E218 A218 D218 => ?_
      have gz_o218 : Z.heap.size ≤ o218 := Nat.le_trans P197.old.1 (Nat.le_of_eq g218.symm)
      have gw_o218 : h0.size ≤ o218 := Nat.le_trans P197.kept.1 (Nat.le_of_eq g218.symm)
      have F218_value : Fld Z h218 o218 "java/lang/String" "value" "[B" .null := D218 (Or.inr (hw _ (List.mem_of_getElem? (i := 21) rfl))) (ty := (.array .byte)) (by decide)
      have F218_coder : Fld Z h218 o218 "java/lang/String" "coder" "B" (.int (0 : Int32)) := D218 (Or.inr (hw _ (List.mem_of_getElem? (i := 22) rfl))) (ty := .byte) (by decide)
      have F218_hash : Fld Z h218 o218 "java/lang/String" "hash" "I" (.int (0 : Int32)) := D218 (Or.inl (hw _ (List.mem_of_getElem? (i := 69) rfl))) (ty := .int) (by decide)
      have F218_hashIsZero : Fld Z h218 o218 "java/lang/String" "hashIsZero" "Z" (.int (0 : Int32)) := D218 (Or.inl (hw _ (List.mem_of_getElem? (i := 71) rfl))) (ty := .boolean) (by decide)
      show Go p e below _ (T218.setTop (mkF m 125 #[.val (.int p0), .val (.int p1), .val (.int p2), .val (.int p3), .val (.int p4), .val (.int (2 : Int32)), .val (.int lb), .val (.int ca), .val (.int cb), .val (.int da), .val (.int db), .val (.int ar1), .val (.int ar2), .unset, .unset, .unset, .unset, .unset, .unset, .unset] [(.ref o218)]))
      refine P218.xs (fun hA hx hy t k => XS.dup hA hx rfl (hb hy at_125) rfl rfl k) ?_
      show Go p e below _ (T218.setTop (mkF m 126 #[.val (.int p0), .val (.int p1), .val (.int p2), .val (.int p3), .val (.int p4), .val (.int (2 : Int32)), .val (.int lb), .val (.int ca), .val (.int cb), .val (.int da), .val (.int db), .val (.int ar1), .val (.int ar2), .unset, .unset, .unset, .unset, .unset, .unset, .unset] [(.ref o218), (.ref o218)]))
      refine P218.xs (fun hA hx hy t k => XS.iload hA hx rfl (hb hy at_126) rfl  k) ?_
      show Go p e below _ (T218.setTop (mkF m 128 #[.val (.int p0), .val (.int p1), .val (.int p2), .val (.int p3), .val (.int p4), .val (.int (2 : Int32)), .val (.int lb), .val (.int ca), .val (.int cb), .val (.int da), .val (.int db), .val (.int ar1), .val (.int ar2), .unset, .unset, .unset, .unset, .unset, .unset, .unset] [(.int (2 : Int32)), (.ref o218), (.ref o218)]))
      refine P218.xs (fun hA hx hy t k => XS.iload hA hx rfl (hb hy at_128) rfl  k) ?_
      show Go p e below _ (T218.setTop (mkF m 130 #[.val (.int p0), .val (.int p1), .val (.int p2), .val (.int p3), .val (.int p4), .val (.int (2 : Int32)), .val (.int lb), .val (.int ca), .val (.int cb), .val (.int da), .val (.int db), .val (.int ar1), .val (.int ar2), .unset, .unset, .unset, .unset, .unset, .unset, .unset] [(.int ca), (.int (2 : Int32)), (.ref o218), (.ref o218)]))
      refine P218.xs (fun hA hx hy t k => XS.iload hA hx rfl (hb hy at_130) rfl  k) ?_
      show Go p e below _ (T218.setTop (mkF m 132 #[.val (.int p0), .val (.int p1), .val (.int p2), .val (.int p3), .val (.int p4), .val (.int (2 : Int32)), .val (.int lb), .val (.int ca), .val (.int cb), .val (.int da), .val (.int db), .val (.int ar1), .val (.int ar2), .unset, .unset, .unset, .unset, .unset, .unset, .unset] [(.int cb), (.int ca), (.int (2 : Int32)), (.ref o218), (.ref o218)]))
      refine P218.callS (hw _ (List.mem_of_getElem? (i := 4) rfl)) (hw _ (List.mem_of_getElem? (i := 5) rfl)) (hw _ (List.mem_of_getElem? (i := 6) rfl)) (hw _ (List.mem_of_getElem? (i := 7) rfl)) (by decide) (mChars2 l Z a0 hw EL0 hEL zc S0 Pz wc cc SH SC BX ca cb h218 P218.old lca lcb) (W := 2) (by decide) (by decide) (by decide) (by decide) all0 pd_13 (argsL := [(.int (2 : Int32)), (.int ca), (.int cb)]) rfl rfl rfl (Nat.le_of_eq rfl) at_132 fun v219 T219 h219 P219 K219 Q219 => ?_
      obtain ⟨o219, k219, rfl, g219, A219⟩ := Q219
      have ne_o218_o219 : o218 ≠ o219 := Nat.ne_of_lt (Nat.lt_of_lt_of_le A218.lt g219)
      have gz_o219 : Z.heap.size ≤ o219 := Nat.le_trans P218.old.1 g219
      have gw_o219 : h0.size ≤ o219 := Nat.le_trans P218.kept.1 g219
      show Go p e below _ (T219.setTop (mkF m 135 #[.val (.int p0), .val (.int p1), .val (.int p2), .val (.int p3), .val (.int p4), .val (.int (2 : Int32)), .val (.int lb), .val (.int ca), .val (.int cb), .val (.int da), .val (.int db), .val (.int ar1), .val (.int ar2), .unset, .unset, .unset, .unset, .unset, .unset, .unset] [(.ref o219), (.ref o218), (.ref o218)]))
      have Ec220 : Exa Z h219 o218 "java/lang/String" := (A218.keep K219)
      have Fc221 : Fld Z h219 o218 "java/lang/String" "value" "[B" .null := (F218_value.keep K219 nin0)
      have Fc222 : Fld Z h219 o218 "java/lang/String" "coder" "B" (.int (0 : Int32)) := (F218_coder.keep K219 nin0)
      have Fc223 : Fld Z h219 o218 "java/lang/String" "hash" "I" (.int (0 : Int32)) := (F218_hash.keep K219 nin0)
      have Fc224 : Fld Z h219 o218 "java/lang/String" "hashIsZero" "Z" (.int (0 : Int32)) := (F218_hashIsZero.keep K219 nin0)
      have hlat225 : ∀ c ∈ ([ca, cb] : List Int32), ¬ c < 0 ∧ ¬ (255 : Int32) < c := (latS lca (latS lcb lat0))
      refine P219.specB (W := 1) (dc := 1) (dn := 2) (ws' := [o218]) (Qx := StrChars.Road.QA Z o218 (2 : Int32) ([ca, cb] : List Int32) h219) rfl (hw _ (List.mem_of_getElem? (i := 9) rfl)) (hw _ (List.mem_of_getElem? (i := 10) rfl)) (hw _ (List.mem_of_getElem? (i := 11) rfl)) (by decide) (fun vm0 hZ => StrChars.Road.backArv (W := 1) hZ (wStr hw) (kI := 4) (hw _ (List.mem_of_getElem? (i := 2) rfl)) (cs := ([ca, cb] : List Int32)) Ec220 Fc221 Fc222 A219 (S0.ext P219.old) Pz rfl (Nat.le_of_ble_eq_true rfl) (Nat.le_of_ble_eq_true rfl) (fun c hc => (hlat225 c hc).2) (by decide) (by decide)) rfl (fun v h' L q => ⟨fun y hy => by rw [q.2.1 y hy]; exact gz_o218, q.2.2.1⟩) (by decide) (by decide) (allS ⟨(Or.inr gw_o218), gz_o218⟩ all0) (fun vm hs hal hr => safe1 (safeNull hal Ec220 Fc221)) pd_14 (argsL := [(.ref o219)]) rfl rfl rfl (Nat.le_of_eq rfl) at_135 fun v225 T225 h225 L225 P225 Q225 => ?_
      obtain ⟨rfl, -, K225, -, E225, V225, C225, ⟨k225, f225, B225⟩, G225⟩ := Q225
      have Sh225 : Sh Z h225 o218 ([ca, cb] : List Int32) := ⟨E225, hlat225, (Nat.le_of_ble_eq_true rfl), C225, (G225 _ _ _ _ Fc223 (slot_ne (Or.inl (hw _ (List.mem_of_getElem? (i := 69) rfl))) (Or.inr (hw _ (List.mem_of_getElem? (i := 21) rfl))) (by decide) (t := .int) (t' := (.array .byte)) (by decide) (by decide)) (slot_ne (Or.inl (hw _ (List.mem_of_getElem? (i := 69) rfl))) (Or.inr (hw _ (List.mem_of_getElem? (i := 22) rfl))) (by decide) (t := .int) (t' := .byte) (by decide) (by decide))), (G225 _ _ _ _ Fc224 (slot_ne (Or.inl (hw _ (List.mem_of_getElem? (i := 71) rfl))) (Or.inr (hw _ (List.mem_of_getElem? (i := 21) rfl))) (by decide) (t := .boolean) (t' := (.array .byte)) (by decide) (by decide)) (slot_ne (Or.inl (hw _ (List.mem_of_getElem? (i := 71) rfl))) (Or.inr (hw _ (List.mem_of_getElem? (i := 22) rfl))) (by decide) (t := .boolean) (t' := .byte) (by decide) (by decide))), _, k225, _, _, V225, B225, rfl, rfl, (fun _ => f225)⟩
      show Go p e below _ (T225.setTop (mkF m 138 #[.val (.int p0), .val (.int p1), .val (.int p2), .val (.int p3), .val (.int p4), .val (.int (2 : Int32)), .val (.int lb), .val (.int ca), .val (.int cb), .val (.int da), .val (.int db), .val (.int ar1), .val (.int ar2), .unset, .unset, .unset, .unset, .unset, .unset, .unset] [(.ref o218)]))
      have Ac226 : Arv Z h225 o219 k219 .char (2 : Int32) [(.int ca), (.int cb)] (.int (0 : Int32)) := (A219.keep K225 (ninS (Ne.symm ne_o218_o219) nin0))
      exact j5 _ _ _ gz_o218 gw_o218 (P225.wider (by decide) (by decide)) (by rw [cs3_2 (n := 2) (by decide) (by decide) rfl]; exact Sh225)
  intro T198 h198 x1 gz_x1 gw_x1 P198 f198_0
  show Go p e below _ (T198.setTop (mkF m 138 #[.val (.int p0), .val (.int p1), .val (.int p2), .val (.int p3), .val (.int p4), .val (.int la), .val (.int lb), .val (.int ca), .val (.int cb), .val (.int da), .val (.int db), .val (.int ar1), .val (.int ar2), .unset, .unset, .unset, .unset, .unset, .unset, .unset] [(.ref x1)]))
  refine P198.xs (fun hA hx hy t k => XS.astore hA hx rfl (hb hy at_138) rfl rfl (l' := #[.val (.int p0), .val (.int p1), .val (.int p2), .val (.int p3), .val (.int p4), .val (.int la), .val (.int lb), .val (.int ca), .val (.int cb), .val (.int da), .val (.int db), .val (.int ar1), .val (.int ar2), .val (.ref x1), .unset, .unset, .unset, .unset, .unset, .unset]) rfl k) ?_
  show Go p e below _ (T198.setTop (mkF m 140 #[.val (.int p0), .val (.int p1), .val (.int p2), .val (.int p3), .val (.int p4), .val (.int la), .val (.int lb), .val (.int ca), .val (.int cb), .val (.int da), .val (.int db), .val (.int ar1), .val (.int ar2), .val (.ref x1), .unset, .unset, .unset, .unset, .unset, .unset] []))
  suffices j6 : ∀ (T227 : State) (h227 : Heap) (x2 : Addr), (Z.heap.size ≤ x2) → (h0.size ≤ x2) → (x1 ≠ x2) → Pos p l e room_1 s m #[(.int p0), (.int p1), (.int p2), (.int p3), (.int p4)] below meth c "com/example/qrew/qrew/logic/PredicateEqualsPinLaw" "law" code maxLocals ret Z a0 EL0 h0 [] T227 h227 12 32 → Sh Z h227 x1 (cs3 la ca cb 0) → Sh Z h227 x2 (cs3 lb da db 0) → Go p e below (Fini Z [] h0 [] room_1 (Q_mLaw Z  h0) s) (T227.setTop (mkF m 156 #[.val (.int p0), .val (.int p1), .val (.int p2), .val (.int p3), .val (.int p4), .val (.int la), .val (.int lb), .val (.int ca), .val (.int cb), .val (.int da), .val (.int db), .val (.int ar1), .val (.int ar2), .val (.ref x1), .unset, .unset, .unset, .unset, .unset, .unset] [(.ref x2)])) by
    rcases hlb with rfl | rfl | rfl
    · show Go p e below _ (T198.setTop (mkF m 140 #[.val (.int p0), .val (.int p1), .val (.int p2), .val (.int p3), .val (.int p4), .val (.int la), .val (.int (0 : Int32)), .val (.int ca), .val (.int cb), .val (.int da), .val (.int db), .val (.int ar1), .val (.int ar2), .val (.ref x1), .unset, .unset, .unset, .unset, .unset, .unset] []))
      refine P198.newO (hw _ (List.mem_of_getElem? (i := 1) rfl)) (hw _ (List.mem_of_getElem? (i := 2) rfl)) (hw _ (List.mem_of_getElem? (i := 3) rfl)) at_140 (by decide) (by decide) fun T228 h228 o228 g228 P228 E228 A228 D228 => ?_
      have ne_x1_o228 : x1 ≠ o228 := Nat.ne_of_lt (Nat.lt_of_lt_of_le f198_0.1.lt (Nat.le_of_eq g228.symm))
      have gz_o228 : Z.heap.size ≤ o228 := Nat.le_trans P198.old.1 (Nat.le_of_eq g228.symm)
      have gw_o228 : h0.size ≤ o228 := Nat.le_trans P198.kept.1 (Nat.le_of_eq g228.symm)
      have F228_value : Fld Z h228 o228 "java/lang/String" "value" "[B" .null := D228 (Or.inr (hw _ (List.mem_of_getElem? (i := 21) rfl))) (ty := (.array .byte)) (by decide)
      have F228_coder : Fld Z h228 o228 "java/lang/String" "coder" "B" (.int (0 : Int32)) := D228 (Or.inr (hw _ (List.mem_of_getElem? (i := 22) rfl))) (ty := .byte) (by decide)
      have F228_hash : Fld Z h228 o228 "java/lang/String" "hash" "I" (.int (0 : Int32)) := D228 (Or.inl (hw _ (List.mem_of_getElem? (i := 69) rfl))) (ty := .int) (by decide)
      have F228_hashIsZero : Fld Z h228 o228 "java/lang/String" "hashIsZero" "Z" (.int (0 : Int32)) := D228 (Or.inl (hw _ (List.mem_of_getElem? (i := 71) rfl))) (ty := .boolean) (by decide)
      show Go p e below _ (T228.setTop (mkF m 143 #[.val (.int p0), .val (.int p1), .val (.int p2), .val (.int p3), .val (.int p4), .val (.int la), .val (.int (0 : Int32)), .val (.int ca), .val (.int cb), .val (.int da), .val (.int db), .val (.int ar1), .val (.int ar2), .val (.ref x1), .unset, .unset, .unset, .unset, .unset, .unset] [(.ref o228)]))
      refine P228.xs (fun hA hx hy t k => XS.dup hA hx rfl (hb hy at_143) rfl rfl k) ?_
      show Go p e below _ (T228.setTop (mkF m 144 #[.val (.int p0), .val (.int p1), .val (.int p2), .val (.int p3), .val (.int p4), .val (.int la), .val (.int (0 : Int32)), .val (.int ca), .val (.int cb), .val (.int da), .val (.int db), .val (.int ar1), .val (.int ar2), .val (.ref x1), .unset, .unset, .unset, .unset, .unset, .unset] [(.ref o228), (.ref o228)]))
      refine P228.xs (fun hA hx hy t k => XS.iload hA hx rfl (hb hy at_144) rfl  k) ?_
      show Go p e below _ (T228.setTop (mkF m 146 #[.val (.int p0), .val (.int p1), .val (.int p2), .val (.int p3), .val (.int p4), .val (.int la), .val (.int (0 : Int32)), .val (.int ca), .val (.int cb), .val (.int da), .val (.int db), .val (.int ar1), .val (.int ar2), .val (.ref x1), .unset, .unset, .unset, .unset, .unset, .unset] [(.int (0 : Int32)), (.ref o228), (.ref o228)]))
      refine P228.xs (fun hA hx hy t k => XS.iload hA hx rfl (hb hy at_146) rfl  k) ?_
      show Go p e below _ (T228.setTop (mkF m 148 #[.val (.int p0), .val (.int p1), .val (.int p2), .val (.int p3), .val (.int p4), .val (.int la), .val (.int (0 : Int32)), .val (.int ca), .val (.int cb), .val (.int da), .val (.int db), .val (.int ar1), .val (.int ar2), .val (.ref x1), .unset, .unset, .unset, .unset, .unset, .unset] [(.int da), (.int (0 : Int32)), (.ref o228), (.ref o228)]))
      refine P228.xs (fun hA hx hy t k => XS.iload hA hx rfl (hb hy at_148) rfl  k) ?_
      show Go p e below _ (T228.setTop (mkF m 150 #[.val (.int p0), .val (.int p1), .val (.int p2), .val (.int p3), .val (.int p4), .val (.int la), .val (.int (0 : Int32)), .val (.int ca), .val (.int cb), .val (.int da), .val (.int db), .val (.int ar1), .val (.int ar2), .val (.ref x1), .unset, .unset, .unset, .unset, .unset, .unset] [(.int db), (.int da), (.int (0 : Int32)), (.ref o228), (.ref o228)]))
      have Ec230 : Exa Z h228 x1 "java/lang/String" := (f198_0.1.ext E228)
      have Sc231 : Sh Z h228 x1 (cs3 la ca cb 0) := (f198_0.ext E228)
      refine P228.callS (hw _ (List.mem_of_getElem? (i := 4) rfl)) (hw _ (List.mem_of_getElem? (i := 5) rfl)) (hw _ (List.mem_of_getElem? (i := 6) rfl)) (hw _ (List.mem_of_getElem? (i := 7) rfl)) (by decide) (mChars0 l Z a0 hw EL0 hEL zc S0 Pz wc cc SH SC BX da db h228 P228.old lda ldb) (W := 2) (by decide) (by decide) (by decide) (by decide) all0 pd_13 (argsL := [(.int (0 : Int32)), (.int da), (.int db)]) rfl rfl rfl (Nat.le_of_eq rfl) at_150 fun v229 T229 h229 P229 K229 Q229 => ?_
      obtain ⟨o229, k229, rfl, g229, A229⟩ := Q229
      have ne_x1_o229 : x1 ≠ o229 := Nat.ne_of_lt (Nat.lt_of_lt_of_le Ec230.lt g229)
      have ne_o228_o229 : o228 ≠ o229 := Nat.ne_of_lt (Nat.lt_of_lt_of_le A228.lt g229)
      have gz_o229 : Z.heap.size ≤ o229 := Nat.le_trans P228.old.1 g229
      have gw_o229 : h0.size ≤ o229 := Nat.le_trans P228.kept.1 g229
      show Go p e below _ (T229.setTop (mkF m 153 #[.val (.int p0), .val (.int p1), .val (.int p2), .val (.int p3), .val (.int p4), .val (.int la), .val (.int (0 : Int32)), .val (.int ca), .val (.int cb), .val (.int da), .val (.int db), .val (.int ar1), .val (.int ar2), .val (.ref x1), .unset, .unset, .unset, .unset, .unset, .unset] [(.ref o229), (.ref o228), (.ref o228)]))
      have Ec232 : Exa Z h229 x1 "java/lang/String" := (Ec230.keep K229)
      have Ec233 : Exa Z h229 o228 "java/lang/String" := (A228.keep K229)
      have Fc234 : Fld Z h229 o228 "java/lang/String" "value" "[B" .null := (F228_value.keep K229 nin0)
      have Fc235 : Fld Z h229 o228 "java/lang/String" "coder" "B" (.int (0 : Int32)) := (F228_coder.keep K229 nin0)
      have Fc236 : Fld Z h229 o228 "java/lang/String" "hash" "I" (.int (0 : Int32)) := (F228_hash.keep K229 nin0)
      have Fc237 : Fld Z h229 o228 "java/lang/String" "hashIsZero" "Z" (.int (0 : Int32)) := (F228_hashIsZero.keep K229 nin0)
      have Sc238 : Sh Z h229 x1 (cs3 la ca cb 0) := (Sc231.keep K229 all0)
      have hmem : ("java/lang/String", 7) ∈ EL0 := (by decide)
      refine P229.callI rfl (hw _ (List.mem_of_getElem? (i := 9) rfl)) (hw _ (List.mem_of_getElem? (i := 10) rfl)) (hw _ (List.mem_of_getElem? (i := 3) rfl)) (hw _ (List.mem_of_getElem? (i := 11) rfl)) (by decide) (initE1 l Z a0 hw EL0 hEL zc S0 Pz wc cc SH SC BX o228 o229 k229 h229 P229.old Ec233 Fc234 Fc235 gz_o228 hmem Fc236 Fc237 A229) (W := 1) (by decide) (by decide) (by decide) (by decide) (allS (Or.inr gw_o228) all0) pd_14 (argsL := [(.ref o229)]) rfl rfl rfl (Nat.le_of_eq rfl) at_153 fun v239 T239 h239 P239 K239 Q239 => ?_
      obtain ⟨rfl, E239, C239, Hh239, Hz239, b239, k239, V239, B239⟩ := Q239
      show Go p e below _ (T239.setTop (mkF m 156 #[.val (.int p0), .val (.int p1), .val (.int p2), .val (.int p3), .val (.int p4), .val (.int la), .val (.int (0 : Int32)), .val (.int ca), .val (.int cb), .val (.int da), .val (.int db), .val (.int ar1), .val (.int ar2), .val (.ref x1), .unset, .unset, .unset, .unset, .unset, .unset] [(.ref o228)]))
      have Sh240 : Sh Z h239 o228 [] := ⟨E239, lat0, (by decide), C239, Hh239, Hz239, b239, _, _, _, V239, B239, rfl, rfl, (fun q => absurd q (by decide))⟩
      have Ec241 : Exa Z h239 x1 "java/lang/String" := (Ec232.keep K239)
      have Ac242 : Arv Z h239 o229 k229 .char (0 : Int32) [] (.int (0 : Int32)) := (A229.keep K239 (ninS (Ne.symm ne_o228_o229) nin0))
      have Sc243 : Sh Z h239 x1 (cs3 la ca cb 0) := (Sc238.keep K239 (allS ⟨ne_x1_o228, (nbE Ec233 (hw _ (List.mem_of_getElem? (i := 2) rfl)))⟩ all0))
      exact j6 _ _ _ gz_o228 gw_o228 ne_x1_o228 (P239.wider (by decide) (by decide)) Sc243 (by rw [cs3_0 (n := 0) rfl]; exact Sh240)
    · show Go p e below _ (T198.setTop (mkF m 140 #[.val (.int p0), .val (.int p1), .val (.int p2), .val (.int p3), .val (.int p4), .val (.int la), .val (.int (1 : Int32)), .val (.int ca), .val (.int cb), .val (.int da), .val (.int db), .val (.int ar1), .val (.int ar2), .val (.ref x1), .unset, .unset, .unset, .unset, .unset, .unset] []))
      refine P198.newO (hw _ (List.mem_of_getElem? (i := 1) rfl)) (hw _ (List.mem_of_getElem? (i := 2) rfl)) (hw _ (List.mem_of_getElem? (i := 3) rfl)) at_140 (by decide) (by decide) fun T244 h244 o244 g244 P244 E244 A244 D244 => ?_
      have ne_x1_o244 : x1 ≠ o244 := Nat.ne_of_lt (Nat.lt_of_lt_of_le f198_0.1.lt (Nat.le_of_eq g244.symm))
      have gz_o244 : Z.heap.size ≤ o244 := Nat.le_trans P198.old.1 (Nat.le_of_eq g244.symm)
      have gw_o244 : h0.size ≤ o244 := Nat.le_trans P198.kept.1 (Nat.le_of_eq g244.symm)
      have F244_value : Fld Z h244 o244 "java/lang/String" "value" "[B" .null := D244 (Or.inr (hw _ (List.mem_of_getElem? (i := 21) rfl))) (ty := (.array .byte)) (by decide)
      have F244_coder : Fld Z h244 o244 "java/lang/String" "coder" "B" (.int (0 : Int32)) := D244 (Or.inr (hw _ (List.mem_of_getElem? (i := 22) rfl))) (ty := .byte) (by decide)
      have F244_hash : Fld Z h244 o244 "java/lang/String" "hash" "I" (.int (0 : Int32)) := D244 (Or.inl (hw _ (List.mem_of_getElem? (i := 69) rfl))) (ty := .int) (by decide)
      have F244_hashIsZero : Fld Z h244 o244 "java/lang/String" "hashIsZero" "Z" (.int (0 : Int32)) := D244 (Or.inl (hw _ (List.mem_of_getElem? (i := 71) rfl))) (ty := .boolean) (by decide)
      show Go p e below _ (T244.setTop (mkF m 143 #[.val (.int p0), .val (.int p1), .val (.int p2), .val (.int p3), .val (.int p4), .val (.int la), .val (.int (1 : Int32)), .val (.int ca), .val (.int cb), .val (.int da), .val (.int db), .val (.int ar1), .val (.int ar2), .val (.ref x1), .unset, .unset, .unset, .unset, .unset, .unset] [(.ref o244)]))
      refine P244.xs (fun hA hx hy t k => XS.dup hA hx rfl (hb hy at_143) rfl rfl k) ?_
      show Go p e below _ (T244.setTop (mkF m 144 #[.val (.int p0), .val (.int p1), .val (.int p2), .val (.int p3), .val (.int p4), .val (.int la), .val (.int (1 : Int32)), .val (.int ca), .val (.int cb), .val (.int da), .val (.int db), .val (.int ar1), .val (.int ar2), .val (.ref x1), .unset, .unset, .unset, .unset, .unset, .unset] [(.ref o244), (.ref o244)]))
      refine P244.xs (fun hA hx hy t k => XS.iload hA hx rfl (hb hy at_144) rfl  k) ?_
      show Go p e below _ (T244.setTop (mkF m 146 #[.val (.int p0), .val (.int p1), .val (.int p2), .val (.int p3), .val (.int p4), .val (.int la), .val (.int (1 : Int32)), .val (.int ca), .val (.int cb), .val (.int da), .val (.int db), .val (.int ar1), .val (.int ar2), .val (.ref x1), .unset, .unset, .unset, .unset, .unset, .unset] [(.int (1 : Int32)), (.ref o244), (.ref o244)]))
      refine P244.xs (fun hA hx hy t k => XS.iload hA hx rfl (hb hy at_146) rfl  k) ?_
      show Go p e below _ (T244.setTop (mkF m 148 #[.val (.int p0), .val (.int p1), .val (.int p2), .val (.int p3), .val (.int p4), .val (.int la), .val (.int (1 : Int32)), .val (.int ca), .val (.int cb), .val (.int da), .val (.int db), .val (.int ar1), .val (.int ar2), .val (.ref x1), .unset, .unset, .unset, .unset, .unset, .unset] [(.int da), (.int (1 : Int32)), (.ref o244), (.ref o244)]))
      refine P244.xs (fun hA hx hy t k => XS.iload hA hx rfl (hb hy at_148) rfl  k) ?_
      show Go p e below _ (T244.setTop (mkF m 150 #[.val (.int p0), .val (.int p1), .val (.int p2), .val (.int p3), .val (.int p4), .val (.int la), .val (.int (1 : Int32)), .val (.int ca), .val (.int cb), .val (.int da), .val (.int db), .val (.int ar1), .val (.int ar2), .val (.ref x1), .unset, .unset, .unset, .unset, .unset, .unset] [(.int db), (.int da), (.int (1 : Int32)), (.ref o244), (.ref o244)]))
      have Ec246 : Exa Z h244 x1 "java/lang/String" := (f198_0.1.ext E244)
      have Sc247 : Sh Z h244 x1 (cs3 la ca cb 0) := (f198_0.ext E244)
      refine P244.callS (hw _ (List.mem_of_getElem? (i := 4) rfl)) (hw _ (List.mem_of_getElem? (i := 5) rfl)) (hw _ (List.mem_of_getElem? (i := 6) rfl)) (hw _ (List.mem_of_getElem? (i := 7) rfl)) (by decide) (mChars1 l Z a0 hw EL0 hEL zc S0 Pz wc cc SH SC BX da db h244 P244.old lda ldb) (W := 2) (by decide) (by decide) (by decide) (by decide) all0 pd_13 (argsL := [(.int (1 : Int32)), (.int da), (.int db)]) rfl rfl rfl (Nat.le_of_eq rfl) at_150 fun v245 T245 h245 P245 K245 Q245 => ?_
      obtain ⟨o245, k245, rfl, g245, A245⟩ := Q245
      have ne_x1_o245 : x1 ≠ o245 := Nat.ne_of_lt (Nat.lt_of_lt_of_le Ec246.lt g245)
      have ne_o244_o245 : o244 ≠ o245 := Nat.ne_of_lt (Nat.lt_of_lt_of_le A244.lt g245)
      have gz_o245 : Z.heap.size ≤ o245 := Nat.le_trans P244.old.1 g245
      have gw_o245 : h0.size ≤ o245 := Nat.le_trans P244.kept.1 g245
      show Go p e below _ (T245.setTop (mkF m 153 #[.val (.int p0), .val (.int p1), .val (.int p2), .val (.int p3), .val (.int p4), .val (.int la), .val (.int (1 : Int32)), .val (.int ca), .val (.int cb), .val (.int da), .val (.int db), .val (.int ar1), .val (.int ar2), .val (.ref x1), .unset, .unset, .unset, .unset, .unset, .unset] [(.ref o245), (.ref o244), (.ref o244)]))
      have Ec248 : Exa Z h245 x1 "java/lang/String" := (Ec246.keep K245)
      have Ec249 : Exa Z h245 o244 "java/lang/String" := (A244.keep K245)
      have Fc250 : Fld Z h245 o244 "java/lang/String" "value" "[B" .null := (F244_value.keep K245 nin0)
      have Fc251 : Fld Z h245 o244 "java/lang/String" "coder" "B" (.int (0 : Int32)) := (F244_coder.keep K245 nin0)
      have Fc252 : Fld Z h245 o244 "java/lang/String" "hash" "I" (.int (0 : Int32)) := (F244_hash.keep K245 nin0)
      have Fc253 : Fld Z h245 o244 "java/lang/String" "hashIsZero" "Z" (.int (0 : Int32)) := (F244_hashIsZero.keep K245 nin0)
      have Sc254 : Sh Z h245 x1 (cs3 la ca cb 0) := (Sc247.keep K245 all0)
      have hlat255 : ∀ c ∈ ([da] : List Int32), ¬ c < 0 ∧ ¬ (255 : Int32) < c := (latS lda lat0)
      refine P245.specB (W := 1) (dc := 1) (dn := 1) (ws' := [o244]) (Qx := StrChars.Road.QA Z o244 (1 : Int32) ([da] : List Int32) h245) rfl (hw _ (List.mem_of_getElem? (i := 9) rfl)) (hw _ (List.mem_of_getElem? (i := 10) rfl)) (hw _ (List.mem_of_getElem? (i := 11) rfl)) (by decide) (fun vm0 hZ => StrChars.Road.backArv (W := 1) hZ (wStr hw) (kI := 4) (hw _ (List.mem_of_getElem? (i := 2) rfl)) (cs := ([da] : List Int32)) Ec249 Fc250 Fc251 A245 (S0.ext P245.old) Pz rfl (Nat.le_of_ble_eq_true rfl) (Nat.le_of_ble_eq_true rfl) (fun c hc => (hlat255 c hc).2) (by decide) (by decide)) rfl (fun v h' L q => ⟨fun y hy => by rw [q.2.1 y hy]; exact gz_o244, q.2.2.1⟩) (by decide) (by decide) (allS ⟨(Or.inr gw_o244), gz_o244⟩ all0) (fun vm hs hal hr => safe1 (safeNull hal Ec249 Fc250)) pd_14 (argsL := [(.ref o245)]) rfl rfl rfl (Nat.le_of_eq rfl) at_153 fun v255 T255 h255 L255 P255 Q255 => ?_
      obtain ⟨rfl, -, K255, -, E255, V255, C255, ⟨k255, f255, B255⟩, G255⟩ := Q255
      have Sh255 : Sh Z h255 o244 ([da] : List Int32) := ⟨E255, hlat255, (Nat.le_of_ble_eq_true rfl), C255, (G255 _ _ _ _ Fc252 (slot_ne (Or.inl (hw _ (List.mem_of_getElem? (i := 69) rfl))) (Or.inr (hw _ (List.mem_of_getElem? (i := 21) rfl))) (by decide) (t := .int) (t' := (.array .byte)) (by decide) (by decide)) (slot_ne (Or.inl (hw _ (List.mem_of_getElem? (i := 69) rfl))) (Or.inr (hw _ (List.mem_of_getElem? (i := 22) rfl))) (by decide) (t := .int) (t' := .byte) (by decide) (by decide))), (G255 _ _ _ _ Fc253 (slot_ne (Or.inl (hw _ (List.mem_of_getElem? (i := 71) rfl))) (Or.inr (hw _ (List.mem_of_getElem? (i := 21) rfl))) (by decide) (t := .boolean) (t' := (.array .byte)) (by decide) (by decide)) (slot_ne (Or.inl (hw _ (List.mem_of_getElem? (i := 71) rfl))) (Or.inr (hw _ (List.mem_of_getElem? (i := 22) rfl))) (by decide) (t := .boolean) (t' := .byte) (by decide) (by decide))), _, k255, _, _, V255, B255, rfl, rfl, (fun _ => f255)⟩
      show Go p e below _ (T255.setTop (mkF m 156 #[.val (.int p0), .val (.int p1), .val (.int p2), .val (.int p3), .val (.int p4), .val (.int la), .val (.int (1 : Int32)), .val (.int ca), .val (.int cb), .val (.int da), .val (.int db), .val (.int ar1), .val (.int ar2), .val (.ref x1), .unset, .unset, .unset, .unset, .unset, .unset] [(.ref o244)]))
      have Ec256 : Exa Z h255 x1 "java/lang/String" := (Ec248.keep K255)
      have Ac257 : Arv Z h255 o245 k245 .char (1 : Int32) [(.int da)] (.int (0 : Int32)) := (A245.keep K255 (ninS (Ne.symm ne_o244_o245) nin0))
      have Sc258 : Sh Z h255 x1 (cs3 la ca cb 0) := (Sc254.keep K255 (allS ⟨ne_x1_o244, (nbE Ec249 (hw _ (List.mem_of_getElem? (i := 2) rfl)))⟩ all0))
      exact j6 _ _ _ gz_o244 gw_o244 ne_x1_o244 (P255.wider (by decide) (by decide)) Sc258 (by rw [cs3_1 (n := 1) (by decide) rfl]; exact Sh255)
    · show Go p e below _ (T198.setTop (mkF m 140 #[.val (.int p0), .val (.int p1), .val (.int p2), .val (.int p3), .val (.int p4), .val (.int la), .val (.int (2 : Int32)), .val (.int ca), .val (.int cb), .val (.int da), .val (.int db), .val (.int ar1), .val (.int ar2), .val (.ref x1), .unset, .unset, .unset, .unset, .unset, .unset] []))
      refine P198.newO (hw _ (List.mem_of_getElem? (i := 1) rfl)) (hw _ (List.mem_of_getElem? (i := 2) rfl)) (hw _ (List.mem_of_getElem? (i := 3) rfl)) at_140 (by decide) (by decide) fun T259 h259 o259 g259 P259 E259 A259 D259 => ?_
      have ne_x1_o259 : x1 ≠ o259 := Nat.ne_of_lt (Nat.lt_of_lt_of_le f198_0.1.lt (Nat.le_of_eq g259.symm))
      have gz_o259 : Z.heap.size ≤ o259 := Nat.le_trans P198.old.1 (Nat.le_of_eq g259.symm)
      have gw_o259 : h0.size ≤ o259 := Nat.le_trans P198.kept.1 (Nat.le_of_eq g259.symm)
      have F259_value : Fld Z h259 o259 "java/lang/String" "value" "[B" .null := D259 (Or.inr (hw _ (List.mem_of_getElem? (i := 21) rfl))) (ty := (.array .byte)) (by decide)
      have F259_coder : Fld Z h259 o259 "java/lang/String" "coder" "B" (.int (0 : Int32)) := D259 (Or.inr (hw _ (List.mem_of_getElem? (i := 22) rfl))) (ty := .byte) (by decide)
      have F259_hash : Fld Z h259 o259 "java/lang/String" "hash" "I" (.int (0 : Int32)) := D259 (Or.inl (hw _ (List.mem_of_getElem? (i := 69) rfl))) (ty := .int) (by decide)
      have F259_hashIsZero : Fld Z h259 o259 "java/lang/String" "hashIsZero" "Z" (.int (0 : Int32)) := D259 (Or.inl (hw _ (List.mem_of_getElem? (i := 71) rfl))) (ty := .boolean) (by decide)
      show Go p e below _ (T259.setTop (mkF m 143 #[.val (.int p0), .val (.int p1), .val (.int p2), .val (.int p3), .val (.int p4), .val (.int la), .val (.int (2 : Int32)), .val (.int ca), .val (.int cb), .val (.int da), .val (.int db), .val (.int ar1), .val (.int ar2), .val (.ref x1), .unset, .unset, .unset, .unset, .unset, .unset] [(.ref o259)]))
      refine P259.xs (fun hA hx hy t k => XS.dup hA hx rfl (hb hy at_143) rfl rfl k) ?_
      show Go p e below _ (T259.setTop (mkF m 144 #[.val (.int p0), .val (.int p1), .val (.int p2), .val (.int p3), .val (.int p4), .val (.int la), .val (.int (2 : Int32)), .val (.int ca), .val (.int cb), .val (.int da), .val (.int db), .val (.int ar1), .val (.int ar2), .val (.ref x1), .unset, .unset, .unset, .unset, .unset, .unset] [(.ref o259), (.ref o259)]))
      refine P259.xs (fun hA hx hy t k => XS.iload hA hx rfl (hb hy at_144) rfl  k) ?_
      show Go p e below _ (T259.setTop (mkF m 146 #[.val (.int p0), .val (.int p1), .val (.int p2), .val (.int p3), .val (.int p4), .val (.int la), .val (.int (2 : Int32)), .val (.int ca), .val (.int cb), .val (.int da), .val (.int db), .val (.int ar1), .val (.int ar2), .val (.ref x1), .unset, .unset, .unset, .unset, .unset, .unset] [(.int (2 : Int32)), (.ref o259), (.ref o259)]))
      refine P259.xs (fun hA hx hy t k => XS.iload hA hx rfl (hb hy at_146) rfl  k) ?_
      show Go p e below _ (T259.setTop (mkF m 148 #[.val (.int p0), .val (.int p1), .val (.int p2), .val (.int p3), .val (.int p4), .val (.int la), .val (.int (2 : Int32)), .val (.int ca), .val (.int cb), .val (.int da), .val (.int db), .val (.int ar1), .val (.int ar2), .val (.ref x1), .unset, .unset, .unset, .unset, .unset, .unset] [(.int da), (.int (2 : Int32)), (.ref o259), (.ref o259)]))
      refine P259.xs (fun hA hx hy t k => XS.iload hA hx rfl (hb hy at_148) rfl  k) ?_
      show Go p e below _ (T259.setTop (mkF m 150 #[.val (.int p0), .val (.int p1), .val (.int p2), .val (.int p3), .val (.int p4), .val (.int la), .val (.int (2 : Int32)), .val (.int ca), .val (.int cb), .val (.int da), .val (.int db), .val (.int ar1), .val (.int ar2), .val (.ref x1), .unset, .unset, .unset, .unset, .unset, .unset] [(.int db), (.int da), (.int (2 : Int32)), (.ref o259), (.ref o259)]))
      have Ec261 : Exa Z h259 x1 "java/lang/String" := (f198_0.1.ext E259)
      have Sc262 : Sh Z h259 x1 (cs3 la ca cb 0) := (f198_0.ext E259)
      refine P259.callS (hw _ (List.mem_of_getElem? (i := 4) rfl)) (hw _ (List.mem_of_getElem? (i := 5) rfl)) (hw _ (List.mem_of_getElem? (i := 6) rfl)) (hw _ (List.mem_of_getElem? (i := 7) rfl)) (by decide) (mChars2 l Z a0 hw EL0 hEL zc S0 Pz wc cc SH SC BX da db h259 P259.old lda ldb) (W := 2) (by decide) (by decide) (by decide) (by decide) all0 pd_13 (argsL := [(.int (2 : Int32)), (.int da), (.int db)]) rfl rfl rfl (Nat.le_of_eq rfl) at_150 fun v260 T260 h260 P260 K260 Q260 => ?_
      obtain ⟨o260, k260, rfl, g260, A260⟩ := Q260
      have ne_x1_o260 : x1 ≠ o260 := Nat.ne_of_lt (Nat.lt_of_lt_of_le Ec261.lt g260)
      have ne_o259_o260 : o259 ≠ o260 := Nat.ne_of_lt (Nat.lt_of_lt_of_le A259.lt g260)
      have gz_o260 : Z.heap.size ≤ o260 := Nat.le_trans P259.old.1 g260
      have gw_o260 : h0.size ≤ o260 := Nat.le_trans P259.kept.1 g260
      show Go p e below _ (T260.setTop (mkF m 153 #[.val (.int p0), .val (.int p1), .val (.int p2), .val (.int p3), .val (.int p4), .val (.int la), .val (.int (2 : Int32)), .val (.int ca), .val (.int cb), .val (.int da), .val (.int db), .val (.int ar1), .val (.int ar2), .val (.ref x1), .unset, .unset, .unset, .unset, .unset, .unset] [(.ref o260), (.ref o259), (.ref o259)]))
      have Ec263 : Exa Z h260 x1 "java/lang/String" := (Ec261.keep K260)
      have Ec264 : Exa Z h260 o259 "java/lang/String" := (A259.keep K260)
      have Fc265 : Fld Z h260 o259 "java/lang/String" "value" "[B" .null := (F259_value.keep K260 nin0)
      have Fc266 : Fld Z h260 o259 "java/lang/String" "coder" "B" (.int (0 : Int32)) := (F259_coder.keep K260 nin0)
      have Fc267 : Fld Z h260 o259 "java/lang/String" "hash" "I" (.int (0 : Int32)) := (F259_hash.keep K260 nin0)
      have Fc268 : Fld Z h260 o259 "java/lang/String" "hashIsZero" "Z" (.int (0 : Int32)) := (F259_hashIsZero.keep K260 nin0)
      have Sc269 : Sh Z h260 x1 (cs3 la ca cb 0) := (Sc262.keep K260 all0)
      have hlat270 : ∀ c ∈ ([da, db] : List Int32), ¬ c < 0 ∧ ¬ (255 : Int32) < c := (latS lda (latS ldb lat0))
      refine P260.specB (W := 1) (dc := 1) (dn := 2) (ws' := [o259]) (Qx := StrChars.Road.QA Z o259 (2 : Int32) ([da, db] : List Int32) h260) rfl (hw _ (List.mem_of_getElem? (i := 9) rfl)) (hw _ (List.mem_of_getElem? (i := 10) rfl)) (hw _ (List.mem_of_getElem? (i := 11) rfl)) (by decide) (fun vm0 hZ => StrChars.Road.backArv (W := 1) hZ (wStr hw) (kI := 4) (hw _ (List.mem_of_getElem? (i := 2) rfl)) (cs := ([da, db] : List Int32)) Ec264 Fc265 Fc266 A260 (S0.ext P260.old) Pz rfl (Nat.le_of_ble_eq_true rfl) (Nat.le_of_ble_eq_true rfl) (fun c hc => (hlat270 c hc).2) (by decide) (by decide)) rfl (fun v h' L q => ⟨fun y hy => by rw [q.2.1 y hy]; exact gz_o259, q.2.2.1⟩) (by decide) (by decide) (allS ⟨(Or.inr gw_o259), gz_o259⟩ all0) (fun vm hs hal hr => safe1 (safeNull hal Ec264 Fc265)) pd_14 (argsL := [(.ref o260)]) rfl rfl rfl (Nat.le_of_eq rfl) at_153 fun v270 T270 h270 L270 P270 Q270 => ?_
      obtain ⟨rfl, -, K270, -, E270, V270, C270, ⟨k270, f270, B270⟩, G270⟩ := Q270
      have Sh270 : Sh Z h270 o259 ([da, db] : List Int32) := ⟨E270, hlat270, (Nat.le_of_ble_eq_true rfl), C270, (G270 _ _ _ _ Fc267 (slot_ne (Or.inl (hw _ (List.mem_of_getElem? (i := 69) rfl))) (Or.inr (hw _ (List.mem_of_getElem? (i := 21) rfl))) (by decide) (t := .int) (t' := (.array .byte)) (by decide) (by decide)) (slot_ne (Or.inl (hw _ (List.mem_of_getElem? (i := 69) rfl))) (Or.inr (hw _ (List.mem_of_getElem? (i := 22) rfl))) (by decide) (t := .int) (t' := .byte) (by decide) (by decide))), (G270 _ _ _ _ Fc268 (slot_ne (Or.inl (hw _ (List.mem_of_getElem? (i := 71) rfl))) (Or.inr (hw _ (List.mem_of_getElem? (i := 21) rfl))) (by decide) (t := .boolean) (t' := (.array .byte)) (by decide) (by decide)) (slot_ne (Or.inl (hw _ (List.mem_of_getElem? (i := 71) rfl))) (Or.inr (hw _ (List.mem_of_getElem? (i := 22) rfl))) (by decide) (t := .boolean) (t' := .byte) (by decide) (by decide))), _, k270, _, _, V270, B270, rfl, rfl, (fun _ => f270)⟩
      show Go p e below _ (T270.setTop (mkF m 156 #[.val (.int p0), .val (.int p1), .val (.int p2), .val (.int p3), .val (.int p4), .val (.int la), .val (.int (2 : Int32)), .val (.int ca), .val (.int cb), .val (.int da), .val (.int db), .val (.int ar1), .val (.int ar2), .val (.ref x1), .unset, .unset, .unset, .unset, .unset, .unset] [(.ref o259)]))
      have Ec271 : Exa Z h270 x1 "java/lang/String" := (Ec263.keep K270)
      have Ac272 : Arv Z h270 o260 k260 .char (2 : Int32) [(.int da), (.int db)] (.int (0 : Int32)) := (A260.keep K270 (ninS (Ne.symm ne_o259_o260) nin0))
      have Sc273 : Sh Z h270 x1 (cs3 la ca cb 0) := (Sc269.keep K270 (allS ⟨ne_x1_o259, (nbE Ec264 (hw _ (List.mem_of_getElem? (i := 2) rfl)))⟩ all0))
      exact j6 _ _ _ gz_o259 gw_o259 ne_x1_o259 (P270.wider (by decide) (by decide)) Sc273 (by rw [cs3_2 (n := 2) (by decide) (by decide) rfl]; exact Sh270)
  intro T227 h227 x2 gz_x2 gw_x2 ne_x1_x2 P227 f227_0 f227_1
  show Go p e below _ (T227.setTop (mkF m 156 #[.val (.int p0), .val (.int p1), .val (.int p2), .val (.int p3), .val (.int p4), .val (.int la), .val (.int lb), .val (.int ca), .val (.int cb), .val (.int da), .val (.int db), .val (.int ar1), .val (.int ar2), .val (.ref x1), .unset, .unset, .unset, .unset, .unset, .unset] [(.ref x2)]))
  have Pf274 := P227.forget
  refine Pf274.xs (fun hA hx hy t k => XS.astore hA hx rfl (hb hy at_156) rfl rfl (l' := #[.val (.int p0), .val (.int p1), .val (.int p2), .val (.int p3), .val (.int p4), .val (.int la), .val (.int lb), .val (.int ca), .val (.int cb), .val (.int da), .val (.int db), .val (.int ar1), .val (.int ar2), .val (.ref x1), .val (.ref x2), .unset, .unset, .unset, .unset, .unset]) rfl k) ?_
  show Go p e below _ (T227.setTop (mkF m 158 #[.val (.int p0), .val (.int p1), .val (.int p2), .val (.int p3), .val (.int p4), .val (.int la), .val (.int lb), .val (.int ca), .val (.int cb), .val (.int da), .val (.int db), .val (.int ar1), .val (.int ar2), .val (.ref x1), .val (.ref x2), .unset, .unset, .unset, .unset, .unset] []))
  refine Pf274.newO (hw _ (List.mem_of_getElem? (i := 27) rfl)) (hw _ (List.mem_of_getElem? (i := 28) rfl)) (hw _ (List.mem_of_getElem? (i := 29) rfl)) at_158 (by decide) (by decide) fun T275 h275 o275 g275 P275 E275 A275 D275 => ?_
  have ne_x1_o275 : x1 ≠ o275 := Nat.ne_of_lt (Nat.lt_of_lt_of_le f227_0.1.lt (Nat.le_of_eq g275.symm))
  have ne_x2_o275 : x2 ≠ o275 := Nat.ne_of_lt (Nat.lt_of_lt_of_le f227_1.1.lt (Nat.le_of_eq g275.symm))
  have gz_o275 : Z.heap.size ≤ o275 := Nat.le_trans Pf274.old.1 (Nat.le_of_eq g275.symm)
  have gw_o275 : h0.size ≤ o275 := Nat.le_trans Pf274.kept.1 (Nat.le_of_eq g275.symm)
  have F275_name : Fld Z h275 o275 "com/example/qrew/qrew/logic/Predicate" "name" "Ljava/lang/String;" .null := D275 (Or.inr (hw _ (List.mem_of_getElem? (i := 41) rfl))) (ty := (.object "java/lang/String")) (by decide)
  have F275_arity : Fld Z h275 o275 "com/example/qrew/qrew/logic/Predicate" "arity" "I" (.int (0 : Int32)) := D275 (Or.inr (hw _ (List.mem_of_getElem? (i := 43) rfl))) (ty := .int) (by decide)
  have F275_hash : Fld Z h275 o275 "com/example/qrew/qrew/logic/Predicate" "hash" "I" (.int (0 : Int32)) := D275 (Or.inr (hw _ (List.mem_of_getElem? (i := 91) rfl))) (ty := .int) (by decide)
  show Go p e below _ (T275.setTop (mkF m 161 #[.val (.int p0), .val (.int p1), .val (.int p2), .val (.int p3), .val (.int p4), .val (.int la), .val (.int lb), .val (.int ca), .val (.int cb), .val (.int da), .val (.int db), .val (.int ar1), .val (.int ar2), .val (.ref x1), .val (.ref x2), .unset, .unset, .unset, .unset, .unset] [(.ref o275)]))
  refine P275.xs (fun hA hx hy t k => XS.dup hA hx rfl (hb hy at_161) rfl rfl k) ?_
  show Go p e below _ (T275.setTop (mkF m 162 #[.val (.int p0), .val (.int p1), .val (.int p2), .val (.int p3), .val (.int p4), .val (.int la), .val (.int lb), .val (.int ca), .val (.int cb), .val (.int da), .val (.int db), .val (.int ar1), .val (.int ar2), .val (.ref x1), .val (.ref x2), .unset, .unset, .unset, .unset, .unset] [(.ref o275), (.ref o275)]))
  refine P275.xs (fun hA hx hy t k => XS.aload hA hx rfl (hb hy at_162) rfl rfl  k) ?_
  show Go p e below _ (T275.setTop (mkF m 164 #[.val (.int p0), .val (.int p1), .val (.int p2), .val (.int p3), .val (.int p4), .val (.int la), .val (.int lb), .val (.int ca), .val (.int cb), .val (.int da), .val (.int db), .val (.int ar1), .val (.int ar2), .val (.ref x1), .val (.ref x2), .unset, .unset, .unset, .unset, .unset] [(.ref x1), (.ref o275), (.ref o275)]))
  refine P275.xs (fun hA hx hy t k => XS.iload hA hx rfl (hb hy at_164) rfl  k) ?_
  show Go p e below _ (T275.setTop (mkF m 166 #[.val (.int p0), .val (.int p1), .val (.int p2), .val (.int p3), .val (.int p4), .val (.int la), .val (.int lb), .val (.int ca), .val (.int cb), .val (.int da), .val (.int db), .val (.int ar1), .val (.int ar2), .val (.ref x1), .val (.ref x2), .unset, .unset, .unset, .unset, .unset] [(.int ar1), (.ref x1), (.ref o275), (.ref o275)]))
  have Ec277 : Exa Z h275 x1 "java/lang/String" := (f227_0.1.ext E275)
  have Ec278 : Exa Z h275 x2 "java/lang/String" := (f227_1.1.ext E275)
  have Sc279 : Sh Z h275 x1 (cs3 la ca cb 0) := (f227_0.ext E275)
  have Sc280 : Sh Z h275 x2 (cs3 lb da db 0) := (f227_1.ext E275)
  refine P275.callI rfl (hw _ (List.mem_of_getElem? (i := 30) rfl)) (hw _ (List.mem_of_getElem? (i := 31) rfl)) (hw _ (List.mem_of_getElem? (i := 29) rfl)) (hw _ (List.mem_of_getElem? (i := 32) rfl)) (by decide) (mPred l Z a0 hw [] EW.nil zc S0 Pz wc cc SH SC BX o275 x1 ar1 (cs3 la ca cb 0) h275 P275.old A275 F275_name F275_arity F275_hash gz_o275 gz_x1 har1 Sc279) (W := 1) (by decide) (by decide) (by decide) (by decide) (allS (Or.inr gw_o275) (allS (Or.inr gw_x1) all0)) pd_15 (argsL := [(.ref x1), (.int ar1)]) rfl rfl rfl (Nat.le_of_eq rfl) at_166 fun v276 T276 h276 P276 K276 Q276 => ?_
  obtain ⟨rfl, E276, Fn276, Fa276, Ss276⟩ := Q276
  show Go p e below _ (T276.setTop (mkF m 169 #[.val (.int p0), .val (.int p1), .val (.int p2), .val (.int p3), .val (.int p4), .val (.int la), .val (.int lb), .val (.int ca), .val (.int cb), .val (.int da), .val (.int db), .val (.int ar1), .val (.int ar2), .val (.ref x1), .val (.ref x2), .unset, .unset, .unset, .unset, .unset] [(.ref o275)]))
  refine P276.xs (fun hA hx hy t k => XS.astore hA hx rfl (hb hy at_169) rfl rfl (l' := #[.val (.int p0), .val (.int p1), .val (.int p2), .val (.int p3), .val (.int p4), .val (.int la), .val (.int lb), .val (.int ca), .val (.int cb), .val (.int da), .val (.int db), .val (.int ar1), .val (.int ar2), .val (.ref x1), .val (.ref x2), .val (.ref o275), .unset, .unset, .unset, .unset]) rfl k) ?_
  show Go p e below _ (T276.setTop (mkF m 171 #[.val (.int p0), .val (.int p1), .val (.int p2), .val (.int p3), .val (.int p4), .val (.int la), .val (.int lb), .val (.int ca), .val (.int cb), .val (.int da), .val (.int db), .val (.int ar1), .val (.int ar2), .val (.ref x1), .val (.ref x2), .val (.ref o275), .unset, .unset, .unset, .unset] []))
  refine P276.xs (fun hA hx hy t k => XS.iload hA hx rfl (hb hy at_171) rfl  k) ?_
  show Go p e below _ (T276.setTop (mkF m 173 #[.val (.int p0), .val (.int p1), .val (.int p2), .val (.int p3), .val (.int p4), .val (.int la), .val (.int lb), .val (.int ca), .val (.int cb), .val (.int da), .val (.int db), .val (.int ar1), .val (.int ar2), .val (.ref x1), .val (.ref x2), .val (.ref o275), .unset, .unset, .unset, .unset] [(.int p4)]))
  refine P276.xs (fun hA hx hy t k => XS.bipush hA hx rfl (hb hy at_173) k) ?_
  show Go p e below _ (T276.setTop (mkF m 175 #[.val (.int p0), .val (.int p1), .val (.int p2), .val (.int p3), .val (.int p4), .val (.int la), .val (.int lb), .val (.int ca), .val (.int cb), .val (.int da), .val (.int db), .val (.int ar1), .val (.int ar2), .val (.ref x1), .val (.ref x2), .val (.ref o275), .unset, .unset, .unset, .unset] [(.int (8 : Int32)), (.int p4)]))
  refine P276.xs (fun hA hx hy t k => XS.iushr hA hx rfl (hb hy at_175) rfl k) ?_
  show Go p e below _ (T276.setTop (mkF m 176 #[.val (.int p0), .val (.int p1), .val (.int p2), .val (.int p3), .val (.int p4), .val (.int la), .val (.int lb), .val (.int ca), .val (.int cb), .val (.int da), .val (.int db), .val (.int ar1), .val (.int ar2), .val (.ref x1), .val (.ref x2), .val (.ref o275), .unset, .unset, .unset, .unset] [(.int ((p4.toUInt32 >>> ((8 : Int32) &&& 31).toUInt32).toInt32))]))
  refine P276.xs (fun hA hx hy t k => XS.iconst hA hx rfl (hb hy at_176) k) ?_
  show Go p e below _ (T276.setTop (mkF m 177 #[.val (.int p0), .val (.int p1), .val (.int p2), .val (.int p3), .val (.int p4), .val (.int la), .val (.int lb), .val (.int ca), .val (.int cb), .val (.int da), .val (.int db), .val (.int ar1), .val (.int ar2), .val (.ref x1), .val (.ref x2), .val (.ref o275), .unset, .unset, .unset, .unset] [(.int (3 : Int32)), (.int ((p4.toUInt32 >>> ((8 : Int32) &&& 31).toUInt32).toInt32))]))
  refine P276.xs (fun hA hx hy t k => XS.iand hA hx rfl (hb hy at_177) rfl k) ?_
  show Go p e below _ (T276.setTop (mkF m 178 #[.val (.int p0), .val (.int p1), .val (.int p2), .val (.int p3), .val (.int p4), .val (.int la), .val (.int lb), .val (.int ca), .val (.int cb), .val (.int da), .val (.int db), .val (.int ar1), .val (.int ar2), .val (.ref x1), .val (.ref x2), .val (.ref o275), .unset, .unset, .unset, .unset] [(.int (((p4.toUInt32 >>> ((8 : Int32) &&& 31).toUInt32).toInt32) &&& (3 : Int32)))]))
  generalize hkd : (((p4.toUInt32 >>> ((8 : Int32) &&& 31).toUInt32).toInt32) &&& (3 : Int32)) = kd
  refine P276.xs (fun hA hx hy t k => XS.istore hA hx rfl (hb hy at_178) rfl (l' := #[.val (.int p0), .val (.int p1), .val (.int p2), .val (.int p3), .val (.int p4), .val (.int la), .val (.int lb), .val (.int ca), .val (.int cb), .val (.int da), .val (.int db), .val (.int ar1), .val (.int ar2), .val (.ref x1), .val (.ref x2), .val (.ref o275), .val (.int kd), .unset, .unset, .unset]) rfl k) ?_
  show Go p e below _ (T276.setTop (mkF m 180 #[.val (.int p0), .val (.int p1), .val (.int p2), .val (.int p3), .val (.int p4), .val (.int la), .val (.int lb), .val (.int ca), .val (.int cb), .val (.int da), .val (.int db), .val (.int ar1), .val (.int ar2), .val (.ref x1), .val (.ref x2), .val (.ref o275), .val (.int kd), .unset, .unset, .unset] []))
  refine P276.xs (fun hA hx hy t k => XS.iload hA hx rfl (hb hy at_180) rfl  k) ?_
  show Go p e below _ (T276.setTop (mkF m 182 #[.val (.int p0), .val (.int p1), .val (.int p2), .val (.int p3), .val (.int p4), .val (.int la), .val (.int lb), .val (.int ca), .val (.int cb), .val (.int da), .val (.int db), .val (.int ar1), .val (.int ar2), .val (.ref x1), .val (.ref x2), .val (.ref o275), .val (.int kd), .unset, .unset, .unset] [(.int kd)]))
  refine P276.xs (fun hA hx hy t k => XS.iconst hA hx rfl (hb hy at_182) k) ?_
  show Go p e below _ (T276.setTop (mkF m 183 #[.val (.int p0), .val (.int p1), .val (.int p2), .val (.int p3), .val (.int p4), .val (.int la), .val (.int lb), .val (.int ca), .val (.int cb), .val (.int da), .val (.int db), .val (.int ar1), .val (.int ar2), .val (.ref x1), .val (.ref x2), .val (.ref o275), .val (.int kd), .unset, .unset, .unset] [(.int (1 : Int32)), (.int kd)]))
  by_cases hm1 : kd = 1
  · refine P276.xs (fun hA hx hy t k => XS.icmpNo hA hx rfl (hb hy at_183) rfl (teq hm1).2 k) ?_
    show Go p e below _ (T276.setTop (mkF m 186 #[.val (.int p0), .val (.int p1), .val (.int p2), .val (.int p3), .val (.int p4), .val (.int la), .val (.int lb), .val (.int ca), .val (.int cb), .val (.int da), .val (.int db), .val (.int ar1), .val (.int ar2), .val (.ref x1), .val (.ref x2), .val (.ref o275), .val (.int kd), .unset, .unset, .unset] []))
    refine P276.xs (fun hA hx hy t k => XS.aload hA hx rfl (hb hy at_186) rfl rfl  k) ?_
    show Go p e below _ (T276.setTop (mkF m 188 #[.val (.int p0), .val (.int p1), .val (.int p2), .val (.int p3), .val (.int p4), .val (.int la), .val (.int lb), .val (.int ca), .val (.int cb), .val (.int da), .val (.int db), .val (.int ar1), .val (.int ar2), .val (.ref x1), .val (.ref x2), .val (.ref o275), .val (.int kd), .unset, .unset, .unset] [(.ref o275)]))
    refine P276.xs (fun hA hx hy t k => XS.aconstNull hA hx rfl (hb hy at_188) k) ?_
    show Go p e below _ (T276.setTop (mkF m 189 #[.val (.int p0), .val (.int p1), .val (.int p2), .val (.int p3), .val (.int p4), .val (.int la), .val (.int lb), .val (.int ca), .val (.int cb), .val (.int da), .val (.int db), .val (.int ar1), .val (.int ar2), .val (.ref x1), .val (.ref x2), .val (.ref o275), .val (.int kd), .unset, .unset, .unset] [.null, (.ref o275)]))
    have Ec282 : Exa Z h276 x1 "java/lang/String" := Ss276.1
    have Ec283 : Exa Z h276 x2 "java/lang/String" := (Ec278.keep K276)
    have Sc284 : Sh Z h276 x2 (cs3 lb da db 0) := (Sc280.keep K276 (allS ⟨ne_x2_o275, (nbE A275 (hw _ (List.mem_of_getElem? (i := 28) rfl)))⟩ (allS ⟨(Ne.symm ne_x1_x2), (nbE Ec277 (hw _ (List.mem_of_getElem? (i := 2) rfl)))⟩ all0)))
    refine P276.callV (hw _ (List.mem_of_getElem? (i := 92) rfl)) (hw _ (List.mem_of_getElem? (i := 93) rfl)) (hw _ (List.mem_of_getElem? (i := 95) rfl)) (nfOf (hw _ (List.mem_of_getElem? (i := 95) rfl))) (hw _ (List.mem_of_getElem? (i := 94) rfl)) (hw _ (List.mem_of_getElem? (i := 29) rfl)) (hw _ (List.mem_of_getElem? (i := 96) rfl)) (by decide) E276 (eqN l Z a0 hw [] EW.nil zc S0 Pz wc cc SH SC BX o275 h276 P276.old) (W := 0) (by decide) (by decide) (by decide) (by decide) all0 pd_12 (argsL := [.null]) rfl rfl rfl (Nat.le_of_eq rfl) at_189 fun v281 T281 h281 P281 K281 Q281 => ?_
    obtain ⟨hv281, hh281⟩ := Q281
    subst hv281
    rw [hh281] at P281
    show Go p e below _ (T281.setTop (mkF m 192 #[.val (.int p0), .val (.int p1), .val (.int p2), .val (.int p3), .val (.int p4), .val (.int la), .val (.int lb), .val (.int ca), .val (.int cb), .val (.int da), .val (.int db), .val (.int ar1), .val (.int ar2), .val (.ref x1), .val (.ref x2), .val (.ref o275), .val (.int kd), .unset, .unset, .unset] [(.int (0 : Int32))]))
    refine P281.xs (fun hA hx hy t k => XS.ifNo hA hx rfl (hb hy at_192) rfl ((if0 _ _).trans (teq rfl).2) k) ?_
    show Go p e below _ (T281.setTop (mkF m 195 #[.val (.int p0), .val (.int p1), .val (.int p2), .val (.int p3), .val (.int p4), .val (.int la), .val (.int lb), .val (.int ca), .val (.int cb), .val (.int da), .val (.int db), .val (.int ar1), .val (.int ar2), .val (.ref x1), .val (.ref x2), .val (.ref o275), .val (.int kd), .unset, .unset, .unset] []))
    refine P281.xs (fun hA hx hy t k => XS.iconst hA hx rfl (hb hy at_195) k) ?_
    show Go p e below _ (T281.setTop (mkF m 196 #[.val (.int p0), .val (.int p1), .val (.int p2), .val (.int p3), .val (.int p4), .val (.int la), .val (.int lb), .val (.int ca), .val (.int cb), .val (.int da), .val (.int db), .val (.int ar1), .val (.int ar2), .val (.ref x1), .val (.ref x2), .val (.ref o275), .val (.int kd), .unset, .unset, .unset] [(.int (1 : Int32))]))
    refine P281.xs (fun hA hx hy t k => XS.goto hA hx rfl (pc0 := 196) (pc' := 200) rfl (hb hy at_196) (by decide) (by decide) k) ?_
    show Go p e below _ (T281.setTop (mkF m 200 #[.val (.int p0), .val (.int p1), .val (.int p2), .val (.int p3), .val (.int p4), .val (.int la), .val (.int lb), .val (.int ca), .val (.int cb), .val (.int da), .val (.int db), .val (.int ar1), .val (.int ar2), .val (.ref x1), .val (.ref x2), .val (.ref o275), .val (.int kd), .unset, .unset, .unset] [(.int (1 : Int32))]))
    exact P281.retN (t := .boolean) rfl (by simp) at_200 (by decide) (by decide) rfl
  · refine P276.xs (fun hA hx hy t k => XS.icmpYes hA hx rfl (pc0 := 183) (pc' := 201) rfl (hb hy at_183) rfl (feq hm1).2 (by decide) (by decide) k) ?_
    show Go p e below _ (T276.setTop (mkF m 201 #[.val (.int p0), .val (.int p1), .val (.int p2), .val (.int p3), .val (.int p4), .val (.int la), .val (.int lb), .val (.int ca), .val (.int cb), .val (.int da), .val (.int db), .val (.int ar1), .val (.int ar2), .val (.ref x1), .val (.ref x2), .val (.ref o275), .val (.int kd), .unset, .unset, .unset] []))
    refine P276.xs (fun hA hx hy t k => XS.iload hA hx rfl (hb hy at_201) rfl  k) ?_
    show Go p e below _ (T276.setTop (mkF m 203 #[.val (.int p0), .val (.int p1), .val (.int p2), .val (.int p3), .val (.int p4), .val (.int la), .val (.int lb), .val (.int ca), .val (.int cb), .val (.int da), .val (.int db), .val (.int ar1), .val (.int ar2), .val (.ref x1), .val (.ref x2), .val (.ref o275), .val (.int kd), .unset, .unset, .unset] [(.int kd)]))
    refine P276.xs (fun hA hx hy t k => XS.iconst hA hx rfl (hb hy at_203) k) ?_
    show Go p e below _ (T276.setTop (mkF m 204 #[.val (.int p0), .val (.int p1), .val (.int p2), .val (.int p3), .val (.int p4), .val (.int la), .val (.int lb), .val (.int ca), .val (.int cb), .val (.int da), .val (.int db), .val (.int ar1), .val (.int ar2), .val (.ref x1), .val (.ref x2), .val (.ref o275), .val (.int kd), .unset, .unset, .unset] [(.int (2 : Int32)), (.int kd)]))
    by_cases hm2 : kd = 2
    · refine P276.xs (fun hA hx hy t k => XS.icmpNo hA hx rfl (hb hy at_204) rfl (teq hm2).2 k) ?_
      show Go p e below _ (T276.setTop (mkF m 207 #[.val (.int p0), .val (.int p1), .val (.int p2), .val (.int p3), .val (.int p4), .val (.int la), .val (.int lb), .val (.int ca), .val (.int cb), .val (.int da), .val (.int db), .val (.int ar1), .val (.int ar2), .val (.ref x1), .val (.ref x2), .val (.ref o275), .val (.int kd), .unset, .unset, .unset] []))
      refine P276.xs (fun hA hx hy t k => XS.aload hA hx rfl (hb hy at_207) rfl rfl  k) ?_
      show Go p e below _ (T276.setTop (mkF m 209 #[.val (.int p0), .val (.int p1), .val (.int p2), .val (.int p3), .val (.int p4), .val (.int la), .val (.int lb), .val (.int ca), .val (.int cb), .val (.int da), .val (.int db), .val (.int ar1), .val (.int ar2), .val (.ref x1), .val (.ref x2), .val (.ref o275), .val (.int kd), .unset, .unset, .unset] [(.ref o275)]))
      refine P276.xs (fun hA hx hy t k => XS.aload hA hx rfl (hb hy at_209) rfl rfl  k) ?_
      show Go p e below _ (T276.setTop (mkF m 211 #[.val (.int p0), .val (.int p1), .val (.int p2), .val (.int p3), .val (.int p4), .val (.int la), .val (.int lb), .val (.int ca), .val (.int cb), .val (.int da), .val (.int db), .val (.int ar1), .val (.int ar2), .val (.ref x1), .val (.ref x2), .val (.ref o275), .val (.int kd), .unset, .unset, .unset] [(.ref x1), (.ref o275)]))
      have Ec286 : Exa Z h276 x1 "java/lang/String" := Ss276.1
      have Ec287 : Exa Z h276 x2 "java/lang/String" := (Ec278.keep K276)
      have Sc288 : Sh Z h276 x2 (cs3 lb da db 0) := (Sc280.keep K276 (allS ⟨ne_x2_o275, (nbE A275 (hw _ (List.mem_of_getElem? (i := 28) rfl)))⟩ (allS ⟨(Ne.symm ne_x1_x2), (nbE Ec277 (hw _ (List.mem_of_getElem? (i := 2) rfl)))⟩ all0)))
      refine P276.callV (hw _ (List.mem_of_getElem? (i := 92) rfl)) (hw _ (List.mem_of_getElem? (i := 93) rfl)) (hw _ (List.mem_of_getElem? (i := 95) rfl)) (nfOf (hw _ (List.mem_of_getElem? (i := 95) rfl))) (hw _ (List.mem_of_getElem? (i := 94) rfl)) (hw _ (List.mem_of_getElem? (i := 29) rfl)) (hw _ (List.mem_of_getElem? (i := 96) rfl)) (by decide) E276 (eqS l Z a0 hw [] EW.nil zc S0 Pz wc cc SH SC BX o275 x1 h276 P276.old Ec286) (W := 0) (by decide) (by decide) (by decide) (by decide) all0 pd_12 (argsL := [(.ref x1)]) rfl rfl rfl (Nat.le_of_eq rfl) at_211 fun v285 T285 h285 P285 K285 Q285 => ?_
      obtain ⟨hv285, hh285⟩ := Q285
      subst hv285
      rw [hh285] at P285
      show Go p e below _ (T285.setTop (mkF m 214 #[.val (.int p0), .val (.int p1), .val (.int p2), .val (.int p3), .val (.int p4), .val (.int la), .val (.int lb), .val (.int ca), .val (.int cb), .val (.int da), .val (.int db), .val (.int ar1), .val (.int ar2), .val (.ref x1), .val (.ref x2), .val (.ref o275), .val (.int kd), .unset, .unset, .unset] [(.int (0 : Int32))]))
      refine P285.xs (fun hA hx hy t k => XS.ifNo hA hx rfl (hb hy at_214) rfl ((if0 _ _).trans (teq rfl).2) k) ?_
      show Go p e below _ (T285.setTop (mkF m 217 #[.val (.int p0), .val (.int p1), .val (.int p2), .val (.int p3), .val (.int p4), .val (.int la), .val (.int lb), .val (.int ca), .val (.int cb), .val (.int da), .val (.int db), .val (.int ar1), .val (.int ar2), .val (.ref x1), .val (.ref x2), .val (.ref o275), .val (.int kd), .unset, .unset, .unset] []))
      refine P285.xs (fun hA hx hy t k => XS.iconst hA hx rfl (hb hy at_217) k) ?_
      show Go p e below _ (T285.setTop (mkF m 218 #[.val (.int p0), .val (.int p1), .val (.int p2), .val (.int p3), .val (.int p4), .val (.int la), .val (.int lb), .val (.int ca), .val (.int cb), .val (.int da), .val (.int db), .val (.int ar1), .val (.int ar2), .val (.ref x1), .val (.ref x2), .val (.ref o275), .val (.int kd), .unset, .unset, .unset] [(.int (1 : Int32))]))
      refine P285.xs (fun hA hx hy t k => XS.goto hA hx rfl (pc0 := 218) (pc' := 222) rfl (hb hy at_218) (by decide) (by decide) k) ?_
      show Go p e below _ (T285.setTop (mkF m 222 #[.val (.int p0), .val (.int p1), .val (.int p2), .val (.int p3), .val (.int p4), .val (.int la), .val (.int lb), .val (.int ca), .val (.int cb), .val (.int da), .val (.int db), .val (.int ar1), .val (.int ar2), .val (.ref x1), .val (.ref x2), .val (.ref o275), .val (.int kd), .unset, .unset, .unset] [(.int (1 : Int32))]))
      exact P285.retN (t := .boolean) rfl (by simp) at_222 (by decide) (by decide) rfl
    · refine P276.xs (fun hA hx hy t k => XS.icmpYes hA hx rfl (pc0 := 204) (pc' := 223) rfl (hb hy at_204) rfl (feq hm2).2 (by decide) (by decide) k) ?_
      show Go p e below _ (T276.setTop (mkF m 223 #[.val (.int p0), .val (.int p1), .val (.int p2), .val (.int p3), .val (.int p4), .val (.int la), .val (.int lb), .val (.int ca), .val (.int cb), .val (.int da), .val (.int db), .val (.int ar1), .val (.int ar2), .val (.ref x1), .val (.ref x2), .val (.ref o275), .val (.int kd), .unset, .unset, .unset] []))
      refine P276.xs (fun hA hx hy t k => XS.iload hA hx rfl (hb hy at_223) rfl  k) ?_
      show Go p e below _ (T276.setTop (mkF m 225 #[.val (.int p0), .val (.int p1), .val (.int p2), .val (.int p3), .val (.int p4), .val (.int la), .val (.int lb), .val (.int ca), .val (.int cb), .val (.int da), .val (.int db), .val (.int ar1), .val (.int ar2), .val (.ref x1), .val (.ref x2), .val (.ref o275), .val (.int kd), .unset, .unset, .unset] [(.int kd)]))
      refine P276.xs (fun hA hx hy t k => XS.iconst hA hx rfl (hb hy at_225) k) ?_
      show Go p e below _ (T276.setTop (mkF m 226 #[.val (.int p0), .val (.int p1), .val (.int p2), .val (.int p3), .val (.int p4), .val (.int la), .val (.int lb), .val (.int ca), .val (.int cb), .val (.int da), .val (.int db), .val (.int ar1), .val (.int ar2), .val (.ref x1), .val (.ref x2), .val (.ref o275), .val (.int kd), .unset, .unset, .unset] [(.int (3 : Int32)), (.int kd)]))
      by_cases hm3 : kd = 3
      · refine P276.xs (fun hA hx hy t k => XS.icmpNo hA hx rfl (hb hy at_226) rfl (teq hm3).2 k) ?_
        show Go p e below _ (T276.setTop (mkF m 229 #[.val (.int p0), .val (.int p1), .val (.int p2), .val (.int p3), .val (.int p4), .val (.int la), .val (.int lb), .val (.int ca), .val (.int cb), .val (.int da), .val (.int db), .val (.int ar1), .val (.int ar2), .val (.ref x1), .val (.ref x2), .val (.ref o275), .val (.int kd), .unset, .unset, .unset] []))
        refine P276.xs (fun hA hx hy t k => XS.aload hA hx rfl (hb hy at_229) rfl rfl  k) ?_
        show Go p e below _ (T276.setTop (mkF m 231 #[.val (.int p0), .val (.int p1), .val (.int p2), .val (.int p3), .val (.int p4), .val (.int la), .val (.int lb), .val (.int ca), .val (.int cb), .val (.int da), .val (.int db), .val (.int ar1), .val (.int ar2), .val (.ref x1), .val (.ref x2), .val (.ref o275), .val (.int kd), .unset, .unset, .unset] [(.ref o275)]))
        refine P276.xs (fun hA hx hy t k => XS.aload hA hx rfl (hb hy at_231) rfl rfl  k) ?_
        show Go p e below _ (T276.setTop (mkF m 233 #[.val (.int p0), .val (.int p1), .val (.int p2), .val (.int p3), .val (.int p4), .val (.int la), .val (.int lb), .val (.int ca), .val (.int cb), .val (.int da), .val (.int db), .val (.int ar1), .val (.int ar2), .val (.ref x1), .val (.ref x2), .val (.ref o275), .val (.int kd), .unset, .unset, .unset] [(.ref o275), (.ref o275)]))
        have Ec290 : Exa Z h276 x1 "java/lang/String" := Ss276.1
        have Ec291 : Exa Z h276 x2 "java/lang/String" := (Ec278.keep K276)
        have Sc292 : Sh Z h276 x2 (cs3 lb da db 0) := (Sc280.keep K276 (allS ⟨ne_x2_o275, (nbE A275 (hw _ (List.mem_of_getElem? (i := 28) rfl)))⟩ (allS ⟨(Ne.symm ne_x1_x2), (nbE Ec277 (hw _ (List.mem_of_getElem? (i := 2) rfl)))⟩ all0)))
        refine P276.callV (hw _ (List.mem_of_getElem? (i := 92) rfl)) (hw _ (List.mem_of_getElem? (i := 93) rfl)) (hw _ (List.mem_of_getElem? (i := 95) rfl)) (nfOf (hw _ (List.mem_of_getElem? (i := 95) rfl))) (hw _ (List.mem_of_getElem? (i := 94) rfl)) (hw _ (List.mem_of_getElem? (i := 29) rfl)) (hw _ (List.mem_of_getElem? (i := 96) rfl)) (by decide) E276 (eqC l Z a0 hw [] EW.nil zc S0 Pz wc cc SH SC BX o275 o275 x1 x1 ar1 ar1 (cs3 la ca cb 0) (cs3 la ca cb 0) h276 P276.old E276 Fn276 Fa276 Fn276 Fa276 Ss276 Ss276) (W := 0) (by decide) (by decide) (by decide) (by decide) all0 pd_12 (argsL := [(.ref o275)]) rfl rfl rfl (Nat.le_of_eq rfl) at_233 fun v289 T289 h289 P289 K289 Q289 => ?_
        obtain ⟨hd289, hh289⟩ := Q289
        rw [hh289] at P289
        rcases hd289 with ⟨rfl, hc⟩ | ⟨rfl, hc⟩
        · show Go p e below _ (T289.setTop (mkF m 236 #[.val (.int p0), .val (.int p1), .val (.int p2), .val (.int p3), .val (.int p4), .val (.int la), .val (.int lb), .val (.int ca), .val (.int cb), .val (.int da), .val (.int db), .val (.int ar1), .val (.int ar2), .val (.ref x1), .val (.ref x2), .val (.ref o275), .val (.int kd), .unset, .unset, .unset] [(.int (1 : Int32))]))
          exact P289.retN (t := .boolean) rfl (by simp) at_236 (by decide) (by decide) rfl
        · exact absurd ⟨rfl, rfl⟩ hc
      · refine P276.xs (fun hA hx hy t k => XS.icmpYes hA hx rfl (pc0 := 226) (pc' := 237) rfl (hb hy at_226) rfl (feq hm3).2 (by decide) (by decide) k) ?_
        show Go p e below _ (T276.setTop (mkF m 237 #[.val (.int p0), .val (.int p1), .val (.int p2), .val (.int p3), .val (.int p4), .val (.int la), .val (.int lb), .val (.int ca), .val (.int cb), .val (.int da), .val (.int db), .val (.int ar1), .val (.int ar2), .val (.ref x1), .val (.ref x2), .val (.ref o275), .val (.int kd), .unset, .unset, .unset] []))
        refine P276.newO (hw _ (List.mem_of_getElem? (i := 27) rfl)) (hw _ (List.mem_of_getElem? (i := 28) rfl)) (hw _ (List.mem_of_getElem? (i := 29) rfl)) at_237 (by decide) (by decide) fun T293 h293 o293 g293 P293 E293 A293 D293 => ?_
        have ne_x1_o293 : x1 ≠ o293 := Nat.ne_of_lt (Nat.lt_of_lt_of_le Ss276.1.lt (Nat.le_of_eq g293.symm))
        have ne_x2_o293 : x2 ≠ o293 := Nat.ne_of_lt (Nat.lt_of_lt_of_le (Ec278.keep K276).lt (Nat.le_of_eq g293.symm))
        have ne_o275_o293 : o275 ≠ o293 := Nat.ne_of_lt (Nat.lt_of_lt_of_le E276.lt (Nat.le_of_eq g293.symm))
        have gz_o293 : Z.heap.size ≤ o293 := Nat.le_trans P276.old.1 (Nat.le_of_eq g293.symm)
        have gw_o293 : h0.size ≤ o293 := Nat.le_trans P276.kept.1 (Nat.le_of_eq g293.symm)
        have F293_name : Fld Z h293 o293 "com/example/qrew/qrew/logic/Predicate" "name" "Ljava/lang/String;" .null := D293 (Or.inr (hw _ (List.mem_of_getElem? (i := 41) rfl))) (ty := (.object "java/lang/String")) (by decide)
        have F293_arity : Fld Z h293 o293 "com/example/qrew/qrew/logic/Predicate" "arity" "I" (.int (0 : Int32)) := D293 (Or.inr (hw _ (List.mem_of_getElem? (i := 43) rfl))) (ty := .int) (by decide)
        have F293_hash : Fld Z h293 o293 "com/example/qrew/qrew/logic/Predicate" "hash" "I" (.int (0 : Int32)) := D293 (Or.inr (hw _ (List.mem_of_getElem? (i := 91) rfl))) (ty := .int) (by decide)
        show Go p e below _ (T293.setTop (mkF m 240 #[.val (.int p0), .val (.int p1), .val (.int p2), .val (.int p3), .val (.int p4), .val (.int la), .val (.int lb), .val (.int ca), .val (.int cb), .val (.int da), .val (.int db), .val (.int ar1), .val (.int ar2), .val (.ref x1), .val (.ref x2), .val (.ref o275), .val (.int kd), .unset, .unset, .unset] [(.ref o293)]))
        refine P293.xs (fun hA hx hy t k => XS.dup hA hx rfl (hb hy at_240) rfl rfl k) ?_
        show Go p e below _ (T293.setTop (mkF m 241 #[.val (.int p0), .val (.int p1), .val (.int p2), .val (.int p3), .val (.int p4), .val (.int la), .val (.int lb), .val (.int ca), .val (.int cb), .val (.int da), .val (.int db), .val (.int ar1), .val (.int ar2), .val (.ref x1), .val (.ref x2), .val (.ref o275), .val (.int kd), .unset, .unset, .unset] [(.ref o293), (.ref o293)]))
        refine P293.xs (fun hA hx hy t k => XS.aload hA hx rfl (hb hy at_241) rfl rfl  k) ?_
        show Go p e below _ (T293.setTop (mkF m 243 #[.val (.int p0), .val (.int p1), .val (.int p2), .val (.int p3), .val (.int p4), .val (.int la), .val (.int lb), .val (.int ca), .val (.int cb), .val (.int da), .val (.int db), .val (.int ar1), .val (.int ar2), .val (.ref x1), .val (.ref x2), .val (.ref o275), .val (.int kd), .unset, .unset, .unset] [(.ref x2), (.ref o293), (.ref o293)]))
        refine P293.xs (fun hA hx hy t k => XS.iload hA hx rfl (hb hy at_243) rfl  k) ?_
        show Go p e below _ (T293.setTop (mkF m 245 #[.val (.int p0), .val (.int p1), .val (.int p2), .val (.int p3), .val (.int p4), .val (.int la), .val (.int lb), .val (.int ca), .val (.int cb), .val (.int da), .val (.int db), .val (.int ar1), .val (.int ar2), .val (.ref x1), .val (.ref x2), .val (.ref o275), .val (.int kd), .unset, .unset, .unset] [(.int ar2), (.ref x2), (.ref o293), (.ref o293)]))
        have Ec295 : Exa Z h293 x1 "java/lang/String" := (Ss276.1.ext E293)
        have Ec296 : Exa Z h293 x2 "java/lang/String" := ((Ec278.keep K276).ext E293)
        have Ec297 : Exa Z h293 o275 "com/example/qrew/qrew/logic/Predicate" := (E276.ext E293)
        have Fc298 : Fld Z h293 o275 "com/example/qrew/qrew/logic/Predicate" "name" "Ljava/lang/String;" (.ref x1) := (Fn276.ext E293)
        have Fc299 : Fld Z h293 o275 "com/example/qrew/qrew/logic/Predicate" "arity" "I" (.int ar1) := (Fa276.ext E293)
        have Sc300 : Sh Z h293 x2 (cs3 lb da db 0) := ((Sc280.keep K276 (allS ⟨ne_x2_o275, (nbE A275 (hw _ (List.mem_of_getElem? (i := 28) rfl)))⟩ (allS ⟨(Ne.symm ne_x1_x2), (nbE Ec277 (hw _ (List.mem_of_getElem? (i := 2) rfl)))⟩ all0))).ext E293)
        have Sc301 : Str Z h293 x1 (cs3 la ca cb 0) := (Ss276.ext E293)
        refine P293.callI rfl (hw _ (List.mem_of_getElem? (i := 30) rfl)) (hw _ (List.mem_of_getElem? (i := 31) rfl)) (hw _ (List.mem_of_getElem? (i := 29) rfl)) (hw _ (List.mem_of_getElem? (i := 32) rfl)) (by decide) (mPred l Z a0 hw [] EW.nil zc S0 Pz wc cc SH SC BX o293 x2 ar2 (cs3 lb da db 0) h293 P293.old A293 F293_name F293_arity F293_hash gz_o293 gz_x2 har2 Sc300) (W := 1) (by decide) (by decide) (by decide) (by decide) (allS (Or.inr gw_o293) (allS (Or.inr gw_x2) all0)) pd_15 (argsL := [(.ref x2), (.int ar2)]) rfl rfl rfl (Nat.le_of_eq rfl) at_245 fun v294 T294 h294 P294 K294 Q294 => ?_
        obtain ⟨rfl, E294, Fn294, Fa294, Ss294⟩ := Q294
        show Go p e below _ (T294.setTop (mkF m 248 #[.val (.int p0), .val (.int p1), .val (.int p2), .val (.int p3), .val (.int p4), .val (.int la), .val (.int lb), .val (.int ca), .val (.int cb), .val (.int da), .val (.int db), .val (.int ar1), .val (.int ar2), .val (.ref x1), .val (.ref x2), .val (.ref o275), .val (.int kd), .unset, .unset, .unset] [(.ref o293)]))
        refine P294.xs (fun hA hx hy t k => XS.astore hA hx rfl (hb hy at_248) rfl rfl (l' := #[.val (.int p0), .val (.int p1), .val (.int p2), .val (.int p3), .val (.int p4), .val (.int la), .val (.int lb), .val (.int ca), .val (.int cb), .val (.int da), .val (.int db), .val (.int ar1), .val (.int ar2), .val (.ref x1), .val (.ref x2), .val (.ref o275), .val (.int kd), .val (.ref o293), .unset, .unset]) rfl k) ?_
        show Go p e below _ (T294.setTop (mkF m 250 #[.val (.int p0), .val (.int p1), .val (.int p2), .val (.int p3), .val (.int p4), .val (.int la), .val (.int lb), .val (.int ca), .val (.int cb), .val (.int da), .val (.int db), .val (.int ar1), .val (.int ar2), .val (.ref x1), .val (.ref x2), .val (.ref o275), .val (.int kd), .val (.ref o293), .unset, .unset] []))
        refine P294.xs (fun hA hx hy t k => XS.iload hA hx rfl (hb hy at_250) rfl  k) ?_
        show Go p e below _ (T294.setTop (mkF m 252 #[.val (.int p0), .val (.int p1), .val (.int p2), .val (.int p3), .val (.int p4), .val (.int la), .val (.int lb), .val (.int ca), .val (.int cb), .val (.int da), .val (.int db), .val (.int ar1), .val (.int ar2), .val (.ref x1), .val (.ref x2), .val (.ref o275), .val (.int kd), .val (.ref o293), .unset, .unset] [(.int la)]))
        refine P294.xs (fun hA hx hy t k => XS.iload hA hx rfl (hb hy at_252) rfl  k) ?_
        show Go p e below _ (T294.setTop (mkF m 254 #[.val (.int p0), .val (.int p1), .val (.int p2), .val (.int p3), .val (.int p4), .val (.int la), .val (.int lb), .val (.int ca), .val (.int cb), .val (.int da), .val (.int db), .val (.int ar1), .val (.int ar2), .val (.ref x1), .val (.ref x2), .val (.ref o275), .val (.int kd), .val (.ref o293), .unset, .unset] [(.int lb), (.int la)]))
        have Ec302 : Exa Z h294 x1 "java/lang/String" := (Ec295.keep K294)
        have Ec303 : Exa Z h294 x2 "java/lang/String" := Ss294.1
        have Ec304 : Exa Z h294 o275 "com/example/qrew/qrew/logic/Predicate" := (Ec297.keep K294)
        have Fc305 : Fld Z h294 o275 "com/example/qrew/qrew/logic/Predicate" "name" "Ljava/lang/String;" (.ref x1) := (Fc298.keep K294 (ninS ne_o275_o293 (ninS (Ne.symm ne_x2_o275) nin0)))
        have Fc306 : Fld Z h294 o275 "com/example/qrew/qrew/logic/Predicate" "arity" "I" (.int ar1) := (Fc299.keep K294 (ninS ne_o275_o293 (ninS (Ne.symm ne_x2_o275) nin0)))
        have Sc307 : Str Z h294 x1 (cs3 la ca cb 0) := (Sc301.keep K294 (allS ⟨ne_x1_o293, (nbE A293 (hw _ (List.mem_of_getElem? (i := 28) rfl)))⟩ (allS ⟨ne_x1_x2, (nbE Ec296 (hw _ (List.mem_of_getElem? (i := 2) rfl)))⟩ all0)))
        suffices j7 : ∀ (T308 : State) (h308 : Heap) (sn : Int32), ((sn = 1 ∧ (cs3 la ca cb 0) = (cs3 lb da db 0)) ∨ (sn = 0 ∧ ¬ (cs3 la ca cb 0) = (cs3 lb da db 0))) → Pos p l e room_1 s m #[(.int p0), (.int p1), (.int p2), (.int p3), (.int p4)] below meth c "com/example/qrew/qrew/logic/PredicateEqualsPinLaw" "law" code maxLocals ret Z a0 [] h0 [] T308 h308 22 84 → Exa Z h308 o275 "com/example/qrew/qrew/logic/Predicate" → Exa Z h308 o293 "com/example/qrew/qrew/logic/Predicate" → Exa Z h308 x1 "java/lang/String" → Exa Z h308 x2 "java/lang/String" → Str Z h308 x1 (cs3 la ca cb 0) → Str Z h308 x2 (cs3 lb da db 0) → Fld Z h308 o275 "com/example/qrew/qrew/logic/Predicate" "name" "Ljava/lang/String;" (.ref x1) → Fld Z h308 o275 "com/example/qrew/qrew/logic/Predicate" "arity" "I" (.int ar1) → Fld Z h308 o293 "com/example/qrew/qrew/logic/Predicate" "name" "Ljava/lang/String;" (.ref x2) → Fld Z h308 o293 "com/example/qrew/qrew/logic/Predicate" "arity" "I" (.int ar2) → Go p e below (Fini Z [] h0 [] room_1 (Q_mLaw Z  h0) s) (T308.setTop (mkF m 288 #[.val (.int p0), .val (.int p1), .val (.int p2), .val (.int p3), .val (.int p4), .val (.int la), .val (.int lb), .val (.int ca), .val (.int cb), .val (.int da), .val (.int db), .val (.int ar1), .val (.int ar2), .val (.ref x1), .val (.ref x2), .val (.ref o275), .val (.int kd), .val (.ref o293), .unset, .unset] [(.int sn)])) by
          by_cases hl : la = lb
          · refine P294.xs (fun hA hx hy t k => XS.icmpNo hA hx rfl (hb hy at_254) rfl (teq hl).2 k) ?_
            show Go p e below _ (T294.setTop (mkF m 257 #[.val (.int p0), .val (.int p1), .val (.int p2), .val (.int p3), .val (.int p4), .val (.int la), .val (.int lb), .val (.int ca), .val (.int cb), .val (.int da), .val (.int db), .val (.int ar1), .val (.int ar2), .val (.ref x1), .val (.ref x2), .val (.ref o275), .val (.int kd), .val (.ref o293), .unset, .unset] []))
            subst hl
            rcases hla with rfl | rfl | rfl
            · show Go p e below _ (T294.setTop (mkF m 257 #[.val (.int p0), .val (.int p1), .val (.int p2), .val (.int p3), .val (.int p4), .val (.int (0 : Int32)), .val (.int (0 : Int32)), .val (.int ca), .val (.int cb), .val (.int da), .val (.int db), .val (.int ar1), .val (.int ar2), .val (.ref x1), .val (.ref x2), .val (.ref o275), .val (.int kd), .val (.ref o293), .unset, .unset] []))
              refine P294.xs (fun hA hx hy t k => XS.iload hA hx rfl (hb hy at_257) rfl  k) ?_
              show Go p e below _ (T294.setTop (mkF m 259 #[.val (.int p0), .val (.int p1), .val (.int p2), .val (.int p3), .val (.int p4), .val (.int (0 : Int32)), .val (.int (0 : Int32)), .val (.int ca), .val (.int cb), .val (.int da), .val (.int db), .val (.int ar1), .val (.int ar2), .val (.ref x1), .val (.ref x2), .val (.ref o275), .val (.int kd), .val (.ref o293), .unset, .unset] [(.int (0 : Int32))]))
              refine P294.xs (fun hA hx hy t k => XS.iconst hA hx rfl (hb hy at_259) k) ?_
              show Go p e below _ (T294.setTop (mkF m 260 #[.val (.int p0), .val (.int p1), .val (.int p2), .val (.int p3), .val (.int p4), .val (.int (0 : Int32)), .val (.int (0 : Int32)), .val (.int ca), .val (.int cb), .val (.int da), .val (.int db), .val (.int ar1), .val (.int ar2), .val (.ref x1), .val (.ref x2), .val (.ref o275), .val (.int kd), .val (.ref o293), .unset, .unset] [(.int (1 : Int32)), (.int (0 : Int32))]))
              refine P294.xs (fun hA hx hy t k => XS.icmpYes hA hx rfl (pc0 := 260) (pc' := 270) rfl (hb hy at_260) rfl (tlt (by decide)).1 (by decide) (by decide) k) ?_
              show Go p e below _ (T294.setTop (mkF m 270 #[.val (.int p0), .val (.int p1), .val (.int p2), .val (.int p3), .val (.int p4), .val (.int (0 : Int32)), .val (.int (0 : Int32)), .val (.int ca), .val (.int cb), .val (.int da), .val (.int db), .val (.int ar1), .val (.int ar2), .val (.ref x1), .val (.ref x2), .val (.ref o275), .val (.int kd), .val (.ref o293), .unset, .unset] []))
              refine P294.xs (fun hA hx hy t k => XS.iload hA hx rfl (hb hy at_270) rfl  k) ?_
              show Go p e below _ (T294.setTop (mkF m 272 #[.val (.int p0), .val (.int p1), .val (.int p2), .val (.int p3), .val (.int p4), .val (.int (0 : Int32)), .val (.int (0 : Int32)), .val (.int ca), .val (.int cb), .val (.int da), .val (.int db), .val (.int ar1), .val (.int ar2), .val (.ref x1), .val (.ref x2), .val (.ref o275), .val (.int kd), .val (.ref o293), .unset, .unset] [(.int (0 : Int32))]))
              refine P294.xs (fun hA hx hy t k => XS.iconst hA hx rfl (hb hy at_272) k) ?_
              show Go p e below _ (T294.setTop (mkF m 273 #[.val (.int p0), .val (.int p1), .val (.int p2), .val (.int p3), .val (.int p4), .val (.int (0 : Int32)), .val (.int (0 : Int32)), .val (.int ca), .val (.int cb), .val (.int da), .val (.int db), .val (.int ar1), .val (.int ar2), .val (.ref x1), .val (.ref x2), .val (.ref o275), .val (.int kd), .val (.ref o293), .unset, .unset] [(.int (2 : Int32)), (.int (0 : Int32))]))
              refine P294.xs (fun hA hx hy t k => XS.icmpYes hA hx rfl (pc0 := 273) (pc' := 283) rfl (hb hy at_273) rfl (tlt (by decide)).1 (by decide) (by decide) k) ?_
              show Go p e below _ (T294.setTop (mkF m 283 #[.val (.int p0), .val (.int p1), .val (.int p2), .val (.int p3), .val (.int p4), .val (.int (0 : Int32)), .val (.int (0 : Int32)), .val (.int ca), .val (.int cb), .val (.int da), .val (.int db), .val (.int ar1), .val (.int ar2), .val (.ref x1), .val (.ref x2), .val (.ref o275), .val (.int kd), .val (.ref o293), .unset, .unset] []))
              refine P294.xs (fun hA hx hy t k => XS.iconst hA hx rfl (hb hy at_283) k) ?_
              show Go p e below _ (T294.setTop (mkF m 284 #[.val (.int p0), .val (.int p1), .val (.int p2), .val (.int p3), .val (.int p4), .val (.int (0 : Int32)), .val (.int (0 : Int32)), .val (.int ca), .val (.int cb), .val (.int da), .val (.int db), .val (.int ar1), .val (.int ar2), .val (.ref x1), .val (.ref x2), .val (.ref o275), .val (.int kd), .val (.ref o293), .unset, .unset] [(.int (1 : Int32))]))
              refine P294.xs (fun hA hx hy t k => XS.goto hA hx rfl (pc0 := 284) (pc' := 288) rfl (hb hy at_284) (by decide) (by decide) k) ?_
              show Go p e below _ (T294.setTop (mkF m 288 #[.val (.int p0), .val (.int p1), .val (.int p2), .val (.int p3), .val (.int p4), .val (.int (0 : Int32)), .val (.int (0 : Int32)), .val (.int ca), .val (.int cb), .val (.int da), .val (.int db), .val (.int ar1), .val (.int ar2), .val (.ref x1), .val (.ref x2), .val (.ref o275), .val (.int kd), .val (.ref o293), .unset, .unset] [(.int (1 : Int32))]))
              exact j7 _ _ _ (Or.inl ⟨rfl, rfl⟩) (P294.wider (by decide) (by decide)) Ec304 E294 Ec302 Ec303 Sc307 Ss294 Fc305 Fc306 Fn294 Fa294
            · show Go p e below _ (T294.setTop (mkF m 257 #[.val (.int p0), .val (.int p1), .val (.int p2), .val (.int p3), .val (.int p4), .val (.int (1 : Int32)), .val (.int (1 : Int32)), .val (.int ca), .val (.int cb), .val (.int da), .val (.int db), .val (.int ar1), .val (.int ar2), .val (.ref x1), .val (.ref x2), .val (.ref o275), .val (.int kd), .val (.ref o293), .unset, .unset] []))
              refine P294.xs (fun hA hx hy t k => XS.iload hA hx rfl (hb hy at_257) rfl  k) ?_
              show Go p e below _ (T294.setTop (mkF m 259 #[.val (.int p0), .val (.int p1), .val (.int p2), .val (.int p3), .val (.int p4), .val (.int (1 : Int32)), .val (.int (1 : Int32)), .val (.int ca), .val (.int cb), .val (.int da), .val (.int db), .val (.int ar1), .val (.int ar2), .val (.ref x1), .val (.ref x2), .val (.ref o275), .val (.int kd), .val (.ref o293), .unset, .unset] [(.int (1 : Int32))]))
              refine P294.xs (fun hA hx hy t k => XS.iconst hA hx rfl (hb hy at_259) k) ?_
              show Go p e below _ (T294.setTop (mkF m 260 #[.val (.int p0), .val (.int p1), .val (.int p2), .val (.int p3), .val (.int p4), .val (.int (1 : Int32)), .val (.int (1 : Int32)), .val (.int ca), .val (.int cb), .val (.int da), .val (.int db), .val (.int ar1), .val (.int ar2), .val (.ref x1), .val (.ref x2), .val (.ref o275), .val (.int kd), .val (.ref o293), .unset, .unset] [(.int (1 : Int32)), (.int (1 : Int32))]))
              refine P294.xs (fun hA hx hy t k => XS.icmpNo hA hx rfl (hb hy at_260) rfl (flt (by decide)).1 k) ?_
              show Go p e below _ (T294.setTop (mkF m 263 #[.val (.int p0), .val (.int p1), .val (.int p2), .val (.int p3), .val (.int p4), .val (.int (1 : Int32)), .val (.int (1 : Int32)), .val (.int ca), .val (.int cb), .val (.int da), .val (.int db), .val (.int ar1), .val (.int ar2), .val (.ref x1), .val (.ref x2), .val (.ref o275), .val (.int kd), .val (.ref o293), .unset, .unset] []))
              refine P294.xs (fun hA hx hy t k => XS.iload hA hx rfl (hb hy at_263) rfl  k) ?_
              show Go p e below _ (T294.setTop (mkF m 265 #[.val (.int p0), .val (.int p1), .val (.int p2), .val (.int p3), .val (.int p4), .val (.int (1 : Int32)), .val (.int (1 : Int32)), .val (.int ca), .val (.int cb), .val (.int da), .val (.int db), .val (.int ar1), .val (.int ar2), .val (.ref x1), .val (.ref x2), .val (.ref o275), .val (.int kd), .val (.ref o293), .unset, .unset] [(.int ca)]))
              refine P294.xs (fun hA hx hy t k => XS.iload hA hx rfl (hb hy at_265) rfl  k) ?_
              show Go p e below _ (T294.setTop (mkF m 267 #[.val (.int p0), .val (.int p1), .val (.int p2), .val (.int p3), .val (.int p4), .val (.int (1 : Int32)), .val (.int (1 : Int32)), .val (.int ca), .val (.int cb), .val (.int da), .val (.int db), .val (.int ar1), .val (.int ar2), .val (.ref x1), .val (.ref x2), .val (.ref o275), .val (.int kd), .val (.ref o293), .unset, .unset] [(.int da), (.int ca)]))
              by_cases he0 : ca = da
              · refine P294.xs (fun hA hx hy t k => XS.icmpNo hA hx rfl (hb hy at_267) rfl (teq he0).2 k) ?_
                show Go p e below _ (T294.setTop (mkF m 270 #[.val (.int p0), .val (.int p1), .val (.int p2), .val (.int p3), .val (.int p4), .val (.int (1 : Int32)), .val (.int (1 : Int32)), .val (.int ca), .val (.int cb), .val (.int da), .val (.int db), .val (.int ar1), .val (.int ar2), .val (.ref x1), .val (.ref x2), .val (.ref o275), .val (.int kd), .val (.ref o293), .unset, .unset] []))
                refine P294.xs (fun hA hx hy t k => XS.iload hA hx rfl (hb hy at_270) rfl  k) ?_
                show Go p e below _ (T294.setTop (mkF m 272 #[.val (.int p0), .val (.int p1), .val (.int p2), .val (.int p3), .val (.int p4), .val (.int (1 : Int32)), .val (.int (1 : Int32)), .val (.int ca), .val (.int cb), .val (.int da), .val (.int db), .val (.int ar1), .val (.int ar2), .val (.ref x1), .val (.ref x2), .val (.ref o275), .val (.int kd), .val (.ref o293), .unset, .unset] [(.int (1 : Int32))]))
                refine P294.xs (fun hA hx hy t k => XS.iconst hA hx rfl (hb hy at_272) k) ?_
                show Go p e below _ (T294.setTop (mkF m 273 #[.val (.int p0), .val (.int p1), .val (.int p2), .val (.int p3), .val (.int p4), .val (.int (1 : Int32)), .val (.int (1 : Int32)), .val (.int ca), .val (.int cb), .val (.int da), .val (.int db), .val (.int ar1), .val (.int ar2), .val (.ref x1), .val (.ref x2), .val (.ref o275), .val (.int kd), .val (.ref o293), .unset, .unset] [(.int (2 : Int32)), (.int (1 : Int32))]))
                refine P294.xs (fun hA hx hy t k => XS.icmpYes hA hx rfl (pc0 := 273) (pc' := 283) rfl (hb hy at_273) rfl (tlt (by decide)).1 (by decide) (by decide) k) ?_
                show Go p e below _ (T294.setTop (mkF m 283 #[.val (.int p0), .val (.int p1), .val (.int p2), .val (.int p3), .val (.int p4), .val (.int (1 : Int32)), .val (.int (1 : Int32)), .val (.int ca), .val (.int cb), .val (.int da), .val (.int db), .val (.int ar1), .val (.int ar2), .val (.ref x1), .val (.ref x2), .val (.ref o275), .val (.int kd), .val (.ref o293), .unset, .unset] []))
                refine P294.xs (fun hA hx hy t k => XS.iconst hA hx rfl (hb hy at_283) k) ?_
                show Go p e below _ (T294.setTop (mkF m 284 #[.val (.int p0), .val (.int p1), .val (.int p2), .val (.int p3), .val (.int p4), .val (.int (1 : Int32)), .val (.int (1 : Int32)), .val (.int ca), .val (.int cb), .val (.int da), .val (.int db), .val (.int ar1), .val (.int ar2), .val (.ref x1), .val (.ref x2), .val (.ref o275), .val (.int kd), .val (.ref o293), .unset, .unset] [(.int (1 : Int32))]))
                refine P294.xs (fun hA hx hy t k => XS.goto hA hx rfl (pc0 := 284) (pc' := 288) rfl (hb hy at_284) (by decide) (by decide) k) ?_
                show Go p e below _ (T294.setTop (mkF m 288 #[.val (.int p0), .val (.int p1), .val (.int p2), .val (.int p3), .val (.int p4), .val (.int (1 : Int32)), .val (.int (1 : Int32)), .val (.int ca), .val (.int cb), .val (.int da), .val (.int db), .val (.int ar1), .val (.int ar2), .val (.ref x1), .val (.ref x2), .val (.ref o275), .val (.int kd), .val (.ref o293), .unset, .unset] [(.int (1 : Int32))]))
                exact j7 _ _ _ (Or.inl ⟨rfl, cs3_e1.mpr he0⟩) (P294.wider (by decide) (by decide)) Ec304 E294 Ec302 Ec303 Sc307 Ss294 Fc305 Fc306 Fn294 Fa294
              · refine P294.xs (fun hA hx hy t k => XS.icmpYes hA hx rfl (pc0 := 267) (pc' := 287) rfl (hb hy at_267) rfl (feq he0).2 (by decide) (by decide) k) ?_
                show Go p e below _ (T294.setTop (mkF m 287 #[.val (.int p0), .val (.int p1), .val (.int p2), .val (.int p3), .val (.int p4), .val (.int (1 : Int32)), .val (.int (1 : Int32)), .val (.int ca), .val (.int cb), .val (.int da), .val (.int db), .val (.int ar1), .val (.int ar2), .val (.ref x1), .val (.ref x2), .val (.ref o275), .val (.int kd), .val (.ref o293), .unset, .unset] []))
                refine P294.xs (fun hA hx hy t k => XS.iconst hA hx rfl (hb hy at_287) k) ?_
                show Go p e below _ (T294.setTop (mkF m 288 #[.val (.int p0), .val (.int p1), .val (.int p2), .val (.int p3), .val (.int p4), .val (.int (1 : Int32)), .val (.int (1 : Int32)), .val (.int ca), .val (.int cb), .val (.int da), .val (.int db), .val (.int ar1), .val (.int ar2), .val (.ref x1), .val (.ref x2), .val (.ref o275), .val (.int kd), .val (.ref o293), .unset, .unset] [(.int (0 : Int32))]))
                exact j7 _ _ _ (Or.inr ⟨rfl, fun g => he0 (cs3_e1.mp g)⟩) (P294.wider (by decide) (by decide)) Ec304 E294 Ec302 Ec303 Sc307 Ss294 Fc305 Fc306 Fn294 Fa294
            · show Go p e below _ (T294.setTop (mkF m 257 #[.val (.int p0), .val (.int p1), .val (.int p2), .val (.int p3), .val (.int p4), .val (.int (2 : Int32)), .val (.int (2 : Int32)), .val (.int ca), .val (.int cb), .val (.int da), .val (.int db), .val (.int ar1), .val (.int ar2), .val (.ref x1), .val (.ref x2), .val (.ref o275), .val (.int kd), .val (.ref o293), .unset, .unset] []))
              refine P294.xs (fun hA hx hy t k => XS.iload hA hx rfl (hb hy at_257) rfl  k) ?_
              show Go p e below _ (T294.setTop (mkF m 259 #[.val (.int p0), .val (.int p1), .val (.int p2), .val (.int p3), .val (.int p4), .val (.int (2 : Int32)), .val (.int (2 : Int32)), .val (.int ca), .val (.int cb), .val (.int da), .val (.int db), .val (.int ar1), .val (.int ar2), .val (.ref x1), .val (.ref x2), .val (.ref o275), .val (.int kd), .val (.ref o293), .unset, .unset] [(.int (2 : Int32))]))
              refine P294.xs (fun hA hx hy t k => XS.iconst hA hx rfl (hb hy at_259) k) ?_
              show Go p e below _ (T294.setTop (mkF m 260 #[.val (.int p0), .val (.int p1), .val (.int p2), .val (.int p3), .val (.int p4), .val (.int (2 : Int32)), .val (.int (2 : Int32)), .val (.int ca), .val (.int cb), .val (.int da), .val (.int db), .val (.int ar1), .val (.int ar2), .val (.ref x1), .val (.ref x2), .val (.ref o275), .val (.int kd), .val (.ref o293), .unset, .unset] [(.int (1 : Int32)), (.int (2 : Int32))]))
              refine P294.xs (fun hA hx hy t k => XS.icmpNo hA hx rfl (hb hy at_260) rfl (flt (by decide)).1 k) ?_
              show Go p e below _ (T294.setTop (mkF m 263 #[.val (.int p0), .val (.int p1), .val (.int p2), .val (.int p3), .val (.int p4), .val (.int (2 : Int32)), .val (.int (2 : Int32)), .val (.int ca), .val (.int cb), .val (.int da), .val (.int db), .val (.int ar1), .val (.int ar2), .val (.ref x1), .val (.ref x2), .val (.ref o275), .val (.int kd), .val (.ref o293), .unset, .unset] []))
              refine P294.xs (fun hA hx hy t k => XS.iload hA hx rfl (hb hy at_263) rfl  k) ?_
              show Go p e below _ (T294.setTop (mkF m 265 #[.val (.int p0), .val (.int p1), .val (.int p2), .val (.int p3), .val (.int p4), .val (.int (2 : Int32)), .val (.int (2 : Int32)), .val (.int ca), .val (.int cb), .val (.int da), .val (.int db), .val (.int ar1), .val (.int ar2), .val (.ref x1), .val (.ref x2), .val (.ref o275), .val (.int kd), .val (.ref o293), .unset, .unset] [(.int ca)]))
              refine P294.xs (fun hA hx hy t k => XS.iload hA hx rfl (hb hy at_265) rfl  k) ?_
              show Go p e below _ (T294.setTop (mkF m 267 #[.val (.int p0), .val (.int p1), .val (.int p2), .val (.int p3), .val (.int p4), .val (.int (2 : Int32)), .val (.int (2 : Int32)), .val (.int ca), .val (.int cb), .val (.int da), .val (.int db), .val (.int ar1), .val (.int ar2), .val (.ref x1), .val (.ref x2), .val (.ref o275), .val (.int kd), .val (.ref o293), .unset, .unset] [(.int da), (.int ca)]))
              by_cases he0 : ca = da
              · refine P294.xs (fun hA hx hy t k => XS.icmpNo hA hx rfl (hb hy at_267) rfl (teq he0).2 k) ?_
                show Go p e below _ (T294.setTop (mkF m 270 #[.val (.int p0), .val (.int p1), .val (.int p2), .val (.int p3), .val (.int p4), .val (.int (2 : Int32)), .val (.int (2 : Int32)), .val (.int ca), .val (.int cb), .val (.int da), .val (.int db), .val (.int ar1), .val (.int ar2), .val (.ref x1), .val (.ref x2), .val (.ref o275), .val (.int kd), .val (.ref o293), .unset, .unset] []))
                refine P294.xs (fun hA hx hy t k => XS.iload hA hx rfl (hb hy at_270) rfl  k) ?_
                show Go p e below _ (T294.setTop (mkF m 272 #[.val (.int p0), .val (.int p1), .val (.int p2), .val (.int p3), .val (.int p4), .val (.int (2 : Int32)), .val (.int (2 : Int32)), .val (.int ca), .val (.int cb), .val (.int da), .val (.int db), .val (.int ar1), .val (.int ar2), .val (.ref x1), .val (.ref x2), .val (.ref o275), .val (.int kd), .val (.ref o293), .unset, .unset] [(.int (2 : Int32))]))
                refine P294.xs (fun hA hx hy t k => XS.iconst hA hx rfl (hb hy at_272) k) ?_
                show Go p e below _ (T294.setTop (mkF m 273 #[.val (.int p0), .val (.int p1), .val (.int p2), .val (.int p3), .val (.int p4), .val (.int (2 : Int32)), .val (.int (2 : Int32)), .val (.int ca), .val (.int cb), .val (.int da), .val (.int db), .val (.int ar1), .val (.int ar2), .val (.ref x1), .val (.ref x2), .val (.ref o275), .val (.int kd), .val (.ref o293), .unset, .unset] [(.int (2 : Int32)), (.int (2 : Int32))]))
                refine P294.xs (fun hA hx hy t k => XS.icmpNo hA hx rfl (hb hy at_273) rfl (flt (by decide)).1 k) ?_
                show Go p e below _ (T294.setTop (mkF m 276 #[.val (.int p0), .val (.int p1), .val (.int p2), .val (.int p3), .val (.int p4), .val (.int (2 : Int32)), .val (.int (2 : Int32)), .val (.int ca), .val (.int cb), .val (.int da), .val (.int db), .val (.int ar1), .val (.int ar2), .val (.ref x1), .val (.ref x2), .val (.ref o275), .val (.int kd), .val (.ref o293), .unset, .unset] []))
                refine P294.xs (fun hA hx hy t k => XS.iload hA hx rfl (hb hy at_276) rfl  k) ?_
                show Go p e below _ (T294.setTop (mkF m 278 #[.val (.int p0), .val (.int p1), .val (.int p2), .val (.int p3), .val (.int p4), .val (.int (2 : Int32)), .val (.int (2 : Int32)), .val (.int ca), .val (.int cb), .val (.int da), .val (.int db), .val (.int ar1), .val (.int ar2), .val (.ref x1), .val (.ref x2), .val (.ref o275), .val (.int kd), .val (.ref o293), .unset, .unset] [(.int cb)]))
                refine P294.xs (fun hA hx hy t k => XS.iload hA hx rfl (hb hy at_278) rfl  k) ?_
                show Go p e below _ (T294.setTop (mkF m 280 #[.val (.int p0), .val (.int p1), .val (.int p2), .val (.int p3), .val (.int p4), .val (.int (2 : Int32)), .val (.int (2 : Int32)), .val (.int ca), .val (.int cb), .val (.int da), .val (.int db), .val (.int ar1), .val (.int ar2), .val (.ref x1), .val (.ref x2), .val (.ref o275), .val (.int kd), .val (.ref o293), .unset, .unset] [(.int db), (.int cb)]))
                by_cases he1 : cb = db
                · refine P294.xs (fun hA hx hy t k => XS.icmpNo hA hx rfl (hb hy at_280) rfl (teq he1).2 k) ?_
                  show Go p e below _ (T294.setTop (mkF m 283 #[.val (.int p0), .val (.int p1), .val (.int p2), .val (.int p3), .val (.int p4), .val (.int (2 : Int32)), .val (.int (2 : Int32)), .val (.int ca), .val (.int cb), .val (.int da), .val (.int db), .val (.int ar1), .val (.int ar2), .val (.ref x1), .val (.ref x2), .val (.ref o275), .val (.int kd), .val (.ref o293), .unset, .unset] []))
                  refine P294.xs (fun hA hx hy t k => XS.iconst hA hx rfl (hb hy at_283) k) ?_
                  show Go p e below _ (T294.setTop (mkF m 284 #[.val (.int p0), .val (.int p1), .val (.int p2), .val (.int p3), .val (.int p4), .val (.int (2 : Int32)), .val (.int (2 : Int32)), .val (.int ca), .val (.int cb), .val (.int da), .val (.int db), .val (.int ar1), .val (.int ar2), .val (.ref x1), .val (.ref x2), .val (.ref o275), .val (.int kd), .val (.ref o293), .unset, .unset] [(.int (1 : Int32))]))
                  refine P294.xs (fun hA hx hy t k => XS.goto hA hx rfl (pc0 := 284) (pc' := 288) rfl (hb hy at_284) (by decide) (by decide) k) ?_
                  show Go p e below _ (T294.setTop (mkF m 288 #[.val (.int p0), .val (.int p1), .val (.int p2), .val (.int p3), .val (.int p4), .val (.int (2 : Int32)), .val (.int (2 : Int32)), .val (.int ca), .val (.int cb), .val (.int da), .val (.int db), .val (.int ar1), .val (.int ar2), .val (.ref x1), .val (.ref x2), .val (.ref o275), .val (.int kd), .val (.ref o293), .unset, .unset] [(.int (1 : Int32))]))
                  exact j7 _ _ _ (Or.inl ⟨rfl, cs3_e2.mpr ⟨he0, he1⟩⟩) (P294.wider (by decide) (by decide)) Ec304 E294 Ec302 Ec303 Sc307 Ss294 Fc305 Fc306 Fn294 Fa294
                · refine P294.xs (fun hA hx hy t k => XS.icmpYes hA hx rfl (pc0 := 280) (pc' := 287) rfl (hb hy at_280) rfl (feq he1).2 (by decide) (by decide) k) ?_
                  show Go p e below _ (T294.setTop (mkF m 287 #[.val (.int p0), .val (.int p1), .val (.int p2), .val (.int p3), .val (.int p4), .val (.int (2 : Int32)), .val (.int (2 : Int32)), .val (.int ca), .val (.int cb), .val (.int da), .val (.int db), .val (.int ar1), .val (.int ar2), .val (.ref x1), .val (.ref x2), .val (.ref o275), .val (.int kd), .val (.ref o293), .unset, .unset] []))
                  refine P294.xs (fun hA hx hy t k => XS.iconst hA hx rfl (hb hy at_287) k) ?_
                  show Go p e below _ (T294.setTop (mkF m 288 #[.val (.int p0), .val (.int p1), .val (.int p2), .val (.int p3), .val (.int p4), .val (.int (2 : Int32)), .val (.int (2 : Int32)), .val (.int ca), .val (.int cb), .val (.int da), .val (.int db), .val (.int ar1), .val (.int ar2), .val (.ref x1), .val (.ref x2), .val (.ref o275), .val (.int kd), .val (.ref o293), .unset, .unset] [(.int (0 : Int32))]))
                  exact j7 _ _ _ (Or.inr ⟨rfl, fun g => he1 (cs3_e2.mp g).2⟩) (P294.wider (by decide) (by decide)) Ec304 E294 Ec302 Ec303 Sc307 Ss294 Fc305 Fc306 Fn294 Fa294
              · refine P294.xs (fun hA hx hy t k => XS.icmpYes hA hx rfl (pc0 := 267) (pc' := 287) rfl (hb hy at_267) rfl (feq he0).2 (by decide) (by decide) k) ?_
                show Go p e below _ (T294.setTop (mkF m 287 #[.val (.int p0), .val (.int p1), .val (.int p2), .val (.int p3), .val (.int p4), .val (.int (2 : Int32)), .val (.int (2 : Int32)), .val (.int ca), .val (.int cb), .val (.int da), .val (.int db), .val (.int ar1), .val (.int ar2), .val (.ref x1), .val (.ref x2), .val (.ref o275), .val (.int kd), .val (.ref o293), .unset, .unset] []))
                refine P294.xs (fun hA hx hy t k => XS.iconst hA hx rfl (hb hy at_287) k) ?_
                show Go p e below _ (T294.setTop (mkF m 288 #[.val (.int p0), .val (.int p1), .val (.int p2), .val (.int p3), .val (.int p4), .val (.int (2 : Int32)), .val (.int (2 : Int32)), .val (.int ca), .val (.int cb), .val (.int da), .val (.int db), .val (.int ar1), .val (.int ar2), .val (.ref x1), .val (.ref x2), .val (.ref o275), .val (.int kd), .val (.ref o293), .unset, .unset] [(.int (0 : Int32))]))
                exact j7 _ _ _ (Or.inr ⟨rfl, fun g => he0 (cs3_e2.mp g).1⟩) (P294.wider (by decide) (by decide)) Ec304 E294 Ec302 Ec303 Sc307 Ss294 Fc305 Fc306 Fn294 Fa294
          · refine P294.xs (fun hA hx hy t k => XS.icmpYes hA hx rfl (pc0 := 254) (pc' := 287) rfl (hb hy at_254) rfl (feq hl).2 (by decide) (by decide) k) ?_
            show Go p e below _ (T294.setTop (mkF m 287 #[.val (.int p0), .val (.int p1), .val (.int p2), .val (.int p3), .val (.int p4), .val (.int la), .val (.int lb), .val (.int ca), .val (.int cb), .val (.int da), .val (.int db), .val (.int ar1), .val (.int ar2), .val (.ref x1), .val (.ref x2), .val (.ref o275), .val (.int kd), .val (.ref o293), .unset, .unset] []))
            refine P294.xs (fun hA hx hy t k => XS.iconst hA hx rfl (hb hy at_287) k) ?_
            show Go p e below _ (T294.setTop (mkF m 288 #[.val (.int p0), .val (.int p1), .val (.int p2), .val (.int p3), .val (.int p4), .val (.int la), .val (.int lb), .val (.int ca), .val (.int cb), .val (.int da), .val (.int db), .val (.int ar1), .val (.int ar2), .val (.ref x1), .val (.ref x2), .val (.ref o275), .val (.int kd), .val (.ref o293), .unset, .unset] [(.int (0 : Int32))]))
            exact j7 _ _ _ (Or.inr ⟨rfl, fun g => cs3_ne (up3 hla) (up3 hlb) hl g⟩) (P294.wider (by decide) (by decide)) Ec304 E294 Ec302 Ec303 Sc307 Ss294 Fc305 Fc306 Fn294 Fa294
        intro T308 h308 sn hsn P308 f308_0 f308_1 f308_2 f308_3 f308_4 f308_5 f308_6 f308_7 f308_8 f308_9
        show Go p e below _ (T308.setTop (mkF m 288 #[.val (.int p0), .val (.int p1), .val (.int p2), .val (.int p3), .val (.int p4), .val (.int la), .val (.int lb), .val (.int ca), .val (.int cb), .val (.int da), .val (.int db), .val (.int ar1), .val (.int ar2), .val (.ref x1), .val (.ref x2), .val (.ref o275), .val (.int kd), .val (.ref o293), .unset, .unset] [(.int sn)]))
        rcases hsn with ⟨rfl, hs⟩ | ⟨rfl, hs⟩
        · show Go p e below _ (T308.setTop (mkF m 288 #[.val (.int p0), .val (.int p1), .val (.int p2), .val (.int p3), .val (.int p4), .val (.int la), .val (.int lb), .val (.int ca), .val (.int cb), .val (.int da), .val (.int db), .val (.int ar1), .val (.int ar2), .val (.ref x1), .val (.ref x2), .val (.ref o275), .val (.int kd), .val (.ref o293), .unset, .unset] [(.int (1 : Int32))]))
          refine P308.xs (fun hA hx hy t k => XS.istore hA hx rfl (hb hy at_288) rfl (l' := #[.val (.int p0), .val (.int p1), .val (.int p2), .val (.int p3), .val (.int p4), .val (.int la), .val (.int lb), .val (.int ca), .val (.int cb), .val (.int da), .val (.int db), .val (.int ar1), .val (.int ar2), .val (.ref x1), .val (.ref x2), .val (.ref o275), .val (.int kd), .val (.ref o293), .val (.int (1 : Int32)), .unset]) rfl k) ?_
          show Go p e below _ (T308.setTop (mkF m 290 #[.val (.int p0), .val (.int p1), .val (.int p2), .val (.int p3), .val (.int p4), .val (.int la), .val (.int lb), .val (.int ca), .val (.int cb), .val (.int da), .val (.int db), .val (.int ar1), .val (.int ar2), .val (.ref x1), .val (.ref x2), .val (.ref o275), .val (.int kd), .val (.ref o293), .val (.int (1 : Int32)), .unset] []))
          refine P308.xs (fun hA hx hy t k => XS.iload hA hx rfl (hb hy at_290) rfl  k) ?_
          show Go p e below _ (T308.setTop (mkF m 292 #[.val (.int p0), .val (.int p1), .val (.int p2), .val (.int p3), .val (.int p4), .val (.int la), .val (.int lb), .val (.int ca), .val (.int cb), .val (.int da), .val (.int db), .val (.int ar1), .val (.int ar2), .val (.ref x1), .val (.ref x2), .val (.ref o275), .val (.int kd), .val (.ref o293), .val (.int (1 : Int32)), .unset] [(.int (1 : Int32))]))
          refine P308.xs (fun hA hx hy t k => XS.ifNo hA hx rfl (hb hy at_292) rfl ((if0 _ _).trans (feq (by decide)).1) k) ?_
          show Go p e below _ (T308.setTop (mkF m 295 #[.val (.int p0), .val (.int p1), .val (.int p2), .val (.int p3), .val (.int p4), .val (.int la), .val (.int lb), .val (.int ca), .val (.int cb), .val (.int da), .val (.int db), .val (.int ar1), .val (.int ar2), .val (.ref x1), .val (.ref x2), .val (.ref o275), .val (.int kd), .val (.ref o293), .val (.int (1 : Int32)), .unset] []))
          refine P308.xs (fun hA hx hy t k => XS.iload hA hx rfl (hb hy at_295) rfl  k) ?_
          show Go p e below _ (T308.setTop (mkF m 297 #[.val (.int p0), .val (.int p1), .val (.int p2), .val (.int p3), .val (.int p4), .val (.int la), .val (.int lb), .val (.int ca), .val (.int cb), .val (.int da), .val (.int db), .val (.int ar1), .val (.int ar2), .val (.ref x1), .val (.ref x2), .val (.ref o275), .val (.int kd), .val (.ref o293), .val (.int (1 : Int32)), .unset] [(.int ar1)]))
          refine P308.xs (fun hA hx hy t k => XS.iload hA hx rfl (hb hy at_297) rfl  k) ?_
          show Go p e below _ (T308.setTop (mkF m 299 #[.val (.int p0), .val (.int p1), .val (.int p2), .val (.int p3), .val (.int p4), .val (.int la), .val (.int lb), .val (.int ca), .val (.int cb), .val (.int da), .val (.int db), .val (.int ar1), .val (.int ar2), .val (.ref x1), .val (.ref x2), .val (.ref o275), .val (.int kd), .val (.ref o293), .val (.int (1 : Int32)), .unset] [(.int ar2), (.int ar1)]))
          by_cases ha : ar1 = ar2
          · refine P308.xs (fun hA hx hy t k => XS.icmpNo hA hx rfl (hb hy at_299) rfl (teq ha).2 k) ?_
            show Go p e below _ (T308.setTop (mkF m 302 #[.val (.int p0), .val (.int p1), .val (.int p2), .val (.int p3), .val (.int p4), .val (.int la), .val (.int lb), .val (.int ca), .val (.int cb), .val (.int da), .val (.int db), .val (.int ar1), .val (.int ar2), .val (.ref x1), .val (.ref x2), .val (.ref o275), .val (.int kd), .val (.ref o293), .val (.int (1 : Int32)), .unset] []))
            have hsm : (ar1 = ar2 ∧ (cs3 la ca cb 0) = (cs3 lb da db 0)) := ⟨ha, hs⟩
            refine P308.xs (fun hA hx hy t k => XS.iconst hA hx rfl (hb hy at_302) k) ?_
            show Go p e below _ (T308.setTop (mkF m 303 #[.val (.int p0), .val (.int p1), .val (.int p2), .val (.int p3), .val (.int p4), .val (.int la), .val (.int lb), .val (.int ca), .val (.int cb), .val (.int da), .val (.int db), .val (.int ar1), .val (.int ar2), .val (.ref x1), .val (.ref x2), .val (.ref o275), .val (.int kd), .val (.ref o293), .val (.int (1 : Int32)), .unset] [(.int (1 : Int32))]))
            refine P308.xs (fun hA hx hy t k => XS.goto hA hx rfl (pc0 := 303) (pc' := 307) rfl (hb hy at_303) (by decide) (by decide) k) ?_
            show Go p e below _ (T308.setTop (mkF m 307 #[.val (.int p0), .val (.int p1), .val (.int p2), .val (.int p3), .val (.int p4), .val (.int la), .val (.int lb), .val (.int ca), .val (.int cb), .val (.int da), .val (.int db), .val (.int ar1), .val (.int ar2), .val (.ref x1), .val (.ref x2), .val (.ref o275), .val (.int kd), .val (.ref o293), .val (.int (1 : Int32)), .unset] [(.int (1 : Int32))]))
            refine P308.xs (fun hA hx hy t k => XS.istore hA hx rfl (hb hy at_307) rfl (l' := #[.val (.int p0), .val (.int p1), .val (.int p2), .val (.int p3), .val (.int p4), .val (.int la), .val (.int lb), .val (.int ca), .val (.int cb), .val (.int da), .val (.int db), .val (.int ar1), .val (.int ar2), .val (.ref x1), .val (.ref x2), .val (.ref o275), .val (.int kd), .val (.ref o293), .val (.int (1 : Int32)), .val (.int (1 : Int32))]) rfl k) ?_
            show Go p e below _ (T308.setTop (mkF m 309 #[.val (.int p0), .val (.int p1), .val (.int p2), .val (.int p3), .val (.int p4), .val (.int la), .val (.int lb), .val (.int ca), .val (.int cb), .val (.int da), .val (.int db), .val (.int ar1), .val (.int ar2), .val (.ref x1), .val (.ref x2), .val (.ref o275), .val (.int kd), .val (.ref o293), .val (.int (1 : Int32)), .val (.int (1 : Int32))] []))
            refine P308.xs (fun hA hx hy t k => XS.aload hA hx rfl (hb hy at_309) rfl rfl  k) ?_
            show Go p e below _ (T308.setTop (mkF m 311 #[.val (.int p0), .val (.int p1), .val (.int p2), .val (.int p3), .val (.int p4), .val (.int la), .val (.int lb), .val (.int ca), .val (.int cb), .val (.int da), .val (.int db), .val (.int ar1), .val (.int ar2), .val (.ref x1), .val (.ref x2), .val (.ref o275), .val (.int kd), .val (.ref o293), .val (.int (1 : Int32)), .val (.int (1 : Int32))] [(.ref o275)]))
            refine P308.xs (fun hA hx hy t k => XS.aload hA hx rfl (hb hy at_311) rfl rfl  k) ?_
            show Go p e below _ (T308.setTop (mkF m 313 #[.val (.int p0), .val (.int p1), .val (.int p2), .val (.int p3), .val (.int p4), .val (.int la), .val (.int lb), .val (.int ca), .val (.int cb), .val (.int da), .val (.int db), .val (.int ar1), .val (.int ar2), .val (.ref x1), .val (.ref x2), .val (.ref o275), .val (.int kd), .val (.ref o293), .val (.int (1 : Int32)), .val (.int (1 : Int32))] [(.ref o293), (.ref o275)]))
            refine P308.callV (hw _ (List.mem_of_getElem? (i := 92) rfl)) (hw _ (List.mem_of_getElem? (i := 93) rfl)) (hw _ (List.mem_of_getElem? (i := 95) rfl)) (nfOf (hw _ (List.mem_of_getElem? (i := 95) rfl))) (hw _ (List.mem_of_getElem? (i := 94) rfl)) (hw _ (List.mem_of_getElem? (i := 29) rfl)) (hw _ (List.mem_of_getElem? (i := 96) rfl)) (by decide) f308_0 (eqC l Z a0 hw [] EW.nil zc S0 Pz wc cc SH SC BX o275 o293 x1 x2 ar1 ar2 (cs3 la ca cb 0) (cs3 lb da db 0) h308 P308.old f308_1 f308_6 f308_7 f308_8 f308_9 f308_4 f308_5) (W := 0) (by decide) (by decide) (by decide) (by decide) all0 pd_12 (argsL := [(.ref o293)]) rfl rfl rfl (Nat.le_of_eq rfl) at_313 fun v309 T309 h309 P309 K309 Q309 => ?_
            obtain ⟨hd309, hh309⟩ := Q309
            rw [hh309] at P309
            rcases hd309 with ⟨rfl, hc⟩ | ⟨rfl, hc⟩
            · show Go p e below _ (T309.setTop (mkF m 316 #[.val (.int p0), .val (.int p1), .val (.int p2), .val (.int p3), .val (.int p4), .val (.int la), .val (.int lb), .val (.int ca), .val (.int cb), .val (.int da), .val (.int db), .val (.int ar1), .val (.int ar2), .val (.ref x1), .val (.ref x2), .val (.ref o275), .val (.int kd), .val (.ref o293), .val (.int (1 : Int32)), .val (.int (1 : Int32))] [(.int (1 : Int32))]))
              refine P309.xs (fun hA hx hy t k => XS.iload hA hx rfl (hb hy at_316) rfl  k) ?_
              show Go p e below _ (T309.setTop (mkF m 318 #[.val (.int p0), .val (.int p1), .val (.int p2), .val (.int p3), .val (.int p4), .val (.int la), .val (.int lb), .val (.int ca), .val (.int cb), .val (.int da), .val (.int db), .val (.int ar1), .val (.int ar2), .val (.ref x1), .val (.ref x2), .val (.ref o275), .val (.int kd), .val (.ref o293), .val (.int (1 : Int32)), .val (.int (1 : Int32))] [(.int (1 : Int32)), (.int (1 : Int32))]))
              refine P309.xs (fun hA hx hy t k => XS.icmpNo hA hx rfl (hb hy at_318) rfl (teq rfl).2 k) ?_
              show Go p e below _ (T309.setTop (mkF m 321 #[.val (.int p0), .val (.int p1), .val (.int p2), .val (.int p3), .val (.int p4), .val (.int la), .val (.int lb), .val (.int ca), .val (.int cb), .val (.int da), .val (.int db), .val (.int ar1), .val (.int ar2), .val (.ref x1), .val (.ref x2), .val (.ref o275), .val (.int kd), .val (.ref o293), .val (.int (1 : Int32)), .val (.int (1 : Int32))] []))
              refine P309.xs (fun hA hx hy t k => XS.aload hA hx rfl (hb hy at_321) rfl rfl  k) ?_
              show Go p e below _ (T309.setTop (mkF m 323 #[.val (.int p0), .val (.int p1), .val (.int p2), .val (.int p3), .val (.int p4), .val (.int la), .val (.int lb), .val (.int ca), .val (.int cb), .val (.int da), .val (.int db), .val (.int ar1), .val (.int ar2), .val (.ref x1), .val (.ref x2), .val (.ref o275), .val (.int kd), .val (.ref o293), .val (.int (1 : Int32)), .val (.int (1 : Int32))] [(.ref o293)]))
              refine P309.xs (fun hA hx hy t k => XS.aload hA hx rfl (hb hy at_323) rfl rfl  k) ?_
              show Go p e below _ (T309.setTop (mkF m 325 #[.val (.int p0), .val (.int p1), .val (.int p2), .val (.int p3), .val (.int p4), .val (.int la), .val (.int lb), .val (.int ca), .val (.int cb), .val (.int da), .val (.int db), .val (.int ar1), .val (.int ar2), .val (.ref x1), .val (.ref x2), .val (.ref o275), .val (.int kd), .val (.ref o293), .val (.int (1 : Int32)), .val (.int (1 : Int32))] [(.ref o275), (.ref o293)]))
              refine P309.callV (hw _ (List.mem_of_getElem? (i := 92) rfl)) (hw _ (List.mem_of_getElem? (i := 93) rfl)) (hw _ (List.mem_of_getElem? (i := 95) rfl)) (nfOf (hw _ (List.mem_of_getElem? (i := 95) rfl))) (hw _ (List.mem_of_getElem? (i := 94) rfl)) (hw _ (List.mem_of_getElem? (i := 29) rfl)) (hw _ (List.mem_of_getElem? (i := 96) rfl)) (by decide) f308_1 (eqC l Z a0 hw [] EW.nil zc S0 Pz wc cc SH SC BX o293 o275 x2 x1 ar2 ar1 (cs3 lb da db 0) (cs3 la ca cb 0) h308 P309.old f308_0 f308_8 f308_9 f308_6 f308_7 f308_5 f308_4) (W := 0) (by decide) (by decide) (by decide) (by decide) all0 pd_12 (argsL := [(.ref o275)]) rfl rfl rfl (Nat.le_of_eq rfl) at_325 fun v310 T310 h310 P310 K310 Q310 => ?_
              obtain ⟨hd310, hh310⟩ := Q310
              rw [hh310] at P310
              rcases hd310 with ⟨rfl, hc⟩ | ⟨rfl, hc⟩
              · show Go p e below _ (T310.setTop (mkF m 328 #[.val (.int p0), .val (.int p1), .val (.int p2), .val (.int p3), .val (.int p4), .val (.int la), .val (.int lb), .val (.int ca), .val (.int cb), .val (.int da), .val (.int db), .val (.int ar1), .val (.int ar2), .val (.ref x1), .val (.ref x2), .val (.ref o275), .val (.int kd), .val (.ref o293), .val (.int (1 : Int32)), .val (.int (1 : Int32))] [(.int (1 : Int32))]))
                refine P310.xs (fun hA hx hy t k => XS.iload hA hx rfl (hb hy at_328) rfl  k) ?_
                show Go p e below _ (T310.setTop (mkF m 330 #[.val (.int p0), .val (.int p1), .val (.int p2), .val (.int p3), .val (.int p4), .val (.int la), .val (.int lb), .val (.int ca), .val (.int cb), .val (.int da), .val (.int db), .val (.int ar1), .val (.int ar2), .val (.ref x1), .val (.ref x2), .val (.ref o275), .val (.int kd), .val (.ref o293), .val (.int (1 : Int32)), .val (.int (1 : Int32))] [(.int (1 : Int32)), (.int (1 : Int32))]))
                refine P310.xs (fun hA hx hy t k => XS.icmpNo hA hx rfl (hb hy at_330) rfl (teq rfl).2 k) ?_
                show Go p e below _ (T310.setTop (mkF m 333 #[.val (.int p0), .val (.int p1), .val (.int p2), .val (.int p3), .val (.int p4), .val (.int la), .val (.int lb), .val (.int ca), .val (.int cb), .val (.int da), .val (.int db), .val (.int ar1), .val (.int ar2), .val (.ref x1), .val (.ref x2), .val (.ref o275), .val (.int kd), .val (.ref o293), .val (.int (1 : Int32)), .val (.int (1 : Int32))] []))
                refine P310.xs (fun hA hx hy t k => XS.iconst hA hx rfl (hb hy at_333) k) ?_
                show Go p e below _ (T310.setTop (mkF m 334 #[.val (.int p0), .val (.int p1), .val (.int p2), .val (.int p3), .val (.int p4), .val (.int la), .val (.int lb), .val (.int ca), .val (.int cb), .val (.int da), .val (.int db), .val (.int ar1), .val (.int ar2), .val (.ref x1), .val (.ref x2), .val (.ref o275), .val (.int kd), .val (.ref o293), .val (.int (1 : Int32)), .val (.int (1 : Int32))] [(.int (1 : Int32))]))
                refine P310.xs (fun hA hx hy t k => XS.goto hA hx rfl (pc0 := 334) (pc' := 338) rfl (hb hy at_334) (by decide) (by decide) k) ?_
                show Go p e below _ (T310.setTop (mkF m 338 #[.val (.int p0), .val (.int p1), .val (.int p2), .val (.int p3), .val (.int p4), .val (.int la), .val (.int lb), .val (.int ca), .val (.int cb), .val (.int da), .val (.int db), .val (.int ar1), .val (.int ar2), .val (.ref x1), .val (.ref x2), .val (.ref o275), .val (.int kd), .val (.ref o293), .val (.int (1 : Int32)), .val (.int (1 : Int32))] [(.int (1 : Int32))]))
                exact P310.retN (t := .boolean) rfl (by simp) at_338 (by decide) (by decide) rfl
              · exact absurd ⟨hsm.1.symm, hsm.2.symm⟩ hc
            · exact absurd hsm hc
          · refine P308.xs (fun hA hx hy t k => XS.icmpYes hA hx rfl (pc0 := 299) (pc' := 306) rfl (hb hy at_299) rfl (feq ha).2 (by decide) (by decide) k) ?_
            show Go p e below _ (T308.setTop (mkF m 306 #[.val (.int p0), .val (.int p1), .val (.int p2), .val (.int p3), .val (.int p4), .val (.int la), .val (.int lb), .val (.int ca), .val (.int cb), .val (.int da), .val (.int db), .val (.int ar1), .val (.int ar2), .val (.ref x1), .val (.ref x2), .val (.ref o275), .val (.int kd), .val (.ref o293), .val (.int (1 : Int32)), .unset] []))
            have hsm : ¬ (ar1 = ar2 ∧ (cs3 la ca cb 0) = (cs3 lb da db 0)) := fun g => ha g.1
            refine P308.xs (fun hA hx hy t k => XS.iconst hA hx rfl (hb hy at_306) k) ?_
            show Go p e below _ (T308.setTop (mkF m 307 #[.val (.int p0), .val (.int p1), .val (.int p2), .val (.int p3), .val (.int p4), .val (.int la), .val (.int lb), .val (.int ca), .val (.int cb), .val (.int da), .val (.int db), .val (.int ar1), .val (.int ar2), .val (.ref x1), .val (.ref x2), .val (.ref o275), .val (.int kd), .val (.ref o293), .val (.int (1 : Int32)), .unset] [(.int (0 : Int32))]))
            refine P308.xs (fun hA hx hy t k => XS.istore hA hx rfl (hb hy at_307) rfl (l' := #[.val (.int p0), .val (.int p1), .val (.int p2), .val (.int p3), .val (.int p4), .val (.int la), .val (.int lb), .val (.int ca), .val (.int cb), .val (.int da), .val (.int db), .val (.int ar1), .val (.int ar2), .val (.ref x1), .val (.ref x2), .val (.ref o275), .val (.int kd), .val (.ref o293), .val (.int (1 : Int32)), .val (.int (0 : Int32))]) rfl k) ?_
            show Go p e below _ (T308.setTop (mkF m 309 #[.val (.int p0), .val (.int p1), .val (.int p2), .val (.int p3), .val (.int p4), .val (.int la), .val (.int lb), .val (.int ca), .val (.int cb), .val (.int da), .val (.int db), .val (.int ar1), .val (.int ar2), .val (.ref x1), .val (.ref x2), .val (.ref o275), .val (.int kd), .val (.ref o293), .val (.int (1 : Int32)), .val (.int (0 : Int32))] []))
            refine P308.xs (fun hA hx hy t k => XS.aload hA hx rfl (hb hy at_309) rfl rfl  k) ?_
            show Go p e below _ (T308.setTop (mkF m 311 #[.val (.int p0), .val (.int p1), .val (.int p2), .val (.int p3), .val (.int p4), .val (.int la), .val (.int lb), .val (.int ca), .val (.int cb), .val (.int da), .val (.int db), .val (.int ar1), .val (.int ar2), .val (.ref x1), .val (.ref x2), .val (.ref o275), .val (.int kd), .val (.ref o293), .val (.int (1 : Int32)), .val (.int (0 : Int32))] [(.ref o275)]))
            refine P308.xs (fun hA hx hy t k => XS.aload hA hx rfl (hb hy at_311) rfl rfl  k) ?_
            show Go p e below _ (T308.setTop (mkF m 313 #[.val (.int p0), .val (.int p1), .val (.int p2), .val (.int p3), .val (.int p4), .val (.int la), .val (.int lb), .val (.int ca), .val (.int cb), .val (.int da), .val (.int db), .val (.int ar1), .val (.int ar2), .val (.ref x1), .val (.ref x2), .val (.ref o275), .val (.int kd), .val (.ref o293), .val (.int (1 : Int32)), .val (.int (0 : Int32))] [(.ref o293), (.ref o275)]))
            refine P308.callV (hw _ (List.mem_of_getElem? (i := 92) rfl)) (hw _ (List.mem_of_getElem? (i := 93) rfl)) (hw _ (List.mem_of_getElem? (i := 95) rfl)) (nfOf (hw _ (List.mem_of_getElem? (i := 95) rfl))) (hw _ (List.mem_of_getElem? (i := 94) rfl)) (hw _ (List.mem_of_getElem? (i := 29) rfl)) (hw _ (List.mem_of_getElem? (i := 96) rfl)) (by decide) f308_0 (eqC l Z a0 hw [] EW.nil zc S0 Pz wc cc SH SC BX o275 o293 x1 x2 ar1 ar2 (cs3 la ca cb 0) (cs3 lb da db 0) h308 P308.old f308_1 f308_6 f308_7 f308_8 f308_9 f308_4 f308_5) (W := 0) (by decide) (by decide) (by decide) (by decide) all0 pd_12 (argsL := [(.ref o293)]) rfl rfl rfl (Nat.le_of_eq rfl) at_313 fun v311 T311 h311 P311 K311 Q311 => ?_
            obtain ⟨hd311, hh311⟩ := Q311
            rw [hh311] at P311
            rcases hd311 with ⟨rfl, hc⟩ | ⟨rfl, hc⟩
            · exact absurd hc hsm
            · show Go p e below _ (T311.setTop (mkF m 316 #[.val (.int p0), .val (.int p1), .val (.int p2), .val (.int p3), .val (.int p4), .val (.int la), .val (.int lb), .val (.int ca), .val (.int cb), .val (.int da), .val (.int db), .val (.int ar1), .val (.int ar2), .val (.ref x1), .val (.ref x2), .val (.ref o275), .val (.int kd), .val (.ref o293), .val (.int (1 : Int32)), .val (.int (0 : Int32))] [(.int (0 : Int32))]))
              refine P311.xs (fun hA hx hy t k => XS.iload hA hx rfl (hb hy at_316) rfl  k) ?_
              show Go p e below _ (T311.setTop (mkF m 318 #[.val (.int p0), .val (.int p1), .val (.int p2), .val (.int p3), .val (.int p4), .val (.int la), .val (.int lb), .val (.int ca), .val (.int cb), .val (.int da), .val (.int db), .val (.int ar1), .val (.int ar2), .val (.ref x1), .val (.ref x2), .val (.ref o275), .val (.int kd), .val (.ref o293), .val (.int (1 : Int32)), .val (.int (0 : Int32))] [(.int (0 : Int32)), (.int (0 : Int32))]))
              refine P311.xs (fun hA hx hy t k => XS.icmpNo hA hx rfl (hb hy at_318) rfl (teq rfl).2 k) ?_
              show Go p e below _ (T311.setTop (mkF m 321 #[.val (.int p0), .val (.int p1), .val (.int p2), .val (.int p3), .val (.int p4), .val (.int la), .val (.int lb), .val (.int ca), .val (.int cb), .val (.int da), .val (.int db), .val (.int ar1), .val (.int ar2), .val (.ref x1), .val (.ref x2), .val (.ref o275), .val (.int kd), .val (.ref o293), .val (.int (1 : Int32)), .val (.int (0 : Int32))] []))
              refine P311.xs (fun hA hx hy t k => XS.aload hA hx rfl (hb hy at_321) rfl rfl  k) ?_
              show Go p e below _ (T311.setTop (mkF m 323 #[.val (.int p0), .val (.int p1), .val (.int p2), .val (.int p3), .val (.int p4), .val (.int la), .val (.int lb), .val (.int ca), .val (.int cb), .val (.int da), .val (.int db), .val (.int ar1), .val (.int ar2), .val (.ref x1), .val (.ref x2), .val (.ref o275), .val (.int kd), .val (.ref o293), .val (.int (1 : Int32)), .val (.int (0 : Int32))] [(.ref o293)]))
              refine P311.xs (fun hA hx hy t k => XS.aload hA hx rfl (hb hy at_323) rfl rfl  k) ?_
              show Go p e below _ (T311.setTop (mkF m 325 #[.val (.int p0), .val (.int p1), .val (.int p2), .val (.int p3), .val (.int p4), .val (.int la), .val (.int lb), .val (.int ca), .val (.int cb), .val (.int da), .val (.int db), .val (.int ar1), .val (.int ar2), .val (.ref x1), .val (.ref x2), .val (.ref o275), .val (.int kd), .val (.ref o293), .val (.int (1 : Int32)), .val (.int (0 : Int32))] [(.ref o275), (.ref o293)]))
              refine P311.callV (hw _ (List.mem_of_getElem? (i := 92) rfl)) (hw _ (List.mem_of_getElem? (i := 93) rfl)) (hw _ (List.mem_of_getElem? (i := 95) rfl)) (nfOf (hw _ (List.mem_of_getElem? (i := 95) rfl))) (hw _ (List.mem_of_getElem? (i := 94) rfl)) (hw _ (List.mem_of_getElem? (i := 29) rfl)) (hw _ (List.mem_of_getElem? (i := 96) rfl)) (by decide) f308_1 (eqC l Z a0 hw [] EW.nil zc S0 Pz wc cc SH SC BX o293 o275 x2 x1 ar2 ar1 (cs3 lb da db 0) (cs3 la ca cb 0) h308 P311.old f308_0 f308_8 f308_9 f308_6 f308_7 f308_5 f308_4) (W := 0) (by decide) (by decide) (by decide) (by decide) all0 pd_12 (argsL := [(.ref o275)]) rfl rfl rfl (Nat.le_of_eq rfl) at_325 fun v312 T312 h312 P312 K312 Q312 => ?_
              obtain ⟨hd312, hh312⟩ := Q312
              rw [hh312] at P312
              rcases hd312 with ⟨rfl, hc⟩ | ⟨rfl, hc⟩
              · exact absurd ⟨hc.1.symm, hc.2.symm⟩ hsm
              · show Go p e below _ (T312.setTop (mkF m 328 #[.val (.int p0), .val (.int p1), .val (.int p2), .val (.int p3), .val (.int p4), .val (.int la), .val (.int lb), .val (.int ca), .val (.int cb), .val (.int da), .val (.int db), .val (.int ar1), .val (.int ar2), .val (.ref x1), .val (.ref x2), .val (.ref o275), .val (.int kd), .val (.ref o293), .val (.int (1 : Int32)), .val (.int (0 : Int32))] [(.int (0 : Int32))]))
                refine P312.xs (fun hA hx hy t k => XS.iload hA hx rfl (hb hy at_328) rfl  k) ?_
                show Go p e below _ (T312.setTop (mkF m 330 #[.val (.int p0), .val (.int p1), .val (.int p2), .val (.int p3), .val (.int p4), .val (.int la), .val (.int lb), .val (.int ca), .val (.int cb), .val (.int da), .val (.int db), .val (.int ar1), .val (.int ar2), .val (.ref x1), .val (.ref x2), .val (.ref o275), .val (.int kd), .val (.ref o293), .val (.int (1 : Int32)), .val (.int (0 : Int32))] [(.int (0 : Int32)), (.int (0 : Int32))]))
                refine P312.xs (fun hA hx hy t k => XS.icmpNo hA hx rfl (hb hy at_330) rfl (teq rfl).2 k) ?_
                show Go p e below _ (T312.setTop (mkF m 333 #[.val (.int p0), .val (.int p1), .val (.int p2), .val (.int p3), .val (.int p4), .val (.int la), .val (.int lb), .val (.int ca), .val (.int cb), .val (.int da), .val (.int db), .val (.int ar1), .val (.int ar2), .val (.ref x1), .val (.ref x2), .val (.ref o275), .val (.int kd), .val (.ref o293), .val (.int (1 : Int32)), .val (.int (0 : Int32))] []))
                refine P312.xs (fun hA hx hy t k => XS.iconst hA hx rfl (hb hy at_333) k) ?_
                show Go p e below _ (T312.setTop (mkF m 334 #[.val (.int p0), .val (.int p1), .val (.int p2), .val (.int p3), .val (.int p4), .val (.int la), .val (.int lb), .val (.int ca), .val (.int cb), .val (.int da), .val (.int db), .val (.int ar1), .val (.int ar2), .val (.ref x1), .val (.ref x2), .val (.ref o275), .val (.int kd), .val (.ref o293), .val (.int (1 : Int32)), .val (.int (0 : Int32))] [(.int (1 : Int32))]))
                refine P312.xs (fun hA hx hy t k => XS.goto hA hx rfl (pc0 := 334) (pc' := 338) rfl (hb hy at_334) (by decide) (by decide) k) ?_
                show Go p e below _ (T312.setTop (mkF m 338 #[.val (.int p0), .val (.int p1), .val (.int p2), .val (.int p3), .val (.int p4), .val (.int la), .val (.int lb), .val (.int ca), .val (.int cb), .val (.int da), .val (.int db), .val (.int ar1), .val (.int ar2), .val (.ref x1), .val (.ref x2), .val (.ref o275), .val (.int kd), .val (.ref o293), .val (.int (1 : Int32)), .val (.int (0 : Int32))] [(.int (1 : Int32))]))
                exact P312.retN (t := .boolean) rfl (by simp) at_338 (by decide) (by decide) rfl
        · show Go p e below _ (T308.setTop (mkF m 288 #[.val (.int p0), .val (.int p1), .val (.int p2), .val (.int p3), .val (.int p4), .val (.int la), .val (.int lb), .val (.int ca), .val (.int cb), .val (.int da), .val (.int db), .val (.int ar1), .val (.int ar2), .val (.ref x1), .val (.ref x2), .val (.ref o275), .val (.int kd), .val (.ref o293), .unset, .unset] [(.int (0 : Int32))]))
          refine P308.xs (fun hA hx hy t k => XS.istore hA hx rfl (hb hy at_288) rfl (l' := #[.val (.int p0), .val (.int p1), .val (.int p2), .val (.int p3), .val (.int p4), .val (.int la), .val (.int lb), .val (.int ca), .val (.int cb), .val (.int da), .val (.int db), .val (.int ar1), .val (.int ar2), .val (.ref x1), .val (.ref x2), .val (.ref o275), .val (.int kd), .val (.ref o293), .val (.int (0 : Int32)), .unset]) rfl k) ?_
          show Go p e below _ (T308.setTop (mkF m 290 #[.val (.int p0), .val (.int p1), .val (.int p2), .val (.int p3), .val (.int p4), .val (.int la), .val (.int lb), .val (.int ca), .val (.int cb), .val (.int da), .val (.int db), .val (.int ar1), .val (.int ar2), .val (.ref x1), .val (.ref x2), .val (.ref o275), .val (.int kd), .val (.ref o293), .val (.int (0 : Int32)), .unset] []))
          refine P308.xs (fun hA hx hy t k => XS.iload hA hx rfl (hb hy at_290) rfl  k) ?_
          show Go p e below _ (T308.setTop (mkF m 292 #[.val (.int p0), .val (.int p1), .val (.int p2), .val (.int p3), .val (.int p4), .val (.int la), .val (.int lb), .val (.int ca), .val (.int cb), .val (.int da), .val (.int db), .val (.int ar1), .val (.int ar2), .val (.ref x1), .val (.ref x2), .val (.ref o275), .val (.int kd), .val (.ref o293), .val (.int (0 : Int32)), .unset] [(.int (0 : Int32))]))
          refine P308.xs (fun hA hx hy t k => XS.ifYes hA hx rfl (pc0 := 292) (pc' := 306) rfl (hb hy at_292) rfl ((if0 _ _).trans (teq rfl).1) (by decide) (by decide) k) ?_
          show Go p e below _ (T308.setTop (mkF m 306 #[.val (.int p0), .val (.int p1), .val (.int p2), .val (.int p3), .val (.int p4), .val (.int la), .val (.int lb), .val (.int ca), .val (.int cb), .val (.int da), .val (.int db), .val (.int ar1), .val (.int ar2), .val (.ref x1), .val (.ref x2), .val (.ref o275), .val (.int kd), .val (.ref o293), .val (.int (0 : Int32)), .unset] []))
          have hsm : ¬ (ar1 = ar2 ∧ (cs3 la ca cb 0) = (cs3 lb da db 0)) := fun g => hs g.2
          refine P308.xs (fun hA hx hy t k => XS.iconst hA hx rfl (hb hy at_306) k) ?_
          show Go p e below _ (T308.setTop (mkF m 307 #[.val (.int p0), .val (.int p1), .val (.int p2), .val (.int p3), .val (.int p4), .val (.int la), .val (.int lb), .val (.int ca), .val (.int cb), .val (.int da), .val (.int db), .val (.int ar1), .val (.int ar2), .val (.ref x1), .val (.ref x2), .val (.ref o275), .val (.int kd), .val (.ref o293), .val (.int (0 : Int32)), .unset] [(.int (0 : Int32))]))
          refine P308.xs (fun hA hx hy t k => XS.istore hA hx rfl (hb hy at_307) rfl (l' := #[.val (.int p0), .val (.int p1), .val (.int p2), .val (.int p3), .val (.int p4), .val (.int la), .val (.int lb), .val (.int ca), .val (.int cb), .val (.int da), .val (.int db), .val (.int ar1), .val (.int ar2), .val (.ref x1), .val (.ref x2), .val (.ref o275), .val (.int kd), .val (.ref o293), .val (.int (0 : Int32)), .val (.int (0 : Int32))]) rfl k) ?_
          show Go p e below _ (T308.setTop (mkF m 309 #[.val (.int p0), .val (.int p1), .val (.int p2), .val (.int p3), .val (.int p4), .val (.int la), .val (.int lb), .val (.int ca), .val (.int cb), .val (.int da), .val (.int db), .val (.int ar1), .val (.int ar2), .val (.ref x1), .val (.ref x2), .val (.ref o275), .val (.int kd), .val (.ref o293), .val (.int (0 : Int32)), .val (.int (0 : Int32))] []))
          refine P308.xs (fun hA hx hy t k => XS.aload hA hx rfl (hb hy at_309) rfl rfl  k) ?_
          show Go p e below _ (T308.setTop (mkF m 311 #[.val (.int p0), .val (.int p1), .val (.int p2), .val (.int p3), .val (.int p4), .val (.int la), .val (.int lb), .val (.int ca), .val (.int cb), .val (.int da), .val (.int db), .val (.int ar1), .val (.int ar2), .val (.ref x1), .val (.ref x2), .val (.ref o275), .val (.int kd), .val (.ref o293), .val (.int (0 : Int32)), .val (.int (0 : Int32))] [(.ref o275)]))
          refine P308.xs (fun hA hx hy t k => XS.aload hA hx rfl (hb hy at_311) rfl rfl  k) ?_
          show Go p e below _ (T308.setTop (mkF m 313 #[.val (.int p0), .val (.int p1), .val (.int p2), .val (.int p3), .val (.int p4), .val (.int la), .val (.int lb), .val (.int ca), .val (.int cb), .val (.int da), .val (.int db), .val (.int ar1), .val (.int ar2), .val (.ref x1), .val (.ref x2), .val (.ref o275), .val (.int kd), .val (.ref o293), .val (.int (0 : Int32)), .val (.int (0 : Int32))] [(.ref o293), (.ref o275)]))
          refine P308.callV (hw _ (List.mem_of_getElem? (i := 92) rfl)) (hw _ (List.mem_of_getElem? (i := 93) rfl)) (hw _ (List.mem_of_getElem? (i := 95) rfl)) (nfOf (hw _ (List.mem_of_getElem? (i := 95) rfl))) (hw _ (List.mem_of_getElem? (i := 94) rfl)) (hw _ (List.mem_of_getElem? (i := 29) rfl)) (hw _ (List.mem_of_getElem? (i := 96) rfl)) (by decide) f308_0 (eqC l Z a0 hw [] EW.nil zc S0 Pz wc cc SH SC BX o275 o293 x1 x2 ar1 ar2 (cs3 la ca cb 0) (cs3 lb da db 0) h308 P308.old f308_1 f308_6 f308_7 f308_8 f308_9 f308_4 f308_5) (W := 0) (by decide) (by decide) (by decide) (by decide) all0 pd_12 (argsL := [(.ref o293)]) rfl rfl rfl (Nat.le_of_eq rfl) at_313 fun v313 T313 h313 P313 K313 Q313 => ?_
          obtain ⟨hd313, hh313⟩ := Q313
          rw [hh313] at P313
          rcases hd313 with ⟨rfl, hc⟩ | ⟨rfl, hc⟩
          · exact absurd hc hsm
          · show Go p e below _ (T313.setTop (mkF m 316 #[.val (.int p0), .val (.int p1), .val (.int p2), .val (.int p3), .val (.int p4), .val (.int la), .val (.int lb), .val (.int ca), .val (.int cb), .val (.int da), .val (.int db), .val (.int ar1), .val (.int ar2), .val (.ref x1), .val (.ref x2), .val (.ref o275), .val (.int kd), .val (.ref o293), .val (.int (0 : Int32)), .val (.int (0 : Int32))] [(.int (0 : Int32))]))
            refine P313.xs (fun hA hx hy t k => XS.iload hA hx rfl (hb hy at_316) rfl  k) ?_
            show Go p e below _ (T313.setTop (mkF m 318 #[.val (.int p0), .val (.int p1), .val (.int p2), .val (.int p3), .val (.int p4), .val (.int la), .val (.int lb), .val (.int ca), .val (.int cb), .val (.int da), .val (.int db), .val (.int ar1), .val (.int ar2), .val (.ref x1), .val (.ref x2), .val (.ref o275), .val (.int kd), .val (.ref o293), .val (.int (0 : Int32)), .val (.int (0 : Int32))] [(.int (0 : Int32)), (.int (0 : Int32))]))
            refine P313.xs (fun hA hx hy t k => XS.icmpNo hA hx rfl (hb hy at_318) rfl (teq rfl).2 k) ?_
            show Go p e below _ (T313.setTop (mkF m 321 #[.val (.int p0), .val (.int p1), .val (.int p2), .val (.int p3), .val (.int p4), .val (.int la), .val (.int lb), .val (.int ca), .val (.int cb), .val (.int da), .val (.int db), .val (.int ar1), .val (.int ar2), .val (.ref x1), .val (.ref x2), .val (.ref o275), .val (.int kd), .val (.ref o293), .val (.int (0 : Int32)), .val (.int (0 : Int32))] []))
            refine P313.xs (fun hA hx hy t k => XS.aload hA hx rfl (hb hy at_321) rfl rfl  k) ?_
            show Go p e below _ (T313.setTop (mkF m 323 #[.val (.int p0), .val (.int p1), .val (.int p2), .val (.int p3), .val (.int p4), .val (.int la), .val (.int lb), .val (.int ca), .val (.int cb), .val (.int da), .val (.int db), .val (.int ar1), .val (.int ar2), .val (.ref x1), .val (.ref x2), .val (.ref o275), .val (.int kd), .val (.ref o293), .val (.int (0 : Int32)), .val (.int (0 : Int32))] [(.ref o293)]))
            refine P313.xs (fun hA hx hy t k => XS.aload hA hx rfl (hb hy at_323) rfl rfl  k) ?_
            show Go p e below _ (T313.setTop (mkF m 325 #[.val (.int p0), .val (.int p1), .val (.int p2), .val (.int p3), .val (.int p4), .val (.int la), .val (.int lb), .val (.int ca), .val (.int cb), .val (.int da), .val (.int db), .val (.int ar1), .val (.int ar2), .val (.ref x1), .val (.ref x2), .val (.ref o275), .val (.int kd), .val (.ref o293), .val (.int (0 : Int32)), .val (.int (0 : Int32))] [(.ref o275), (.ref o293)]))
            refine P313.callV (hw _ (List.mem_of_getElem? (i := 92) rfl)) (hw _ (List.mem_of_getElem? (i := 93) rfl)) (hw _ (List.mem_of_getElem? (i := 95) rfl)) (nfOf (hw _ (List.mem_of_getElem? (i := 95) rfl))) (hw _ (List.mem_of_getElem? (i := 94) rfl)) (hw _ (List.mem_of_getElem? (i := 29) rfl)) (hw _ (List.mem_of_getElem? (i := 96) rfl)) (by decide) f308_1 (eqC l Z a0 hw [] EW.nil zc S0 Pz wc cc SH SC BX o293 o275 x2 x1 ar2 ar1 (cs3 lb da db 0) (cs3 la ca cb 0) h308 P313.old f308_0 f308_8 f308_9 f308_6 f308_7 f308_5 f308_4) (W := 0) (by decide) (by decide) (by decide) (by decide) all0 pd_12 (argsL := [(.ref o275)]) rfl rfl rfl (Nat.le_of_eq rfl) at_325 fun v314 T314 h314 P314 K314 Q314 => ?_
            obtain ⟨hd314, hh314⟩ := Q314
            rw [hh314] at P314
            rcases hd314 with ⟨rfl, hc⟩ | ⟨rfl, hc⟩
            · exact absurd ⟨hc.1.symm, hc.2.symm⟩ hsm
            · show Go p e below _ (T314.setTop (mkF m 328 #[.val (.int p0), .val (.int p1), .val (.int p2), .val (.int p3), .val (.int p4), .val (.int la), .val (.int lb), .val (.int ca), .val (.int cb), .val (.int da), .val (.int db), .val (.int ar1), .val (.int ar2), .val (.ref x1), .val (.ref x2), .val (.ref o275), .val (.int kd), .val (.ref o293), .val (.int (0 : Int32)), .val (.int (0 : Int32))] [(.int (0 : Int32))]))
              refine P314.xs (fun hA hx hy t k => XS.iload hA hx rfl (hb hy at_328) rfl  k) ?_
              show Go p e below _ (T314.setTop (mkF m 330 #[.val (.int p0), .val (.int p1), .val (.int p2), .val (.int p3), .val (.int p4), .val (.int la), .val (.int lb), .val (.int ca), .val (.int cb), .val (.int da), .val (.int db), .val (.int ar1), .val (.int ar2), .val (.ref x1), .val (.ref x2), .val (.ref o275), .val (.int kd), .val (.ref o293), .val (.int (0 : Int32)), .val (.int (0 : Int32))] [(.int (0 : Int32)), (.int (0 : Int32))]))
              refine P314.xs (fun hA hx hy t k => XS.icmpNo hA hx rfl (hb hy at_330) rfl (teq rfl).2 k) ?_
              show Go p e below _ (T314.setTop (mkF m 333 #[.val (.int p0), .val (.int p1), .val (.int p2), .val (.int p3), .val (.int p4), .val (.int la), .val (.int lb), .val (.int ca), .val (.int cb), .val (.int da), .val (.int db), .val (.int ar1), .val (.int ar2), .val (.ref x1), .val (.ref x2), .val (.ref o275), .val (.int kd), .val (.ref o293), .val (.int (0 : Int32)), .val (.int (0 : Int32))] []))
              refine P314.xs (fun hA hx hy t k => XS.iconst hA hx rfl (hb hy at_333) k) ?_
              show Go p e below _ (T314.setTop (mkF m 334 #[.val (.int p0), .val (.int p1), .val (.int p2), .val (.int p3), .val (.int p4), .val (.int la), .val (.int lb), .val (.int ca), .val (.int cb), .val (.int da), .val (.int db), .val (.int ar1), .val (.int ar2), .val (.ref x1), .val (.ref x2), .val (.ref o275), .val (.int kd), .val (.ref o293), .val (.int (0 : Int32)), .val (.int (0 : Int32))] [(.int (1 : Int32))]))
              refine P314.xs (fun hA hx hy t k => XS.goto hA hx rfl (pc0 := 334) (pc' := 338) rfl (hb hy at_334) (by decide) (by decide) k) ?_
              show Go p e below _ (T314.setTop (mkF m 338 #[.val (.int p0), .val (.int p1), .val (.int p2), .val (.int p3), .val (.int p4), .val (.int la), .val (.int lb), .val (.int ca), .val (.int cb), .val (.int da), .val (.int db), .val (.int ar1), .val (.int ar2), .val (.ref x1), .val (.ref x2), .val (.ref o275), .val (.int kd), .val (.ref o293), .val (.int (0 : Int32)), .val (.int (0 : Int32))] [(.int (1 : Int32))]))
              exact P314.retN (t := .boolean) rfl (by simp) at_338 (by decide) (by decide) rfl

theorem hELof {Z : State} {a0 : Array Value} (hw : ∀ d ∈ tables_1, d.before a0 Z = true) : EW Z a0 EL0 := (EW.cons (hw _ (List.mem_of_getElem? (i := 19) rfl)) (by decide) EW.nil)
set_option maxRecDepth 65536 in
set_option maxHeartbeats 40000000 in
theorem comes_1 {Post : Tables → Env → Array Value → State → Outcome → State → Prop} (hpost : ∀ tb e args s v u, (limb_1_1.after args s (.returned v) u = true ∧ limb_1_2.after args s (.returned v) u = true ∧ True) → ReturnedEndW s (.returned v) u (Jvm.fieldLocs frame_1_writes args s ++ Jvm.arrayLocs frame_1_arrays args s ++ Jvm.staticLocs frame_1_statics s) 40 2176 → Post tb e args s (.returned v) u) :
    ArmFor flags0 classFile x code maxLocals ret World_1 tables_1 room_1 Calls_1 rest_1 Pre_1 Post := by
  intro l hfl _ _ p e ha hc hk s m args below hf hA hF happ hP
  obtain ⟨hcalls, hrest, hpre⟩ := hP
  obtain ⟨-, -, -, hnamed, -, -, -, hat⟩ := (Spec.applies_iff hf).mp happ
  obtain ⟨hg, hn⟩ := and_e (Cond.before_iff.mp (show (Jvm.Cond.and given_1 narrow_1).before args s = true from hpre))
  obtain ⟨hcount, a0_⟩ := and_e hg
  obtain ⟨q0, a1_⟩ := and_e a0_
  obtain ⟨q1, a2_⟩ := and_e a1_
  obtain ⟨q2, a3_⟩ := and_e a2_
  obtain ⟨q3, a4_⟩ := and_e a3_
  have q4 := a4_
  obtain ⟨w0, w1, w2, w3, w4, rfl⟩ : ∃ w0 w1 w2 w3 w4 : Value, args = #[w0, w1, w2, w3, w4] := by
    have hs : args.size = 5 := by simpa [Cond.value, given_1] using hcount
    obtain ⟨L⟩ := args
    match L, hs with
    | [w0, w1, w2, w3, w4], _ => exact ⟨w0, w1, w2, w3, w4, rfl⟩
  have hw := fun d (hd : d ∈ tables_1) => atoms_spec (ws := Jvm.Cond.code x code maxLocals ret :: tables_1) hat d (List.mem_cons_of_mem _ hd)
  obtain ⟨hsets, hown0⟩ := atoms_of _ (rest_1_c_eq ▸ (show rest_1_c.before _ s = true from hrest))
  have hfit : Fit s := fun {y c} hc i hi => by
    obtain ⟨ha, rfl⟩ := Array.getElem?_eq_some_iff.mp hc
    have q := List.all_eq_true.mp ((Array.all_eq_true_iff_forall_mem.mp hF) _ (Array.getElem_mem ha)) i (List.mem_range.mpr hi)
    simpa [Array.getElem?_eq_getElem hi] using q
  have n5 := not_v (Cond.before_iff.mp (hsets _ (List.mem_of_getElem? (i := 10) rfl)))
  obtain ⟨i0, e0⟩ := is_v q0
  obtain rfl : w0 = (.int i0) := Option.some.inj e0
  obtain ⟨i1, e1⟩ := is_v q1
  obtain rfl : w1 = (.int i1) := Option.some.inj e1
  obtain ⟨i2, e2⟩ := is_v q2
  obtain rfl : w2 = (.int i2) := Option.some.inj e2
  obtain ⟨i3, e3⟩ := is_v q3
  obtain rfl : w3 = (.int i3) := Option.some.inj e3
  obtain ⟨i4, e4⟩ := is_v q4
  obtain rfl : w4 = (.int i4) := Option.some.inj e4
  obtain ⟨zc, ez⟩ := is_v (Cond.before_iff.mp (hsets _ (List.mem_of_getElem? (i := 9) rfl)))
  have S0 : Sta s s.heap "java/lang/String" "COMPACT_STRINGS" "Z" (.int zc) := Sta.start ez (Or.inl (hsets _ (List.mem_of_getElem? (i := 8) rfl)))
  have Pz : ¬ (zc = (0 : Int32)) := gotF (Cond.eq_ints ez (Term.int_eval (0))) n5
  have c3 := Cond.before_iff.mp (hsets _ (List.mem_of_getElem? (i := 3) rfl))
  have ehi := eqv_i (Term.int_eval (127)) c3
  have SH : Sta s s.heap "java/lang/Integer$IntegerCache" "high" "I" (.int (127 : Int32)) := Sta.start ehi (Or.inl (hsets _ (List.mem_of_getElem? (i := 1) rfl)))
  have c4 := Cond.before_iff.mp (hsets _ (List.mem_of_getElem? (i := 4) rfl))
  obtain ⟨wc, ewc⟩ := arr_v c4
  obtain ⟨cc, Acc⟩ := Arr.start ewc c4
  have SC : Sta s s.heap "java/lang/Integer$IntegerCache" "cache" "[Ljava/lang/Integer;" (.ref wc) := Sta.start ewc (Or.inr ⟨(hw _ (List.mem_of_getElem? (i := 52) rfl)), (hsets _ (List.mem_of_getElem? (i := 2) rfl))⟩)
  obtain ⟨lc1, lc2⟩ := Jvm.Free.IntBox.length_fwd (hsets _ (List.mem_of_getElem? (i := 6) rfl)) ewc Acc.1 Acc.2.1 Acc.2.2
  have BX : Bxs s wc cc "java/lang/Integer" "I" (256 : Int32) (fun j => .int (j - 128)) := Bxs.start (fun idx => by rw [← ewc]; rfl) Acc lc1 lc2 (by decide) (Cond.before_iff.mp (hsets _ (List.mem_of_getElem? (i := 7) rfl))) (fun X j nn q => eqv_i (by have q := idx_at (args := #[Value.int i0, Value.int i1, Value.int i2, Value.int i3, Value.int i4]) (first := s) (o := none) (s := s) nn; simp only [Term.eval] at q ⊢; rw [q]; rfl) q)
  obtain ⟨n, o, h1, h2, h3, _, L, rfl, ⟨N, K, O, hv⟩, -, hq⟩ := mLaw l s _ hw (hELof hw) zc S0 Pz wc cc SH SC BX i0 i1 i2 i3 i4 s.heap ⟨Nat.le_refl _, fun _ _ q => q⟩  p e ha hc hk s m _ below hf ((Spec.applies_iff_loose hf).mp happ).1 ⟨rfl, State.Warmed39.refl s, rfl, (CHv.start (hELof hw) (fun p hp => hcalls.1 p ((by decide : ∀ p ∈ EL0, p ∈ consts_1) p hp)) (hsets _ (List.mem_of_getElem? (i := 10) rfl)) (hw _ (List.mem_of_getElem? (i := 20) rfl)) (hw _ (List.mem_of_getElem? (i := 2) rfl)))⟩ trivial
  cases hv
  refine ⟨n, _, h1, h2, h3, hpost _ _ _ _ _ _ ⟨Cond.after_iff.mpr rfl, Cond.after_iff.mpr (eq_i res_at (Term.int_eval (1)) rfl), trivial⟩ ⟨hq.1, hq.2.1, hq.2.2.1, (hq.2.2.2.sift fun y hy => Or.inr (N y hy)).mono (by decide) (by decide)⟩⟩
theorem main_1_1 : Claimed_1_1 := comes_1 fun _ _ _ _ _ _ h hF => ⟨h.1, hF⟩
theorem main_1_2 : Claimed_1_2 := comes_1 fun _ _ _ _ _ _ h hF => ⟨h.2.1, hF⟩
end Jvm.Pilot.@@N@@
namespace Jvm.Pilot.@@N@@
open Jvm Jvm.ClassFile Sem Op Lib Jvm.Free Jvm.Stand Jvm.Pilot.@@N@@.Jvm.D
/-! MADE BY PROGRAM (witnessworld.py) out of the Statement's table words and the real class files: 27 classes; the members and pool entries that the words name. The judged class is class 1, her method 2. -/
namespace start1
open Jvm.ClassFile
def u (s : String) : CpInfo := .utf8 (stringToUtf16 s)
/-- a pool by its gaps: so many unusable entries, then the entry; so many at the end -/
def gap : Nat → List CpInfo → List CpInfo
  | 0, r => r
  | n + 1, r => .unusable :: gap n r
def poolList (es : List (Nat × CpInfo)) (last : Nat) : List CpInfo := es.foldr (fun e r => gap e.1 (e.2 :: r)) (gap last [])
def pool (es : List (Nat × CpInfo)) (last : Nat) : Array CpInfo := ⟨poolList es last⟩
def fileOf (pool : Array CpInfo) (this : Nat) (attrs : Array Attribute := #[]) (ms : Array MethodInfo := #[]) (fl : Nat := 33) (sup : Nat := 0) (ifs : Array Nat := #[]) (fds : Array FieldInfo := #[]) : ClassFile where
  minorVersion := 0
  majorVersion := 65
  constantPool := pool
  accessFlags := fl
  thisClass := this
  superClass := sup
  interfaces := ifs
  fields := fds
  methods := ms
  attributes := attrs
def plain (name : String) (sup : Option ClassId) : Class where
  name := name
  kind := .ordinary
  loader := none
  accessFlags := 33
  super := sup
  interfaces := #[]
  cf := none
  fields := #[]
  methods := #[]
  instanceTypes := #[]
  staticTypes := #[]
  resolved := #[]
  callSites := []
  init := .initialized
  statics := none
  mirror := none

def pool0 : Array CpInfo := pool [(5, u "<init>"), (0, u "()V"), (1, .class_ 10), (1, u "java/lang/Object"), (16, u "hashCode"), (0, u "()I")] 95

def k0c0 : Code := { maxStack := 0, maxLocals := 1, code := object_method_1_code, exceptionTable := #[], attributes := #[] }
def k0m0 : Method := { name := "<init>", desc := "()V", sig := { parameters := [], returnType := none }, accessFlags := 1, code := some k0c0 }
def k0m1 : Method := { name := "hashCode", desc := "()I", sig := { parameters := [], returnType := some .int }, accessFlags := 257, code := none }
/-- java/lang/Object -/
def k0 : Class := { plain "java/lang/Object" none with
  accessFlags := 33
  interfaces := #[]
  cf := some (fileOf pool0 8 #[] #[{ accessFlags := 1, nameIndex := 5, descriptorIndex := 6, attributes := #[] }, { accessFlags := 257, nameIndex := 27, descriptorIndex := 28, attributes := #[] }] 33 0 #[] #[])
  fields := #[]
  methods := #[k0m0, k0m1]
  instanceTypes := #[]
  staticTypes := #[]
  resolved := Array.replicate 124 none
  statics := none }

def pool1 : Array CpInfo := pool [(2, .class_ 4), (1, u "java/lang/Object"), (0, u "<init>"), (0, u "()V"), (0, .integer 2147483647), (0, .class_ 9), (0, u "java/lang/String"), (0, .methodref 11 12), (0, .class_ 13), (0, .nameAndType 14 15), (0, u "com/example/qrew/qrew/logic/PredicateEqualsPinLaw"), (0, u "chars"), (0, u "(III)[C"), (0, .methodref 8 17), (0, .nameAndType 5 18), (0, u "([C)V"), (0, .class_ 20), (0, u "com/example/qrew/qrew/logic/Predicate"), (0, .methodref 19 22), (0, .nameAndType 5 23), (0, u "(Ljava/lang/String;I)V"), (0, .methodref 19 25), (0, .nameAndType 26 27), (0, u "equals"), (0, u "(Ljava/lang/Object;)Z"), (5, u "law"), (0, u "(IIIII)Z")] 2

def k1m0 : Method := { name := "<init>", desc := "()V", sig := { parameters := [], returnType := none }, accessFlags := 2, code := none }
def k1c1 : Code := { maxStack := 3, maxLocals := 4, code := method_2_code, exceptionTable := #[], attributes := #[] }
def k1m1 : Method := { name := "chars", desc := "(III)[C", sig := { parameters := [.int, .int, .int], returnType := some (.array .char) }, accessFlags := 10, code := some k1c1 }
def k1c2 : Code := { maxStack := 5, maxLocals := 20, code := code, exceptionTable := #[], attributes := #[] }
def k1m2 : Method := { name := "law", desc := "(IIIII)Z", sig := { parameters := [.int, .int, .int, .int, .int], returnType := some .boolean }, accessFlags := 9, code := some k1c2 }
/-- com/example/qrew/qrew/logic/PredicateEqualsPinLaw -/
def k1 : Class := { plain "com/example/qrew/qrew/logic/PredicateEqualsPinLaw" (some 0) with
  accessFlags := 49
  interfaces := #[]
  cf := some (fileOf pool1 11 #[] #[{ accessFlags := 2, nameIndex := 5, descriptorIndex := 6, attributes := #[] }, { accessFlags := 10, nameIndex := 14, descriptorIndex := 15, attributes := #[] }, { accessFlags := 9, nameIndex := 33, descriptorIndex := 34, attributes := #[] }] 49 2 #[] #[])
  fields := #[]
  methods := #[k1m0, k1m1, k1m2]
  instanceTypes := #[]
  staticTypes := #[]
  resolved := Array.replicate 37 none
  statics := none }

def pool2 : Array CpInfo := pool [(1, .class_ 2), (0, u "java/io/Serializable"), (0, .class_ 4), (0, u "java/lang/Object")] 2

/-- java/io/Serializable -/
def k2 : Class := { plain "java/io/Serializable" (some 0) with
  accessFlags := 1537
  interfaces := #[]
  cf := some (fileOf pool2 1 #[] #[] 1537 3 #[] #[])
  fields := #[]
  methods := #[]
  instanceTypes := #[]
  staticTypes := #[]
  resolved := Array.replicate 7 none
  statics := none }

def pool3 : Array CpInfo := pool [(1, .class_ 2), (0, u "java/lang/Comparable"), (0, .class_ 4), (0, u "java/lang/Object")] 7

/-- java/lang/Comparable -/
def k3 : Class := { plain "java/lang/Comparable" (some 0) with
  accessFlags := 1537
  interfaces := #[]
  cf := some (fileOf pool3 1 #[] #[] 1537 3 #[] #[])
  fields := #[]
  methods := #[]
  instanceTypes := #[]
  staticTypes := #[]
  resolved := Array.replicate 12 none
  statics := none }

def pool4 : Array CpInfo := pool [(2, .class_ 4), (1, u "java/lang/CharSequence"), (42, .class_ 48), (0, u "java/lang/CharSequence$1CodePointIterator"), (10, .class_ 60), (0, u "java/lang/CharSequence$1CharIterator"), (5, .class_ 67), (0, u "java/lang/Object")] 63

/-- java/lang/CharSequence -/
def k4 : Class := { plain "java/lang/CharSequence" (some 0) with
  accessFlags := 1537
  interfaces := #[]
  cf := some (fileOf pool4 2 #[.nestMembers #[47, 59]] #[] 1537 66 #[] #[])
  fields := #[]
  methods := #[]
  instanceTypes := #[]
  staticTypes := #[]
  resolved := Array.replicate 131 none
  statics := none }

def pool5 : Array CpInfo := pool [(1, .class_ 2), (0, u "java/lang/constant/Constable"), (0, .class_ 4), (0, u "java/lang/Object")] 6

/-- java/lang/constant/Constable -/
def k5 : Class := { plain "java/lang/constant/Constable" (some 0) with
  accessFlags := 1537
  interfaces := #[]
  cf := some (fileOf pool5 1 #[] #[] 1537 3 #[] #[])
  fields := #[]
  methods := #[]
  instanceTypes := #[]
  staticTypes := #[]
  resolved := Array.replicate 11 none
  statics := none }

def pool6 : Array CpInfo := pool [(1, .class_ 2), (0, u "java/lang/constant/ConstantDesc"), (0, .class_ 4), (0, u "java/lang/Object")] 32

/-- java/lang/constant/ConstantDesc -/
def k6 : Class := { plain "java/lang/constant/ConstantDesc" (some 0) with
  accessFlags := 1537
  interfaces := #[]
  cf := some (fileOf pool6 1 #[] #[] 1537 3 #[] #[])
  fields := #[]
  methods := #[]
  instanceTypes := #[]
  staticTypes := #[]
  resolved := Array.replicate 37 none
  statics := none }

def pool7 : Array CpInfo := pool [(1, .methodref 2 3), (0, .class_ 4), (0, .nameAndType 5 6), (0, u "java/lang/Object"), (0, u "<init>"), (0, u "()V"), (0, .string 8), (0, u ""), (0, .fieldref 10 11), (0, .class_ 12), (0, .nameAndType 13 14), (0, u "java/lang/String"), (0, u "value"), (0, u "[B"), (0, .fieldref 10 16), (0, .nameAndType 17 18), (0, u "coder"), (0, u "B"), (0, .fieldref 10 20), (0, .nameAndType 21 22), (0, u "hash"), (0, u "I"), (0, .fieldref 10 24), (0, .nameAndType 25 26), (0, u "hashIsZero"), (0, u "Z"), (0, .methodref 10 28), (0, .nameAndType 5 29), (0, u "([CIILjava/lang/Void;)V"), (8, .fieldref 10 39), (0, .nameAndType 40 26), (0, u "COMPACT_STRINGS"), (1, .class_ 44), (1, u "java/lang/StringUTF16"), (0, u "compress"), (1, .methodref 42 48), (0, .nameAndType 49 50), (0, u "coderFromArrayLen"), (0, u "([BI)B"), (56, .class_ 109), (1, u "java/lang/StringLatin1"), (32, u "()Z"), (34, .methodref 42 178), (0, .nameAndType 45 179), (0, u "([CII)[B"), (154, u "()I"), (157, .methodref 10 493), (0, .nameAndType 494 142), (0, u "isLatin1"), (46, .methodref 107 542), (0, .nameAndType 543 544), (0, u "equals"), (0, u "([B[B)Z"), (28, u "(Ljava/lang/Object;)Z"), (1, .class_ 576), (0, u "java/lang/CharSequence"), (22, u "CASE_INSENSITIVE_ORDER"), (0, u "Ljava/util/Comparator;"), (27, .methodref 107 629), (0, .nameAndType 630 631), (0, u "hashCode"), (0, u "([B)I"), (378, u "([C)V"), (90, u "serialPersistentFields"), (0, u "[Ljava/io/ObjectStreamField;"), (0, .class_ 1104), (0, u "java/lang/String$CaseInsensitiveComparator"), (1, .class_ 1107), (0, u "java/io/Serializable"), (0, .class_ 1109), (0, u "java/lang/Comparable"), (0, .class_ 1111), (0, u "java/lang/constant/Constable"), (0, .class_ 1113), (0, u "java/lang/constant/ConstantDesc"), (2, u "serialVersionUID"), (0, u "J"), (3, u "REPL"), (0, u "C"), (2, u "LATIN1"), (1, u "UTF16")] 323

def k7m0 : Method := { name := "<init>", desc := "()V", sig := { parameters := [], returnType := none }, accessFlags := 1, code := none }
def k7c1 : Code := { maxStack := 5, maxLocals := 2, code := jdk_42_method_3_code, exceptionTable := #[], attributes := #[] }
def k7m1 : Method := { name := "<init>", desc := "([C)V", sig := { parameters := [(.array .char)], returnType := none }, accessFlags := 1, code := some k7c1 }
def k7c2 : Code := { maxStack := 2, maxLocals := 3, code := jdk_42_method_66_code, exceptionTable := #[], attributes := #[] }
def k7m2 : Method := { name := "equals", desc := "(Ljava/lang/Object;)Z", sig := { parameters := [(.object "java/lang/Object")], returnType := some .boolean }, accessFlags := 1, code := some k7c2 }
def k7c3 : Code := { maxStack := 2, maxLocals := 2, code := jdk_42_method_78_code, exceptionTable := #[], attributes := #[] }
def k7m3 : Method := { name := "hashCode", desc := "()I", sig := { parameters := [], returnType := some .int }, accessFlags := 1, code := some k7c3 }
def k7c4 : Code := { maxStack := 4, maxLocals := 6, code := jdk_42_method_149_code, exceptionTable := #[], attributes := #[] }
def k7m4 : Method := { name := "<init>", desc := "([CIILjava/lang/Void;)V", sig := { parameters := [(.array .char), .int, .int, (.object "java/lang/Void")], returnType := none }, accessFlags := 2, code := some k7c4 }
def k7c5 : Code := { maxStack := 1, maxLocals := 1, code := jdk_42_method_154_code, exceptionTable := #[], attributes := #[] }
def k7m5 : Method := { name := "isLatin1", desc := "()Z", sig := { parameters := [], returnType := some .boolean }, accessFlags := 0, code := some k7c5 }
/-- java/lang/String -/
def k7 : Class := { plain "java/lang/String" (some 0) with
  accessFlags := 49
  interfaces := #[2, 3, 4, 5, 6]
  cf := some (fileOf pool7 10 #[.nestMembers #[1103]] #[{ accessFlags := 1, nameIndex := 5, descriptorIndex := 6, attributes := #[] }, { accessFlags := 1, nameIndex := 5, descriptorIndex := 1010, attributes := #[] }, { accessFlags := 1, nameIndex := 543, descriptorIndex := 573, attributes := #[] }, { accessFlags := 1, nameIndex := 630, descriptorIndex := 334, attributes := #[] }, { accessFlags := 2, nameIndex := 5, descriptorIndex := 29, attributes := #[] }, { accessFlags := 0, nameIndex := 494, descriptorIndex := 142, attributes := #[] }] 49 2 #[1106, 1108, 575, 1110, 1112] #[{ accessFlags := 18, nameIndex := 13, descriptorIndex := 14, attributes := #[] }, { accessFlags := 18, nameIndex := 17, descriptorIndex := 18, attributes := #[] }, { accessFlags := 2, nameIndex := 21, descriptorIndex := 22, attributes := #[] }, { accessFlags := 2, nameIndex := 25, descriptorIndex := 26, attributes := #[] }, { accessFlags := 26, nameIndex := 1116, descriptorIndex := 1117, attributes := #[] }, { accessFlags := 24, nameIndex := 40, descriptorIndex := 26, attributes := #[] }, { accessFlags := 26, nameIndex := 1101, descriptorIndex := 1102, attributes := #[] }, { accessFlags := 26, nameIndex := 1121, descriptorIndex := 1122, attributes := #[] }, { accessFlags := 25, nameIndex := 599, descriptorIndex := 600, attributes := #[] }, { accessFlags := 24, nameIndex := 1125, descriptorIndex := 18, attributes := #[] }, { accessFlags := 24, nameIndex := 1127, descriptorIndex := 18, attributes := #[] }])
  fields := #[{ name := "value", type := (.array .byte), accessFlags := 18, slot := 0, constantValue := 0 }, { name := "coder", type := .byte, accessFlags := 18, slot := 1, constantValue := 0 }, { name := "hash", type := .int, accessFlags := 2, slot := 2, constantValue := 0 }, { name := "hashIsZero", type := .boolean, accessFlags := 2, slot := 3, constantValue := 0 }, { name := "serialVersionUID", type := .long, accessFlags := 26, slot := 0, constantValue := 0 }, { name := "COMPACT_STRINGS", type := .boolean, accessFlags := 24, slot := 1, constantValue := 0 }, { name := "serialPersistentFields", type := (.array (.object "java/io/ObjectStreamField")), accessFlags := 26, slot := 2, constantValue := 0 }, { name := "REPL", type := .char, accessFlags := 26, slot := 3, constantValue := 0 }, { name := "CASE_INSENSITIVE_ORDER", type := (.object "java/util/Comparator"), accessFlags := 25, slot := 4, constantValue := 0 }, { name := "LATIN1", type := .byte, accessFlags := 24, slot := 5, constantValue := 0 }, { name := "UTF16", type := .byte, accessFlags := 24, slot := 6, constantValue := 0 }]
  methods := #[k7m0, k7m1, k7m2, k7m3, k7m4, k7m5]
  instanceTypes := #[(.array .byte), .byte, .int, .boolean]
  staticTypes := #[.long, .boolean, (.array (.object "java/io/ObjectStreamField")), .char, (.object "java/util/Comparator"), .byte, .byte]
  resolved := Array.replicate 1451 none
  statics := some 0 }

def pool8 : Array CpInfo := pool [(1, .methodref 2 3), (0, .class_ 4), (0, .nameAndType 5 6), (0, u "java/lang/Object"), (0, u "<init>"), (0, u "()V"), (9, .string 17), (0, u "name"), (0, .methodref 19 20), (0, .class_ 21), (0, .nameAndType 22 23), (0, u "java/util/Objects"), (0, u "requireNonNull"), (0, u "(Ljava/lang/Object;Ljava/lang/String;)Ljava/lang/Object;"), (0, .class_ 25), (0, u "java/lang/String"), (0, .fieldref 27 28), (0, .class_ 29), (0, .nameAndType 17 30), (0, u "com/example/qrew/qrew/logic/Predicate"), (0, u "Ljava/lang/String;"), (0, .fieldref 27 32), (0, .nameAndType 33 34), (0, u "arity"), (0, u "I"), (0, .methodref 36 37), (0, .class_ 38), (0, .nameAndType 39 40), (0, u "java/lang/Integer"), (0, u "valueOf"), (0, u "(I)Ljava/lang/Integer;"), (0, .methodref 19 42), (0, .nameAndType 43 44), (0, u "hash"), (0, u "([Ljava/lang/Object;)I"), (0, .fieldref 27 46), (0, .nameAndType 43 34), (0, .methodref 24 48), (0, .nameAndType 49 50), (0, u "equals"), (0, u "(Ljava/lang/Object;)Z"), (3, u "(Ljava/lang/String;I)V")] 28

def k8c0 : Code := { maxStack := 5, maxLocals := 3, code := prog_22_method_1_code, exceptionTable := #[], attributes := #[] }
def k8m0 : Method := { name := "<init>", desc := "(Ljava/lang/String;I)V", sig := { parameters := [(.object "java/lang/String"), .int], returnType := none }, accessFlags := 1, code := some k8c0 }
def k8c1 : Code := { maxStack := 2, maxLocals := 3, code := prog_22_method_4_code, exceptionTable := #[], attributes := #[] }
def k8m1 : Method := { name := "equals", desc := "(Ljava/lang/Object;)Z", sig := { parameters := [(.object "java/lang/Object")], returnType := some .boolean }, accessFlags := 1, code := some k8c1 }
/-- com/example/qrew/qrew/logic/Predicate -/
def k8 : Class := { plain "com/example/qrew/qrew/logic/Predicate" (some 0) with
  accessFlags := 33
  interfaces := #[]
  cf := some (fileOf pool8 27 #[] #[{ accessFlags := 1, nameIndex := 5, descriptorIndex := 54, attributes := #[] }, { accessFlags := 1, nameIndex := 49, descriptorIndex := 50, attributes := #[] }] 33 2 #[] #[{ accessFlags := 18, nameIndex := 17, descriptorIndex := 30, attributes := #[] }, { accessFlags := 18, nameIndex := 33, descriptorIndex := 34, attributes := #[] }, { accessFlags := 18, nameIndex := 43, descriptorIndex := 34, attributes := #[] }])
  fields := #[{ name := "name", type := (.object "java/lang/String"), accessFlags := 18, slot := 0, constantValue := 0 }, { name := "arity", type := .int, accessFlags := 18, slot := 1, constantValue := 0 }, { name := "hash", type := .int, accessFlags := 18, slot := 2, constantValue := 0 }]
  methods := #[k8m0, k8m1]
  instanceTypes := #[(.object "java/lang/String"), .int, .int]
  staticTypes := #[]
  resolved := Array.replicate 83 none
  statics := none }

def pool9 : Array CpInfo := pool [(2, .class_ 4), (1, u "java/lang/Object"), (0, u "<init>"), (0, u "()V"), (12, .class_ 21), (1, u "java/util/Arrays"), (4, u "hashCode"), (1, .methodref 19 29), (0, .nameAndType 26 30), (0, u "([Ljava/lang/Object;)I"), (11, .class_ 44), (1, u "java/util/Objects"), (0, u "requireNonNull"), (48, u "(Ljava/lang/Object;Ljava/lang/String;)Ljava/lang/Object;"), (42, u "hash")] 46

def k9m0 : Method := { name := "<init>", desc := "()V", sig := { parameters := [], returnType := none }, accessFlags := 2, code := none }
def k9c1 : Code := { maxStack := 1, maxLocals := 1, code := jdk_31_method_5_code, exceptionTable := #[], attributes := #[] }
def k9m1 : Method := { name := "hash", desc := "([Ljava/lang/Object;)I", sig := { parameters := [(.array (.object "java/lang/Object"))], returnType := some .int }, accessFlags := 137, code := some k9c1 }
def k9c2 : Code := { maxStack := 3, maxLocals := 2, code := jdk_31_method_11_code, exceptionTable := #[], attributes := #[] }
def k9m2 : Method := { name := "requireNonNull", desc := "(Ljava/lang/Object;Ljava/lang/String;)Ljava/lang/Object;", sig := { parameters := [(.object "java/lang/Object"), (.object "java/lang/String")], returnType := some (.object "java/lang/Object") }, accessFlags := 9, code := some k9c2 }
/-- java/util/Objects -/
def k9 : Class := { plain "java/util/Objects" (some 0) with
  accessFlags := 49
  interfaces := #[]
  cf := some (fileOf pool9 42 #[] #[{ accessFlags := 2, nameIndex := 5, descriptorIndex := 6, attributes := #[] }, { accessFlags := 137, nameIndex := 137, descriptorIndex := 30, attributes := #[] }, { accessFlags := 9, nameIndex := 45, descriptorIndex := 94, attributes := #[] }] 49 2 #[] #[])
  fields := #[]
  methods := #[k9m0, k9m1, k9m2]
  instanceTypes := #[]
  staticTypes := #[]
  resolved := Array.replicate 184 none
  statics := none }

def pool10 : Array CpInfo := pool [(1, .methodref 2 3), (0, .class_ 4), (0, .nameAndType 5 6), (0, u "java/lang/Object"), (0, u "<init>"), (0, u "()V"), (1, .class_ 10), (1, u "java/lang/Number"), (2, .class_ 14), (0, u "java/io/Serializable"), (0, u "serialVersionUID"), (0, u "J")] 20

def k10c0 : Code := { maxStack := 1, maxLocals := 1, code := jdk_18_method_1_code, exceptionTable := #[], attributes := #[] }
def k10m0 : Method := { name := "<init>", desc := "()V", sig := { parameters := [], returnType := none }, accessFlags := 1, code := some k10c0 }
/-- java/lang/Number -/
def k10 : Class := { plain "java/lang/Number" (some 0) with
  accessFlags := 1057
  interfaces := #[2]
  cf := some (fileOf pool10 8 #[] #[{ accessFlags := 1, nameIndex := 5, descriptorIndex := 6, attributes := #[] }] 1057 2 #[13] #[{ accessFlags := 26, nameIndex := 15, descriptorIndex := 16, attributes := #[] }])
  fields := #[{ name := "serialVersionUID", type := .long, accessFlags := 26, slot := 0, constantValue := 0 }]
  methods := #[k10m0]
  instanceTypes := #[]
  staticTypes := #[.long]
  resolved := Array.replicate 37 none
  statics := none }

def pool11 : Array CpInfo := pool [(1, .class_ 2), (0, u "java/lang/Integer"), (16, u "digits"), (0, u "[C"), (33, u "(I)I"), (12, u "<init>"), (17, u "DigitOnes"), (0, u "[B"), (2, u "DigitTens"), (10, .nameAndType 67 101), (0, u "()V"), (19, u "()I"), (65, u "valueOf"), (0, u "(I)Ljava/lang/Integer;"), (0, .class_ 190), (0, u "java/lang/Integer$IntegerCache"), (0, .fieldref 189 192), (0, .nameAndType 193 194), (0, u "high"), (0, u "I"), (0, .fieldref 189 196), (0, .nameAndType 197 198), (0, u "cache"), (0, u "[Ljava/lang/Integer;"), (0, .methodref 1 200), (0, .nameAndType 67 201), (0, u "(I)V"), (0, .methodref 203 100), (0, .class_ 204), (0, u "java/lang/Number"), (0, .fieldref 1 206), (0, .nameAndType 207 194), (0, u "value"), (0, .methodref 1 209), (0, .nameAndType 210 54), (0, u "hashCode"), (91, u "TYPE"), (0, u "Ljava/lang/Class;"), (0, .class_ 305), (0, u "java/lang/Comparable"), (0, .class_ 307), (0, u "java/lang/constant/Constable"), (0, .class_ 309), (0, u "java/lang/constant/ConstantDesc"), (0, u "MIN_VALUE"), (1, u "MAX_VALUE"), (3, u "SIZE"), (1, u "BYTES"), (1, u "serialVersionUID"), (0, u "J")] 131

def k11c0 : Code := { maxStack := 3, maxLocals := 1, code := jdk_33_method_22_code, exceptionTable := #[], attributes := #[] }
def k11m0 : Method := { name := "valueOf", desc := "(I)Ljava/lang/Integer;", sig := { parameters := [.int], returnType := some (.object "java/lang/Integer") }, accessFlags := 9, code := some k11c0 }
def k11c1 : Code := { maxStack := 2, maxLocals := 2, code := jdk_33_method_23_code, exceptionTable := #[], attributes := #[] }
def k11m1 : Method := { name := "<init>", desc := "(I)V", sig := { parameters := [.int], returnType := none }, accessFlags := 1, code := some k11c1 }
def k11c2 : Code := { maxStack := 1, maxLocals := 1, code := jdk_33_method_32_code, exceptionTable := #[], attributes := #[] }
def k11m2 : Method := { name := "hashCode", desc := "()I", sig := { parameters := [], returnType := some .int }, accessFlags := 1, code := some k11c2 }
def k11c3 : Code := { maxStack := 1, maxLocals := 1, code := jdk_33_method_33_code, exceptionTable := #[], attributes := #[] }
def k11m3 : Method := { name := "hashCode", desc := "(I)I", sig := { parameters := [.int], returnType := some .int }, accessFlags := 9, code := some k11c3 }
/-- java/lang/Integer -/
def k11 : Class := { plain "java/lang/Integer" (some 10) with
  accessFlags := 49
  interfaces := #[3, 5, 6]
  cf := some (fileOf pool11 1 #[.nestMembers #[189]] #[{ accessFlags := 9, nameIndex := 187, descriptorIndex := 188, attributes := #[] }, { accessFlags := 1, nameIndex := 67, descriptorIndex := 201, attributes := #[] }, { accessFlags := 1, nameIndex := 210, descriptorIndex := 121, attributes := #[] }, { accessFlags := 9, nameIndex := 210, descriptorIndex := 54, attributes := #[] }] 49 203 #[304, 306, 308] #[{ accessFlags := 25, nameIndex := 310, descriptorIndex := 194, attributes := #[] }, { accessFlags := 25, nameIndex := 312, descriptorIndex := 194, attributes := #[] }, { accessFlags := 25, nameIndex := 302, descriptorIndex := 303, attributes := #[] }, { accessFlags := 24, nameIndex := 19, descriptorIndex := 20, attributes := #[] }, { accessFlags := 24, nameIndex := 89, descriptorIndex := 86, attributes := #[] }, { accessFlags := 24, nameIndex := 85, descriptorIndex := 86, attributes := #[] }, { accessFlags := 18, nameIndex := 207, descriptorIndex := 194, attributes := #[] }, { accessFlags := 25, nameIndex := 316, descriptorIndex := 194, attributes := #[] }, { accessFlags := 25, nameIndex := 318, descriptorIndex := 194, attributes := #[] }, { accessFlags := 26, nameIndex := 320, descriptorIndex := 321, attributes := #[] }])
  fields := #[{ name := "MIN_VALUE", type := .int, accessFlags := 25, slot := 0, constantValue := 0 }, { name := "MAX_VALUE", type := .int, accessFlags := 25, slot := 1, constantValue := 0 }, { name := "TYPE", type := (.object "java/lang/Class"), accessFlags := 25, slot := 2, constantValue := 0 }, { name := "digits", type := (.array .char), accessFlags := 24, slot := 3, constantValue := 0 }, { name := "DigitTens", type := (.array .byte), accessFlags := 24, slot := 4, constantValue := 0 }, { name := "DigitOnes", type := (.array .byte), accessFlags := 24, slot := 5, constantValue := 0 }, { name := "value", type := .int, accessFlags := 18, slot := 0, constantValue := 0 }, { name := "SIZE", type := .int, accessFlags := 25, slot := 6, constantValue := 0 }, { name := "BYTES", type := .int, accessFlags := 25, slot := 7, constantValue := 0 }, { name := "serialVersionUID", type := .long, accessFlags := 26, slot := 8, constantValue := 0 }]
  methods := #[k11m0, k11m1, k11m2, k11m3]
  instanceTypes := #[.int]
  staticTypes := #[.int, .int, (.object "java/lang/Class"), (.array .char), (.array .byte), (.array .byte), .int, .int, .long]
  resolved := Array.replicate 453 none
  statics := none }

def pool12 : Array CpInfo := pool [(2, .class_ 4), (1, u "java/lang/Object"), (0, u "<init>"), (0, u "()V"), (0, .class_ 8), (0, u "java/lang/Integer"), (7, .class_ 18), (1, u "java/lang/Integer$IntegerCache"), (0, u "$assertionsDisabled"), (0, u "Z"), (26, u "high"), (0, u "I"), (8, u "archivedCache"), (0, u "[Ljava/lang/Integer;"), (12, u "cache"), (0, u "low")] 27

def k12m0 : Method := { name := "<init>", desc := "()V", sig := { parameters := [], returnType := none }, accessFlags := 2, code := none }
/-- java/lang/Integer$IntegerCache -/
def k12 : Class := { plain "java/lang/Integer$IntegerCache" (some 0) with
  accessFlags := 48
  interfaces := #[]
  cf := some (fileOf pool12 16 #[.nestHost 7] #[{ accessFlags := 2, nameIndex := 5, descriptorIndex := 6, attributes := #[] }] 48 2 #[] #[{ accessFlags := 24, nameIndex := 72, descriptorIndex := 48, attributes := #[] }, { accessFlags := 24, nameIndex := 47, descriptorIndex := 48, attributes := #[] }, { accessFlags := 24, nameIndex := 71, descriptorIndex := 58, attributes := #[] }, { accessFlags := 8, nameIndex := 57, descriptorIndex := 58, attributes := #[] }, { accessFlags := 4120, nameIndex := 19, descriptorIndex := 20, attributes := #[] }])
  fields := #[{ name := "low", type := .int, accessFlags := 24, slot := 0, constantValue := 0 }, { name := "high", type := .int, accessFlags := 24, slot := 1, constantValue := 0 }, { name := "cache", type := (.array (.object "java/lang/Integer")), accessFlags := 24, slot := 2, constantValue := 0 }, { name := "archivedCache", type := (.array (.object "java/lang/Integer")), accessFlags := 8, slot := 3, constantValue := 0 }, { name := "$assertionsDisabled", type := .boolean, accessFlags := 4120, slot := 4, constantValue := 0 }]
  methods := #[k12m0]
  instanceTypes := #[]
  staticTypes := #[.int, .int, (.array (.object "java/lang/Integer")), (.array (.object "java/lang/Integer")), .boolean]
  resolved := Array.replicate 100 none
  statics := some 1 }

def pool13 : Array CpInfo := pool [(2, .class_ 4), (1, u "java/lang/Object"), (0, u "<init>"), (0, u "()V"), (7, .class_ 16), (1, u "java/util/Arrays"), (25, u "()I"), (31, .class_ 76), (1, u "java/util/Arrays$NaturalOrder"), (36, .class_ 115), (1, u "java/util/Arrays$LegacyMergeSort"), (1, u "Z"), (257, .class_ 376), (0, u "java/util/Arrays$ArrayList"), (6, .methodref 2 384), (0, .nameAndType 385 42), (0, u "hashCode"), (3, u "([Ljava/lang/Object;)I"), (55, u "$assertionsDisabled"), (269, u "MIN_ARRAY_SORT_GRAN"), (0, u "I"), (2, u "INSERTIONSORT_THRESHOLD"), (255, .class_ 976), (0, u "java/util/Arrays$ArrayItr")] 52

def k13m0 : Method := { name := "<init>", desc := "()V", sig := { parameters := [], returnType := none }, accessFlags := 2, code := none }
def k13c1 : Code := { maxStack := 2, maxLocals := 6, code := jdk_65_method_157_code, exceptionTable := #[], attributes := #[] }
def k13m1 : Method := { name := "hashCode", desc := "([Ljava/lang/Object;)I", sig := { parameters := [(.array (.object "java/lang/Object"))], returnType := some .int }, accessFlags := 9, code := some k13c1 }
/-- java/util/Arrays -/
def k13 : Class := { plain "java/util/Arrays" (some 0) with
  accessFlags := 49
  interfaces := #[]
  cf := some (fileOf pool13 14 #[.nestMembers #[975, 375, 113, 74]] #[{ accessFlags := 2, nameIndex := 5, descriptorIndex := 6, attributes := #[] }, { accessFlags := 9, nameIndex := 385, descriptorIndex := 389, attributes := #[] }] 49 2 #[] #[{ accessFlags := 26, nameIndex := 715, descriptorIndex := 716, attributes := #[] }, { accessFlags := 26, nameIndex := 719, descriptorIndex := 716, attributes := #[] }, { accessFlags := 4120, nameIndex := 445, descriptorIndex := 117, attributes := #[] }])
  fields := #[{ name := "MIN_ARRAY_SORT_GRAN", type := .int, accessFlags := 26, slot := 0, constantValue := 0 }, { name := "INSERTIONSORT_THRESHOLD", type := .int, accessFlags := 26, slot := 1, constantValue := 0 }, { name := "$assertionsDisabled", type := .boolean, accessFlags := 4120, slot := 2, constantValue := 0 }]
  methods := #[k13m0, k13m1]
  instanceTypes := #[]
  staticTypes := #[.int, .int, .boolean]
  resolved := Array.replicate 1029 none
  statics := none }

def pool14 : Array CpInfo := pool [(4, .class_ 6), (1, u "java/lang/Object"), (0, u "<init>"), (0, u "()V"), (5, .class_ 16), (1, u "java/lang/StringLatin1"), (28, .class_ 47), (1, u "jdk/internal/util/ArraysSupport"), (9, u "([B)I"), (26, .methodref 45 85), (0, .nameAndType 86 87), (0, u "vectorizedHashCode"), (0, u "(Ljava/lang/Object;IIII)I"), (33, u "$assertionsDisabled"), (0, u "Z"), (98, .class_ 223), (1, u "java/lang/StringLatin1$LinesSpliterator"), (57, u "equals"), (0, u "([B[B)Z"), (15, u "hashCode"), (91, .class_ 391), (0, u "java/lang/StringLatin1$CharsSpliterator")] 3

def k14m0 : Method := { name := "<init>", desc := "()V", sig := { parameters := [], returnType := none }, accessFlags := 0, code := none }
def k14c1 : Code := { maxStack := 3, maxLocals := 3, code := jdk_43_method_13_code, exceptionTable := #[], attributes := #[] }
def k14m1 : Method := { name := "equals", desc := "([B[B)Z", sig := { parameters := [(.array .byte), (.array .byte)], returnType := some .boolean }, accessFlags := 9, code := some k14c1 }
def k14c2 : Code := { maxStack := 5, maxLocals := 1, code := jdk_43_method_21_code, exceptionTable := #[], attributes := #[] }
def k14m2 : Method := { name := "hashCode", desc := "([B)I", sig := { parameters := [(.array .byte)], returnType := some .int }, accessFlags := 9, code := some k14c2 }
/-- java/lang/StringLatin1 -/
def k14 : Class := { plain "java/lang/StringLatin1" (some 0) with
  accessFlags := 48
  interfaces := #[]
  cf := some (fileOf pool14 14 #[.nestMembers #[390, 221]] #[{ accessFlags := 0, nameIndex := 7, descriptorIndex := 8, attributes := #[] }, { accessFlags := 9, nameIndex := 281, descriptorIndex := 282, attributes := #[] }, { accessFlags := 9, nameIndex := 298, descriptorIndex := 57, attributes := #[] }] 48 4 #[] #[{ accessFlags := 4120, nameIndex := 121, descriptorIndex := 122, attributes := #[] }])
  fields := #[{ name := "$assertionsDisabled", type := .boolean, accessFlags := 4120, slot := 0, constantValue := 0 }]
  methods := #[k14m0, k14m1, k14m2]
  instanceTypes := #[]
  staticTypes := #[.boolean]
  resolved := Array.replicate 395 none
  statics := none }

def pool15 : Array CpInfo := pool [(6, .class_ 8), (1, u "java/lang/Object"), (0, u "<init>"), (0, u "()V"), (1, .class_ 14), (1, u "java/lang/StringUTF16"), (31, u "$assertionsDisabled"), (0, u "Z"), (13, u "HI_BYTE_SHIFT"), (0, u "I"), (2, u "LO_BYTE_SHIFT"), (49, .methodref 12 116), (0, .nameAndType 117 118), (0, u "compress"), (0, u "([CI[BII)I"), (3, u "([CII)[B"), (138, u "coderFromArrayLen"), (0, u "([BI)B"), (106, .class_ 371), (1, u "java/lang/StringUTF16$LinesSpliterator"), (58, u "MAX_LENGTH"), (196, .class_ 628), (0, u "java/lang/StringUTF16$CodePointsSpliterator"), (0, .class_ 630), (0, u "java/lang/StringUTF16$CharsSpliterator")] 4

def k15m0 : Method := { name := "<init>", desc := "()V", sig := { parameters := [], returnType := none }, accessFlags := 0, code := none }
def k15c1 : Code := { maxStack := 2, maxLocals := 2, code := jdk_52_method_15_code, exceptionTable := #[], attributes := #[] }
def k15m1 : Method := { name := "coderFromArrayLen", desc := "([BI)B", sig := { parameters := [(.array .byte), .int], returnType := some .byte }, accessFlags := 8, code := some k15c1 }
def k15c2 : Code := { maxStack := 5, maxLocals := 6, code := jdk_52_method_16_code, exceptionTable := #[], attributes := #[] }
def k15m2 : Method := { name := "compress", desc := "([CII)[B", sig := { parameters := [(.array .char), .int, .int], returnType := some (.array .byte) }, accessFlags := 9, code := some k15c2 }
def k15c3 : Code := { maxStack := 3, maxLocals := 7, code := jdk_52_method_21_code, exceptionTable := #[], attributes := #[] }
def k15m3 : Method := { name := "compress", desc := "([CI[BII)I", sig := { parameters := [(.array .char), .int, (.array .byte), .int, .int], returnType := some .int }, accessFlags := 9, code := some k15c3 }
/-- java/lang/StringUTF16 -/
def k15 : Class := { plain "java/lang/StringUTF16" (some 0) with
  accessFlags := 48
  interfaces := #[]
  cf := some (fileOf pool15 12 #[.nestMembers #[627, 629, 369]] #[{ accessFlags := 0, nameIndex := 9, descriptorIndex := 10, attributes := #[] }, { accessFlags := 8, nameIndex := 261, descriptorIndex := 262, attributes := #[] }, { accessFlags := 9, nameIndex := 117, descriptorIndex := 122, attributes := #[] }, { accessFlags := 9, nameIndex := 117, descriptorIndex := 118, attributes := #[] }] 48 6 #[] #[{ accessFlags := 26, nameIndex := 61, descriptorIndex := 62, attributes := #[] }, { accessFlags := 26, nameIndex := 65, descriptorIndex := 62, attributes := #[] }, { accessFlags := 24, nameIndex := 430, descriptorIndex := 62, attributes := #[] }, { accessFlags := 4120, nameIndex := 46, descriptorIndex := 47, attributes := #[] }])
  fields := #[{ name := "HI_BYTE_SHIFT", type := .int, accessFlags := 26, slot := 0, constantValue := 0 }, { name := "LO_BYTE_SHIFT", type := .int, accessFlags := 26, slot := 1, constantValue := 0 }, { name := "MAX_LENGTH", type := .int, accessFlags := 24, slot := 2, constantValue := 0 }, { name := "$assertionsDisabled", type := .boolean, accessFlags := 4120, slot := 3, constantValue := 0 }]
  methods := #[k15m0, k15m1, k15m2, k15m3]
  instanceTypes := #[]
  staticTypes := #[.int, .int, .int, .boolean]
  resolved := Array.replicate 635 none
  statics := none }

def pool16 : Array CpInfo := pool [(9, u "<init>"), (6, .class_ 18), (1, u "java/lang/Object"), (0, u "()V"), (1, .class_ 23), (1, u "jdk/internal/util/ArraysSupport"), (0, u "LOG2_ARRAY_LONG_INDEX_SCALE"), (0, u "I"), (2, u "U"), (0, u "Ljdk/internal/misc/Unsafe;"), (8, u "BIG_ENDIAN"), (0, u "Z"), (8, u "LOG2_BYTE_BIT_SIZE"), (4, u "LOG2_ARRAY_INT_INDEX_SCALE"), (6, .class_ 61), (0, u "[B"), (0, .methodref 21 63), (0, .nameAndType 64 65), (0, u "signedHashCode"), (0, u "(I[BII)I"), (42, u "JLA"), (0, u "Ljdk/internal/access/JavaLangAccess;"), (11, u "LOG2_ARRAY_BOOLEAN_INDEX_SCALE"), (9, u "LOG2_ARRAY_BYTE_INDEX_SCALE"), (5, u "LOG2_ARRAY_CHAR_INDEX_SCALE"), (5, u "LOG2_ARRAY_SHORT_INDEX_SCALE"), (18, u "LOG2_ARRAY_FLOAT_INDEX_SCALE"), (24, u "LOG2_ARRAY_DOUBLE_INDEX_SCALE"), (89, u "T_BOOLEAN"), (2, u "T_CHAR"), (1, u "T_FLOAT"), (1, u "T_DOUBLE"), (1, u "T_BYTE"), (1, u "T_SHORT"), (1, u "T_INT"), (1, u "T_LONG"), (1, u "SOFT_MAX_ARRAY_LENGTH"), (26, u "vectorizedHashCode"), (0, u "(Ljava/lang/Object;IIII)I")] 55

def k16m0 : Method := { name := "<init>", desc := "()V", sig := { parameters := [], returnType := none }, accessFlags := 2, code := none }
def k16c1 : Code := { maxStack := 4, maxLocals := 5, code := jdk_48_method_4_code, exceptionTable := #[], attributes := #[] }
def k16m1 : Method := { name := "vectorizedHashCode", desc := "(Ljava/lang/Object;IIII)I", sig := { parameters := [(.object "java/lang/Object"), .int, .int, .int, .int], returnType := some .int }, accessFlags := 9, code := some k16c1 }
def k16c2 : Code := { maxStack := 3, maxLocals := 6, code := jdk_48_method_5_code, exceptionTable := #[], attributes := #[] }
def k16m2 : Method := { name := "signedHashCode", desc := "(I[BII)I", sig := { parameters := [.int, (.array .byte), .int, .int], returnType := some .int }, accessFlags := 10, code := some k16c2 }
/-- jdk/internal/util/ArraysSupport -/
def k16 : Class := { plain "jdk/internal/util/ArraysSupport" (some 0) with
  accessFlags := 33
  interfaces := #[]
  cf := some (fileOf pool16 21 #[] #[{ accessFlags := 2, nameIndex := 9, descriptorIndex := 19, attributes := #[] }, { accessFlags := 9, nameIndex := 321, descriptorIndex := 322, attributes := #[] }, { accessFlags := 10, nameIndex := 64, descriptorIndex := 65, attributes := #[] }] 33 16 #[] #[{ accessFlags := 24, nameIndex := 28, descriptorIndex := 29, attributes := #[] }, { accessFlags := 26, nameIndex := 38, descriptorIndex := 39, attributes := #[] }, { accessFlags := 25, nameIndex := 121, descriptorIndex := 25, attributes := #[] }, { accessFlags := 25, nameIndex := 131, descriptorIndex := 25, attributes := #[] }, { accessFlags := 25, nameIndex := 137, descriptorIndex := 25, attributes := #[] }, { accessFlags := 25, nameIndex := 143, descriptorIndex := 25, attributes := #[] }, { accessFlags := 25, nameIndex := 53, descriptorIndex := 25, attributes := #[] }, { accessFlags := 25, nameIndex := 24, descriptorIndex := 25, attributes := #[] }, { accessFlags := 25, nameIndex := 162, descriptorIndex := 25, attributes := #[] }, { accessFlags := 25, nameIndex := 187, descriptorIndex := 25, attributes := #[] }, { accessFlags := 26, nameIndex := 48, descriptorIndex := 25, attributes := #[] }, { accessFlags := 25, nameIndex := 277, descriptorIndex := 25, attributes := #[] }, { accessFlags := 25, nameIndex := 280, descriptorIndex := 25, attributes := #[] }, { accessFlags := 25, nameIndex := 282, descriptorIndex := 25, attributes := #[] }, { accessFlags := 25, nameIndex := 284, descriptorIndex := 25, attributes := #[] }, { accessFlags := 25, nameIndex := 286, descriptorIndex := 25, attributes := #[] }, { accessFlags := 25, nameIndex := 288, descriptorIndex := 25, attributes := #[] }, { accessFlags := 25, nameIndex := 290, descriptorIndex := 25, attributes := #[] }, { accessFlags := 25, nameIndex := 292, descriptorIndex := 25, attributes := #[] }, { accessFlags := 26, nameIndex := 108, descriptorIndex := 109, attributes := #[] }, { accessFlags := 25, nameIndex := 294, descriptorIndex := 25, attributes := #[] }])
  fields := #[{ name := "U", type := (.object "jdk/internal/misc/Unsafe"), accessFlags := 24, slot := 0, constantValue := 0 }, { name := "BIG_ENDIAN", type := .boolean, accessFlags := 26, slot := 1, constantValue := 0 }, { name := "LOG2_ARRAY_BOOLEAN_INDEX_SCALE", type := .int, accessFlags := 25, slot := 2, constantValue := 0 }, { name := "LOG2_ARRAY_BYTE_INDEX_SCALE", type := .int, accessFlags := 25, slot := 3, constantValue := 0 }, { name := "LOG2_ARRAY_CHAR_INDEX_SCALE", type := .int, accessFlags := 25, slot := 4, constantValue := 0 }, { name := "LOG2_ARRAY_SHORT_INDEX_SCALE", type := .int, accessFlags := 25, slot := 5, constantValue := 0 }, { name := "LOG2_ARRAY_INT_INDEX_SCALE", type := .int, accessFlags := 25, slot := 6, constantValue := 0 }, { name := "LOG2_ARRAY_LONG_INDEX_SCALE", type := .int, accessFlags := 25, slot := 7, constantValue := 0 }, { name := "LOG2_ARRAY_FLOAT_INDEX_SCALE", type := .int, accessFlags := 25, slot := 8, constantValue := 0 }, { name := "LOG2_ARRAY_DOUBLE_INDEX_SCALE", type := .int, accessFlags := 25, slot := 9, constantValue := 0 }, { name := "LOG2_BYTE_BIT_SIZE", type := .int, accessFlags := 26, slot := 10, constantValue := 0 }, { name := "T_BOOLEAN", type := .int, accessFlags := 25, slot := 11, constantValue := 0 }, { name := "T_CHAR", type := .int, accessFlags := 25, slot := 12, constantValue := 0 }, { name := "T_FLOAT", type := .int, accessFlags := 25, slot := 13, constantValue := 0 }, { name := "T_DOUBLE", type := .int, accessFlags := 25, slot := 14, constantValue := 0 }, { name := "T_BYTE", type := .int, accessFlags := 25, slot := 15, constantValue := 0 }, { name := "T_SHORT", type := .int, accessFlags := 25, slot := 16, constantValue := 0 }, { name := "T_INT", type := .int, accessFlags := 25, slot := 17, constantValue := 0 }, { name := "T_LONG", type := .int, accessFlags := 25, slot := 18, constantValue := 0 }, { name := "JLA", type := (.object "jdk/internal/access/JavaLangAccess"), accessFlags := 26, slot := 19, constantValue := 0 }, { name := "SOFT_MAX_ARRAY_LENGTH", type := .int, accessFlags := 25, slot := 20, constantValue := 0 }]
  methods := #[k16m0, k16m1, k16m2]
  instanceTypes := #[]
  staticTypes := #[(.object "jdk/internal/misc/Unsafe"), .boolean, .int, .int, .int, .int, .int, .int, .int, .int, .int, .int, .int, .int, .int, .int, .int, .int, .int, (.object "jdk/internal/access/JavaLangAccess"), .int]
  resolved := Array.replicate 378 none
  statics := none }

def pool17 : Array CpInfo := pool [(2, .class_ 4), (1, u "java/lang/Object"), (0, u "<init>"), (0, u "()V"), (17, .class_ 26), (1, u "jdk/internal/util/Preconditions"), (28, .class_ 56), (0, u "jdk/internal/util/Preconditions$4"), (57, .class_ 115), (0, u "jdk/internal/util/Preconditions$1"), (7, u "SIOOBE_FORMATTER"), (0, u "Ljava/util/function/BiFunction;"), (0, .class_ 126), (0, u "jdk/internal/util/Preconditions$2"), (3, u "AIOOBE_FORMATTER"), (0, .class_ 132), (0, u "jdk/internal/util/Preconditions$3"), (3, u "IOOBE_FORMATTER")] 57

def k17m0 : Method := { name := "<init>", desc := "()V", sig := { parameters := [], returnType := none }, accessFlags := 1, code := none }
/-- jdk/internal/util/Preconditions -/
def k17 : Class := { plain "jdk/internal/util/Preconditions" (some 0) with
  accessFlags := 33
  interfaces := #[]
  cf := some (fileOf pool17 24 #[.nestMembers #[55, 131, 125, 114]] #[{ accessFlags := 1, nameIndex := 5, descriptorIndex := 6, attributes := #[] }] 33 2 #[] #[{ accessFlags := 25, nameIndex := 123, descriptorIndex := 124, attributes := #[] }, { accessFlags := 25, nameIndex := 130, descriptorIndex := 124, attributes := #[] }, { accessFlags := 25, nameIndex := 136, descriptorIndex := 124, attributes := #[] }])
  fields := #[{ name := "SIOOBE_FORMATTER", type := (.object "java/util/function/BiFunction"), accessFlags := 25, slot := 0, constantValue := 0 }, { name := "AIOOBE_FORMATTER", type := (.object "java/util/function/BiFunction"), accessFlags := 25, slot := 1, constantValue := 0 }, { name := "IOOBE_FORMATTER", type := (.object "java/util/function/BiFunction"), accessFlags := 25, slot := 2, constantValue := 0 }]
  methods := #[k17m0]
  instanceTypes := #[]
  staticTypes := #[(.object "java/util/function/BiFunction"), (.object "java/util/function/BiFunction"), (.object "java/util/function/BiFunction")]
  resolved := Array.replicate 194 none
  statics := some 2 }

def pool18 : Array CpInfo := pool [(1, u "java/lang/Cloneable"), (0, .class_ 1), (0, u "java/lang/Object"), (0, .class_ 3)] 3

/-- java/lang/Cloneable -/
def k18 : Class := { plain "java/lang/Cloneable" (some 0) with
  accessFlags := 1537
  interfaces := #[]
  cf := some (fileOf pool18 2 #[] #[] 1537 4 #[] #[])
  fields := #[]
  methods := #[]
  instanceTypes := #[]
  staticTypes := #[]
  resolved := Array.replicate 8 none
  statics := none }

/-- the primitive byte -/
def k19 : Class := { plain "byte" none with kind := .primitive 'B', accessFlags := 0x411 }
/-- [B -/
def k20 : Class := { plain "[B" (some 0) with kind := .array 19 .byte, interfaces := #[18, 2], accessFlags := 1041 }

/-- the primitive char -/
def k21 : Class := { plain "char" none with kind := .primitive 'C', accessFlags := 0x411 }
/-- [C -/
def k22 : Class := { plain "[C" (some 0) with kind := .array 21 .char, interfaces := #[18, 2], accessFlags := 1041 }

/-- the primitive int -/
def k23 : Class := { plain "int" none with kind := .primitive 'I', accessFlags := 0x411 }
/-- [I -/
def k24 : Class := { plain "[I" (some 0) with kind := .array 23 .int, interfaces := #[18, 2], accessFlags := 1041 }

/-- [Ljava/lang/Integer; -/
def k25 : Class := { plain "[Ljava/lang/Integer;" (some 0) with kind := .array 11 (.object "java/lang/Integer"), interfaces := #[18, 2], accessFlags := 1041 }

/-- [Ljava/lang/Object; -/
def k26 : Class := { plain "[Ljava/lang/Object;" (some 0) with kind := .array 0 (.object "java/lang/Object"), interfaces := #[18, 2], accessFlags := 1041 }

def heap : Heap := #[{ cls := 7, slots := #[.long 0, .int 1, .null, .int 0, .null, .int 0, .int 0], vm := .statics 7 },
  { cls := 12, slots := #[.int 0, .int 127, .ref 3, .null, .int 0], vm := .statics 12 },
  { cls := 17, slots := #[.null, .null, .null], vm := .statics 17 },
  { cls := 25, slots := #[.ref 4, .ref 5, .ref 6, .ref 7, .ref 8, .ref 9, .ref 10, .ref 11, .ref 12, .ref 13, .ref 14, .ref 15, .ref 16, .ref 17, .ref 18, .ref 19, .ref 20, .ref 21, .ref 22, .ref 23, .ref 24, .ref 25, .ref 26, .ref 27, .ref 28, .ref 29, .ref 30, .ref 31, .ref 32, .ref 33, .ref 34, .ref 35, .ref 36, .ref 37, .ref 38, .ref 39, .ref 40, .ref 41, .ref 42, .ref 43, .ref 44, .ref 45, .ref 46, .ref 47, .ref 48, .ref 49, .ref 50, .ref 51, .ref 52, .ref 53, .ref 54, .ref 55, .ref 56, .ref 57, .ref 58, .ref 59, .ref 60, .ref 61, .ref 62, .ref 63, .ref 64, .ref 65, .ref 66, .ref 67, .ref 68, .ref 69, .ref 70, .ref 71, .ref 72, .ref 73, .ref 74, .ref 75, .ref 76, .ref 77, .ref 78, .ref 79, .ref 80, .ref 81, .ref 82, .ref 83, .ref 84, .ref 85, .ref 86, .ref 87, .ref 88, .ref 89, .ref 90, .ref 91, .ref 92, .ref 93, .ref 94, .ref 95, .ref 96, .ref 97, .ref 98, .ref 99, .ref 100, .ref 101, .ref 102, .ref 103, .ref 104, .ref 105, .ref 106, .ref 107, .ref 108, .ref 109, .ref 110, .ref 111, .ref 112, .ref 113, .ref 114, .ref 115, .ref 116, .ref 117, .ref 118, .ref 119, .ref 120, .ref 121, .ref 122, .ref 123, .ref 124, .ref 125, .ref 126, .ref 127, .ref 128, .ref 129, .ref 130, .ref 131, .ref 132, .ref 133, .ref 134, .ref 135, .ref 136, .ref 137, .ref 138, .ref 139, .ref 140, .ref 141, .ref 142, .ref 143, .ref 144, .ref 145, .ref 146, .ref 147, .ref 148, .ref 149, .ref 150, .ref 151, .ref 152, .ref 153, .ref 154, .ref 155, .ref 156, .ref 157, .ref 158, .ref 159, .ref 160, .ref 161, .ref 162, .ref 163, .ref 164, .ref 165, .ref 166, .ref 167, .ref 168, .ref 169, .ref 170, .ref 171, .ref 172, .ref 173, .ref 174, .ref 175, .ref 176, .ref 177, .ref 178, .ref 179, .ref 180, .ref 181, .ref 182, .ref 183, .ref 184, .ref 185, .ref 186, .ref 187, .ref 188, .ref 189, .ref 190, .ref 191, .ref 192, .ref 193, .ref 194, .ref 195, .ref 196, .ref 197, .ref 198, .ref 199, .ref 200, .ref 201, .ref 202, .ref 203, .ref 204, .ref 205, .ref 206, .ref 207, .ref 208, .ref 209, .ref 210, .ref 211, .ref 212, .ref 213, .ref 214, .ref 215, .ref 216, .ref 217, .ref 218, .ref 219, .ref 220, .ref 221, .ref 222, .ref 223, .ref 224, .ref 225, .ref 226, .ref 227, .ref 228, .ref 229, .ref 230, .ref 231, .ref 232, .ref 233, .ref 234, .ref 235, .ref 236, .ref 237, .ref 238, .ref 239, .ref 240, .ref 241, .ref 242, .ref 243, .ref 244, .ref 245, .ref 246, .ref 247, .ref 248, .ref 249, .ref 250, .ref 251, .ref 252, .ref 253, .ref 254, .ref 255, .ref 256, .ref 257, .ref 258, .ref 259], vm := .none },
  { cls := 11, slots := #[.int (-128)], vm := .none },
  { cls := 11, slots := #[.int (-127)], vm := .none },
  { cls := 11, slots := #[.int (-126)], vm := .none },
  { cls := 11, slots := #[.int (-125)], vm := .none },
  { cls := 11, slots := #[.int (-124)], vm := .none },
  { cls := 11, slots := #[.int (-123)], vm := .none },
  { cls := 11, slots := #[.int (-122)], vm := .none },
  { cls := 11, slots := #[.int (-121)], vm := .none },
  { cls := 11, slots := #[.int (-120)], vm := .none },
  { cls := 11, slots := #[.int (-119)], vm := .none },
  { cls := 11, slots := #[.int (-118)], vm := .none },
  { cls := 11, slots := #[.int (-117)], vm := .none },
  { cls := 11, slots := #[.int (-116)], vm := .none },
  { cls := 11, slots := #[.int (-115)], vm := .none },
  { cls := 11, slots := #[.int (-114)], vm := .none },
  { cls := 11, slots := #[.int (-113)], vm := .none },
  { cls := 11, slots := #[.int (-112)], vm := .none },
  { cls := 11, slots := #[.int (-111)], vm := .none },
  { cls := 11, slots := #[.int (-110)], vm := .none },
  { cls := 11, slots := #[.int (-109)], vm := .none },
  { cls := 11, slots := #[.int (-108)], vm := .none },
  { cls := 11, slots := #[.int (-107)], vm := .none },
  { cls := 11, slots := #[.int (-106)], vm := .none },
  { cls := 11, slots := #[.int (-105)], vm := .none },
  { cls := 11, slots := #[.int (-104)], vm := .none },
  { cls := 11, slots := #[.int (-103)], vm := .none },
  { cls := 11, slots := #[.int (-102)], vm := .none },
  { cls := 11, slots := #[.int (-101)], vm := .none },
  { cls := 11, slots := #[.int (-100)], vm := .none },
  { cls := 11, slots := #[.int (-99)], vm := .none },
  { cls := 11, slots := #[.int (-98)], vm := .none },
  { cls := 11, slots := #[.int (-97)], vm := .none },
  { cls := 11, slots := #[.int (-96)], vm := .none },
  { cls := 11, slots := #[.int (-95)], vm := .none },
  { cls := 11, slots := #[.int (-94)], vm := .none },
  { cls := 11, slots := #[.int (-93)], vm := .none },
  { cls := 11, slots := #[.int (-92)], vm := .none },
  { cls := 11, slots := #[.int (-91)], vm := .none },
  { cls := 11, slots := #[.int (-90)], vm := .none },
  { cls := 11, slots := #[.int (-89)], vm := .none },
  { cls := 11, slots := #[.int (-88)], vm := .none },
  { cls := 11, slots := #[.int (-87)], vm := .none },
  { cls := 11, slots := #[.int (-86)], vm := .none },
  { cls := 11, slots := #[.int (-85)], vm := .none },
  { cls := 11, slots := #[.int (-84)], vm := .none },
  { cls := 11, slots := #[.int (-83)], vm := .none },
  { cls := 11, slots := #[.int (-82)], vm := .none },
  { cls := 11, slots := #[.int (-81)], vm := .none },
  { cls := 11, slots := #[.int (-80)], vm := .none },
  { cls := 11, slots := #[.int (-79)], vm := .none },
  { cls := 11, slots := #[.int (-78)], vm := .none },
  { cls := 11, slots := #[.int (-77)], vm := .none },
  { cls := 11, slots := #[.int (-76)], vm := .none },
  { cls := 11, slots := #[.int (-75)], vm := .none },
  { cls := 11, slots := #[.int (-74)], vm := .none },
  { cls := 11, slots := #[.int (-73)], vm := .none },
  { cls := 11, slots := #[.int (-72)], vm := .none },
  { cls := 11, slots := #[.int (-71)], vm := .none },
  { cls := 11, slots := #[.int (-70)], vm := .none },
  { cls := 11, slots := #[.int (-69)], vm := .none },
  { cls := 11, slots := #[.int (-68)], vm := .none },
  { cls := 11, slots := #[.int (-67)], vm := .none },
  { cls := 11, slots := #[.int (-66)], vm := .none },
  { cls := 11, slots := #[.int (-65)], vm := .none },
  { cls := 11, slots := #[.int (-64)], vm := .none },
  { cls := 11, slots := #[.int (-63)], vm := .none },
  { cls := 11, slots := #[.int (-62)], vm := .none },
  { cls := 11, slots := #[.int (-61)], vm := .none },
  { cls := 11, slots := #[.int (-60)], vm := .none },
  { cls := 11, slots := #[.int (-59)], vm := .none },
  { cls := 11, slots := #[.int (-58)], vm := .none },
  { cls := 11, slots := #[.int (-57)], vm := .none },
  { cls := 11, slots := #[.int (-56)], vm := .none },
  { cls := 11, slots := #[.int (-55)], vm := .none },
  { cls := 11, slots := #[.int (-54)], vm := .none },
  { cls := 11, slots := #[.int (-53)], vm := .none },
  { cls := 11, slots := #[.int (-52)], vm := .none },
  { cls := 11, slots := #[.int (-51)], vm := .none },
  { cls := 11, slots := #[.int (-50)], vm := .none },
  { cls := 11, slots := #[.int (-49)], vm := .none },
  { cls := 11, slots := #[.int (-48)], vm := .none },
  { cls := 11, slots := #[.int (-47)], vm := .none },
  { cls := 11, slots := #[.int (-46)], vm := .none },
  { cls := 11, slots := #[.int (-45)], vm := .none },
  { cls := 11, slots := #[.int (-44)], vm := .none },
  { cls := 11, slots := #[.int (-43)], vm := .none },
  { cls := 11, slots := #[.int (-42)], vm := .none },
  { cls := 11, slots := #[.int (-41)], vm := .none },
  { cls := 11, slots := #[.int (-40)], vm := .none },
  { cls := 11, slots := #[.int (-39)], vm := .none },
  { cls := 11, slots := #[.int (-38)], vm := .none },
  { cls := 11, slots := #[.int (-37)], vm := .none },
  { cls := 11, slots := #[.int (-36)], vm := .none },
  { cls := 11, slots := #[.int (-35)], vm := .none },
  { cls := 11, slots := #[.int (-34)], vm := .none },
  { cls := 11, slots := #[.int (-33)], vm := .none },
  { cls := 11, slots := #[.int (-32)], vm := .none },
  { cls := 11, slots := #[.int (-31)], vm := .none },
  { cls := 11, slots := #[.int (-30)], vm := .none },
  { cls := 11, slots := #[.int (-29)], vm := .none },
  { cls := 11, slots := #[.int (-28)], vm := .none },
  { cls := 11, slots := #[.int (-27)], vm := .none },
  { cls := 11, slots := #[.int (-26)], vm := .none },
  { cls := 11, slots := #[.int (-25)], vm := .none },
  { cls := 11, slots := #[.int (-24)], vm := .none },
  { cls := 11, slots := #[.int (-23)], vm := .none },
  { cls := 11, slots := #[.int (-22)], vm := .none },
  { cls := 11, slots := #[.int (-21)], vm := .none },
  { cls := 11, slots := #[.int (-20)], vm := .none },
  { cls := 11, slots := #[.int (-19)], vm := .none },
  { cls := 11, slots := #[.int (-18)], vm := .none },
  { cls := 11, slots := #[.int (-17)], vm := .none },
  { cls := 11, slots := #[.int (-16)], vm := .none },
  { cls := 11, slots := #[.int (-15)], vm := .none },
  { cls := 11, slots := #[.int (-14)], vm := .none },
  { cls := 11, slots := #[.int (-13)], vm := .none },
  { cls := 11, slots := #[.int (-12)], vm := .none },
  { cls := 11, slots := #[.int (-11)], vm := .none },
  { cls := 11, slots := #[.int (-10)], vm := .none },
  { cls := 11, slots := #[.int (-9)], vm := .none },
  { cls := 11, slots := #[.int (-8)], vm := .none },
  { cls := 11, slots := #[.int (-7)], vm := .none },
  { cls := 11, slots := #[.int (-6)], vm := .none },
  { cls := 11, slots := #[.int (-5)], vm := .none },
  { cls := 11, slots := #[.int (-4)], vm := .none },
  { cls := 11, slots := #[.int (-3)], vm := .none },
  { cls := 11, slots := #[.int (-2)], vm := .none },
  { cls := 11, slots := #[.int (-1)], vm := .none },
  { cls := 11, slots := #[.int 0], vm := .none },
  { cls := 11, slots := #[.int 1], vm := .none },
  { cls := 11, slots := #[.int 2], vm := .none },
  { cls := 11, slots := #[.int 3], vm := .none },
  { cls := 11, slots := #[.int 4], vm := .none },
  { cls := 11, slots := #[.int 5], vm := .none },
  { cls := 11, slots := #[.int 6], vm := .none },
  { cls := 11, slots := #[.int 7], vm := .none },
  { cls := 11, slots := #[.int 8], vm := .none },
  { cls := 11, slots := #[.int 9], vm := .none },
  { cls := 11, slots := #[.int 10], vm := .none },
  { cls := 11, slots := #[.int 11], vm := .none },
  { cls := 11, slots := #[.int 12], vm := .none },
  { cls := 11, slots := #[.int 13], vm := .none },
  { cls := 11, slots := #[.int 14], vm := .none },
  { cls := 11, slots := #[.int 15], vm := .none },
  { cls := 11, slots := #[.int 16], vm := .none },
  { cls := 11, slots := #[.int 17], vm := .none },
  { cls := 11, slots := #[.int 18], vm := .none },
  { cls := 11, slots := #[.int 19], vm := .none },
  { cls := 11, slots := #[.int 20], vm := .none },
  { cls := 11, slots := #[.int 21], vm := .none },
  { cls := 11, slots := #[.int 22], vm := .none },
  { cls := 11, slots := #[.int 23], vm := .none },
  { cls := 11, slots := #[.int 24], vm := .none },
  { cls := 11, slots := #[.int 25], vm := .none },
  { cls := 11, slots := #[.int 26], vm := .none },
  { cls := 11, slots := #[.int 27], vm := .none },
  { cls := 11, slots := #[.int 28], vm := .none },
  { cls := 11, slots := #[.int 29], vm := .none },
  { cls := 11, slots := #[.int 30], vm := .none },
  { cls := 11, slots := #[.int 31], vm := .none },
  { cls := 11, slots := #[.int 32], vm := .none },
  { cls := 11, slots := #[.int 33], vm := .none },
  { cls := 11, slots := #[.int 34], vm := .none },
  { cls := 11, slots := #[.int 35], vm := .none },
  { cls := 11, slots := #[.int 36], vm := .none },
  { cls := 11, slots := #[.int 37], vm := .none },
  { cls := 11, slots := #[.int 38], vm := .none },
  { cls := 11, slots := #[.int 39], vm := .none },
  { cls := 11, slots := #[.int 40], vm := .none },
  { cls := 11, slots := #[.int 41], vm := .none },
  { cls := 11, slots := #[.int 42], vm := .none },
  { cls := 11, slots := #[.int 43], vm := .none },
  { cls := 11, slots := #[.int 44], vm := .none },
  { cls := 11, slots := #[.int 45], vm := .none },
  { cls := 11, slots := #[.int 46], vm := .none },
  { cls := 11, slots := #[.int 47], vm := .none },
  { cls := 11, slots := #[.int 48], vm := .none },
  { cls := 11, slots := #[.int 49], vm := .none },
  { cls := 11, slots := #[.int 50], vm := .none },
  { cls := 11, slots := #[.int 51], vm := .none },
  { cls := 11, slots := #[.int 52], vm := .none },
  { cls := 11, slots := #[.int 53], vm := .none },
  { cls := 11, slots := #[.int 54], vm := .none },
  { cls := 11, slots := #[.int 55], vm := .none },
  { cls := 11, slots := #[.int 56], vm := .none },
  { cls := 11, slots := #[.int 57], vm := .none },
  { cls := 11, slots := #[.int 58], vm := .none },
  { cls := 11, slots := #[.int 59], vm := .none },
  { cls := 11, slots := #[.int 60], vm := .none },
  { cls := 11, slots := #[.int 61], vm := .none },
  { cls := 11, slots := #[.int 62], vm := .none },
  { cls := 11, slots := #[.int 63], vm := .none },
  { cls := 11, slots := #[.int 64], vm := .none },
  { cls := 11, slots := #[.int 65], vm := .none },
  { cls := 11, slots := #[.int 66], vm := .none },
  { cls := 11, slots := #[.int 67], vm := .none },
  { cls := 11, slots := #[.int 68], vm := .none },
  { cls := 11, slots := #[.int 69], vm := .none },
  { cls := 11, slots := #[.int 70], vm := .none },
  { cls := 11, slots := #[.int 71], vm := .none },
  { cls := 11, slots := #[.int 72], vm := .none },
  { cls := 11, slots := #[.int 73], vm := .none },
  { cls := 11, slots := #[.int 74], vm := .none },
  { cls := 11, slots := #[.int 75], vm := .none },
  { cls := 11, slots := #[.int 76], vm := .none },
  { cls := 11, slots := #[.int 77], vm := .none },
  { cls := 11, slots := #[.int 78], vm := .none },
  { cls := 11, slots := #[.int 79], vm := .none },
  { cls := 11, slots := #[.int 80], vm := .none },
  { cls := 11, slots := #[.int 81], vm := .none },
  { cls := 11, slots := #[.int 82], vm := .none },
  { cls := 11, slots := #[.int 83], vm := .none },
  { cls := 11, slots := #[.int 84], vm := .none },
  { cls := 11, slots := #[.int 85], vm := .none },
  { cls := 11, slots := #[.int 86], vm := .none },
  { cls := 11, slots := #[.int 87], vm := .none },
  { cls := 11, slots := #[.int 88], vm := .none },
  { cls := 11, slots := #[.int 89], vm := .none },
  { cls := 11, slots := #[.int 90], vm := .none },
  { cls := 11, slots := #[.int 91], vm := .none },
  { cls := 11, slots := #[.int 92], vm := .none },
  { cls := 11, slots := #[.int 93], vm := .none },
  { cls := 11, slots := #[.int 94], vm := .none },
  { cls := 11, slots := #[.int 95], vm := .none },
  { cls := 11, slots := #[.int 96], vm := .none },
  { cls := 11, slots := #[.int 97], vm := .none },
  { cls := 11, slots := #[.int 98], vm := .none },
  { cls := 11, slots := #[.int 99], vm := .none },
  { cls := 11, slots := #[.int 100], vm := .none },
  { cls := 11, slots := #[.int 101], vm := .none },
  { cls := 11, slots := #[.int 102], vm := .none },
  { cls := 11, slots := #[.int 103], vm := .none },
  { cls := 11, slots := #[.int 104], vm := .none },
  { cls := 11, slots := #[.int 105], vm := .none },
  { cls := 11, slots := #[.int 106], vm := .none },
  { cls := 11, slots := #[.int 107], vm := .none },
  { cls := 11, slots := #[.int 108], vm := .none },
  { cls := 11, slots := #[.int 109], vm := .none },
  { cls := 11, slots := #[.int 110], vm := .none },
  { cls := 11, slots := #[.int 111], vm := .none },
  { cls := 11, slots := #[.int 112], vm := .none },
  { cls := 11, slots := #[.int 113], vm := .none },
  { cls := 11, slots := #[.int 114], vm := .none },
  { cls := 11, slots := #[.int 115], vm := .none },
  { cls := 11, slots := #[.int 116], vm := .none },
  { cls := 11, slots := #[.int 117], vm := .none },
  { cls := 11, slots := #[.int 118], vm := .none },
  { cls := 11, slots := #[.int 119], vm := .none },
  { cls := 11, slots := #[.int 120], vm := .none },
  { cls := 11, slots := #[.int 121], vm := .none },
  { cls := 11, slots := #[.int 122], vm := .none },
  { cls := 11, slots := #[.int 123], vm := .none },
  { cls := 11, slots := #[.int 124], vm := .none },
  { cls := 11, slots := #[.int 125], vm := .none },
  { cls := 11, slots := #[.int 126], vm := .none },
  { cls := 11, slots := #[.int 127], vm := .none }]
def classes : Array Class := #[k0, k1, k2, k3, k4, k5, k6, k7, k8, k9, k10, k11, k12, k13, k14, k15, k16, k17, k18, k19, k20, k21, k22, k23, k24, k25, k26]
def interned : List (Array UInt16 × Addr) := []
def slotsUsed : Nat := 527
def theMethod : MethodId := ⟨1, 2⟩
def args0 : Array Value := #[.int 5, .int 6, .int 7, .int 8, .int 9]
def aboutOver (below : List Frame) : State where
  vm := { classes := classes, interned := interned.toArray }
  heap := heap
  slotsUsed := slotsUsed
  threads := #[{ frames := .invoking theMethod args0 :: below }]
def below0 : List Frame := [.native { method := ⟨0, 0⟩, args := #[] }]
def about1 : State := aboutOver below0
def p0 : Program := .bare "" "" ""
def e0 : Env := launch0.env 0 0 0
theorem w_frames : about1.frames = Frame.invoking theMethod args0 :: below0 := rfl
set_option maxRecDepth 65536 in
theorem w_args : argsFit about1.vm theMethod args0 = true := by decide +kernel
set_option maxRecDepth 65536 in
theorem w_heap : heapFits about1 = true := by decide +kernel
set_option maxRecDepth 65536 in
theorem w_runnable : about1.curStatus? = some .runnable := by decide +kernel
set_option maxRecDepth 65536 in
theorem w_alone : about1.alone = true := by decide +kernel
set_option maxRecDepth 65536 in
theorem w_named : about1.methodNamed? x = some theMethod := by decide +kernel
set_option maxRecDepth 65536 in
theorem w_hears : about1.hears theMethod below0 = true := by decide +kernel
set_option maxRecDepth 65536 in
theorem w_ripe : about1.ripe theMethod args0 below0 = true := by decide +kernel
theorem w_running : about1.status = .running := rfl
set_option maxRecDepth 65536 in
theorem w_room : about1.hasRoom e0.platform room_1 = true :=
  launch0.hasRoom_least _ room_1 (by decide +kernel) (by decide +kernel) (by decide +kernel) (by decide +kernel) (by decide +kernel) (by decide +kernel)
theorem allAtoms_all (ts : List Jvm.Cond) (a : Array Jvm.Value) (st : Jvm.State) : (allAtoms ts).before a st = ts.all (fun c => c.before a st) := by
  induction ts with
  | nil => rfl
  | cons c t ih =>
    show (Jvm.Cond.and c (allAtoms t)).before a st = _
    rw [Jvm.Cond.before_and, ih, List.all_cons]
def words1 : List Jvm.Cond := Jvm.Cond.code x code maxLocals ret :: tables_1
/-- a 'code' word, met by the world's own term for the bytes: nothing is compared byte by byte -/
theorem code_word {y : MethodName} {bytes : ByteArray} {mx : Nat} {rt : Option FieldType} {a : Array Value} {s : State} {m : MethodId} {meth : Method} {c : Code} (h1 : s.methodNamed? y = some m) (h2 : s.vm.method? m = some meth) (h3 : meth.code = some c) (h4 : c.code = bytes)
    (h5 : (c.maxLocals == mx && c.exceptionTable.isEmpty && decide (c.maxStack ≤ mostOperands) && decide (meth.sig.returnType = rt) && !meth.locks && decide (parseMethodDescriptor y.desc = some meth.sig)) = true) : (Jvm.Cond.code y bytes mx rt).before a s = true := by
  simp only [Bool.and_eq_true, beq_iff_eq, Bool.not_eq_true', decide_eq_true_eq] at h5
  obtain ⟨⟨⟨⟨⟨g1, g2⟩, g3⟩, g4⟩, g5⟩, g6⟩ := h5
  simp [Cond.before, Cond.holds, Cond.value, h1, h2, h3, h4, g1, g2, g3, g4, g5, g6]
def isCode : Jvm.Cond → Bool
  | .code _ _ _ _ => true
  | _ => false
theorem all_split {L : List Jvm.Cond} {P : Jvm.Cond → Bool} (h1 : L.all (fun c => isCode c || P c) = true) (h2 : ∀ c ∈ L.filter isCode, P c = true) : L.all P = true := by
  refine List.all_eq_true.mpr fun c hc => ?_
  have h := List.all_eq_true.mp h1 c hc
  rcases Bool.eq_false_or_eq_true (isCode c) with hi | hi
  · exact h2 c (List.mem_filter.mpr ⟨hc, hi⟩)
  · simpa [hi] using h
set_option maxRecDepth 65536 in
theorem w_c0 : (Jvm.Cond.code x code maxLocals ret).before args0 about1 = true := code_word (m := ⟨1, 2⟩) (meth := k1m2) (c := k1c2) (by decide +kernel) rfl rfl rfl (by decide +kernel)
set_option maxRecDepth 65536 in
theorem w_c1 : (Jvm.Cond.code ({ cls := "com/example/qrew/qrew/logic/PredicateEqualsPinLaw", name := "chars", desc := "(III)[C" } : Jvm.MethodName) method_2_code (4 : Nat) (Option.some (Jvm.ClassFile.FieldType.array Jvm.ClassFile.FieldType.char))).before args0 about1 = true := code_word (m := ⟨1, 1⟩) (meth := k1m1) (c := k1c1) (by decide +kernel) rfl rfl rfl (by decide +kernel)
set_option maxRecDepth 65536 in
theorem w_c2 : (Jvm.Cond.code ({ cls := "java/lang/String", name := "<init>", desc := "([C)V" } : Jvm.MethodName) jdk_42_method_3_code (2 : Nat) (Option.none : Option Jvm.ClassFile.FieldType)).before args0 about1 = true := code_word (m := ⟨7, 1⟩) (meth := k7m1) (c := k7c1) (by decide +kernel) rfl rfl rfl (by decide +kernel)
set_option maxRecDepth 65536 in
theorem w_c3 : (Jvm.Cond.code ({ cls := "java/lang/String", name := "<init>", desc := "([CIILjava/lang/Void;)V" } : Jvm.MethodName) jdk_42_method_149_code (6 : Nat) (Option.none : Option Jvm.ClassFile.FieldType)).before args0 about1 = true := code_word (m := ⟨7, 4⟩) (meth := k7m4) (c := k7c4) (by decide +kernel) rfl rfl rfl (by decide +kernel)
set_option maxRecDepth 65536 in
theorem w_c4 : (Jvm.Cond.code ({ cls := "java/lang/Object", name := "<init>", desc := "()V" } : Jvm.MethodName) object_method_1_code (1 : Nat) (Option.none : Option Jvm.ClassFile.FieldType)).before args0 about1 = true := code_word (m := ⟨0, 0⟩) (meth := k0m0) (c := k0c0) (by decide +kernel) rfl rfl rfl (by decide +kernel)
set_option maxRecDepth 65536 in
theorem w_c5 : (Jvm.Cond.code ({ cls := "com/example/qrew/qrew/logic/Predicate", name := "<init>", desc := "(Ljava/lang/String;I)V" } : Jvm.MethodName) prog_22_method_1_code (3 : Nat) (Option.none : Option Jvm.ClassFile.FieldType)).before args0 about1 = true := code_word (m := ⟨8, 0⟩) (meth := k8m0) (c := k8c0) (by decide +kernel) rfl rfl rfl (by decide +kernel)
set_option maxRecDepth 65536 in
theorem w_c6 : (Jvm.Cond.code ({ cls := "java/util/Objects", name := "requireNonNull", desc := "(Ljava/lang/Object;Ljava/lang/String;)Ljava/lang/Object;" } : Jvm.MethodName) jdk_31_method_11_code (2 : Nat) (Option.some (Jvm.ClassFile.FieldType.object "java/lang/Object"))).before args0 about1 = true := code_word (m := ⟨9, 2⟩) (meth := k9m2) (c := k9c2) (by decide +kernel) rfl rfl rfl (by decide +kernel)
set_option maxRecDepth 65536 in
theorem w_c7 : (Jvm.Cond.code ({ cls := "java/lang/Integer", name := "valueOf", desc := "(I)Ljava/lang/Integer;" } : Jvm.MethodName) jdk_33_method_22_code (1 : Nat) (Option.some (Jvm.ClassFile.FieldType.object "java/lang/Integer"))).before args0 about1 = true := code_word (m := ⟨11, 0⟩) (meth := k11m0) (c := k11c0) (by decide +kernel) rfl rfl rfl (by decide +kernel)
set_option maxRecDepth 65536 in
theorem w_c8 : (Jvm.Cond.code ({ cls := "java/util/Objects", name := "hash", desc := "([Ljava/lang/Object;)I" } : Jvm.MethodName) jdk_31_method_5_code (1 : Nat) (Option.some Jvm.ClassFile.FieldType.int)).before args0 about1 = true := code_word (m := ⟨9, 1⟩) (meth := k9m1) (c := k9c1) (by decide +kernel) rfl rfl rfl (by decide +kernel)
set_option maxRecDepth 65536 in
theorem w_c9 : (Jvm.Cond.code ({ cls := "java/util/Arrays", name := "hashCode", desc := "([Ljava/lang/Object;)I" } : Jvm.MethodName) jdk_65_method_157_code (6 : Nat) (Option.some Jvm.ClassFile.FieldType.int)).before args0 about1 = true := code_word (m := ⟨13, 1⟩) (meth := k13m1) (c := k13c1) (by decide +kernel) rfl rfl rfl (by decide +kernel)
set_option maxRecDepth 65536 in
theorem w_c10 : (Jvm.Cond.code ({ cls := "java/lang/String", name := "hashCode", desc := "()I" } : Jvm.MethodName) jdk_42_method_78_code (2 : Nat) (Option.some Jvm.ClassFile.FieldType.int)).before args0 about1 = true := code_word (m := ⟨7, 3⟩) (meth := k7m3) (c := k7c3) (by decide +kernel) rfl rfl rfl (by decide +kernel)
set_option maxRecDepth 65536 in
theorem w_c11 : (Jvm.Cond.code ({ cls := "java/lang/String", name := "isLatin1", desc := "()Z" } : Jvm.MethodName) jdk_42_method_154_code (1 : Nat) (Option.some Jvm.ClassFile.FieldType.boolean)).before args0 about1 = true := code_word (m := ⟨7, 5⟩) (meth := k7m5) (c := k7c5) (by decide +kernel) rfl rfl rfl (by decide +kernel)
set_option maxRecDepth 65536 in
theorem w_c12 : (Jvm.Cond.code ({ cls := "java/lang/StringLatin1", name := "hashCode", desc := "([B)I" } : Jvm.MethodName) jdk_43_method_21_code (1 : Nat) (Option.some Jvm.ClassFile.FieldType.int)).before args0 about1 = true := code_word (m := ⟨14, 2⟩) (meth := k14m2) (c := k14c2) (by decide +kernel) rfl rfl rfl (by decide +kernel)
set_option maxRecDepth 65536 in
theorem w_c13 : (Jvm.Cond.code ({ cls := "java/lang/Integer", name := "hashCode", desc := "()I" } : Jvm.MethodName) jdk_33_method_32_code (1 : Nat) (Option.some Jvm.ClassFile.FieldType.int)).before args0 about1 = true := code_word (m := ⟨11, 2⟩) (meth := k11m2) (c := k11c2) (by decide +kernel) rfl rfl rfl (by decide +kernel)
set_option maxRecDepth 65536 in
theorem w_c14 : (Jvm.Cond.code ({ cls := "java/lang/Integer", name := "hashCode", desc := "(I)I" } : Jvm.MethodName) jdk_33_method_33_code (1 : Nat) (Option.some Jvm.ClassFile.FieldType.int)).before args0 about1 = true := code_word (m := ⟨11, 3⟩) (meth := k11m3) (c := k11c3) (by decide +kernel) rfl rfl rfl (by decide +kernel)
set_option maxRecDepth 65536 in
theorem w_c15 : (Jvm.Cond.code ({ cls := "com/example/qrew/qrew/logic/Predicate", name := "equals", desc := "(Ljava/lang/Object;)Z" } : Jvm.MethodName) prog_22_method_4_code (3 : Nat) (Option.some Jvm.ClassFile.FieldType.boolean)).before args0 about1 = true := code_word (m := ⟨8, 1⟩) (meth := k8m1) (c := k8c1) (by decide +kernel) rfl rfl rfl (by decide +kernel)
set_option maxRecDepth 65536 in
theorem w_c16 : (Jvm.Cond.code ({ cls := "java/lang/StringUTF16", name := "compress", desc := "([CII)[B" } : Jvm.MethodName) jdk_52_method_16_code (6 : Nat) (Option.some (Jvm.ClassFile.FieldType.array Jvm.ClassFile.FieldType.byte))).before args0 about1 = true := code_word (m := ⟨15, 2⟩) (meth := k15m2) (c := k15c2) (by decide +kernel) rfl rfl rfl (by decide +kernel)
set_option maxRecDepth 65536 in
theorem w_c17 : (Jvm.Cond.code ({ cls := "java/lang/StringUTF16", name := "compress", desc := "([CI[BII)I" } : Jvm.MethodName) jdk_52_method_21_code (7 : Nat) (Option.some Jvm.ClassFile.FieldType.int)).before args0 about1 = true := code_word (m := ⟨15, 3⟩) (meth := k15m3) (c := k15c3) (by decide +kernel) rfl rfl rfl (by decide +kernel)
set_option maxRecDepth 65536 in
theorem w_c18 : (Jvm.Cond.code ({ cls := "java/lang/StringUTF16", name := "coderFromArrayLen", desc := "([BI)B" } : Jvm.MethodName) jdk_52_method_15_code (2 : Nat) (Option.some Jvm.ClassFile.FieldType.byte)).before args0 about1 = true := code_word (m := ⟨15, 1⟩) (meth := k15m1) (c := k15c1) (by decide +kernel) rfl rfl rfl (by decide +kernel)
set_option maxRecDepth 65536 in
theorem w_c19 : (Jvm.Cond.code ({ cls := "jdk/internal/util/ArraysSupport", name := "vectorizedHashCode", desc := "(Ljava/lang/Object;IIII)I" } : Jvm.MethodName) jdk_48_method_4_code (5 : Nat) (Option.some Jvm.ClassFile.FieldType.int)).before args0 about1 = true := code_word (m := ⟨16, 1⟩) (meth := k16m1) (c := k16c1) (by decide +kernel) rfl rfl rfl (by decide +kernel)
set_option maxRecDepth 65536 in
theorem w_c20 : (Jvm.Cond.code ({ cls := "jdk/internal/util/ArraysSupport", name := "signedHashCode", desc := "(I[BII)I" } : Jvm.MethodName) jdk_48_method_5_code (6 : Nat) (Option.some Jvm.ClassFile.FieldType.int)).before args0 about1 = true := code_word (m := ⟨16, 2⟩) (meth := k16m2) (c := k16c2) (by decide +kernel) rfl rfl rfl (by decide +kernel)
set_option maxRecDepth 65536 in
theorem w_c21 : (Jvm.Cond.code ({ cls := "java/lang/Integer", name := "<init>", desc := "(I)V" } : Jvm.MethodName) jdk_33_method_23_code (2 : Nat) (Option.none : Option Jvm.ClassFile.FieldType)).before args0 about1 = true := code_word (m := ⟨11, 1⟩) (meth := k11m1) (c := k11c1) (by decide +kernel) rfl rfl rfl (by decide +kernel)
set_option maxRecDepth 65536 in
theorem w_c22 : (Jvm.Cond.code ({ cls := "java/lang/Number", name := "<init>", desc := "()V" } : Jvm.MethodName) jdk_18_method_1_code (1 : Nat) (Option.none : Option Jvm.ClassFile.FieldType)).before args0 about1 = true := code_word (m := ⟨10, 0⟩) (meth := k10m0) (c := k10c0) (by decide +kernel) rfl rfl rfl (by decide +kernel)
set_option maxRecDepth 65536 in
theorem w_c23 : (Jvm.Cond.code ({ cls := "java/lang/String", name := "equals", desc := "(Ljava/lang/Object;)Z" } : Jvm.MethodName) jdk_42_method_66_code (3 : Nat) (Option.some Jvm.ClassFile.FieldType.boolean)).before args0 about1 = true := code_word (m := ⟨7, 2⟩) (meth := k7m2) (c := k7c2) (by decide +kernel) rfl rfl rfl (by decide +kernel)
set_option maxRecDepth 65536 in
theorem w_c24 : (Jvm.Cond.code ({ cls := "java/lang/StringLatin1", name := "equals", desc := "([B[B)Z" } : Jvm.MethodName) jdk_43_method_13_code (3 : Nat) (Option.some Jvm.ClassFile.FieldType.boolean)).before args0 about1 = true := code_word (m := ⟨14, 1⟩) (meth := k14m1) (c := k14c1) (by decide +kernel) rfl rfl rfl (by decide +kernel)
def codes1 : List Jvm.Cond := [Jvm.Cond.code x code maxLocals ret, Jvm.Cond.code ({ cls := "com/example/qrew/qrew/logic/PredicateEqualsPinLaw", name := "chars", desc := "(III)[C" } : Jvm.MethodName) method_2_code (4 : Nat) (Option.some (Jvm.ClassFile.FieldType.array Jvm.ClassFile.FieldType.char)), Jvm.Cond.code ({ cls := "java/lang/String", name := "<init>", desc := "([C)V" } : Jvm.MethodName) jdk_42_method_3_code (2 : Nat) (Option.none : Option Jvm.ClassFile.FieldType), Jvm.Cond.code ({ cls := "java/lang/String", name := "<init>", desc := "([CIILjava/lang/Void;)V" } : Jvm.MethodName) jdk_42_method_149_code (6 : Nat) (Option.none : Option Jvm.ClassFile.FieldType), Jvm.Cond.code ({ cls := "java/lang/Object", name := "<init>", desc := "()V" } : Jvm.MethodName) object_method_1_code (1 : Nat) (Option.none : Option Jvm.ClassFile.FieldType), Jvm.Cond.code ({ cls := "com/example/qrew/qrew/logic/Predicate", name := "<init>", desc := "(Ljava/lang/String;I)V" } : Jvm.MethodName) prog_22_method_1_code (3 : Nat) (Option.none : Option Jvm.ClassFile.FieldType), Jvm.Cond.code ({ cls := "java/util/Objects", name := "requireNonNull", desc := "(Ljava/lang/Object;Ljava/lang/String;)Ljava/lang/Object;" } : Jvm.MethodName) jdk_31_method_11_code (2 : Nat) (Option.some (Jvm.ClassFile.FieldType.object "java/lang/Object")), Jvm.Cond.code ({ cls := "java/lang/Integer", name := "valueOf", desc := "(I)Ljava/lang/Integer;" } : Jvm.MethodName) jdk_33_method_22_code (1 : Nat) (Option.some (Jvm.ClassFile.FieldType.object "java/lang/Integer")), Jvm.Cond.code ({ cls := "java/util/Objects", name := "hash", desc := "([Ljava/lang/Object;)I" } : Jvm.MethodName) jdk_31_method_5_code (1 : Nat) (Option.some Jvm.ClassFile.FieldType.int), Jvm.Cond.code ({ cls := "java/util/Arrays", name := "hashCode", desc := "([Ljava/lang/Object;)I" } : Jvm.MethodName) jdk_65_method_157_code (6 : Nat) (Option.some Jvm.ClassFile.FieldType.int), Jvm.Cond.code ({ cls := "java/lang/String", name := "hashCode", desc := "()I" } : Jvm.MethodName) jdk_42_method_78_code (2 : Nat) (Option.some Jvm.ClassFile.FieldType.int), Jvm.Cond.code ({ cls := "java/lang/String", name := "isLatin1", desc := "()Z" } : Jvm.MethodName) jdk_42_method_154_code (1 : Nat) (Option.some Jvm.ClassFile.FieldType.boolean), Jvm.Cond.code ({ cls := "java/lang/StringLatin1", name := "hashCode", desc := "([B)I" } : Jvm.MethodName) jdk_43_method_21_code (1 : Nat) (Option.some Jvm.ClassFile.FieldType.int), Jvm.Cond.code ({ cls := "java/lang/Integer", name := "hashCode", desc := "()I" } : Jvm.MethodName) jdk_33_method_32_code (1 : Nat) (Option.some Jvm.ClassFile.FieldType.int), Jvm.Cond.code ({ cls := "java/lang/Integer", name := "hashCode", desc := "(I)I" } : Jvm.MethodName) jdk_33_method_33_code (1 : Nat) (Option.some Jvm.ClassFile.FieldType.int), Jvm.Cond.code ({ cls := "com/example/qrew/qrew/logic/Predicate", name := "equals", desc := "(Ljava/lang/Object;)Z" } : Jvm.MethodName) prog_22_method_4_code (3 : Nat) (Option.some Jvm.ClassFile.FieldType.boolean), Jvm.Cond.code ({ cls := "java/lang/StringUTF16", name := "compress", desc := "([CII)[B" } : Jvm.MethodName) jdk_52_method_16_code (6 : Nat) (Option.some (Jvm.ClassFile.FieldType.array Jvm.ClassFile.FieldType.byte)), Jvm.Cond.code ({ cls := "java/lang/StringUTF16", name := "compress", desc := "([CI[BII)I" } : Jvm.MethodName) jdk_52_method_21_code (7 : Nat) (Option.some Jvm.ClassFile.FieldType.int), Jvm.Cond.code ({ cls := "java/lang/StringUTF16", name := "coderFromArrayLen", desc := "([BI)B" } : Jvm.MethodName) jdk_52_method_15_code (2 : Nat) (Option.some Jvm.ClassFile.FieldType.byte), Jvm.Cond.code ({ cls := "jdk/internal/util/ArraysSupport", name := "vectorizedHashCode", desc := "(Ljava/lang/Object;IIII)I" } : Jvm.MethodName) jdk_48_method_4_code (5 : Nat) (Option.some Jvm.ClassFile.FieldType.int), Jvm.Cond.code ({ cls := "jdk/internal/util/ArraysSupport", name := "signedHashCode", desc := "(I[BII)I" } : Jvm.MethodName) jdk_48_method_5_code (6 : Nat) (Option.some Jvm.ClassFile.FieldType.int), Jvm.Cond.code ({ cls := "java/lang/Integer", name := "<init>", desc := "(I)V" } : Jvm.MethodName) jdk_33_method_23_code (2 : Nat) (Option.none : Option Jvm.ClassFile.FieldType), Jvm.Cond.code ({ cls := "java/lang/Number", name := "<init>", desc := "()V" } : Jvm.MethodName) jdk_18_method_1_code (1 : Nat) (Option.none : Option Jvm.ClassFile.FieldType), Jvm.Cond.code ({ cls := "java/lang/String", name := "equals", desc := "(Ljava/lang/Object;)Z" } : Jvm.MethodName) jdk_42_method_66_code (3 : Nat) (Option.some Jvm.ClassFile.FieldType.boolean), Jvm.Cond.code ({ cls := "java/lang/StringLatin1", name := "equals", desc := "([B[B)Z" } : Jvm.MethodName) jdk_43_method_13_code (3 : Nat) (Option.some Jvm.ClassFile.FieldType.boolean)]
set_option maxRecDepth 65536 in
theorem codes_eq : words1.filter isCode = codes1 := rfl
theorem w_codes : ∀ c ∈ words1.filter isCode, c.before args0 about1 = true := by
  rw [codes_eq]
  intro c hc
  simp only [codes1, List.mem_cons, List.not_mem_nil, or_false] at hc
  rcases hc with rfl | rfl | rfl | rfl | rfl | rfl | rfl | rfl | rfl | rfl | rfl | rfl | rfl | rfl | rfl | rfl | rfl | rfl | rfl | rfl | rfl | rfl | rfl | rfl | rfl
  · exact w_c0
  · exact w_c1
  · exact w_c2
  · exact w_c3
  · exact w_c4
  · exact w_c5
  · exact w_c6
  · exact w_c7
  · exact w_c8
  · exact w_c9
  · exact w_c10
  · exact w_c11
  · exact w_c12
  · exact w_c13
  · exact w_c14
  · exact w_c15
  · exact w_c16
  · exact w_c17
  · exact w_c18
  · exact w_c19
  · exact w_c20
  · exact w_c21
  · exact w_c22
  · exact w_c23
  · exact w_c24
set_option maxRecDepth 65536 in
theorem w_t1 : (words1.take 24).all (fun c => isCode c || c.before args0 about1) = true := by decide +kernel
set_option maxRecDepth 65536 in
theorem w_t2 : ((words1.drop 24).take 24).all (fun c => isCode c || c.before args0 about1) = true := by decide +kernel
set_option maxRecDepth 65536 in
theorem w_t3 : (((words1.drop 24).drop 24).take 24).all (fun c => isCode c || c.before args0 about1) = true := by decide +kernel
set_option maxRecDepth 65536 in
theorem w_t4 : ((((words1.drop 24).drop 24).drop 24).take 24).all (fun c => isCode c || c.before args0 about1) = true := by decide +kernel
set_option maxRecDepth 65536 in
theorem w_t5 : (((((words1.drop 24).drop 24).drop 24).drop 24).take 24).all (fun c => isCode c || c.before args0 about1) = true := by decide +kernel
set_option maxRecDepth 65536 in
theorem w_t6 : (((((words1.drop 24).drop 24).drop 24).drop 24).drop 24).all (fun c => isCode c || c.before args0 about1) = true := by decide +kernel
theorem w_tables : (allAtoms (Jvm.Cond.code x code maxLocals ret :: tables_1)).before args0 about1 = true := by
  rw [allAtoms_all]
  show words1.all (fun c => c.before args0 about1) = true
  refine all_split ?_ w_codes
  rw [← List.take_append_drop 24 words1, List.all_append, w_t1, ← List.take_append_drop 24 (words1.drop 24), List.all_append, w_t2, ← List.take_append_drop 24 ((words1.drop 24).drop 24), List.all_append, w_t3, ← List.take_append_drop 24 (((words1.drop 24).drop 24).drop 24), List.all_append, w_t4, ← List.take_append_drop 24 ((((words1.drop 24).drop 24).drop 24).drop 24), List.all_append, w_t5, w_t6]
  rfl
set_option maxRecDepth 65536 in
theorem w_rest : rest_1_c.before args0 about1 = true := by decide +kernel
set_option maxRecDepth 65536 in
theorem w_case : (Jvm.Cond.and given_1 narrow_1).before args0 about1 = true := by decide +kernel
set_option maxRecDepth 65536 in
theorem w_consts : constsHeld consts_1 about1 := Jvm.Lit.constsHeldB_iff.mp (by decide +kernel)
theorem w_applies : (headSpec (Jvm.Cond.code x code maxLocals ret :: tables_1) room_1).applies x e0.platform about1 = true :=
  (Spec.applies_iff w_frames).mpr ⟨w_running, w_runnable, w_alone, w_named, w_hears, w_ripe, w_room, w_tables⟩
theorem atStart : AtStart classFile x code maxLocals ret World_1 tables_1 room_1 Calls_1 rest_1 Pre_1 launch0 p0 e0 about1 theMethod args0 below0 :=
  ⟨lists_1, trivial, launch0.admits_env _ _ _, launch0.least_env, fairChoices_fair.cas, fairChoices_fair.clock, w_frames, w_args, w_heap, w_applies, ⟨w_consts, trivial⟩, w_rest, w_case⟩
end start1
theorem witness_1 : WitnessClaimed_1 := ⟨start1.p0, start1.e0, start1.about1, start1.theMethod, start1.args0, start1.below0, start1.atStart⟩
end Jvm.Pilot.@@N@@
