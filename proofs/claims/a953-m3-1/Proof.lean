import JvmDerived
import JvmDerived.Pilot.@@N@@Statement
import JvmDerived.Pilot.@@N@@Code
set_option linter.unusedVariables false
set_option linter.unusedSimpArgs false
/- laws to paste: Road.backV, Road.eqW, Road.codOf (cut by pick.py; bodies as the Statement names them) -/
namespace Jvm.Pilot.@@N@@
namespace StrChars
open Jvm Sem ClassFile Op Lib Jvm.Stand Jvm.Free.XT Jvm.Free.ALB Jvm.Free.JM Jvm.Free
open Jvm.Lib.Cold (StaticIs)
/-- a char array whose places are chars -/
def Ch (a : Addr) (A : Cell) (U : State) : Prop := Arr .char a A U ∧ Typed .char A
theorem Ch.mv {a : Addr} {A : Cell} {U U' : State} (h : Ch a A U) (hal : U.vm.Alike U'.vm) (hh : U'.heap = U.heap) : Ch a A U' := ⟨h.1.mv hal hh, h.2⟩
theorem Ch.keep {a : Addr} {A : Cell} {U U' : State} (h : Ch a A U) (hal : U.vm.Alike U'.vm) (hk : U'.heap[a]? = some A) : Ch a A U' := ⟨h.1.keep hal hk, h.2⟩
/-- what place i of a char[]'s cell holds -/
def cv (A : Cell) (i : Nat) : Int32 := match A.slots[i]? with | some (.int x) => x | _ => 0
theorem Ch.get {a : Addr} {A : Cell} {U : State} (h : Ch a A U) {i : Nat} (hi : i < A.slots.size) : A.slots[i]? = some (.int (cv A i)) := by
  have e := Array.getElem?_eq_getElem hi
  have f := h.2 i _ e
  unfold cv; rw [e]
  generalize A.slots[i] = v at f
  cases v <;> simp [fits] at f ⊢
/-- the byte that i2b leaves of a char -/
def lo8 (x : Int32) : Int32 := x.toInt8.toInt32
theorem fits_lo8 (y : Int32) : fits .byte (.int (lo8 y)) = true := by
  have h1 := y.toInt8.le_toInt
  have h2 := y.toInt8.toInt_lt
  simp only [lo8, fits, Bool.and_eq_true, decide_eq_true_eq, Int32.le_iff_toInt_le, Int8.toInt_toInt32, show (-128 : Int32).toInt = -128 from by decide, show (127 : Int32).toInt = 127 from by decide]
  omega
/-- A' is A but that each place j of lo .. hi - 1 holds f j -/
def Laid (A A' : Cell) (lo hi : Nat) (f : Nat → Value) : Prop := A'.cls = A.cls ∧ A'.vm = A.vm ∧ A'.slots.size = A.slots.size ∧ ∀ i, A'.slots[i]? = if lo ≤ i ∧ i < hi then some (f i) else A.slots[i]?
theorem Laid.zero (A : Cell) (lo : Nat) (f : Nat → Value) : Laid A A lo (lo + 0) f := ⟨rfl, rfl, rfl, fun i => by rw [if_neg (by omega)]⟩
theorem Laid.step {A Ak : Cell} {lo k : Nat} {f : Nat → Value} {v : Value} (h : Laid A Ak lo k f) (hlo : lo ≤ k) (hk : k < Ak.slots.size) (hv : v = f k) : Laid A (Ak.setSlot k v) lo (k + 1) f := by
  refine ⟨h.1, h.2.1, by simpa [Cell.setSlot] using h.2.2.1, fun i => ?_⟩
  by_cases e : k = i
  · subst e; rw [Cell.slots_setSlot_self v hk, if_pos (by omega), hv]
  · rw [Cell.slots_setSlot_ne v e, h.2.2.2 i]
    by_cases q : lo ≤ i ∧ i < k
    · rw [if_pos q, if_pos (by omega)]
    · rw [if_neg q, if_neg (by omega)]
def U16 : String := "java/lang/StringUTF16"
namespace Cmp5
def yN : MethodName := ⟨"java/lang/StringUTF16", "compress", "([CI[BII)I"⟩
abbrev yB : ByteArray := jdk_52_method_21_code
theorem d0 : decode yB 0 = .ok (.iconst 0, 1) := by decide +kernel
theorem d1 : decode yB 1 = .ok (.istore 5, 2) := by decide +kernel
theorem d3 : decode yB 3 = .ok (.iload 5, 2) := by decide +kernel
theorem d5 : decode yB 5 = .ok (.iload 4, 2) := by decide +kernel
theorem d7 : decode yB 7 = .ok (.if_icmp (.ge) 37, 3) := by decide +kernel
theorem d10 : decode yB 10 = .ok (.aload_n 0, 1) := by decide +kernel
theorem d11 : decode yB 11 = .ok (.iload_n 1, 1) := by decide +kernel
theorem d12 : decode yB 12 = .ok (.caload, 1) := by decide +kernel
theorem d13 : decode yB 13 = .ok (.istore 6, 2) := by decide +kernel
theorem d15 : decode yB 15 = .ok (.iload 6, 2) := by decide +kernel
theorem d17 : decode yB 17 = .ok (.sipush 255, 3) := by decide +kernel
theorem d20 : decode yB 20 = .ok (.if_icmp (.le) 6, 3) := by decide +kernel
theorem d26 : decode yB 26 = .ok (.aload_n 2, 1) := by decide +kernel
theorem d27 : decode yB 27 = .ok (.iload_n 3, 1) := by decide +kernel
theorem d28 : decode yB 28 = .ok (.iload 6, 2) := by decide +kernel
theorem d30 : decode yB 30 = .ok (.i2b, 1) := by decide +kernel
theorem d31 : decode yB 31 = .ok (.bastore, 1) := by decide +kernel
theorem d32 : decode yB 32 = .ok (.iinc 1 1, 3) := by decide +kernel
theorem d35 : decode yB 35 = .ok (.iinc 3 1, 3) := by decide +kernel
theorem d38 : decode yB 38 = .ok (.iinc 5 1, 3) := by decide +kernel
theorem d41 : decode yB 41 = .ok (.goto (-38), 3) := by decide +kernel
theorem d44 : decode yB 44 = .ok (.iload 4, 2) := by decide +kernel
theorem d46 : decode yB 46 = .ok (.ireturn, 1) := by decide +kernel
def site : List Cond := []
def tab : Cond := tabOf yN yB 7 (some .int) site
def P (b : Addr) (A : Cell) (d : Addr) (B : Cell) (o q len : Nat) (args : Array Value) (s : State) : Prop := args = #[.ref b, .int (Int32.ofNat o), .ref d, .int (Int32.ofNat q), .int (Int32.ofNat len)] ∧ Ch b A s ∧ Arr .byte d B s ∧ b ≠ d ∧ o + len ≤ A.slots.size ∧ q + len ≤ B.slots.size ∧ ∀ i, i < len → ¬ 255 < cv A (o + i)
def E (b : Addr) (A : Cell) (d : Addr) (B : Cell) (o q len : Nat) (r : Option Value) (s u : State) : Prop := r = some (.int (Int32.ofNat len)) ∧ ∃ B', Put d B' s u ∧ Laid B B' q (q + len) (fun j => Value.int (lo8 (cv A (o + (j - q)))))
/-- no char of the range above 255: len; the places written hold each char's low byte -/
theorem law (l : Launch) (b : Addr) (A : Cell) (d : Addr) (B : Cell) (o q len : Nat) : Law l yN 5 5 0 0 yB 7 (some .int) site (P b A d B o q len) (E b A d B o q len) (copyLocs d q len) 0 0 := by
  refine Law.of_walk (plainFor_of_name (by decide +kernel)) (by decide +kernel) (by decide +kernel) (by decide) (fun _ _ h => by rw [h.1]; rfl) (fun _ U U' hal hh h => ⟨h.1, h.2.1.mv hal hh, h.2.2.1.mv hal hh, h.2.2.2⟩) (fun r U U' V V' h1 hal h2 h => ⟨h.1, h.2.elim fun B' q => ⟨B', q.1.mv h1 h2, q.2⟩⟩) ?_
  intro p e s m args below meth c s₁ X0 hexec hbytes hml hret hlk hnm hown hh0 W hP
  obtain ⟨rfl, hA, hB, hne, l1, l2, hp⟩ := hP
  have c1 : Steps p.tables e below (s₁.setTop (entryFrame m #[.ref b, .int (Int32.ofNat o), .ref d, .int (Int32.ofNat q), .int (Int32.ofNat len)] 7)) (s₁.setTop (mkF m 0 #[.val (.ref b), .val (.int (Int32.ofNat o)), .val (.ref d), .val (.int (Int32.ofNat q)), .val (.int (Int32.ofNat len)), .unset, .unset] [])) := entry rfl
  have hA0 := hA.1.mv X0.warmed.alike hh0
  have hB0 := hB.mv X0.warmed.alike hh0
  have a31 := hA.1.2.2.2
  have c2 : Steps p.tables e below (s₁.setTop (entryFrame m #[.ref b, .int (Int32.ofNat o), .ref d, .int (Int32.ofNat q), .int (Int32.ofNat len)] 7)) (s₁.setTop (mkF m 3 #[.val (.ref b), .val (.int (Int32.ofNat o)), .val (.ref d), .val (.int (Int32.ofNat q)), .val (.int (Int32.ofNat len)), .val (.int 0), .unset] [])) := c1.trans (by
    refine iconstV X0.here hexec rfl 0 (hb hbytes d0) (by decide) ?_
    refine XS.istore X0.here hexec rfl (hb hbytes d1) rfl rfl ?_
    exact Steps.refl _)
  have loop : ∀ (r i : Nat), i + r = len → ∀ (z : Slot), (z = .unset ∨ ∃ w, z = .val w ∧ w.category = 1) → ∀ (Tl : State) (Bk : Cell), Stand p l e { frames := 0, locals := 0, cells := 0, slots := 0 } s m #[.ref b, .int (Int32.ofNat o), .ref d, .int (Int32.ofNat q), .int (Int32.ofNat len)] below meth c Tl ([] ++ copyLocs d q i) 0 0 → Put d Bk s₁ Tl → Laid B Bk q (q + i) (fun j => Value.int (lo8 (cv A (o + (j - q))))) →
      Steps p.tables e below (s₁.setTop (entryFrame m #[.ref b, .int (Int32.ofNat o), .ref d, .int (Int32.ofNat q), .int (Int32.ofNat len)] 7)) (Tl.setTop (mkF m 3 #[.val (.ref b), .val (.int (Int32.ofNat (o + i))), .val (.ref d), .val (.int (Int32.ofNat (q + i))), .val (.int (Int32.ofNat len)), .val (.int (Int32.ofNat i)), z] [])) → ∃ (T' : State) (B' : Cell) (z' : Slot), Stand p l e { frames := 0, locals := 0, cells := 0, slots := 0 } s m #[.ref b, .int (Int32.ofNat o), .ref d, .int (Int32.ofNat q), .int (Int32.ofNat len)] below meth c T' ([] ++ copyLocs d q len) 0 0 ∧ Put d B' s₁ T' ∧ Laid B B' q (q + len) (fun j => Value.int (lo8 (cv A (o + (j - q))))) ∧
      Steps p.tables e below (s₁.setTop (entryFrame m #[.ref b, .int (Int32.ofNat o), .ref d, .int (Int32.ofNat q), .int (Int32.ofNat len)] 7)) (T'.setTop (mkF m 3 #[.val (.ref b), .val (.int (Int32.ofNat (o + len))), .val (.ref d), .val (.int (Int32.ofNat (q + len))), .val (.int (Int32.ofNat len)), .val (.int (Int32.ofNat len)), z'] [])) := by
    intro r
    induction r with
    | zero =>
      intro i hi z hz Tl Bk Xl pl fl cl
      have hil : i = len := by omega
      rw [hil] at Xl fl cl
      exact ⟨Tl, Bk, z, Xl, pl, fl, cl⟩
    | succ r ih =>
      intro i hi z hz Tl Bk Xl pl fl cl
      have all := X0.warmed.alike.symm.trans Xl.warmed.alike
      have hAl := hA0.keep all (pl.other hne hA0.1)
      have hBk := hB0.like all pl.1 fl.1 fl.2.1 fl.2.2.1
      have hlt : q + i < Bk.slots.size := by rw [fl.2.2.1]; omega
      have c3 : Steps p.tables e below (s₁.setTop (entryFrame m #[.ref b, .int (Int32.ofNat o), .ref d, .int (Int32.ofNat q), .int (Int32.ofNat len)] 7)) (Tl.setTop (mkF m 12 #[.val (.ref b), .val (.int (Int32.ofNat (o + i))), .val (.ref d), .val (.int (Int32.ofNat (q + i))), .val (.int (Int32.ofNat len)), .val (.int (Int32.ofNat i)), z] [.int (Int32.ofNat (o + i)), .ref b])) := cl.trans (by
        refine XS.iload Xl.here hexec rfl (hb hbytes d3) rfl ?_
        refine XS.iload Xl.here hexec rfl (hb hbytes d5) rfl ?_
        refine XS.icmpNo Xl.here hexec rfl (hb hbytes d7) rfl (ii_ge_f (lt32 (by omega) (by omega))) ?_
        refine XS.aloadN Xl.here hexec rfl (hb hbytes d10) rfl rfl ?_
        refine XS.iloadN Xl.here hexec rfl (hb hbytes d11) rfl ?_
        exact Steps.refl _)
      have c4 : Steps p.tables e below (s₁.setTop (entryFrame m #[.ref b, .int (Int32.ofNat o), .ref d, .int (Int32.ofNat q), .int (Int32.ofNat len)] 7)) (Tl.setTop (mkF m 13 #[.val (.ref b), .val (.int (Int32.ofNat (o + i))), .val (.ref d), .val (.int (Int32.ofNat (q + i))), .val (.int (Int32.ofNat len)), .val (.int (Int32.ofNat i)), z] [.int (cv A (o + i))])) := c3.trans (by
        refine Xl.aget hexec hAl rfl (hA.get (i := o + i) (by omega)) rfl rfl (hb hbytes d12) ?_
        exact Steps.refl _)
      have c5 : Steps p.tables e below (s₁.setTop (entryFrame m #[.ref b, .int (Int32.ofNat o), .ref d, .int (Int32.ofNat q), .int (Int32.ofNat len)] 7)) (Tl.setTop (mkF m 15 #[.val (.ref b), .val (.int (Int32.ofNat (o + i))), .val (.ref d), .val (.int (Int32.ofNat (q + i))), .val (.int (Int32.ofNat len)), .val (.int (Int32.ofNat i)), .val (.int (cv A (o + i)))] [])) := c4.trans (by
        refine XS.istoreS Xl.here hexec rfl (hb hbytes d13) rfl rfl hz ?_
        exact Steps.refl _)
      have c6 : Steps p.tables e below (s₁.setTop (entryFrame m #[.ref b, .int (Int32.ofNat o), .ref d, .int (Int32.ofNat q), .int (Int32.ofNat len)] 7)) (Tl.setTop (mkF m 31 #[.val (.ref b), .val (.int (Int32.ofNat (o + i))), .val (.ref d), .val (.int (Int32.ofNat (q + i))), .val (.int (Int32.ofNat len)), .val (.int (Int32.ofNat i)), .val (.int (cv A (o + i)))] [.int (lo8 (cv A (o + i))), .int (Int32.ofNat (q + i)), .ref d])) := c5.trans (by
        refine XS.iload Xl.here hexec rfl (hb hbytes d15) rfl ?_
        refine sipushV Xl.here hexec rfl 255 (hb hbytes d17) (by decide) ?_
        refine XS.icmpYes Xl.here hexec rfl (pc0 := 20) rfl (hb hbytes d20) rfl (ii_le_t (hp i (by omega))) (by decide) rfl ?_
        refine XS.aloadN Xl.here hexec rfl (hb hbytes d26) rfl rfl ?_
        refine XS.iloadN Xl.here hexec rfl (hb hbytes d27) rfl ?_
        refine XS.iload Xl.here hexec rfl (hb hbytes d28) rfl ?_
        refine i2b Xl.here hexec rfl (hb hbytes d30) rfl ?_
        exact Steps.refl _)
      obtain ⟨T7, X7, p7, st7⟩ := Xl.aput hexec hBk rfl hlt rfl (fits_lo8 (cv A (o + i))) (g := (mkF m 31 #[.val (.ref b), .val (.int (Int32.ofNat (o + i))), .val (.ref d), .val (.int (Int32.ofNat (q + i))), .val (.int (Int32.ofNat len)), .val (.int (Int32.ofNat i)), .val (.int (cv A (o + i)))] [.int (lo8 (cv A (o + i))), .int (Int32.ofNat (q + i)), .ref d])) rfl (rest := []) rfl (hb hbytes d31)
      have c8 : Steps p.tables e below (s₁.setTop (entryFrame m #[.ref b, .int (Int32.ofNat o), .ref d, .int (Int32.ofNat q), .int (Int32.ofNat len)] 7)) (T7.setTop (mkF m 32 #[.val (.ref b), .val (.int (Int32.ofNat (o + i))), .val (.ref d), .val (.int (Int32.ofNat (q + i))), .val (.int (Int32.ofNat len)), .val (.int (Int32.ofNat i)), .val (.int (cv A (o + i)))] [])) := c6.trans (st7 _ (Steps.refl _))
      have c9 : Steps p.tables e below (s₁.setTop (entryFrame m #[.ref b, .int (Int32.ofNat o), .ref d, .int (Int32.ofNat q), .int (Int32.ofNat len)] 7)) (T7.setTop (mkF m 3 #[.val (.ref b), .val (.int (Int32.ofNat (o + i) + 1)), .val (.ref d), .val (.int (Int32.ofNat (q + i) + 1)), .val (.int (Int32.ofNat len)), .val (.int (Int32.ofNat i + 1)), .val (.int (cv A (o + i)))] [])) := c8.trans (by
        refine iincV X7.here hexec rfl 1 (hb hbytes d32) (by decide) rfl rfl ?_
        refine iincV X7.here hexec rfl 1 (hb hbytes d35) (by decide) rfl rfl ?_
        refine iincV X7.here hexec rfl 1 (hb hbytes d38) (by decide) rfl rfl ?_
        refine XS.goto X7.here hexec rfl (pc0 := 41) rfl (hb hbytes d41) (by decide) rfl ?_
        exact Steps.refl _)
      have c10 : Steps p.tables e below (s₁.setTop (entryFrame m #[.ref b, .int (Int32.ofNat o), .ref d, .int (Int32.ofNat q), .int (Int32.ofNat len)] 7)) (T7.setTop (mkF m 3 #[.val (.ref b), .val (.int (Int32.ofNat (o + (i + 1)))), .val (.ref d), .val (.int (Int32.ofNat (q + (i + 1)))), .val (.int (Int32.ofNat len)), .val (.int (Int32.ofNat (i + 1))), .val (.int (cv A (o + i)))] [])) := by
        have := c9
        rw [succ32, succ32, succ32] at this
        exact this
      exact ih (i + 1) (by omega) _ (Or.inr ⟨_, rfl, rfl⟩) T7 _ (by rw [copyLocs_step, ← List.append_assoc]; exact X7) (pl.trans p7) (fl.step (by omega) hlt (by simp)) c10
  obtain ⟨T9, B9, z9, X9, p9, f9, g9⟩ := loop len 0 (by omega) .unset (Or.inl rfl) s₁ B (by simpa [copyLocs] using X0) ⟨hB0.1, fun _ _ => rfl, rfl⟩ (Laid.zero _ _ _) c2
  have c11 : Steps p.tables e below (s₁.setTop (entryFrame m #[.ref b, .int (Int32.ofNat o), .ref d, .int (Int32.ofNat q), .int (Int32.ofNat len)] 7)) (T9.setTop (mkF m 46 #[.val (.ref b), .val (.int (Int32.ofNat (o + len))), .val (.ref d), .val (.int (Int32.ofNat (q + len))), .val (.int (Int32.ofNat len)), .val (.int (Int32.ofNat len)), z9] [.int (Int32.ofNat len)])) := g9.trans (by
    refine XS.iload X9.here hexec rfl (hb hbytes d3) rfl ?_
    refine XS.iload X9.here hexec rfl (hb hbytes d5) rfl ?_
    refine XS.icmpYes X9.here hexec rfl (pc0 := 7) rfl (hb hbytes d7) rfl (ii_ge_t (nlt32 (by omega) (Nat.le_refl _))) (by decide) rfl ?_
    refine XS.iload X9.here hexec rfl (hb hbytes d44) rfl ?_
    exact Steps.refl _)
  exact ⟨T9, some (.int (Int32.ofNat len)), _, _, _, X9, by simp, rfl, rfl, (fun h => by cases h), ⟨rfl, B9, p9.from hh0, f9⟩, fun fs hl => c11.trans (X9.ireturnOut hexec hret rfl (Or.inl rfl) (hb hbytes d46) hl)⟩
end Cmp5
namespace Cmp3
def yN : MethodName := ⟨"java/lang/StringUTF16", "compress", "([CII)[B"⟩
abbrev yB : ByteArray := jdk_52_method_16_code
theorem d0 : decode yB 0 = .ok (.iload_n 2, 1) := by decide +kernel
theorem d1 : decode yB 1 = .ok (.newarray .byte, 2) := by decide +kernel
theorem d3 : decode yB 3 = .ok (.astore_n 3, 1) := by decide +kernel
theorem d4 : decode yB 4 = .ok (.aload_n 0, 1) := by decide +kernel
theorem d5 : decode yB 5 = .ok (.iload_n 1, 1) := by decide +kernel
theorem d6 : decode yB 6 = .ok (.aload_n 3, 1) := by decide +kernel
theorem d7 : decode yB 7 = .ok (.iconst 0, 1) := by decide +kernel
theorem d8 : decode yB 8 = .ok (.iload_n 2, 1) := by decide +kernel
theorem d9 : decode yB 9 = .ok (.invokestatic 115, 3) := by decide +kernel
theorem d12 : decode yB 12 = .ok (.istore 4, 2) := by decide +kernel
theorem d14 : decode yB 14 = .ok (.iload 4, 2) := by decide +kernel
theorem d16 : decode yB 16 = .ok (.iload_n 2, 1) := by decide +kernel
theorem d17 : decode yB 17 = .ok (.if_icmp (.eq) 40, 3) := by decide +kernel
theorem d57 : decode yB 57 = .ok (.aload_n 3, 1) := by decide +kernel
theorem d58 : decode yB 58 = .ok (.areturn, 1) := by decide +kernel
def site : List Cond := [.arrayClass .byte, Cmp5.tab] ++ staticW U16 115 Cmp5.yN
def tab : Cond := tabOf yN yB 6 (some (.array .byte)) site
def P (b : Addr) (A : Cell) (o len : Nat) (args : Array Value) (s : State) : Prop := args = #[.ref b, .int (Int32.ofNat o), .int (Int32.ofNat len)] ∧ Ch b A s ∧ o + len ≤ A.slots.size ∧ len ≤ 536870912 ∧ ∀ i, i < len → ¬ 255 < cv A (o + i)
def E (b : Addr) (A : Cell) (o len : Nat) (r : Option Value) (s u : State) : Prop := NewArr .byte "[B" len (fun j => .int (lo8 (cv A (o + j)))) r s u ∧ u.heap.size = s.heap.size + 1
/-- no char of the range above 255: a new byte[] of their low bytes -/
theorem law (l : Launch) (b : Addr) (A : Cell) (o len : Nat) : Law l yN 3 3 1 18 yB 6 (some (.array .byte)) site (P b A o len) (E b A o len) [] 1 len := by
  refine Law.of_walk (plainFor_of_name (by decide +kernel)) (by decide +kernel) (by decide +kernel) (by decide) (fun _ _ h => by rw [h.1]; rfl) (fun _ U U' hal hh h => ⟨h.1, h.2.1.mv hal hh, h.2.2⟩) (fun r U U' V V' h1 hal h2 h => ⟨NewArr.mv r U U' V V' h1 hal h2 h.1, by rw [h1, h2]; exact h.2⟩) ?_
  intro p e s m args below meth c s₁ X0 hexec hbytes hml hret hlk hnm hown hh0 W hP
  obtain ⟨rfl, hA, l1, l2, hp⟩ := hP
  have a31 := hA.1.2.2.2
  have c1 : Steps p.tables e below (s₁.setTop (entryFrame m #[.ref b, .int (Int32.ofNat o), .int (Int32.ofNat len)] 6)) (s₁.setTop (mkF m 0 #[.val (.ref b), .val (.int (Int32.ofNat o)), .val (.int (Int32.ofNat len)), .unset, .unset, .unset] [])) := entry rfl
  have c2 : Steps p.tables e below (s₁.setTop (entryFrame m #[.ref b, .int (Int32.ofNat o), .int (Int32.ofNat len)] 6)) (s₁.setTop (mkF m 1 #[.val (.ref b), .val (.int (Int32.ofNat o)), .val (.int (Int32.ofNat len)), .unset, .unset, .unset] [.int (Int32.ofNat len)])) := c1.trans (by
    refine XS.iloadN X0.here hexec rfl (hb hbytes d0) rfl ?_
    exact Steps.refl _)
  obtain ⟨T3, B3, X3, ba3, bs3, bv3, bh3, bf3, st3⟩ := X0.anew hexec (atype := .byte) (wk W (.arrayClass .byte)) rfl (by show len * 1 ≤ _; omega) (by omega) (g := (mkF m 1 #[.val (.ref b), .val (.int (Int32.ofNat o)), .val (.int (Int32.ofNat len)), .unset, .unset, .unset] [.int (Int32.ofNat len)])) rfl (hb hbytes d1) (rest := []) rfl (Nat.le_refl _) (by show 0 + len ≤ len; omega)
  rw [hh0] at ba3 st3
  have kp3 : XT.Kept s T3 := (XT.Kept.of_eq hh0).push bh3
  have hA3 := hA.keep X3.warmed.alike (kp3 _ _ hA.1.1)
  have hne : b ≠ s.heap.size := hA.1.ne
  have c4 : Steps p.tables e below (s₁.setTop (entryFrame m #[.ref b, .int (Int32.ofNat o), .int (Int32.ofNat len)] 6)) (T3.setTop (mkF m 3 #[.val (.ref b), .val (.int (Int32.ofNat o)), .val (.int (Int32.ofNat len)), .unset, .unset, .unset] [.ref s.heap.size])) := c2.trans (st3 _ (Steps.refl _))
  have c5 : Steps p.tables e below (s₁.setTop (entryFrame m #[.ref b, .int (Int32.ofNat o), .int (Int32.ofNat len)] 6)) (T3.setTop (mkF m 9 #[.val (.ref b), .val (.int (Int32.ofNat o)), .val (.int (Int32.ofNat len)), .val (.ref s.heap.size), .unset, .unset] [.int (Int32.ofNat len), .int 0, .ref s.heap.size, .int (Int32.ofNat o), .ref b])) := c4.trans (by
    refine XS.astoreN X3.here hexec rfl (hb hbytes d3) rfl rfl rfl ?_
    refine XS.aloadN X3.here hexec rfl (hb hbytes d4) rfl rfl ?_
    refine XS.iloadN X3.here hexec rfl (hb hbytes d5) rfl ?_
    refine XS.aloadN X3.here hexec rfl (hb hbytes d6) rfl rfl ?_
    refine iconstV X3.here hexec rfl 0 (hb hbytes d7) (by decide) ?_
    refine XS.iloadN X3.here hexec rfl (hb hbytes d8) rfl ?_
    exact Steps.refl _)
  obtain ⟨v6, T6, X6, E6, g6⟩ := X3.callS hexec (Cmp5.law l b A s.heap.size B3 o 0 len) hown (wks W (staticW U16 115 Cmp5.yN)) (wk W Cmp5.tab) (W := 0) (Nat.le_of_ble_eq_true rfl) (Nat.le_of_ble_eq_true rfl) (Nat.le_refl _) (by show 0 + len + 0 ≤ len; omega) (g := (mkF m 9 #[.val (.ref b), .val (.int (Int32.ofNat o)), .val (.int (Int32.ofNat len)), .val (.ref s.heap.size), .unset, .unset] [.int (Int32.ofNat len), .int (Int32.ofNat 0), .ref s.heap.size, .int (Int32.ofNat o), .ref b])) rfl (by rw [hml]; rfl) c5 (argsL := [.ref b, .int (Int32.ofNat o), .ref s.heap.size, .int (Int32.ofNat 0), .int (Int32.ofNat len)]) (rest := []) rfl rfl (by show 2 * 0 + 0 ≤ _; decide) (hb hbytes d9) (⟨rfl, hA3, ba3, hne, l1, by rw [bs3]; simp, hp⟩)
  obtain ⟨rfl, B6, p6, f6⟩ := E6
  have c7 : Steps p.tables e below (s₁.setTop (entryFrame m #[.ref b, .int (Int32.ofNat o), .int (Int32.ofNat len)] 6)) (T6.setTop (mkF m 12 #[.val (.ref b), .val (.int (Int32.ofNat o)), .val (.int (Int32.ofNat len)), .val (.ref s.heap.size), .unset, .unset] [.int (Int32.ofNat len)])) := g6
  have c8 : Steps p.tables e below (s₁.setTop (entryFrame m #[.ref b, .int (Int32.ofNat o), .int (Int32.ofNat len)] 6)) (T6.setTop (mkF m 58 #[.val (.ref b), .val (.int (Int32.ofNat o)), .val (.int (Int32.ofNat len)), .val (.ref s.heap.size), .val (.int (Int32.ofNat len)), .unset] [.ref s.heap.size])) := c7.trans (by
    refine XS.istore X6.here hexec rfl (hb hbytes d12) rfl rfl ?_
    refine XS.iload X6.here hexec rfl (hb hbytes d14) rfl ?_
    refine XS.iloadN X6.here hexec rfl (hb hbytes d16) rfl ?_
    refine XS.icmpYes X6.here hexec rfl (pc0 := 17) rfl (hb hbytes d17) rfl (ii_eq_t rfl) (by decide) rfl ?_
    refine XS.aloadN X6.here hexec rfl (hb hbytes d57) rfl rfl ?_
    exact Steps.refl _)
  have X8 := X6.wide (L' := []) (cells' := 1) (slots' := len) (fun x hx hlt => by
    simp only [List.nil_append, copyLocs, List.mem_map, List.mem_range] at hx
    obtain ⟨i, -, rfl⟩ := hx
    exact absurd hlt (Nat.lt_irrefl _)) (Nat.le_refl _) (by omega)
  exact ⟨T6, some (.ref s.heap.size), _, _, _, X8, rfl, rfl, rfl, (fun h => by cases h), ⟨⟨rfl, B6, ba3.like (X3.warmed.alike.symm.trans X6.warmed.alike) p6.1 f6.1 f6.2.1 f6.2.2.1, f6.2.1.trans bv3, by rw [X6.warmed.alike.findClass, f6.1]; exact bf3, by rw [f6.2.2.1, bs3]; simp, fun j hj => by rw [f6.2.2.2 j, if_pos (by omega)]; rfl, kp3.put p6 (Nat.le_refl _)⟩, by rw [p6.2.2, bh3, hh0]; simp⟩, fun fs hl => c8.trans (X8.areturnOut hexec rfl hret rfl (hb hbytes d58) hl)⟩
end Cmp3
namespace CodL
def yN : MethodName := ⟨"java/lang/StringUTF16", "coderFromArrayLen", "([BI)B"⟩
abbrev yB : ByteArray := jdk_52_method_15_code
theorem d0 : decode yB 0 = .ok (.iload_n 1, 1) := by decide +kernel
theorem d1 : decode yB 1 = .ok (.aload_n 0, 1) := by decide +kernel
theorem d2 : decode yB 2 = .ok (.arraylength, 1) := by decide +kernel
theorem d3 : decode yB 3 = .ok (.isub, 1) := by decide +kernel
theorem d4 : decode yB 4 = .ok (.bipush 31, 2) := by decide +kernel
theorem d6 : decode yB 6 = .ok (.iushr, 1) := by decide +kernel
theorem d7 : decode yB 7 = .ok (.i2b, 1) := by decide +kernel
theorem d8 : decode yB 8 = .ok (.ireturn, 1) := by decide +kernel
def site : List Cond := []
def tab : Cond := tabOf yN yB 2 (some .byte) site
def P (d : Addr) (B : Cell) (args : Array Value) (s : State) : Prop := args = #[.ref d, .int (Int32.ofNat B.slots.size)] ∧ Arr .byte d B s
def E (r : Option Value) (s u : State) : Prop := XT.PureE (some (.int 0)) r s u
/-- an array as long as the number of chars: LATIN1 -/
theorem law (l : Launch) (d : Addr) (B : Cell) : Law l yN 2 2 0 0 yB 2 (some .byte) site (P d B) E [] 0 0 := by
  refine Law.of_walk (plainFor_of_name (by decide +kernel)) (by decide +kernel) (by decide +kernel) (by decide) (fun _ _ h => by rw [h.1]; rfl) (fun _ U U' hal hh h => ⟨h.1, h.2.mv hal hh⟩) (fun r U U' V V' h1 hal h2 h => XT.PureE.mv r U U' V V' h1 hal h2 h) ?_
  intro p e s m args below meth c s₁ X0 hexec hbytes hml hret hlk hnm hown hh0 W hP
  obtain ⟨rfl, hB⟩ := hP
  have hB0 := hB.mv X0.warmed.alike hh0
  have c1 : Steps p.tables e below (s₁.setTop (entryFrame m #[.ref d, .int (Int32.ofNat B.slots.size)] 2)) (s₁.setTop (mkF m 0 #[.val (.ref d), .val (.int (Int32.ofNat B.slots.size))] [])) := entry rfl
  have c2 : Steps p.tables e below (s₁.setTop (entryFrame m #[.ref d, .int (Int32.ofNat B.slots.size)] 2)) (s₁.setTop (mkF m 2 #[.val (.ref d), .val (.int (Int32.ofNat B.slots.size))] [.ref d, .int (Int32.ofNat B.slots.size)])) := c1.trans (by
    refine XS.iloadN X0.here hexec rfl (hb hbytes d0) rfl ?_
    refine XS.aloadN X0.here hexec rfl (hb hbytes d1) rfl rfl ?_
    exact Steps.refl _)
  have c3 : Steps p.tables e below (s₁.setTop (entryFrame m #[.ref d, .int (Int32.ofNat B.slots.size)] 2)) (s₁.setTop (mkF m 8 #[.val (.ref d), .val (.int (Int32.ofNat B.slots.size))] [.int (lo8 (ushr (Int32.ofNat B.slots.size - Int32.ofNat B.slots.size) 31))])) := c2.trans (by
    refine X0.alen hexec hB0 rfl rfl (hb hbytes d2) ?_
    refine XS.isub X0.here hexec rfl (hb hbytes d3) rfl ?_
    refine bipushV X0.here hexec rfl 31 (hb hbytes d4) (by decide) ?_
    refine iushr X0.here hexec rfl (hb hbytes d6) rfl ?_
    refine i2b X0.here hexec rfl (hb hbytes d7) rfl ?_
    exact Steps.refl _)
  have e0 : lo8 (ushr (Int32.ofNat B.slots.size - Int32.ofNat B.slots.size) 31) = 0 := by rw [Int32.sub_self]; decide
  rw [e0] at c3
  exact ⟨s₁, some (.int 0), _, _, _, X0, rfl, rfl, rfl, (fun h => by cases h), ⟨rfl, hh0⟩, fun fs hl => c3.trans (X0.ireturnOut hexec hret rfl (Or.inr (Or.inr (Or.inl rfl))) (hb hbytes d8) hl)⟩
end CodL
/-- the String at a is Latin-1 over a new byte[] (the heap's one new cell): the low bytes of the len chars of A from o on; every cell but a is kept -/
def Got (a : Addr) (D : Cell) (fV fC : Field) (A : Cell) (o len : Nat) (r : Option Value) (s u : State) : Prop := r = none ∧ ∃ D' V : Cell, Blank "java/lang/String" a D' u ∧ Same D D' [fV.slot, fC.slot] ∧ D'.slots[fV.slot]? = some (.ref s.heap.size) ∧ D'.slots[fC.slot]? = some (.int 0) ∧ Arr .byte s.heap.size V u ∧ V.vm = .none ∧ u.vm.findClass "[B" = some V.cls ∧ V.slots.size = len ∧ (∀ j, j < len → V.slots[j]? = some (.int (lo8 (cv A (o + j))))) ∧ (∀ (y : Addr) (c : Cell), y ≠ a → s.heap[y]? = some c → u.heap[y]? = some c) ∧ u.heap.size = s.heap.size + 1
theorem Got.mv {a : Addr} {D A : Cell} {fV fC : Field} {o len : Nat} : ∀ r (U U' V V' : State), U'.heap = U.heap → V.vm.Alike V'.vm → V'.heap = V.heap → Got a D fV fC A o len r U V → Got a D fV fC A o len r U' V' :=
  fun r U U' V V' h1 hal h2 ⟨e0, D', X, a1, a2, a3, a4, a5, a6, a7, a8, a9, a10, a11⟩ => ⟨e0, D', X, a1.mv hal h2, a2, by rw [h1]; exact a3, a4, by rw [h1]; exact a5.mv hal h2, a6, by rw [hal.findClass]; exact a7, a8, a9, by rw [h1, h2]; exact a10, by rw [h1, h2]; exact a11⟩
namespace New4
def yN : MethodName := ⟨"java/lang/String", "<init>", "([CIILjava/lang/Void;)V"⟩
abbrev yB : ByteArray := jdk_42_method_149_code
theorem d0 : decode yB 0 = .ok (.aload_n 0, 1) := by decide +kernel
theorem d1 : decode yB 1 = .ok (.invokespecial 1, 3) := by decide +kernel
theorem d4 : decode yB 4 = .ok (.iload_n 3, 1) := by decide +kernel
theorem d5 : decode yB 5 = .ok (.ifCond (.ne) 22, 3) := by decide +kernel
theorem d27 : decode yB 27 = .ok (.getstatic 38, 3) := by decide +kernel
theorem d30 : decode yB 30 = .ok (.ifCond (.eq) 28, 3) := by decide +kernel
theorem d33 : decode yB 33 = .ok (.aload_n 1, 1) := by decide +kernel
theorem d34 : decode yB 34 = .ok (.iload_n 2, 1) := by decide +kernel
theorem d35 : decode yB 35 = .ok (.iload_n 3, 1) := by decide +kernel
theorem d36 : decode yB 36 = .ok (.invokestatic 177, 3) := by decide +kernel
theorem d39 : decode yB 39 = .ok (.astore 5, 2) := by decide +kernel
theorem d41 : decode yB 41 = .ok (.aload_n 0, 1) := by decide +kernel
theorem d42 : decode yB 42 = .ok (.aload 5, 2) := by decide +kernel
theorem d44 : decode yB 44 = .ok (.iload_n 3, 1) := by decide +kernel
theorem d45 : decode yB 45 = .ok (.invokestatic 47, 3) := by decide +kernel
theorem d48 : decode yB 48 = .ok (.putfield 15, 3) := by decide +kernel
theorem d51 : decode yB 51 = .ok (.aload_n 0, 1) := by decide +kernel
theorem d52 : decode yB 52 = .ok (.aload 5, 2) := by decide +kernel
theorem d54 : decode yB 54 = .ok (.putfield 9, 3) := by decide +kernel
theorem d57 : decode yB 57 = .ok (.return_, 1) := by decide +kernel
def site : List Cond := [.fieldLink "java/lang/String" 38 "java/lang/String" "COMPACT_STRINGS" "Z", Cmp3.tab, CodL.tab, .laysFinal "java/lang/String" "java/lang/String" "value" "[B", .fieldLink "java/lang/String" 9 "java/lang/String" "value" "[B", .laysFinal "java/lang/String" "java/lang/String" "coder" "B", .fieldLink "java/lang/String" 15 "java/lang/String" "coder" "B"] ++ objW "java/lang/String" 1 ++ staticW "java/lang/String" 177 Cmp3.yN ++ staticW "java/lang/String" 47 CodL.yN
def tab : Cond := tabOf yN yB 6 none site
def P (a : Addr) (D : Cell) (fV fC : Field) (b : Addr) (A : Cell) (z : Int32) (o len : Nat) (args : Array Value) (s : State) : Prop := args = #[.ref a, .ref b, .int (Int32.ofNat o), .int (Int32.ofNat len), .null] ∧ Blank "java/lang/String" a D s ∧ Found "java/lang/String" "value" "[B" fV s ∧ Found "java/lang/String" "coder" "B" fC s ∧ Ch b A s ∧ StaticIs s "java/lang/String" "COMPACT_STRINGS" "Z" (.int z) ∧ ¬ z = 0 ∧ 0 < len ∧ o + len ≤ A.slots.size ∧ len ≤ 536870912 ∧ ∀ i, i < len → ¬ 255 < cv A (o + i)
def E (a : Addr) (D : Cell) (fV fC : Field) (A : Cell) (o len : Nat) (r : Option Value) (s u : State) : Prop := Got a D fV fC A o len r s u
/-- len > 0, no char of the range above 255: a Latin-1 String of their low bytes -/
theorem law (l : Launch) (a : Addr) (D : Cell) (fV fC : Field) (b : Addr) (A : Cell) (z : Int32) (o len : Nat) : Law l yN 5 4 2 35 yB 6 none site (P a D fV fC b A z o len) (E a D fV fC A o len) [⟨a, fC.slot⟩, ⟨a, fV.slot⟩] 1 len := by
  refine Law.of_walk (plainFor_of_name (by decide +kernel)) (by decide +kernel) (by decide +kernel) (by decide) (fun _ _ h => by rw [h.1]; rfl) (fun _ U U' hal hh h => ⟨h.1, h.2.1.mv hal hh, h.2.2.1.al hal, h.2.2.2.1.al hal, h.2.2.2.2.1.mv hal hh, h.2.2.2.2.2.1.there hal hh, h.2.2.2.2.2.2⟩) (fun r U U' V V' h1 hal h2 h => Got.mv r U U' V V' h1 hal h2 h) ?_
  intro p e s m args below meth c s₁ X0 hexec hbytes hml hret hlk hnm hown hh0 W hP
  obtain ⟨rfl, hB, f1, f2, hA, s1, hz, l0, l1, l2, hp⟩ := hP
  have a31 := hA.1.2.2.2
  have c1 : Steps p.tables e below (s₁.setTop (entryFrame m #[.ref a, .ref b, .int (Int32.ofNat o), .int (Int32.ofNat len), .null] 6)) (s₁.setTop (mkF m 0 #[.val (.ref a), .val (.ref b), .val (.int (Int32.ofNat o)), .val (.int (Int32.ofNat len)), .val .null, .unset] [])) := entry rfl
  have c2 : Steps p.tables e below (s₁.setTop (entryFrame m #[.ref a, .ref b, .int (Int32.ofNat o), .int (Int32.ofNat len), .null] 6)) (s₁.setTop (mkF m 1 #[.val (.ref a), .val (.ref b), .val (.int (Int32.ofNat o)), .val (.int (Int32.ofNat len)), .val .null, .unset] [.ref a])) := c1.trans (by
    refine XS.aloadN X0.here hexec rfl (hb hbytes d0) rfl rfl ?_
    exact Steps.refl _)
  obtain ⟨T3, X3, q3, st3⟩ := X0.oinit hexec hown (wks W (objW "java/lang/String" 1)) (g := (mkF m 1 #[.val (.ref a), .val (.ref b), .val (.int (Int32.ofNat o)), .val (.int (Int32.ofNat len)), .val .null, .unset] [.ref a])) rfl (by rw [hml]; rfl) (rest := []) rfl (hb hbytes d1) (W := 0) (by show 2 * 0 + 0 ≤ _; decide) (Nat.le_of_ble_eq_true rfl) (Nat.le_of_ble_eq_true rfl)
  have hh3 := q3.trans hh0
  have c4 : Steps p.tables e below (s₁.setTop (entryFrame m #[.ref a, .ref b, .int (Int32.ofNat o), .int (Int32.ofNat len), .null] 6)) (T3.setTop (mkF m 27 #[.val (.ref a), .val (.ref b), .val (.int (Int32.ofNat o)), .val (.int (Int32.ofNat len)), .val .null, .unset] [])) := (c2.trans (st3 _ (Steps.refl _))).trans (by
    refine XS.iloadN X3.here hexec rfl (hb hbytes d4) rfl ?_
    refine XS.ifYes X3.here hexec rfl (pc0 := 5) rfl (hb hbytes d5) rfl (i0_ne_t (nz32 (by omega) l0)) (by decide) rfl ?_
    exact Steps.refl _)
  obtain ⟨T5, X5, q5, st5⟩ := X3.sget hexec hown (wk W (.fieldLink "java/lang/String" 38 "java/lang/String" "COMPACT_STRINGS" "Z")) s1 (fun _ _ h => by rw [hh3]; exact h) (g := (mkF m 27 #[.val (.ref a), .val (.ref b), .val (.int (Int32.ofNat o)), .val (.int (Int32.ofNat len)), .val .null, .unset] [])) rfl (hb hbytes d27)
  have hh5 := q5.trans hh3
  have c6 : Steps p.tables e below (s₁.setTop (entryFrame m #[.ref a, .ref b, .int (Int32.ofNat o), .int (Int32.ofNat len), .null] 6)) (T5.setTop (mkF m 30 #[.val (.ref a), .val (.ref b), .val (.int (Int32.ofNat o)), .val (.int (Int32.ofNat len)), .val .null, .unset] [.int z])) := c4.trans (st5 _ (Steps.refl _))
  have c7 : Steps p.tables e below (s₁.setTop (entryFrame m #[.ref a, .ref b, .int (Int32.ofNat o), .int (Int32.ofNat len), .null] 6)) (T5.setTop (mkF m 36 #[.val (.ref a), .val (.ref b), .val (.int (Int32.ofNat o)), .val (.int (Int32.ofNat len)), .val .null, .unset] [.int (Int32.ofNat len), .int (Int32.ofNat o), .ref b])) := c6.trans (by
    refine XS.ifNo X5.here hexec rfl (hb hbytes d30) rfl (i0_eq_f hz) ?_
    refine XS.aloadN X5.here hexec rfl (hb hbytes d33) rfl rfl ?_
    refine XS.iloadN X5.here hexec rfl (hb hbytes d34) rfl ?_
    refine XS.iloadN X5.here hexec rfl (hb hbytes d35) rfl ?_
    exact Steps.refl _)
  obtain ⟨v8, T8, X8, E8, g8⟩ := X5.callS hexec (Cmp3.law l b A o len) hown (wks W (staticW "java/lang/String" 177 Cmp3.yN)) (wk W Cmp3.tab) (W := 0) (Nat.le_of_ble_eq_true rfl) (Nat.le_of_ble_eq_true rfl) (Nat.le_refl _) (by show 0 + len ≤ len; omega) (g := (mkF m 36 #[.val (.ref a), .val (.ref b), .val (.int (Int32.ofNat o)), .val (.int (Int32.ofNat len)), .val .null, .unset] [.int (Int32.ofNat len), .int (Int32.ofNat o), .ref b])) rfl (by rw [hml]; rfl) c7 (argsL := [.ref b, .int (Int32.ofNat o), .int (Int32.ofNat len)]) (rest := []) rfl rfl (by show 2 * 0 + 0 ≤ _; decide) (hb hbytes d36) (⟨rfl, hA.mv X5.warmed.alike hh5, l1, l2, hp⟩)
  obtain ⟨e8, z8⟩ := E8
  obtain ⟨rfl, N, n1, n2, n3, n4, n5, n6⟩ := NewArr.mv _ T5 s _ _ hh5.symm (Vm.Alike.refl _) rfl e8
  rw [hh5] at z8
  have hB1 := hB.keep X8.warmed.alike (n6 _ _ hB.1)
  have hne : s.heap.size ≠ a := (Nat.ne_of_lt (Array.getElem?_eq_some_iff.mp hB.1).1).symm
  have c9 : Steps p.tables e below (s₁.setTop (entryFrame m #[.ref a, .ref b, .int (Int32.ofNat o), .int (Int32.ofNat len), .null] 6)) (T8.setTop (mkF m 39 #[.val (.ref a), .val (.ref b), .val (.int (Int32.ofNat o)), .val (.int (Int32.ofNat len)), .val .null, .unset] [.ref s.heap.size])) := g8
  have c10 : Steps p.tables e below (s₁.setTop (entryFrame m #[.ref a, .ref b, .int (Int32.ofNat o), .int (Int32.ofNat len), .null] 6)) (T8.setTop (mkF m 45 #[.val (.ref a), .val (.ref b), .val (.int (Int32.ofNat o)), .val (.int (Int32.ofNat len)), .val .null, .val (.ref s.heap.size)] [.int (Int32.ofNat N.slots.size), .ref s.heap.size, .ref a])) := by
    have hc : Steps p.tables e below (s₁.setTop (entryFrame m #[.ref a, .ref b, .int (Int32.ofNat o), .int (Int32.ofNat len), .null] 6)) (T8.setTop (mkF m 45 #[.val (.ref a), .val (.ref b), .val (.int (Int32.ofNat o)), .val (.int (Int32.ofNat len)), .val .null, .val (.ref s.heap.size)] [.int (Int32.ofNat len), .ref s.heap.size, .ref a])) := c9.trans (by
      refine XS.astore X8.here hexec rfl (hb hbytes d39) rfl rfl rfl ?_
      refine XS.aloadN X8.here hexec rfl (hb hbytes d41) rfl rfl ?_
      refine XS.aload X8.here hexec rfl (hb hbytes d42) rfl rfl ?_
      refine XS.iloadN X8.here hexec rfl (hb hbytes d44) rfl ?_
      exact Steps.refl _)
    rw [n4]; exact hc
  obtain ⟨v11, T11, X11, E11, g11⟩ := X8.callS hexec (CodL.law l s.heap.size N) hown (wks W (staticW "java/lang/String" 47 CodL.yN)) (wk W CodL.tab) (W := 1) (Nat.le_of_ble_eq_true rfl) (Nat.le_of_ble_eq_true rfl) (Nat.le_refl _) (by show 0 + len + 0 ≤ len; omega) (g := (mkF m 45 #[.val (.ref a), .val (.ref b), .val (.int (Int32.ofNat o)), .val (.int (Int32.ofNat len)), .val .null, .val (.ref s.heap.size)] [.int (Int32.ofNat N.slots.size), .ref s.heap.size, .ref a])) rfl (by rw [hml]; rfl) c10 (argsL := [.ref s.heap.size, .int (Int32.ofNat N.slots.size)]) (rest := [.ref a]) rfl rfl (by show 2 * 0 + (1 + 0) ≤ _; decide) (hb hbytes d45) (⟨rfl, n1⟩)
  obtain ⟨rfl, q11⟩ := E11
  have hB11 := hB1.mv (X8.warmed.alike.symm.trans X11.warmed.alike) q11
  have c12 : Steps p.tables e below (s₁.setTop (entryFrame m #[.ref a, .ref b, .int (Int32.ofNat o), .int (Int32.ofNat len), .null] 6)) (T11.setTop (mkF m 48 #[.val (.ref a), .val (.ref b), .val (.int (Int32.ofNat o)), .val (.int (Int32.ofNat len)), .val .null, .val (.ref s.heap.size)] [.int 0, .ref a])) := g11
  obtain ⟨T13, X13, p13, bl13, sl13, st13⟩ := X11.finit hexec hown (wk W (.fieldLink "java/lang/String" 15 "java/lang/String" "coder" "B")) (Or.inr ⟨_, (wk W (.laysFinal "java/lang/String" "java/lang/String" "coder" "B"))⟩) (Or.inl ⟨rfl, hnm⟩) f2 (Or.inl rfl) hB11 (t := .byte) (by decide +kernel) rfl (g := (mkF m 48 #[.val (.ref a), .val (.ref b), .val (.int (Int32.ofNat o)), .val (.int (Int32.ofNat len)), .val .null, .val (.ref s.heap.size)] [.int 0, .ref a])) rfl (rest := []) rfl (hb hbytes d48)
  have c14 : Steps p.tables e below (s₁.setTop (entryFrame m #[.ref a, .ref b, .int (Int32.ofNat o), .int (Int32.ofNat len), .null] 6)) (T13.setTop (mkF m 54 #[.val (.ref a), .val (.ref b), .val (.int (Int32.ofNat o)), .val (.int (Int32.ofNat len)), .val .null, .val (.ref s.heap.size)] [.ref s.heap.size, .ref a])) := (c12.trans (st13 _ (Steps.refl _))).trans (by
    refine XS.aloadN X13.here hexec rfl (hb hbytes d51) rfl rfl ?_
    refine XS.aload X13.here hexec rfl (hb hbytes d52) rfl rfl ?_
    exact Steps.refl _)
  obtain ⟨T15, X15, p15, bl15, sl15, st15⟩ := X13.finit hexec hown (wk W (.fieldLink "java/lang/String" 9 "java/lang/String" "value" "[B")) (Or.inr ⟨_, (wk W (.laysFinal "java/lang/String" "java/lang/String" "value" "[B"))⟩) (Or.inl ⟨rfl, hnm⟩) f1 (Or.inl rfl) bl13 (t := (.array .byte)) (by decide +kernel) rfl (g := (mkF m 54 #[.val (.ref a), .val (.ref b), .val (.int (Int32.ofNat o)), .val (.int (Int32.ofNat len)), .val .null, .val (.ref s.heap.size)] [.ref s.heap.size, .ref a])) rfl (rest := []) rfl (hb hbytes d54)
  have c16 : Steps p.tables e below (s₁.setTop (entryFrame m #[.ref a, .ref b, .int (Int32.ofNat o), .int (Int32.ofNat len), .null] 6)) (T15.setTop (mkF m 57 #[.val (.ref a), .val (.ref b), .val (.int (Int32.ofNat o)), .val (.int (Int32.ofNat len)), .val .null, .val (.ref s.heap.size)] [])) := c14.trans (st15 _ (Steps.refl _))
  have ap := apart (Or.inr ⟨_, (wk W (.laysFinal "java/lang/String" "java/lang/String" "value" "[B"))⟩) (Or.inr ⟨_, (wk W (.laysFinal "java/lang/String" "java/lang/String" "coder" "B"))⟩) f1 f2 (t₁ := .array .byte) (t₂ := .byte) (by decide +kernel) (by decide +kernel) (by decide)
  have al := X8.warmed.alike.symm.trans X15.warmed.alike
  have n7 : T11.heap[s.heap.size]? = some N := by rw [q11]; exact n1.1
  exact ⟨T15, none, _, _, _, X15, by simp, rfl, by omega, (fun _ => rfl), ⟨rfl, _, N, bl15, ((Same.refl D _).set _ (by simp)).set _ (by simp), sl15, (Cell.slots_setSlot_ne _ ap).trans sl13, n1.keep al (p15.other hne (p13.other hne n7)), n2, by rw [al.findClass]; exact n3, n4, n5, fun y c h1 h2 => p15.other h1 (p13.other h1 (by rw [q11]; exact n6 y c h2)), by rw [p15.2.2, p13.2.2, q11]; exact z8⟩, fun fs hl => c16.trans (X15.returnOut hexec hret (hb hbytes d57) hl)⟩
end New4
namespace New1
def yN : MethodName := ⟨"java/lang/String", "<init>", "([C)V"⟩
abbrev yB : ByteArray := jdk_42_method_3_code
theorem d0 : decode yB 0 = .ok (.aload_n 0, 1) := by decide +kernel
theorem d1 : decode yB 1 = .ok (.aload_n 1, 1) := by decide +kernel
theorem d2 : decode yB 2 = .ok (.iconst 0, 1) := by decide +kernel
theorem d3 : decode yB 3 = .ok (.aload_n 1, 1) := by decide +kernel
theorem d4 : decode yB 4 = .ok (.arraylength, 1) := by decide +kernel
theorem d5 : decode yB 5 = .ok (.aconst_null, 1) := by decide +kernel
theorem d6 : decode yB 6 = .ok (.invokespecial 27, 3) := by decide +kernel
theorem d9 : decode yB 9 = .ok (.return_, 1) := by decide +kernel
def site : List Cond := [New4.tab] ++ initW "java/lang/String" 27 New4.yN
def tab : Cond := tabOf yN yB 2 none site
def P (a : Addr) (D : Cell) (fV fC : Field) (b : Addr) (A : Cell) (z : Int32) (args : Array Value) (s : State) : Prop := args = #[.ref a, .ref b] ∧ Blank "java/lang/String" a D s ∧ Found "java/lang/String" "value" "[B" fV s ∧ Found "java/lang/String" "coder" "B" fC s ∧ Ch b A s ∧ StaticIs s "java/lang/String" "COMPACT_STRINGS" "Z" (.int z) ∧ ¬ z = 0 ∧ 0 < A.slots.size ∧ A.slots.size ≤ 536870912 ∧ ∀ i, i < A.slots.size → ¬ 255 < cv A i
def E (a : Addr) (D : Cell) (fV fC : Field) (A : Cell) (r : Option Value) (s u : State) : Prop := Got a D fV fC A 0 A.slots.size r s u
/-- new String(chars), not empty, no char above 255: a Latin-1 String of their low bytes -/
theorem law (l : Launch) (a : Addr) (D : Cell) (fV fC : Field) (b : Addr) (A : Cell) (z : Int32) : Law l yN 2 1 3 52 yB 2 none site (P a D fV fC b A z) (E a D fV fC A) [⟨a, fC.slot⟩, ⟨a, fV.slot⟩] 1 A.slots.size := by
  refine Law.of_walk (plainFor_of_name (by decide +kernel)) (by decide +kernel) (by decide +kernel) (by decide) (fun _ _ h => by rw [h.1]; rfl) (fun _ U U' hal hh h => ⟨h.1, h.2.1.mv hal hh, h.2.2.1.al hal, h.2.2.2.1.al hal, h.2.2.2.2.1.mv hal hh, h.2.2.2.2.2.1.there hal hh, h.2.2.2.2.2.2⟩) (fun r U U' V V' h1 hal h2 h => Got.mv r U U' V V' h1 hal h2 h) ?_
  intro p e s m args below meth c s₁ X0 hexec hbytes hml hret hlk hnm hown hh0 W hP
  obtain ⟨rfl, hB, f1, f2, hA, s1, hz, l0, l2, hp⟩ := hP
  have c1 : Steps p.tables e below (s₁.setTop (entryFrame m #[.ref a, .ref b] 2)) (s₁.setTop (mkF m 0 #[.val (.ref a), .val (.ref b)] [])) := entry rfl
  have c2 : Steps p.tables e below (s₁.setTop (entryFrame m #[.ref a, .ref b] 2)) (s₁.setTop (mkF m 6 #[.val (.ref a), .val (.ref b)] [.null, .int (Int32.ofNat A.slots.size), .int 0, .ref b, .ref a])) := c1.trans (by
    refine XS.aloadN X0.here hexec rfl (hb hbytes d0) rfl rfl ?_
    refine XS.aloadN X0.here hexec rfl (hb hbytes d1) rfl rfl ?_
    refine iconstV X0.here hexec rfl 0 (hb hbytes d2) (by decide) ?_
    refine XS.aloadN X0.here hexec rfl (hb hbytes d3) rfl rfl ?_
    refine X0.alen hexec (hA.1.mv X0.warmed.alike hh0) rfl rfl (hb hbytes d4) ?_
    refine XS.aconstNull X0.here hexec rfl (hb hbytes d5) ?_
    exact Steps.refl _)
  obtain ⟨v3, T3, X3, E3, g3⟩ := X0.callN hexec (New4.law l a D fV fC b A z 0 A.slots.size) rfl hown (wks W (initW "java/lang/String" 27 New4.yN)) (W New4.tab (by simp only [site, List.mem_cons, List.mem_append, true_or, or_true])) (W := 0) (Nat.le_of_ble_eq_true rfl) (Nat.le_of_ble_eq_true rfl) (Nat.le_refl _) (by show 0 + A.slots.size ≤ A.slots.size; omega) (g := (mkF m 6 #[.val (.ref a), .val (.ref b)] [.null, .int (Int32.ofNat A.slots.size), .int (Int32.ofNat 0), .ref b, .ref a])) rfl (by rw [hml]; rfl) c2 (argsL := [.ref b, .int (Int32.ofNat 0), .int (Int32.ofNat A.slots.size), .null]) (rest := []) rfl rfl (by show 2 * 0 + 0 ≤ _; decide) (hb hbytes d6) (⟨rfl, hB.mv X0.warmed.alike hh0, f1.al X0.warmed.alike, f2.al X0.warmed.alike, hA.mv X0.warmed.alike hh0, s1.there X0.warmed.alike hh0, hz, l0, by omega, l2, fun i hi => by rw [Nat.zero_add]; exact hp i hi⟩)
  have e0 := Got.mv _ s₁ s _ _ hh0.symm (Vm.Alike.refl _) rfl E3
  obtain rfl := e0.1
  have c4 : Steps p.tables e below (s₁.setTop (entryFrame m #[.ref a, .ref b] 2)) (T3.setTop (mkF m 9 #[.val (.ref a), .val (.ref b)] [])) := g3
  exact ⟨T3, none, _, _, _, X3, by simp, rfl, by omega, (fun _ => rfl), e0, fun fs hl => c4.trans (X3.returnOut hexec hret (hb hbytes d9) hl)⟩
theorem pays {l : Launch} {R : Room} {p : Program} {e : Env} {below : List Frame} {s : State} {sargs : Array Value} {len W : Nat} (a : Addr) (D : Cell) (fV fC : Field) (b : Addr) (A : Cell) (z : Int32) (htab : tab.before sargs s = true) (hfr : 4 ≤ R.frames) (hlo : W + 65 ≤ R.locals) :
    Back l R p e below s sargs yN len W (fun A₁ a₁ => A₁.cells + 1 ≤ R.cells ∧ A₁.slots + A.slots.size ≤ R.slots ∧ P a D fV fC b A z a₁ A₁.U) (fun A₁ _ v₁ B₁ => E a D fV fC A v₁ A₁.U B₁.U ∧ B₁.locs = A₁.locs ++ [⟨a, fC.slot⟩, ⟨a, fV.slot⟩] ∧ B₁.cells = A₁.cells + 1 ∧ B₁.slots = A₁.slots + A.slots.size) :=
  (law l a D fV fC b A z).pays htab hfr (by omega)
end New1
/-- the byte, read back as charAt reads it, is the char -/
theorem lo8_mask {x : Int32} (h0 : ¬ x < 0) (h1 : ¬ 255 < x) : lo8 x &&& 255 = x := by
  have t : ∀ k : Fin 256, lo8 (Int32.ofNat k.val) &&& 255 = Int32.ofNat k.val := by decide +kernel
  rw [Int32.lt_iff_toInt_lt] at h0 h1
  have e0 : (0 : Int32).toInt = 0 := rfl
  have e1 : (255 : Int32).toInt = 255 := rfl
  obtain ⟨k, hk⟩ : ∃ k : Nat, x.toInt = k := ⟨x.toInt.toNat, by omega⟩
  have hx : x = Int32.ofNat k := Int32.toInt_inj.mp (by rw [hk, Int32.toInt_ofNat_small (by omega)])
  rw [hx]
  exact t ⟨k, by omega⟩
end StrChars
namespace StrChars.Road
open Jvm Sem ClassFile Op Lib Jvm.Stand Jvm.Free Jvm.Free.XT
open Jvm.Lib.Cold (StaticIs)
abbrev ST : String := "java/lang/String"
/-- every table word that New1's law asks, flat -/
abbrev words : List Jvm.Cond := [.code New1.yN New1.yB 2 none, .initialized ST, .methodLink ST 27 New4.yN, .instanceMethod New4.yN,
  .code New4.yN New4.yB 6 none, .fieldLink ST 38 ST "COMPACT_STRINGS" "Z", .laysFinal ST ST "value" "[B", .fieldLink ST 9 ST "value" "[B", .laysFinal ST ST "coder" "B", .fieldLink ST 15 ST "coder" "B",
  .methodLink ST 1 Lib.objectInit, .instanceMethod Lib.objectInit, .code Lib.objectInit ⟨#[0xb1]⟩ 1 none, .methodLink ST 177 Cmp3.yN, .static Cmp3.yN, .methodLink ST 47 CodL.yN, .static CodL.yN,
  .code Cmp3.yN Cmp3.yB 6 (some (.array .byte)), .initialized U16, .arrayClass .byte, .methodLink U16 115 Cmp5.yN, .static Cmp5.yN, .code Cmp5.yN Cmp5.yB 7 (some .int), .code CodL.yN CodL.yB 2 (some .byte)]
theorem tab_of {a : Array Value} {s : State} (h : ∀ w ∈ words, w.before a s = true) : New1.tab.before a s = true := by
  have h5 : Cmp5.tab.before a s = true := unparts (wk h (.code Cmp5.yN Cmp5.yB 7 (some .int))) (wks h (.initialized Cmp5.yN.cls :: Cmp5.site))
  have hc : CodL.tab.before a s = true := unparts (wk h (.code CodL.yN CodL.yB 2 (some .byte))) (wks h (.initialized CodL.yN.cls :: CodL.site))
  have q5 : ∀ w ∈ Cmp5.tab :: words, w.before a s = true := fun w hw => (List.mem_cons.mp hw).elim (fun e => e ▸ h5) (h w)
  have h3 : Cmp3.tab.before a s = true := unparts (wk q5 (.code Cmp3.yN Cmp3.yB 6 (some (.array .byte)))) (wks q5 (.initialized Cmp3.yN.cls :: Cmp3.site))
  have q3 : ∀ w ∈ Cmp3.tab :: CodL.tab :: words, w.before a s = true := fun w hw => (List.mem_cons.mp hw).elim (fun e => e ▸ h3) fun hw => (List.mem_cons.mp hw).elim (fun e => e ▸ hc) (h w)
  have h4 : New4.tab.before a s = true := unparts (wk q3 (.code New4.yN New4.yB 6 none)) (wks q3 (.initialized New4.yN.cls :: New4.site))
  have q4 : ∀ w ∈ New4.tab :: words, w.before a s = true := fun w hw => (List.mem_cons.mp hw).elim (fun e => e ▸ h4) (h w)
  exact unparts (wk q4 (.code New1.yN New1.yB 2 none)) (wks q4 (.initialized New1.yN.cls :: New1.site))
/-- the words ride from the start Z to the walk's own state -/
theorem moved {Z s : State} {a0 args : Array Value} (hZ : Z.Warmed39 s.vm) (hw : ∀ d ∈ words, d.before a0 Z = true) : ∀ d ∈ words, d.before args s = true := fun d hd => by
  have q := hw d hd
  have t : ∀ d ∈ words, d = .arrayClass .byte ∨ (d.onTables && d.keepsFace) = true := by decide +kernel
  rcases t d hd with rfl | t
  · exact RoadKit.mvA hZ q
  · exact RoadKit.mv hZ q t
/-- WHAT COMES BACK, over the tables of the start Z: h the heap at the call, h' behind it -/
def Q (Z : State) (x : Addr) (A : Cell) (h : Heap) (v : Option Value) (h' : Heap) (L : List Loc) : Prop := v = none ∧ (∀ y ∈ L, y.base = x) ∧ RoadKit.Keep h h' [x] ∧ h'.size = h.size + 1 ∧ RoadKit.Exa Z h' x ST ∧ RoadKit.Fld Z h' x ST "value" "[B" (.ref h.size) ∧ RoadKit.Fld Z h' x ST "coder" "B" (.int 0) ∧
  (∃ V : Cell, RoadKit.Arr Z h' h.size V .byte ∧ V.vm = .none ∧ Z.vm.findClass "[B" = some V.cls ∧ V.slots.size = A.slots.size ∧ ∀ j, j < A.slots.size → V.slots[j]? = some (.int (lo8 (cv A j)))) ∧
  ∀ (O n d : String) (w : Value), RoadKit.Fld Z h x O n d w → RoadKit.slotOf Z O n d ≠ RoadKit.slotOf Z ST "value" "[B" → RoadKit.slotOf Z O n d ≠ RoadKit.slotOf Z ST "coder" "B" → RoadKit.Fld Z h' x O n d w
/-- **new String(chars) AT A CALL, IN THE ROAD'S FORM**: for specialBack behind newO: x the fresh String, b the char[] with the cell A -/
theorem back {p : Program} {l : Launch} {e : Env} {R : Room} {s : State} {args : Array Value} {below : List Frame} {len W : Nat} {Z : State} {a0 : Array Value} {h : Heap} (hZ : Z.Warmed39 s.vm) (hw : ∀ d ∈ words, d.before a0 Z = true) {kI : Nat} (wi : (Jvm.Cond.instantiable ST kI).before a0 Z = true)
    {x b : Addr} {A : Cell} {z : Int32} {v0 c0 : Value} (E : RoadKit.Exa Z h x ST) (V : RoadKit.Fld Z h x ST "value" "[B" v0) (C : RoadKit.Fld Z h x ST "coder" "B" c0) (K : RoadKit.Arr Z h b A .char) (hty : Typed .char A) (S : RoadKit.Sta Z h ST "COMPACT_STRINGS" "Z" (.int z)) (hz : ¬ z = 0)
    (l0 : 0 < A.slots.size) (l2 : A.slots.size ≤ 536870912) (hp : ∀ i, i < A.slots.size → ¬ 255 < cv A i) (hfr : 4 ≤ R.frames) (hlo : W + 65 ≤ R.locals) :
    Back l R p e below s args New1.yN len W (fun P a => a = #[.ref x, .ref b] ∧ P.U.heap = h ∧ P.cells + 1 ≤ R.cells ∧ P.slots + A.slots.size ≤ R.slots)
      (fun P _ v B => ∃ L, Q Z x A h v B.U.heap L ∧ B.locs = P.locs ++ L ∧ B.cells = P.cells + 1 ∧ B.slots = P.slots + A.slots.size) := by
  intro m meth c P g ig mk a X hg hsize hdg hW hn hp'
  obtain ⟨rfl, rfl, r1, r2⟩ := hp'
  have al : Z.vm.Alike P.U.vm := hZ.alike.trans X.warmed.alike
  obtain ⟨D, cfV, kV, iV, fV, hD, gV, stV, knV, obV, asV, slV⟩ := id V
  obtain ⟨D', cfC, kC, iC, fC, hD', gC, stC, -, -, asC, slC⟩ := id C
  cases hD.symm.trans hD'
  obtain ⟨D2, kD, e1, e2, e3, e4, e5⟩ := id E
  cases hD.symm.trans e1
  obtain ⟨c2, k2, i1, i2, i3, -⟩ := Cond.instantiable_spec wi
  cases e2.symm.trans i1
  cases e3.symm.trans i2
  obtain ⟨kU, u1, u2⟩ := al.2.2 _ _ e3
  have hB : Blank ST x D P.U := ⟨hD, ⟨knV, fun q hq => by rw [hq] at obV; cases obV⟩, by rw [al.findClass]; exact e2, kU, u1, by rw [u2]; exact i3, by rw [u2]; exact e5 i3⟩
  have F1 : Found ST "value" "[B" fV P.U := ⟨SBG.found_only al ⟨cfV, kV, iV, gV⟩, stV⟩
  have F2 : Found ST "coder" "B" fC P.U := ⟨SBG.found_only al ⟨cfC, kC, iC, gC⟩, stC⟩
  have hA : Ch b A P.U := ⟨⟨K.1, State.isArrayOf_alike al K.2.1, K.2.2, by omega⟩, hty⟩
  have hS : StaticIs P.U ST "COMPACT_STRINGS" "Z" (.int z) := by
    obtain ⟨cfS, iS, kS, fS, st, cS, t1, t2, t3, t4, t5, t6, t7⟩ := S
    exact StaticIs.there (s := { Z with heap := P.U.heap }) ⟨cfS, iS, kS, fS, st, cS, t1, t2, t3, t4, t5, (fun q => by rw [q] at t6; cases t6), t7⟩ al rfl
  obtain ⟨v, B, X', ⟨⟨hv, E', V', q1, q2, q3, q4, q5, q6, q7, q8, q9, q10, q11⟩, hl, hc, hs⟩, st⟩ := New1.pays x D fV fC b A z (tab_of (moved hZ hw)) hfr hlo m meth c P g ig mk _ X hg hsize hdg hW hn ⟨r1, r2, rfl, hB, F1, F2, hA, hS, hz, l0, l2, hp⟩
  have al' : Z.vm.Alike B.U.vm := hZ.alike.trans X'.warmed.alike
  have hsz : E'.slots.size = D.slots.size := by
    obtain ⟨-, -, -, kB, w1, w2, w3⟩ := q1
    obtain ⟨kB', y1, y2⟩ := al'.2.2 _ _ e3
    rw [q2.2.1] at w1
    cases w1.symm.trans y1
    rw [w3, e5 i3, y2]
  refine ⟨v, B, X', ⟨_, ⟨hv, ?_, ⟨by omega, fun y cy hy hn' => q10 y cy (by simpa using hn') hy, fun y cy hy => ?_⟩, q11, ⟨E', _, q1.1, by rw [q2.2.1]; exact e2, by rw [q2.2.1]; exact e3, by rw [q2.1]; exact obV, fun _ => by rw [hsz]; exact e5 i3⟩,
    ⟨E', cfV, kV, iV, fV, q1.1, gV, stV, by rw [q2.1]; exact knV, by rw [q2.1]; exact obV, by rw [q2.2.1]; exact asV, q3⟩, ⟨E', cfC, kC, iC, fC, q1.1, gC, stC, by rw [q2.1]; exact knV, by rw [q2.1]; exact obV, by rw [q2.2.1]; exact asC, q4⟩,
    ⟨V', ⟨q5.1, State.isArrayOf_alike al'.symm q5.2.1, q5.2.2.1⟩, q6, by rw [← al'.findClass]; exact q7, q8, fun j hj => by have := q9 j hj; rwa [Nat.zero_add] at this⟩, fun O n d w F n1 n2 => ?_⟩, hl, hc, hs⟩, st⟩
  · intro y hy
    simp only [List.mem_cons, List.not_mem_nil, or_false] at hy
    rcases hy with rfl | rfl <;> rfl
  · by_cases q : y = x
    · subst q
      cases hD.symm.trans hy
      exact ⟨E', q1.1, q2.2.1, q2.1, hsz⟩
    · exact ⟨cy, q10 y cy q hy, rfl, rfl, rfl⟩
  · obtain ⟨D3, cf, k, i, f, g1, g2, g3, g4, g5, g6, g7⟩ := F
    cases hD.symm.trans g1
    simp only [RoadKit.slotOf, g2, gV, gC, Option.map_some, Option.getD_some] at n1 n2
    exact ⟨E', cf, k, i, f, q1.1, g2, g3, by rw [q2.1]; exact g4, by rw [q2.1]; exact g5, by rw [q2.2.1]; exact g6, by rw [q2.2.2 f.slot (by simp [n1, n2])]; exact g7⟩
end StrChars.Road
namespace StrChars.Road
open Jvm Sem ClassFile Op Lib Jvm.Stand Jvm.Free Jvm.Free.XT
/-- WHAT COMES BACK, the byte[] as a list of values -/
def QA (Z : State) (x : Addr) (zn : Int32) (cs : List Int32) (h : Heap) (v : Option Value) (h' : Heap) (L : List Loc) : Prop := v = none ∧ (∀ y ∈ L, y.base = x) ∧ RoadKit.Keep h h' [x] ∧ h'.size = h.size + 1 ∧ RoadKit.Exa Z h' x ST ∧ RoadKit.Fld Z h' x ST "value" "[B" (.ref h.size) ∧ RoadKit.Fld Z h' x ST "coder" "B" (.int 0) ∧
  (∃ kb, Z.vm.findClass "[B" = some kb ∧ RoadKit.Arv Z h' h.size kb .byte zn (cs.map fun c => .int (lo8 c)) (.int 0)) ∧
  ∀ (O n d : String) (w : Value), RoadKit.Fld Z h x O n d w → RoadKit.slotOf Z O n d ≠ RoadKit.slotOf Z ST "value" "[B" → RoadKit.slotOf Z O n d ≠ RoadKit.slotOf Z ST "coder" "B" → RoadKit.Fld Z h' x O n d w
/-- **new String(chars) AT A CALL, THE ARRAYS AS LISTS**: the char[] at b holds cs, not empty, no char above 255 -/
theorem backArv {p : Program} {l : Launch} {e : Env} {R : Room} {s : State} {args : Array Value} {below : List Frame} {len W : Nat} {Z : State} {a0 : Array Value} {h : Heap} (hZ : Z.Warmed39 s.vm) (hw : ∀ d ∈ words, d.before a0 Z = true) {kI : Nat} (wi : (Jvm.Cond.instantiable ST kI).before a0 Z = true)
    {x b : Addr} {k : ClassId} {zn z : Int32} {cs : List Int32} {dv v0 c0 : Value} (E : RoadKit.Exa Z h x ST) (V : RoadKit.Fld Z h x ST "value" "[B" v0) (C : RoadKit.Fld Z h x ST "coder" "B" c0) (K : RoadKit.Arv Z h b k .char zn (cs.map Value.int) dv) (S : RoadKit.Sta Z h ST "COMPACT_STRINGS" "Z" (.int z)) (hz : ¬ z = 0)
    (hlen : zn.toNatClampNeg = cs.length) (h0 : 0 < cs.length) (hbig : cs.length ≤ 536870912) (hall : ∀ c ∈ cs, ¬ 255 < c) (hfr : 4 ≤ R.frames) (hlo : W + 65 ≤ R.locals) :
    Back l R p e below s args New1.yN len W (fun P a => a = #[.ref x, .ref b] ∧ P.U.heap = h ∧ P.cells + 1 ≤ R.cells ∧ P.slots + cs.length ≤ R.slots)
      (fun P _ v B => ∃ L, QA Z x zn cs h v B.U.heap L ∧ B.locs = P.locs ++ L ∧ B.cells = P.cells + 1 ∧ B.slots = P.slots + cs.length) := by
  obtain ⟨A, K1, K2, K3, K4, K5, K6⟩ := K
  have e : A.slots.size = cs.length := K3.trans hlen
  have hat : ∀ (i : Nat) (hi : i < cs.length), A.slots[i]? = some (.int cs[i]) := fun i hi => by rw [K5 i (by omega)]; simp [List.getD_eq_getElem?_getD, hi]
  have hcv : ∀ (i : Nat) (hi : i < cs.length), cv A i = cs[i] := fun i hi => by unfold cv; rw [hat i hi]
  have hty : Typed .char A := fun i v hv => by
    have hi : i < A.slots.size := (Array.getElem?_eq_some_iff.mp hv).1
    have q := K5 i hi
    rw [hv] at q
    rw [Option.some.inj q]
    exact K6 i hi
  refine Back.mono (back hZ hw wi E V C K1 hty S hz (by omega) (by omega) (fun i hi => by rw [hcv i (by omega)]; exact hall _ (List.getElem_mem _)) hfr hlo) (fun P a hp => ⟨hp.1, hp.2.1, hp.2.2.1, by rw [e]; exact hp.2.2.2⟩) (fun P a v B hp hq => ?_)
  obtain ⟨L, ⟨q1, q2, q3, q4, q5, q6, q7, ⟨V', v1, v2, v3, v4, v5⟩, q9⟩, hl, hc, hs⟩ := hq
  refine ⟨L, ⟨q1, q2, q3, q4, q5, q6, q7, ⟨V'.cls, v3, V', v1, rfl, by rw [v4, e, hlen], K4, fun i hi => ?_, fun i hi => ?_⟩, q9⟩, hl, hc, by rw [hs, e]⟩
  · have hi' : i < cs.length := by omega
    rw [v5 i (by omega), hcv i hi']; simp [List.getD_eq_getElem?_getD, hi']
  · have hi' : i < cs.length := by omega
    simp only [List.getD_eq_getElem?_getD, List.getElem?_map, List.getElem?_eq_getElem hi', Option.map_some, Option.getD_some]
    exact fits_lo8 _
end StrChars.Road
namespace StrChars.Road
open Jvm Sem ClassFile Op Lib Jvm.Stand Jvm.Free Jvm.Free.XT
/-- WHAT COMES BACK, in the writer's own shape -/
def QV (Z : State) (x : Addr) (N : Int32) (bs : List Int32) (h : Heap) (n0 : Nat) (v : Option Value) (h' : Heap) (L : List Loc) : Prop := v = none ∧ RoadKit.Fr n0 L ∧ RoadKit.Keep h h' [x] ∧ RoadKit.Exa Z h' x ST ∧ RoadKit.Fld Z h' x ST "coder" "B" (.int 0) ∧
  ∃ (t : Addr) (kb : ClassId), n0 ≤ t ∧ h.size ≤ t ∧ ¬ t = x ∧ RoadKit.Fld Z h' x ST "value" "[B" (.ref t) ∧ RoadKit.Arv Z h' t kb .byte N (bs.map Value.int) (.int 0)
/-- **new String(chars) AT A CALL, FOR THE WRITER**: a char[] of n known ints, each 0 to 255 -/
theorem backV {p : Program} {l : Launch} {e : Env} {R : Room} {s : State} {args : Array Value} {below : List Frame} {len W : Nat} {Z : State} {a0 : Array Value} {h : Heap} (hZ : Z.Warmed39 s.vm) (hw : ∀ d ∈ words, d.before a0 Z = true) {kI : Nat} (wi : (Jvm.Cond.instantiable ST kI).before a0 Z = true)
    {x b : Addr} {kC : ClassId} {cs bs : List Int32} {d v0 c0 : Value} {z N : Int32} {n n0 : Nat} (hx0 : n0 ≤ x) (hh0 : n0 ≤ h.size) (E : RoadKit.Exa Z h x ST) (V : RoadKit.Fld Z h x ST "value" "[B" v0) (C : RoadKit.Fld Z h x ST "coder" "B" c0) (K : RoadKit.Arv Z h b kC .char N (cs.map Value.int) d) (S : RoadKit.Sta Z h ST "COMPACT_STRINGS" "Z" (.int z)) (hz : ¬ z = 0)
    (hn : cs.length = n) (hN : N = Int32.ofNat n) (l0 : 0 < n) (l2 : n ≤ 4000) (hp : ∀ c ∈ cs, ¬ c < 0 ∧ ¬ (255 : Int32) < c) (hb : bs = cs.map (fun c => c.toInt8.toInt32)) (hfr : 4 ≤ R.frames) (hlo : W + 65 ≤ R.locals) :
    Back l R p e below s args (⟨"java/lang/String", "<init>", "([C)V"⟩ : MethodName) len W (fun P a => a = #[.ref x, .ref b] ∧ P.U.heap = h ∧ P.cells + 1 ≤ R.cells ∧ P.slots + n ≤ R.slots)
      (fun P _ v B => ∃ L, QV Z x N bs h n0 v B.U.heap L ∧ B.locs = P.locs ++ L ∧ B.cells = P.cells + 1 ∧ B.slots = P.slots + n) := by
  subst hn hN hb
  refine Back.mono (backArv hZ hw wi E V C K S hz (n32 (by omega)) l0 (by omega) (fun c hc => (hp c hc).2) hfr hlo) (fun P a hp => hp) (fun P a v B hp hq => ?_)
  obtain ⟨L, ⟨q1, q2, q3, q4, q5, q6, q7, ⟨kb, v1, v2⟩, q9⟩, hl, hc, hs⟩ := hq
  exact ⟨L, ⟨q1, fun y hy => by rw [q2 y hy]; exact hx0, q3, q5, q7, h.size, kb, hh0, Nat.le_refl _, Nat.ne_of_gt E.lt, q6, by rw [List.map_map]; exact v2⟩, hl, hc, hs⟩
end StrChars.Road
namespace StrChars
open Jvm Sem ClassFile Op Lib Jvm.Stand Jvm.Free.XT Jvm.Free.ALB Jvm.Free.JM Jvm.Free
open Jvm.Lib.Cold (StaticIs)
def hi8 (x : Int32) : Int32 := lo8 (x >>> ((8 : Int32) &&& 31))
/-- what StringUTF16.getChar makes of two bytes -/
def pairCh (u v : Int32) : Int32 := (((u &&& 255) <<< ((0 : Int32) &&& 31)) ||| ((v &&& 255) <<< ((8 : Int32) &&& 31))).toUInt32.toUInt16.toUInt32.toInt32
theorem lo8_and (x : Int32) : (lo8 x &&& 255).toBitVec.toNat = x.toBitVec.toNat % 256 := by
  have h : (lo8 x).toBitVec = (x.toBitVec.signExtend 8).signExtend 32 := by rw [lo8, Int8.toBitVec_toInt32, Int32.toBitVec_toInt8]
  rw [Int32.toBitVec_and, BitVec.toNat_and, h]
  have e : ((x.toBitVec.signExtend 8).signExtend 32).toNat % 256 = x.toBitVec.toNat % 256 := by
    rw [BitVec.toNat_signExtend]
    have hlt := x.toBitVec.isLt
    simp only [BitVec.toNat_setWidth, BitVec.toNat_signExtend]
    split <;> split <;> omega
  rw [← e]
  exact Nat.and_two_pow_sub_one_eq_mod _ 8
theorem pair_says {c : Int32} (h0 : ¬ c < 0) (h1 : ¬ 65535 < c) : pairCh (lo8 c) (hi8 c) = c := by
  rw [Int32.lt_iff_toInt_lt] at h0 h1
  have e0 : (0 : Int32).toInt = 0 := rfl
  have e1 : (65535 : Int32).toInt = 65535 := rfl
  have hc : c.toInt = c.toBitVec.toNat := by
    have := c.toBitVec.isLt
    have e : c.toInt = c.toBitVec.toInt := rfl
    rw [e] at h0 h1
    rw [e]
    rw [BitVec.toInt_eq_toNat_cond] at h0 h1 ⊢
    split at h0 <;> split <;> omega
  have hn : c.toBitVec.toNat < 65536 := by omega
  have a1 := lo8_and c
  have a2 : (hi8 c &&& 255).toBitVec.toNat = c.toBitVec.toNat / 256 := by
    rw [hi8, lo8_and]
    have e : ((8 : Int32) &&& 31) = 8 := by decide
    rw [e, Int32.toBitVec_shiftRight]
    have e2 : ((8 : Int32).toBitVec.smod 32) = 8#32 := by decide
    rw [e2, BitVec.sshiftRight_eq', BitVec.toNat_sshiftRight_of_msb_false (by rw [BitVec.msb_eq_false_iff_two_mul_lt]; omega)]
    show c.toBitVec.toNat >>> 8 % 256 = _
    rw [Nat.shiftRight_eq_div_pow]
    omega
  unfold pairCh
  apply Int32.toBitVec_inj.mp
  apply BitVec.eq_of_toNat_eq
  have f0 : ((0 : Int32) &&& 31) = 0 := by decide
  have f8 : ((8 : Int32) &&& 31) = 8 := by decide
  rw [f0, f8]
  have g : (((lo8 c &&& 255) <<< (0 : Int32)) ||| ((hi8 c &&& 255) <<< (8 : Int32))).toBitVec.toNat = c.toBitVec.toNat := by
    rw [Int32.toBitVec_or, Int32.toBitVec_shiftLeft, Int32.toBitVec_shiftLeft]
    have s0 : ((0 : Int32).toBitVec.smod 32) = 0#32 := by decide
    have s8 : ((8 : Int32).toBitVec.smod 32) = 8#32 := by decide
    rw [s0, s8, BitVec.toNat_or]
    simp only [BitVec.shiftLeft_eq', BitVec.toNat_shiftLeft, a1, a2]
    show (c.toBitVec.toNat % 256) <<< 0 % 2 ^ 32 ||| (c.toBitVec.toNat / 256) <<< 8 % 2 ^ 32 = _
    rw [Nat.shiftLeft_zero, Nat.mod_eq_of_lt (show c.toBitVec.toNat % 256 < 2 ^ 32 by omega), Nat.mod_eq_of_lt (show (c.toBitVec.toNat / 256) <<< 8 < 2 ^ 32 by rw [Nat.shiftLeft_eq]; omega), Nat.or_comm, ← Nat.shiftLeft_add_eq_or_of_lt (by omega), Nat.shiftLeft_eq]
    omega
  show BitVec.toNat (((((lo8 c &&& 255) <<< (0 : Int32)) ||| ((hi8 c &&& 255) <<< (8 : Int32))).toBitVec.setWidth 16).setWidth 32) = _
  rw [BitVec.toNat_setWidth, BitVec.toNat_setWidth, g]
  omega
end StrChars
namespace StrChars
open Jvm Sem ClassFile Op Lib Jvm.Stand Jvm.Free.XT Jvm.Free.ALB Jvm.Free.JM Jvm.Free
open Jvm.Lib.Cold (StaticIs)
/-- the array's cell V codes the n chars f 0 .. f (n - 1) by the coder cd, as the JDK does: coder 1 just where some char is above 255 -/
def Cod (cd : Int32) (n : Nat) (f : Nat → Int32) (V : Cell) : Prop := (cd = 0 ∧ V.slots.size = n ∧ ∀ j, j < n → V.slots[j]? = some (.int (lo8 (f j))) ∧ ¬ 255 < f j) ∨ (cd = 1 ∧ V.slots.size = 2 * n ∧ (∀ j, j < n → V.slots[2 * j]? = some (.int (lo8 (f j))) ∧ V.slots[2 * j + 1]? = some (.int (hi8 (f j)))) ∧ ∃ j, j < n ∧ 255 < f j)
/-- **x is a String of the n chars f 0 .. f (n - 1)**, Latin-1 or UTF-16; its array at t has the cell V -/
def Txt (x t : Addr) (V : Cell) (cd : Int32) (n : Nat) (f : Nat → Int32) (U : State) : Prop := Exact "java/lang/String" x U ∧ Has x "java/lang/String" "value" "[B" (.ref t) U ∧ Has x "java/lang/String" "coder" "B" (.int cd) U ∧ XT.Arr .byte t V U ∧ Cod cd n f V ∧ ∀ j, j < n → ¬ f j < 0 ∧ ¬ 65535 < f j
theorem Txt.mv {x t : Addr} {V : Cell} {cd : Int32} {n : Nat} {f : Nat → Int32} {U U' : State} (h : Txt x t V cd n f U) (hal : U.vm.Alike U'.vm) (hh : U'.heap = U.heap) : Txt x t V cd n f U' := ⟨h.1.mv hal hh, h.2.1.mv hal hh, h.2.2.1.mv hal hh, h.2.2.2.1.mv hal hh, h.2.2.2.2⟩
end StrChars
namespace StrChars.Road
open Jvm Sem ClassFile Op Lib Jvm.Stand Jvm.Free Jvm.Free.XT
open Jvm.Lib.Cold (StaticIs)
theorem consq {a : Array Value} {s : State} {c : Jvm.Cond} {L : List Jvm.Cond} (h0 : c.before a s = true) (h : ∀ w ∈ L, w.before a s = true) : ∀ w ∈ c :: L, w.before a s = true := fun w hw => (List.mem_cons.mp hw).elim (fun e => e ▸ h0) (h w)
/-- the bytes of the chars cs, low before high -/
def wideBytes : List Int32 → List Value
  | [] => []
  | c :: cs => .int (lo8 c) :: .int (hi8 c) :: wideBytes cs
theorem wide_lo (d : Value) : ∀ (cs : List Int32) (j : Nat), j < cs.length → (wideBytes cs).getD (2 * j) d = .int (lo8 (cs.getD j 0))
  | [], j, h => absurd h (Nat.not_lt_zero j)
  | c :: cs, 0, _ => rfl
  | c :: cs, j + 1, h => by
    have q := wide_lo d cs j (by simpa using h)
    rw [show 2 * (j + 1) = 2 * j + 1 + 1 from by omega]
    simpa [wideBytes] using q
theorem wide_hi (d : Value) : ∀ (cs : List Int32) (j : Nat), j < cs.length → (wideBytes cs).getD (2 * j + 1) d = .int (hi8 (cs.getD j 0))
  | [], j, h => absurd h (Nat.not_lt_zero j)
  | c :: cs, 0, _ => rfl
  | c :: cs, j + 1, h => by
    have q := wide_hi d cs j (by simpa using h)
    rw [show 2 * (j + 1) + 1 = 2 * j + 1 + 1 + 1 from by omega]
    simpa [wideBytes] using q
theorem low_at (d : Value) (cs : List Int32) (j : Nat) (h : j < cs.length) : (cs.map fun c => Value.int (lo8 c)).getD j d = .int (lo8 (cs.getD j 0)) := by
  simp [List.getD_eq_getElem?_getD, h]
/-- an array of N2 bytes vs codes the chars cs by the coder cd -/
def CodA (cs : List Int32) (cd N2 : Int32) (vs : List Value) : Prop := (cd = 0 ∧ N2 = Int32.ofNat cs.length ∧ vs = (cs.map fun c => Value.int (lo8 c)) ∧ ∀ c ∈ cs, ¬ 255 < c) ∨ (cd = 1 ∧ N2 = Int32.ofNat (2 * cs.length) ∧ vs = wideBytes cs ∧ ∃ c ∈ cs, 255 < c)
theorem CodA.cod {cs : List Int32} {cd N2 : Int32} {vs : List Value} {V : Cell} (h : CodA cs cd N2 vs) (hn : 2 * cs.length < 2 ^ 31) (hs : V.slots.size = N2.toNatClampNeg) (hv : RoadKit.Has V vs (.int 0)) : Cod cd cs.length (fun j => cs.getD j 0) V := by
  rcases h with ⟨rfl, rfl, rfl, h⟩ | ⟨rfl, rfl, rfl, c, hc, hw⟩
  · rw [n32 (by omega)] at hs
    exact Or.inl ⟨rfl, hs, fun j hj => ⟨by rw [hv j (by omega), low_at _ _ _ hj], by
      have e : cs.getD j 0 = cs[j] := by simp [List.getD_eq_getElem?_getD, hj]
      show ¬ 255 < cs.getD j 0
      rw [e]; exact h _ (List.getElem_mem _)⟩⟩
  · rw [n32 (by omega)] at hs
    obtain ⟨j, hj, rfl⟩ := List.getElem_of_mem hc
    exact Or.inr ⟨rfl, hs, fun j hj => ⟨by rw [hv _ (by omega), wide_lo _ _ _ hj], by rw [hv _ (by omega), wide_hi _ _ _ hj]⟩, j, hj, by
      have e : cs.getD j 0 = cs[j] := by simp [List.getD_eq_getElem?_getD, hj]
      show 255 < cs.getD j 0
      rw [e]; exact hw⟩
/-- an object of exactly java/lang/String, its two fields found: as the laws ask it -/
theorem strObj {Z U : State} {a0 : Array Value} {kI : Nat} (wi : (Jvm.Cond.instantiable ST kI).before a0 Z = true) (al : Z.vm.Alike U.vm) {x : Addr} {v0 c0 : Value} (E : RoadKit.Exa Z U.heap x ST) (V : RoadKit.Fld Z U.heap x ST "value" "[B" v0) (C : RoadKit.Fld Z U.heap x ST "coder" "B" c0) :
    ∃ (D : Cell) (fV fC : Field), Blank ST x D U ∧ Found ST "value" "[B" fV U ∧ Found ST "coder" "B" fC U ∧ D.slots[fV.slot]? = some v0 ∧ D.slots[fC.slot]? = some c0 ∧ RoadKit.slotOf Z ST "value" "[B" = fV.slot ∧ RoadKit.slotOf Z ST "coder" "B" = fC.slot := by
  obtain ⟨D, cfV, kV, iV, fV, hD, gV, stV, knV, obV, asV, slV⟩ := V
  obtain ⟨D', cfC, kC, iC, fC, hD', gC, stC, -, -, asC, slC⟩ := C
  cases hD.symm.trans hD'
  obtain ⟨D2, kD, e1, e2, e3, e4, e5⟩ := E
  cases hD.symm.trans e1
  obtain ⟨c2, k2, i1, i2, i3, -⟩ := Cond.instantiable_spec wi
  cases e2.symm.trans i1
  cases e3.symm.trans i2
  obtain ⟨kU, u1, u2⟩ := al.2.2 _ _ e3
  exact ⟨D, fV, fC, ⟨hD, ⟨knV, fun q hq => by rw [hq] at obV; cases obV⟩, by rw [al.findClass]; exact e2, kU, u1, by rw [u2]; exact i3, by rw [u2]; exact e5 i3⟩, ⟨SBG.found_only al ⟨cfV, kV, iV, gV⟩, stV⟩, ⟨SBG.found_only al ⟨cfC, kC, iC, gC⟩, stC⟩, slV, slC, by simp [RoadKit.slotOf, gV], by simp [RoadKit.slotOf, gC]⟩
theorem sta_is {Z U : State} (al : Z.vm.Alike U.vm) {C n d : String} {v : Value} (S : RoadKit.Sta Z U.heap C n d v) : StaticIs U C n d v := by
  obtain ⟨cfS, iS, kS, fS, st, cS, t1, t2, t3, t4, t5, t6, t7⟩ := S
  exact StaticIs.there (s := { Z with heap := U.heap }) ⟨cfS, iS, kS, fS, st, cS, t1, t2, t3, t4, t5, (fun q => by rw [q] at t6; cases t6), t7⟩ al rfl
end StrChars.Road
namespace StrChars
open Jvm Sem ClassFile Op Lib Jvm.Stand Jvm.Free.XT Jvm.Free.ALB Jvm.Free.JM Jvm.Free
open Jvm.Lib.Cold (StaticIs)
/-- what place i of a byte[]'s cell holds -/
def yv (A : Cell) (i : Nat) : Int32 := match A.slots[i]? with | some (.int x) => x | _ => 0
theorem yv_get {a : Addr} {A : Cell} {U : State} (h : XT.Arr .byte a A U) (ht : Typed .byte A) {i : Nat} (hi : i < A.slots.size) : A.slots[i]? = some (.int (yv A i)) := by
  have e := Array.getElem?_eq_getElem hi
  have f := ht i _ e
  unfold yv; rw [e]
  generalize A.slots[i] = v at f
  cases v <;> simp [fits] at f ⊢
/-- the two arrays are equal, place for place -/
def EqC (A B : Cell) : Prop := A.slots.size = B.slots.size ∧ ∀ i, i < A.slots.size → yv A i = yv B i
/-- a boolean that says whether p -/
def Says01 (q : Prop) (r : Option Value) (s u : State) : Prop := ∃ v : Int32, r = some (.int v) ∧ u.heap = s.heap ∧ ((v = 1 ∧ q) ∨ (v = 0 ∧ ¬ q))
theorem Says01.mv {q : Prop} : ∀ r (U U' V V' : State), U'.heap = U.heap → V.vm.Alike V'.vm → V'.heap = V.heap → Says01 q r U V → Says01 q r U' V' :=
  fun r U U' V V' h1 _ h2 ⟨v, a, b, c⟩ => ⟨v, a, by rw [h1, h2]; exact b, c⟩
namespace LEq
def yN : MethodName := ⟨"java/lang/StringLatin1", "equals", "([B[B)Z"⟩
abbrev yB : ByteArray := jdk_43_method_13_code
theorem d0 : decode yB 0 = .ok (.aload_n 0, 1) := by decide +kernel
theorem d1 : decode yB 1 = .ok (.arraylength, 1) := by decide +kernel
theorem d2 : decode yB 2 = .ok (.aload_n 1, 1) := by decide +kernel
theorem d3 : decode yB 3 = .ok (.arraylength, 1) := by decide +kernel
theorem d4 : decode yB 4 = .ok (.if_icmp (.ne) 30, 3) := by decide +kernel
theorem d7 : decode yB 7 = .ok (.iconst 0, 1) := by decide +kernel
theorem d8 : decode yB 8 = .ok (.istore_n 2, 1) := by decide +kernel
theorem d9 : decode yB 9 = .ok (.iload_n 2, 1) := by decide +kernel
theorem d10 : decode yB 10 = .ok (.aload_n 0, 1) := by decide +kernel
theorem d11 : decode yB 11 = .ok (.arraylength, 1) := by decide +kernel
theorem d12 : decode yB 12 = .ok (.if_icmp (.ge) 20, 3) := by decide +kernel
theorem d15 : decode yB 15 = .ok (.aload_n 0, 1) := by decide +kernel
theorem d16 : decode yB 16 = .ok (.iload_n 2, 1) := by decide +kernel
theorem d17 : decode yB 17 = .ok (.baload, 1) := by decide +kernel
theorem d18 : decode yB 18 = .ok (.aload_n 1, 1) := by decide +kernel
theorem d19 : decode yB 19 = .ok (.iload_n 2, 1) := by decide +kernel
theorem d20 : decode yB 20 = .ok (.baload, 1) := by decide +kernel
theorem d21 : decode yB 21 = .ok (.if_icmp (.eq) 5, 3) := by decide +kernel
theorem d24 : decode yB 24 = .ok (.iconst 0, 1) := by decide +kernel
theorem d25 : decode yB 25 = .ok (.ireturn, 1) := by decide +kernel
theorem d26 : decode yB 26 = .ok (.iinc 2 1, 3) := by decide +kernel
theorem d29 : decode yB 29 = .ok (.goto (-20), 3) := by decide +kernel
theorem d32 : decode yB 32 = .ok (.iconst 1, 1) := by decide +kernel
theorem d33 : decode yB 33 = .ok (.ireturn, 1) := by decide +kernel
theorem d34 : decode yB 34 = .ok (.iconst 0, 1) := by decide +kernel
theorem d35 : decode yB 35 = .ok (.ireturn, 1) := by decide +kernel
def site : List Cond := []
def tab : Cond := tabOf yN yB 3 (some .boolean) site
def P (a : Addr) (A : Cell) (b : Addr) (B : Cell) (args : Array Value) (s : State) : Prop := args = #[.ref a, .ref b] ∧ XT.Arr .byte a A s ∧ Typed .byte A ∧ XT.Arr .byte b B s ∧ Typed .byte B
/-- whether two byte[] are equal, place for place -/
theorem law (l : Launch) (a : Addr) (A : Cell) (b : Addr) (B : Cell) : Law l yN 2 2 0 0 yB 3 (some .boolean) site (P a A b B) (Says01 (EqC A B)) [] 0 0 := by
  refine Law.of_walk (plainFor_of_name (by decide +kernel)) (by decide +kernel) (by decide +kernel) (by decide) (fun _ _ h => by rw [h.1]; rfl) (fun _ U U' hal hh h => ⟨h.1, h.2.1.mv hal hh, h.2.2.1, h.2.2.2.1.mv hal hh, h.2.2.2.2⟩) (fun r U U' V V' h1 hal h2 h => Says01.mv r U U' V V' h1 hal h2 h) ?_
  intro p e s m args below meth c s₁ X0 hexec hbytes hml hret hlk hnm hown hh0 W hP
  obtain ⟨rfl, hA, tA, hB, tB⟩ := hP
  have a31 := hA.2.2.2
  have b31 := hB.2.2.2
  have hA0 := hA.mv X0.warmed.alike hh0
  have hB0 := hB.mv X0.warmed.alike hh0
  have c1 : Steps p.tables e below (s₁.setTop (entryFrame m #[.ref a, .ref b] 3)) (s₁.setTop (mkF m 0 #[.val (.ref a), .val (.ref b), .unset] [])) := entry rfl
  have c2 : Steps p.tables e below (s₁.setTop (entryFrame m #[.ref a, .ref b] 3)) (s₁.setTop (mkF m 4 #[.val (.ref a), .val (.ref b), .unset] [.int (Int32.ofNat B.slots.size), .int (Int32.ofNat A.slots.size)])) := c1.trans (by
    refine XS.aloadN X0.here hexec rfl (hb hbytes d0) rfl rfl ?_
    refine X0.alen hexec hA0 rfl rfl (hb hbytes d1) ?_
    refine XS.aloadN X0.here hexec rfl (hb hbytes d2) rfl rfl ?_
    refine X0.alen hexec hB0 rfl rfl (hb hbytes d3) ?_
    exact Steps.refl _)
  by_cases hs : A.slots.size = B.slots.size
  · have c3 : Steps p.tables e below (s₁.setTop (entryFrame m #[.ref a, .ref b] 3)) (s₁.setTop (mkF m 9 #[.val (.ref a), .val (.ref b), .val (.int 0)] [])) := c2.trans (by
      refine XS.icmpNo X0.here hexec rfl (hb hbytes d4) rfl (ii_ne_f (by rw [hs])) ?_
      refine iconstV X0.here hexec rfl 0 (hb hbytes d7) (by decide) ?_
      refine XS.istoreN X0.here hexec rfl (hb hbytes d8) rfl rfl ?_
      exact Steps.refl _)
    have loop : ∀ (r i : Nat), i + r = A.slots.size → (∀ j, j < i → yv A j = yv B j) → Steps p.tables e below (s₁.setTop (entryFrame m #[.ref a, .ref b] 3)) (s₁.setTop (mkF m 9 #[.val (.ref a), .val (.ref b), .val (.int (Int32.ofNat i))] [])) → ∃ (pc : Nat) (Ls : Array Slot) (v : Int32), (pc = 25 ∨ pc = 33) ∧ ((v = 1 ∧ EqC A B) ∨ (v = 0 ∧ ¬ EqC A B)) ∧ Steps p.tables e below (s₁.setTop (entryFrame m #[.ref a, .ref b] 3)) (s₁.setTop (mkF m pc Ls [.int v])) := by
      intro r
      induction r with
      | zero =>
        intro i hi he cl
        exact ⟨33, _, 1, Or.inr rfl, Or.inl ⟨rfl, hs, fun j hj => he j (by omega)⟩, cl.trans (by
          refine XS.iloadN X0.here hexec rfl (hb hbytes d9) rfl ?_
          refine XS.aloadN X0.here hexec rfl (hb hbytes d10) rfl rfl ?_
          refine X0.alen hexec hA0 rfl rfl (hb hbytes d11) ?_
          refine XS.icmpYes X0.here hexec rfl (pc0 := 12) rfl (hb hbytes d12) rfl (ii_ge_t (nlt32 (by omega) (by omega))) (by decide) rfl ?_
          refine iconstV X0.here hexec rfl 1 (hb hbytes d32) (by decide) ?_
          exact Steps.refl _)⟩
      | succ r ih =>
        intro i hi he cl
        have c4 : Steps p.tables e below (s₁.setTop (entryFrame m #[.ref a, .ref b] 3)) (s₁.setTop (mkF m 21 #[.val (.ref a), .val (.ref b), .val (.int (Int32.ofNat i))] [.int (yv B i), .int (yv A i)])) := cl.trans (by
          refine XS.iloadN X0.here hexec rfl (hb hbytes d9) rfl ?_
          refine XS.aloadN X0.here hexec rfl (hb hbytes d10) rfl rfl ?_
          refine X0.alen hexec hA0 rfl rfl (hb hbytes d11) ?_
          refine XS.icmpNo X0.here hexec rfl (hb hbytes d12) rfl (ii_ge_f (lt32 (by omega) (by omega))) ?_
          refine XS.aloadN X0.here hexec rfl (hb hbytes d15) rfl rfl ?_
          refine XS.iloadN X0.here hexec rfl (hb hbytes d16) rfl ?_
          refine X0.aget hexec hA0 rfl (yv_get hA tA (i := i) (by omega)) rfl rfl (hb hbytes d17) ?_
          refine XS.aloadN X0.here hexec rfl (hb hbytes d18) rfl rfl ?_
          refine XS.iloadN X0.here hexec rfl (hb hbytes d19) rfl ?_
          refine X0.aget hexec hB0 rfl (yv_get hB tB (i := i) (by omega)) rfl rfl (hb hbytes d20) ?_
          exact Steps.refl _)
        by_cases hv : yv A i = yv B i
        · have c5 : Steps p.tables e below (s₁.setTop (entryFrame m #[.ref a, .ref b] 3)) (s₁.setTop (mkF m 9 #[.val (.ref a), .val (.ref b), .val (.int (Int32.ofNat i + 1))] [])) := c4.trans (by
            refine XS.icmpYes X0.here hexec rfl (pc0 := 21) rfl (hb hbytes d21) rfl (ii_eq_t hv) (by decide) rfl ?_
            refine iincV X0.here hexec rfl 1 (hb hbytes d26) (by decide) rfl rfl ?_
            refine XS.goto X0.here hexec rfl (pc0 := 29) rfl (hb hbytes d29) (by decide) rfl ?_
            exact Steps.refl _)
          rw [succ32] at c5
          exact ih (i + 1) (by omega) (fun j hj => by
            by_cases e : j = i
            · rw [e]; exact hv
            · exact he j (by omega)) c5
        · exact ⟨25, _, 0, Or.inl rfl, Or.inr ⟨rfl, fun q => hv (q.2 i (by omega))⟩, c4.trans (by
            refine XS.icmpNo X0.here hexec rfl (hb hbytes d21) rfl (ii_eq_f hv) ?_
            refine iconstV X0.here hexec rfl 0 (hb hbytes d24) (by decide) ?_
            exact Steps.refl _)⟩
    obtain ⟨pc, Ls, v, hpc, hv, cz⟩ := loop A.slots.size 0 (by omega) (fun j hj => absurd hj (Nat.not_lt_zero j)) c3
    have nv : narrow .boolean (.int v) = .int v := by rcases hv with ⟨rfl, -⟩ | ⟨rfl, -⟩ <;> rfl
    rcases hpc with rfl | rfl
    · exact ⟨s₁, some (.int v), _, _, _, X0, rfl, rfl, rfl, (fun h => by cases h), ⟨v, rfl, hh0, hv⟩, fun fs hl => cz.trans (X0.ireturnOut hexec hret nv (Or.inr (Or.inl rfl)) (hb hbytes d25) hl)⟩
    · exact ⟨s₁, some (.int v), _, _, _, X0, rfl, rfl, rfl, (fun h => by cases h), ⟨v, rfl, hh0, hv⟩, fun fs hl => cz.trans (X0.ireturnOut hexec hret nv (Or.inr (Or.inl rfl)) (hb hbytes d33) hl)⟩
  · have c3 : Steps p.tables e below (s₁.setTop (entryFrame m #[.ref a, .ref b] 3)) (s₁.setTop (mkF m 35 #[.val (.ref a), .val (.ref b), .unset] [.int 0])) := c2.trans (by
      refine XS.icmpYes X0.here hexec rfl (pc0 := 4) rfl (hb hbytes d4) rfl (ii_ne_t (ne32 a31 b31 hs)) (by decide) rfl ?_
      refine iconstV X0.here hexec rfl 0 (hb hbytes d34) (by decide) ?_
      exact Steps.refl _)
    exact ⟨s₁, some (.int 0), _, _, _, X0, rfl, rfl, rfl, (fun h => by cases h), ⟨0, rfl, hh0, Or.inr ⟨rfl, fun q => hs q.1⟩⟩, fun fs hl => c3.trans (X0.ireturnOut hexec hret rfl (Or.inr (Or.inl rfl)) (hb hbytes d35) hl)⟩
end LEq
theorem Cod.ty {cd : Int32} {n : Nat} {f : Nat → Int32} {V : Cell} (h : Cod cd n f V) : Typed .byte V := fun i v hv => by
  have hi : i < V.slots.size := (Array.getElem?_eq_some_iff.mp hv).1
  rcases h with ⟨-, k1, k2⟩ | ⟨-, k1, k2, -⟩
  · rw [(k2 i (by omega)).1] at hv; cases hv; exact fits_lo8 _
  · rcases Nat.mod_two_eq_zero_or_one i with e | e
    · obtain ⟨j, rfl⟩ : ∃ j, i = 2 * j := ⟨i / 2, by omega⟩
      rw [(k2 j (by omega)).1] at hv; cases hv; exact fits_lo8 _
    · obtain ⟨j, rfl⟩ : ∃ j, i = 2 * j + 1 := ⟨i / 2, by omega⟩
      rw [(k2 j (by omega)).2] at hv; cases hv; exact fits_lo8 _
/-- the same text -/
def SameT (n : Nat) (f : Nat → Int32) (k : Nat) (g : Nat → Int32) : Prop := n = k ∧ ∀ j, j < n → f j = g j
theorem lo8_inj {x y : Int32} (h0 : ¬ x < 0) (h1 : ¬ 255 < x) (k0 : ¬ y < 0) (k1 : ¬ 255 < y) (h : lo8 x = lo8 y) : x = y := by
  rw [← lo8_mask h0 h1, ← lo8_mask k0 k1, h]
/-- arrays coded by one coder are equal just where the texts are -/
theorem Cod.eqv {cd : Int32} {n k : Nat} {f g : Nat → Int32} {V V' : Cell} (h : Cod cd n f V) (h' : Cod cd k g V') (hf : ∀ j, j < n → ¬ f j < 0 ∧ ¬ 65535 < f j) (hg : ∀ j, j < k → ¬ g j < 0 ∧ ¬ 65535 < g j) : EqC V V' ↔ SameT n f k g := by
  have yvv : ∀ {W : Cell} {i : Nat} {x : Int32}, W.slots[i]? = some (.int x) → yv W i = x := fun q => by unfold yv; rw [q]
  rcases h with ⟨rfl, k1, k2⟩ | ⟨rfl, k1, k2, -⟩
  · rcases h' with ⟨-, m1, m2⟩ | ⟨e, -⟩
    · constructor
      · rintro ⟨e1, e2⟩
        refine ⟨by omega, fun j hj => ?_⟩
        have q := e2 j (by omega)
        rw [yvv (k2 j hj).1, yvv (m2 j (by omega)).1] at q
        exact lo8_inj (hf j hj).1 (k2 j hj).2 (hg j (by omega)).1 (m2 j (by omega)).2 q
      · rintro ⟨rfl, e2⟩
        refine ⟨by omega, fun j hj => ?_⟩
        rw [yvv (k2 j (by omega)).1, yvv (m2 j (by omega)).1, e2 j (by omega)]
    · exact absurd e (by decide)
  · rcases h' with ⟨e, -⟩ | ⟨-, m1, m2, -⟩
    · exact absurd e (by decide)
    · constructor
      · rintro ⟨e1, e2⟩
        refine ⟨by omega, fun j hj => ?_⟩
        have q1 := e2 (2 * j) (by omega)
        have q2 := e2 (2 * j + 1) (by omega)
        rw [yvv (k2 j hj).1, yvv (m2 j (by omega)).1] at q1
        rw [yvv (k2 j hj).2, yvv (m2 j (by omega)).2] at q2
        rw [← pair_says (hf j hj).1 (hf j hj).2, ← pair_says (hg j (by omega)).1 (hg j (by omega)).2, q1, q2]
      · rintro ⟨rfl, e2⟩
        refine ⟨by omega, fun i hi => ?_⟩
        rcases Nat.mod_two_eq_zero_or_one i with e | e
        · obtain ⟨j, rfl⟩ : ∃ j, i = 2 * j := ⟨i / 2, by omega⟩
          rw [yvv (k2 j (by omega)).1, yvv (m2 j (by omega)).1, e2 j (by omega)]
        · obtain ⟨j, rfl⟩ : ∃ j, i = 2 * j + 1 := ⟨i / 2, by omega⟩
          rw [yvv (k2 j (by omega)).2, yvv (m2 j (by omega)).2, e2 j (by omega)]
/-- two codings differ: so do the texts -/
theorem Cod.dif {cd cd' : Int32} {n k : Nat} {f g : Nat → Int32} {V V' : Cell} (h : Cod cd n f V) (h' : Cod cd' k g V') (hne : ¬ cd = cd') : ¬ SameT n f k g := by
  rintro ⟨rfl, e⟩
  rcases h with ⟨rfl, -, k2⟩ | ⟨rfl, -, -, j, hj, hw⟩
  · rcases h' with ⟨rfl, -⟩ | ⟨-, -, -, j, hj, hw⟩
    · exact hne rfl
    · exact (k2 j hj).2 (by rw [e j hj]; exact hw)
  · rcases h' with ⟨-, -, m2⟩ | ⟨rfl, -⟩
    · exact (m2 j hj).2 (by rw [← e j hj]; exact hw)
    · exact hne rfl
/-- an object of exactly C is an instance of C -/
theorem cinst {p : Program} {l : Launch} {e : Env} {R : Room} {s : State} {m : MethodId} {args : Array Value} {below : List Frame} {meth : Method} {c : Code} {T : State} {locs : List Loc} {cells slots : Nat} (X : Stand p l e R s m args below meth c T locs cells slots) (hexec : p.tables.exec = Jvm.exec) {own C : String} {index : Nat} (hown : s.vm.findClass own = some m.cls) (hlink : (Cond.classLink own index C).before args s = true) {a : Addr} (hE : Exact C a T)
    {g : JFrame} (hg : g.method = m) {rest : List Value} (hstack : g.stack = .ref a :: rest) (hdg : decode c.code g.pc = .ok (.instanceof index, 3)) :
    ∃ T', Stand p l e R s m args below meth c T' locs cells slots ∧ T'.heap = T.heap ∧ ∀ target, Steps p.tables e below (T'.setTop { g with pc := g.pc + 3, stack := .int 1 :: rest }) target → Steps p.tables e below (T.setTop g) target := by
  obtain ⟨cB, h1, D, h2, h3, h4⟩ := hE
  have h1' : s.vm.findClass C = some cB := by rw [← X.warmed.alike.findClass]; exact h1
  obtain ⟨vm', X', st⟩ := X.instanceofYes hexec hown hlink h2 h4 h1' (by rw [h3]; exact Jvm.Free.SB.assignable_self _ _) hg hstack hdg
  exact ⟨_, X', rfl, st⟩
theorem cself {p : Program} {l : Launch} {e : Env} {R : Room} {s : State} {m : MethodId} {args : Array Value} {below : List Frame} {meth : Method} {c : Code} {T : State} {locs : List Loc} {cells slots : Nat} (X : Stand p l e R s m args below meth c T locs cells slots) (hexec : p.tables.exec = Jvm.exec) {own C : String} {index : Nat} (hown : s.vm.findClass own = some m.cls) (hlink : (Cond.classLink own index C).before args s = true) {a : Addr} (hE : Exact C a T)
    {g : JFrame} (hg : g.method = m) {rest : List Value} (hstack : g.stack = .ref a :: rest) (hdg : decode c.code g.pc = .ok (.checkcast index, 3)) :
    ∃ T', Stand p l e R s m args below meth c T' locs cells slots ∧ T'.heap = T.heap ∧ ∀ target, Steps p.tables e below (T'.setTop { g with pc := g.pc + 3, stack := .ref a :: rest }) target → Steps p.tables e below (T.setTop g) target := by
  obtain ⟨cB, h1, D, h2, h3, h4⟩ := hE
  have h1' : s.vm.findClass C = some cB := by rw [← X.warmed.alike.findClass]; exact h1
  obtain ⟨vm', X', st⟩ := X.checkcastYes hexec hown hlink h2 h4 h1' (by rw [h3]; exact Jvm.Free.SB.assignable_self _ _) hg hstack hdg
  exact ⟨_, X', rfl, fun t h => st t (by rw [← hstack] at h; exact h)⟩
namespace SEq
def yN : MethodName := ⟨"java/lang/String", "equals", "(Ljava/lang/Object;)Z"⟩
abbrev yB : ByteArray := jdk_42_method_66_code
theorem d0 : decode yB 0 = .ok (.aload_n 0, 1) := by decide +kernel
theorem d1 : decode yB 1 = .ok (.aload_n 1, 1) := by decide +kernel
theorem d2 : decode yB 2 = .ok (.if_acmp (.ne) 5, 3) := by decide +kernel
theorem d5 : decode yB 5 = .ok (.iconst 1, 1) := by decide +kernel
theorem d6 : decode yB 6 = .ok (.ireturn, 1) := by decide +kernel
theorem d7 : decode yB 7 = .ok (.aload_n 1, 1) := by decide +kernel
theorem d8 : decode yB 8 = .ok (.instanceof 10, 3) := by decide +kernel
theorem d11 : decode yB 11 = .ok (.ifCond (.eq) 43, 3) := by decide +kernel
theorem d14 : decode yB 14 = .ok (.aload_n 1, 1) := by decide +kernel
theorem d15 : decode yB 15 = .ok (.checkcast 10, 3) := by decide +kernel
theorem d18 : decode yB 18 = .ok (.astore_n 2, 1) := by decide +kernel
theorem d19 : decode yB 19 = .ok (.getstatic 38, 3) := by decide +kernel
theorem d22 : decode yB 22 = .ok (.ifCond (.eq) 14, 3) := by decide +kernel
theorem d25 : decode yB 25 = .ok (.aload_n 0, 1) := by decide +kernel
theorem d26 : decode yB 26 = .ok (.getfield 15, 3) := by decide +kernel
theorem d29 : decode yB 29 = .ok (.aload_n 2, 1) := by decide +kernel
theorem d30 : decode yB 30 = .ok (.getfield 15, 3) := by decide +kernel
theorem d33 : decode yB 33 = .ok (.if_icmp (.ne) 21, 3) := by decide +kernel
theorem d36 : decode yB 36 = .ok (.aload_n 0, 1) := by decide +kernel
theorem d37 : decode yB 37 = .ok (.getfield 9, 3) := by decide +kernel
theorem d40 : decode yB 40 = .ok (.aload_n 2, 1) := by decide +kernel
theorem d41 : decode yB 41 = .ok (.getfield 9, 3) := by decide +kernel
theorem d44 : decode yB 44 = .ok (.invokestatic 541, 3) := by decide +kernel
theorem d47 : decode yB 47 = .ok (.ifCond (.eq) 7, 3) := by decide +kernel
theorem d50 : decode yB 50 = .ok (.iconst 1, 1) := by decide +kernel
theorem d51 : decode yB 51 = .ok (.goto 4, 3) := by decide +kernel
theorem d54 : decode yB 54 = .ok (.iconst 0, 1) := by decide +kernel
theorem d55 : decode yB 55 = .ok (.ireturn, 1) := by decide +kernel
def site : List Cond := [.classLink "java/lang/String" 10 "java/lang/String", .fieldLink "java/lang/String" 38 "java/lang/String" "COMPACT_STRINGS" "Z", .fieldLink "java/lang/String" 15 "java/lang/String" "coder" "B", .fieldLink "java/lang/String" 9 "java/lang/String" "value" "[B", LEq.tab] ++ staticW "java/lang/String" 541 LEq.yN
def tab : Cond := tabOf yN yB 3 (some .boolean) site
def P (x t : Addr) (V : Cell) (cd : Int32) (n : Nat) (f : Nat → Int32) (y t' : Addr) (V' : Cell) (cd' : Int32) (k : Nat) (g : Nat → Int32) (z : Int32) (args : Array Value) (s : State) : Prop := args = #[.ref x, .ref y] ∧ Txt x t V cd n f s ∧ Txt y t' V' cd' k g s ∧ StaticIs s "java/lang/String" "COMPACT_STRINGS" "Z" (.int z) ∧ ¬ z = 0
/-- equals(Object) of two Strings: whether the texts are the same -/
theorem law (l : Launch) (x t : Addr) (V : Cell) (cd : Int32) (n : Nat) (f : Nat → Int32) (y t' : Addr) (V' : Cell) (cd' : Int32) (k : Nat) (g : Nat → Int32) (z : Int32) : Law l yN 2 1 1 14 yB 3 (some .boolean) site (P x t V cd n f y t' V' cd' k g z) (Says01 (SameT n f k g)) [] 0 0 := by
  refine Law.of_walk (plainFor_of_name (by decide +kernel)) (by decide +kernel) (by decide +kernel) (by decide) (fun _ _ h => by rw [h.1]; rfl) (fun _ U U' hal hh h => ⟨h.1, h.2.1.mv hal hh, h.2.2.1.mv hal hh, h.2.2.2.1.there hal hh, h.2.2.2.2⟩) (fun r U U' V V' h1 hal h2 h => Says01.mv r U U' V V' h1 hal h2 h) ?_
  intro p e s m args below meth c s₁ X0 hexec hbytes hml hret hlk hnm hown hh0 W hP
  obtain ⟨rfl, hx, hy, s1, hz⟩ := hP
  have c1 : Steps p.tables e below (s₁.setTop (entryFrame m #[.ref x, .ref y] 3)) (s₁.setTop (mkF m 2 #[.val (.ref x), .val (.ref y), .unset] [.ref y, .ref x])) := Steps.trans (entry rfl) (by
    show Steps p.tables e below (s₁.setTop (mkF m 0 #[.val (.ref x), .val (.ref y), .unset] [])) _
    refine XS.aloadN X0.here hexec rfl (hb hbytes d0) rfl rfl ?_
    refine XS.aloadN X0.here hexec rfl (hb hbytes d1) rfl rfl ?_
    exact Steps.refl _)
  by_cases hxy : x = y
  · have c2 : Steps p.tables e below (s₁.setTop (entryFrame m #[.ref x, .ref y] 3)) (s₁.setTop (mkF m 6 #[.val (.ref x), .val (.ref y), .unset] [.int 1])) := c1.trans (by
      refine acmpNo X0.here hexec rfl (hb hbytes d2) rfl rfl rfl (by simp [acmp, hxy]) ?_
      refine iconstV X0.here hexec rfl 1 (hb hbytes d5) (by decide) ?_
      exact Steps.refl _)
    subst hxy
    have ec : cd = cd' := by
      obtain ⟨D, fd, a1, a2, a3⟩ := hx.2.2.1
      obtain ⟨D', fd', b1, b2, b3⟩ := hy.2.2.1
      cases a1.symm.trans b1
      obtain ⟨q1, q2, q3, q4⟩ := a2.1
      obtain ⟨r1, r2, r3, r4⟩ := b2.1
      cases q4.symm.trans r4
      cases a3.symm.trans b3; rfl
    have et : t = t' := by
      obtain ⟨D, fd, a1, a2, a3⟩ := hx.2.1
      obtain ⟨D', fd', b1, b2, b3⟩ := hy.2.1
      cases a1.symm.trans b1
      obtain ⟨q1, q2, q3, q4⟩ := a2.1
      obtain ⟨r1, r2, r3, r4⟩ := b2.1
      cases q4.symm.trans r4
      cases a3.symm.trans b3; rfl
    subst ec et
    have ev : V = V' := by cases hx.2.2.2.1.1.symm.trans hy.2.2.2.1.1; rfl
    subst ev
    have hs : SameT n f k g := (Cod.eqv hx.2.2.2.2.1 hy.2.2.2.2.1 hx.2.2.2.2.2 hy.2.2.2.2.2).mp ⟨rfl, fun _ _ => rfl⟩
    exact ⟨s₁, some (.int 1), _, _, _, X0, rfl, rfl, rfl, (fun h => by cases h), ⟨1, rfl, hh0, Or.inl ⟨rfl, hs⟩⟩, fun fs hl => c2.trans (X0.ireturnOut hexec hret rfl (Or.inr (Or.inl rfl)) (hb hbytes d6) hl)⟩
  · have c2 : Steps p.tables e below (s₁.setTop (entryFrame m #[.ref x, .ref y] 3)) (s₁.setTop (mkF m 8 #[.val (.ref x), .val (.ref y), .unset] [.ref y])) := c1.trans (by
      refine acmpYes X0.here hexec rfl (pc0 := 2) rfl (hb hbytes d2) rfl rfl rfl (by simp [acmp, hxy]) (by decide) rfl ?_
      refine XS.aloadN X0.here hexec rfl (hb hbytes d7) rfl rfl ?_
      exact Steps.refl _)
    obtain ⟨T3, X3, q3, st3⟩ := cinst X0 hexec hown (wk W (.classLink "java/lang/String" 10 "java/lang/String")) (hy.mv X0.warmed.alike hh0).1 (g := (mkF m 8 #[.val (.ref x), .val (.ref y), .unset] [.ref y])) rfl (rest := []) rfl (hb hbytes d8)
    have hh3 := q3.trans hh0
    have c4 : Steps p.tables e below (s₁.setTop (entryFrame m #[.ref x, .ref y] 3)) (T3.setTop (mkF m 15 #[.val (.ref x), .val (.ref y), .unset] [.ref y])) := (c2.trans (st3 _ (Steps.refl _))).trans (by
      refine XS.ifNo X3.here hexec rfl (hb hbytes d11) rfl (i0_eq_f (by decide)) ?_
      refine XS.aloadN X3.here hexec rfl (hb hbytes d14) rfl rfl ?_
      exact Steps.refl _)
    obtain ⟨T5, X5, q5, st5⟩ := cself X3 hexec hown (wk W (.classLink "java/lang/String" 10 "java/lang/String")) (hy.mv X3.warmed.alike hh3).1 (g := (mkF m 15 #[.val (.ref x), .val (.ref y), .unset] [.ref y])) rfl (rest := []) rfl (hb hbytes d15)
    have hh5 := q5.trans hh3
    have c6 : Steps p.tables e below (s₁.setTop (entryFrame m #[.ref x, .ref y] 3)) (T5.setTop (mkF m 19 #[.val (.ref x), .val (.ref y), .val (.ref y)] [])) := (c4.trans (st5 _ (Steps.refl _))).trans (by
      refine XS.astoreN X5.here hexec rfl (hb hbytes d18) rfl rfl rfl ?_
      exact Steps.refl _)
    obtain ⟨T7, X7, q7, st7⟩ := X5.sget hexec hown (wk W (.fieldLink "java/lang/String" 38 "java/lang/String" "COMPACT_STRINGS" "Z")) s1 (fun _ _ h => by rw [hh5]; exact h) (g := (mkF m 19 #[.val (.ref x), .val (.ref y), .val (.ref y)] [])) rfl (hb hbytes d19)
    have hh7 := q7.trans hh5
    have c8 : Steps p.tables e below (s₁.setTop (entryFrame m #[.ref x, .ref y] 3)) (T7.setTop (mkF m 26 #[.val (.ref x), .val (.ref y), .val (.ref y)] [.ref x])) := (c6.trans (st7 _ (Steps.refl _))).trans (by
      refine XS.ifNo X7.here hexec rfl (hb hbytes d22) rfl (i0_eq_f hz) ?_
      refine XS.aloadN X7.here hexec rfl (hb hbytes d25) rfl rfl ?_
      exact Steps.refl _)
    obtain ⟨T9, X9, q9, st9⟩ := X7.hget hexec hown (wk W (.fieldLink "java/lang/String" 15 "java/lang/String" "coder" "B")) (hx.mv X7.warmed.alike hh7).2.2.1 (g := (mkF m 26 #[.val (.ref x), .val (.ref y), .val (.ref y)] [.ref x])) rfl (rest := []) rfl (hb hbytes d26)
    have hh9 := q9.trans hh7
    have c10 : Steps p.tables e below (s₁.setTop (entryFrame m #[.ref x, .ref y] 3)) (T9.setTop (mkF m 30 #[.val (.ref x), .val (.ref y), .val (.ref y)] [.ref y, .int cd])) := (c8.trans (st9 _ (Steps.refl _))).trans (by
      refine XS.aloadN X9.here hexec rfl (hb hbytes d29) rfl rfl ?_
      exact Steps.refl _)
    obtain ⟨T11, X11, q11, st11⟩ := X9.hget hexec hown (wk W (.fieldLink "java/lang/String" 15 "java/lang/String" "coder" "B")) (hy.mv X9.warmed.alike hh9).2.2.1 (g := (mkF m 30 #[.val (.ref x), .val (.ref y), .val (.ref y)] [.ref y, .int cd])) rfl (rest := [.int cd]) rfl (hb hbytes d30)
    have hh11 := q11.trans hh9
    have c12 : Steps p.tables e below (s₁.setTop (entryFrame m #[.ref x, .ref y] 3)) (T11.setTop (mkF m 33 #[.val (.ref x), .val (.ref y), .val (.ref y)] [.int cd', .int cd])) := c10.trans (st11 _ (Steps.refl _))
    by_cases hcd : cd = cd'
    · subst hcd
      have c13 : Steps p.tables e below (s₁.setTop (entryFrame m #[.ref x, .ref y] 3)) (T11.setTop (mkF m 37 #[.val (.ref x), .val (.ref y), .val (.ref y)] [.ref x])) := c12.trans (by
        refine XS.icmpNo X11.here hexec rfl (hb hbytes d33) rfl (ii_ne_f rfl) ?_
        refine XS.aloadN X11.here hexec rfl (hb hbytes d36) rfl rfl ?_
        exact Steps.refl _)
      obtain ⟨T14, X14, q14, st14⟩ := X11.hget hexec hown (wk W (.fieldLink "java/lang/String" 9 "java/lang/String" "value" "[B")) (hx.mv X11.warmed.alike hh11).2.1 (g := (mkF m 37 #[.val (.ref x), .val (.ref y), .val (.ref y)] [.ref x])) rfl (rest := []) rfl (hb hbytes d37)
      have hh14 := q14.trans hh11
      have c15 : Steps p.tables e below (s₁.setTop (entryFrame m #[.ref x, .ref y] 3)) (T14.setTop (mkF m 41 #[.val (.ref x), .val (.ref y), .val (.ref y)] [.ref y, .ref t])) := (c13.trans (st14 _ (Steps.refl _))).trans (by
        refine XS.aloadN X14.here hexec rfl (hb hbytes d40) rfl rfl ?_
        exact Steps.refl _)
      obtain ⟨T16, X16, q16, st16⟩ := X14.hget hexec hown (wk W (.fieldLink "java/lang/String" 9 "java/lang/String" "value" "[B")) (hy.mv X14.warmed.alike hh14).2.1 (g := (mkF m 41 #[.val (.ref x), .val (.ref y), .val (.ref y)] [.ref y, .ref t])) rfl (rest := [.ref t]) rfl (hb hbytes d41)
      have hh16 := q16.trans hh14
      have c17 : Steps p.tables e below (s₁.setTop (entryFrame m #[.ref x, .ref y] 3)) (T16.setTop (mkF m 44 #[.val (.ref x), .val (.ref y), .val (.ref y)] [.ref t', .ref t])) := c15.trans (st16 _ (Steps.refl _))
      obtain ⟨v18, T18, X18, E18, g18⟩ := X16.callS hexec (LEq.law l t V t' V') hown (wks W (staticW "java/lang/String" 541 LEq.yN)) (wk W LEq.tab) (W := 0) (Nat.le_of_ble_eq_true rfl) (Nat.le_of_ble_eq_true rfl) (Nat.le_refl _) (Nat.le_refl _) (g := (mkF m 44 #[.val (.ref x), .val (.ref y), .val (.ref y)] [.ref t', .ref t])) rfl (by rw [hml]; rfl) c17 (argsL := [.ref t, .ref t']) (rest := []) rfl rfl (by show 2 * 0 + 0 ≤ _; decide) (hb hbytes d44) (⟨rfl, hx.2.2.2.1.mv X16.warmed.alike hh16, hx.2.2.2.2.1.ty, hy.2.2.2.1.mv X16.warmed.alike hh16, hy.2.2.2.2.1.ty⟩)
      obtain ⟨v, rfl, q18, hv⟩ := E18
      have iff := Cod.eqv hx.2.2.2.2.1 hy.2.2.2.2.1 hx.2.2.2.2.2 hy.2.2.2.2.2
      rcases hv with ⟨rfl, he⟩ | ⟨rfl, he⟩
      · have c19 : Steps p.tables e below (s₁.setTop (entryFrame m #[.ref x, .ref y] 3)) (T18.setTop (mkF m 55 #[.val (.ref x), .val (.ref y), .val (.ref y)] [.int 1])) := Steps.trans g18 (by
          refine XS.ifNo X18.here hexec rfl (hb hbytes d47) rfl (i0_eq_f (by decide)) ?_
          refine iconstV X18.here hexec rfl 1 (hb hbytes d50) (by decide) ?_
          refine XS.goto X18.here hexec rfl (pc0 := 51) rfl (hb hbytes d51) (by decide) rfl ?_
          exact Steps.refl _)
        exact ⟨T18, some (.int 1), _, _, _, X18, rfl, rfl, rfl, (fun h => by cases h), ⟨1, rfl, q18.trans hh16, Or.inl ⟨rfl, iff.mp he⟩⟩, fun fs hl => c19.trans (X18.ireturnOut hexec hret rfl (Or.inr (Or.inl rfl)) (hb hbytes d55) hl)⟩
      · have c19 : Steps p.tables e below (s₁.setTop (entryFrame m #[.ref x, .ref y] 3)) (T18.setTop (mkF m 55 #[.val (.ref x), .val (.ref y), .val (.ref y)] [.int 0])) := Steps.trans g18 (by
          refine XS.ifYes X18.here hexec rfl (pc0 := 47) rfl (hb hbytes d47) rfl (i0_eq_t rfl) (by decide) rfl ?_
          refine iconstV X18.here hexec rfl 0 (hb hbytes d54) (by decide) ?_
          exact Steps.refl _)
        exact ⟨T18, some (.int 0), _, _, _, X18, rfl, rfl, rfl, (fun h => by cases h), ⟨0, rfl, q18.trans hh16, Or.inr ⟨rfl, fun q => he (iff.mpr q)⟩⟩, fun fs hl => c19.trans (X18.ireturnOut hexec hret rfl (Or.inr (Or.inl rfl)) (hb hbytes d55) hl)⟩
    · have c13 : Steps p.tables e below (s₁.setTop (entryFrame m #[.ref x, .ref y] 3)) (T11.setTop (mkF m 55 #[.val (.ref x), .val (.ref y), .val (.ref y)] [.int 0])) := c12.trans (by
        refine XS.icmpYes X11.here hexec rfl (pc0 := 33) rfl (hb hbytes d33) rfl (ii_ne_t hcd) (by decide) rfl ?_
        refine iconstV X11.here hexec rfl 0 (hb hbytes d54) (by decide) ?_
        exact Steps.refl _)
      exact ⟨T11, some (.int 0), _, _, _, X11, rfl, rfl, rfl, (fun h => by cases h), ⟨0, rfl, hh11, Or.inr ⟨rfl, Cod.dif hx.2.2.2.2.1 hy.2.2.2.2.1 hcd⟩⟩, fun fs hl => c13.trans (X11.ireturnOut hexec hret rfl (Or.inr (Or.inl rfl)) (hb hbytes d55) hl)⟩
theorem pays {l : Launch} {R : Room} {p : Program} {e : Env} {below : List Frame} {s : State} {sargs : Array Value} {len W : Nat} (x t : Addr) (V : Cell) (cd : Int32) (n : Nat) (f : Nat → Int32) (y t' : Addr) (V' : Cell) (cd' : Int32) (k : Nat) (g : Nat → Int32) (z : Int32) (htab : tab.before sargs s = true) (hfr : 2 ≤ R.frames) (hlo : W + 28 ≤ R.locals) :
    Back l R p e below s sargs yN len W (fun A₁ a₁ => A₁.cells + 0 ≤ R.cells ∧ A₁.slots + 0 ≤ R.slots ∧ P x t V cd n f y t' V' cd' k g z a₁ A₁.U) (fun A₁ _ v₁ B₁ => Says01 (SameT n f k g) v₁ A₁.U B₁.U ∧ B₁.locs = A₁.locs ++ [] ∧ B₁.cells = A₁.cells + 0 ∧ B₁.slots = A₁.slots + 0) :=
  (law l x t V cd n f y t' V' cd' k g z).pays htab hfr (by omega)
end SEq
end StrChars
namespace StrChars.Road
open Jvm Sem ClassFile Op Lib Jvm.Stand Jvm.Free Jvm.Free.XT
open Jvm.Lib.Cold (StaticIs)
/-- the words of String.equals(Object) -/
abbrev wordsEq : List Jvm.Cond := [.code SEq.yN SEq.yB 3 (some .boolean), .initialized ST, .classLink ST 10 ST, .fieldLink ST 38 ST "COMPACT_STRINGS" "Z", .fieldLink ST 15 ST "coder" "B", .fieldLink ST 9 ST "value" "[B", .methodLink ST 541 LEq.yN, .static LEq.yN, .code LEq.yN LEq.yB 3 (some .boolean), .initialized "java/lang/StringLatin1"]
theorem tabEq_of {a : Array Value} {s : State} (h : ∀ w ∈ wordsEq, w.before a s = true) : SEq.tab.before a s = true := by
  have hl : LEq.tab.before a s = true := unparts (wk h (.code LEq.yN LEq.yB 3 (some .boolean))) (wks h (.initialized LEq.yN.cls :: LEq.site))
  have q := consq hl h
  exact unparts (wk q (.code SEq.yN SEq.yB 3 (some .boolean))) (wks q (.initialized SEq.yN.cls :: SEq.site))
theorem movedEq {Z s : State} {a0 args : Array Value} (hZ : Z.Warmed39 s.vm) (hw : ∀ d ∈ wordsEq, d.before a0 Z = true) : ∀ d ∈ wordsEq, d.before args s = true := fun d hd => by
  have t : ∀ d ∈ wordsEq, (d.onTables && d.keepsFace) = true := by decide +kernel
  exact RoadKit.mv hZ (hw d hd) (t d hd)
/-- the road's facts of a String, as the laws ask it -/
theorem txt_of {Z U : State} {a0 : Array Value} {kI : Nat} (wi : (Jvm.Cond.instantiable ST kI).before a0 Z = true) (al : Z.vm.Alike U.vm) {x t : Addr} {kb : ClassId} {cs : List Int32} {cd N2 : Int32} {vs : List Value} (E : RoadKit.Exa Z U.heap x ST) (V : RoadKit.Fld Z U.heap x ST "value" "[B" (.ref t)) (C : RoadKit.Fld Z U.heap x ST "coder" "B" (.int cd)) (K : RoadKit.Arv Z U.heap t kb .byte N2 vs (.int 0)) (hc : CodA cs cd N2 vs) (hb : ∀ c ∈ cs, ¬ c < 0 ∧ ¬ (65535 : Int32) < c) (l2 : cs.length ≤ 4000) :
    ∃ A, Txt x t A cd cs.length (fun j => cs.getD j 0) U := by
  obtain ⟨A, K1, K2, K3, K4, K5, K6⟩ := K
  have hcod := hc.cod (by omega) K3 K5
  obtain ⟨D, fV, fC, hB, F1, F2, g1, g2, -, -⟩ := strObj wi al E V C
  exact ⟨A, ⟨_, hB.2.2.1, D, hB.1, rfl, by cases q : D.vm <;> first | rfl | exact absurd q (hB.2.1.2 _)⟩, Has.of hB F1 g1, Has.of hB F2 g2, ⟨K1.1, State.isArrayOf_alike al K1.2.1, K1.2.2, by rcases hcod with ⟨-, q, -⟩ | ⟨-, q, -⟩ <;> omega⟩, hcod, fun j hj => by
    have e : cs.getD j 0 = cs[j] := by simp [List.getD_eq_getElem?_getD, hj]
    show ¬ cs.getD j 0 < 0 ∧ ¬ 65535 < cs.getD j 0
    rw [e]; exact hb _ (List.getElem_mem _)⟩
theorem same_list (cs ds : List Int32) : SameT cs.length (fun j => cs.getD j 0) ds.length (fun j => ds.getD j 0) ↔ cs = ds := by
  constructor
  · rintro ⟨e, q⟩
    refine List.ext_getElem e fun j h1 h2 => ?_
    have := q j h1
    simpa [List.getD_eq_getElem?_getD, h1, h2] using this
  · rintro rfl
    exact ⟨rfl, fun _ _ => rfl⟩
/-- **equals(Object) OF TWO SUCH STRINGS**: 1 just where the chars are the same -/
theorem eqW {p : Program} {l : Launch} {e : Env} {R : Room} {s : State} {args : Array Value} {below : List Frame} {len W : Nat} {Z : State} {a0 : Array Value} {h : Heap} (hZ : Z.Warmed39 s.vm) (hw : ∀ d ∈ wordsEq, d.before a0 Z = true) {kI : Nat} (wi : (Jvm.Cond.instantiable ST kI).before a0 Z = true)
    {x t : Addr} {kb : ClassId} {cs : List Int32} {cd N2 : Int32} {vs : List Value} (E : RoadKit.Exa Z h x ST) (V : RoadKit.Fld Z h x ST "value" "[B" (.ref t)) (C : RoadKit.Fld Z h x ST "coder" "B" (.int cd)) (K : RoadKit.Arv Z h t kb .byte N2 vs (.int 0)) (hc : CodA cs cd N2 vs) (hb : ∀ c ∈ cs, ¬ c < 0 ∧ ¬ (65535 : Int32) < c) (l2 : cs.length ≤ 4000)
    {y t' : Addr} {kb' : ClassId} {ds : List Int32} {cd' N2' : Int32} {vs' : List Value} (E' : RoadKit.Exa Z h y ST) (V' : RoadKit.Fld Z h y ST "value" "[B" (.ref t')) (C' : RoadKit.Fld Z h y ST "coder" "B" (.int cd')) (K' : RoadKit.Arv Z h t' kb' .byte N2' vs' (.int 0)) (hc' : CodA ds cd' N2' vs') (hb' : ∀ c ∈ ds, ¬ c < 0 ∧ ¬ (65535 : Int32) < c) (l2' : ds.length ≤ 4000)
    {z : Int32} (S : RoadKit.Sta Z h ST "COMPACT_STRINGS" "Z" (.int z)) (hz : ¬ z = 0) (hfr : 2 ≤ R.frames) (hlo : W + 28 ≤ R.locals) :
    Back l R p e below s args (⟨"java/lang/String", "equals", "(Ljava/lang/Object;)Z"⟩ : MethodName) len W (fun P a => a = #[.ref x, .ref y] ∧ P.U.heap = h ∧ P.cells + 0 ≤ R.cells ∧ P.slots + 0 ≤ R.slots)
      (fun P _ v B => ∃ L, (((v = some (.int 1) ∧ cs = ds) ∨ (v = some (.int 0) ∧ ¬ cs = ds)) ∧ L = [] ∧ B.U.heap = h) ∧ B.locs = P.locs ++ L ∧ B.cells = P.cells + 0 ∧ B.slots = P.slots + 0) := by
  intro m meth c P g ig mk a X hg hsize hdg hW hn hp'
  obtain ⟨rfl, rfl, r1, r2⟩ := hp'
  have al : Z.vm.Alike P.U.vm := hZ.alike.trans X.warmed.alike
  obtain ⟨A, hx⟩ := txt_of wi al E V C K hc hb l2
  obtain ⟨A', hy⟩ := txt_of wi al E' V' C' K' hc' hb' l2'
  obtain ⟨v, B, X', ⟨⟨w, hv, hh, hq⟩, hl, hk, hs⟩, st⟩ := SEq.pays x t A cd cs.length (fun j => cs.getD j 0) y t' A' cd' ds.length (fun j => ds.getD j 0) z (tabEq_of (movedEq hZ hw)) hfr hlo m meth c P g ig mk _ X hg hsize hdg hW hn ⟨r1, r2, rfl, hx, hy, sta_is al S, hz⟩
  refine ⟨v, B, X', ⟨[], ⟨?_, rfl, hh⟩, hl, hk, hs⟩, st⟩
  rcases hq with ⟨rfl, q⟩ | ⟨rfl, q⟩
  · exact Or.inl ⟨hv, (same_list cs ds).mp q⟩
  · exact Or.inr ⟨hv, fun e => q ((same_list cs ds).mpr e)⟩
end StrChars.Road
namespace StrChars.Road
open Jvm Sem ClassFile Op Lib Jvm.Stand Jvm.Free Jvm.Free.XT
open Jvm.Lib.Cold (StaticIs)
/-- what backV says of its String, as the contracts of this text ask it: cs's low bytes, coder 0 -/
theorem codOf {cs : List Int32} {n : Nat} (hn : cs.length = n) (hb : ∀ c ∈ cs, ¬ 255 < c) : CodA cs 0 (Int32.ofNat n) ((cs.map lo8).map Value.int) := Or.inl ⟨rfl, by rw [hn], by simp [List.map_map, Function.comp_def], hb⟩
end StrChars.Road
end Jvm.Pilot.@@N@@
namespace Jvm.Pilot.@@N@@
open Jvm Jvm.ClassFile Sem Op Lib Jvm.Free Jvm.Stand Jvm.LawKit Jvm.RoadKit Bundle Jvm.Pilot.@@N@@.Jvm.D
def EL0 : List (String × Nat) := [("com/example/qrew/qrew/logic/Constant", 7), ("com/example/qrew/qrew/logic/Variable", 7), ("java/lang/String", 7)]
section Own
variable {p : Program} {l : Launch} {e : Env} {R rm : Room} {s : State} {m : MethodId} {args : Array Value} {below : List Frame} {meth : Method} {c : Code} {own nm : String} {bytes : ByteArray} {ml : Nat} {rt : Option FieldType} {Z : State} {a0 : Array Value} {EL : List (String × Nat)} {h0 : Heap} {ws : List Addr} {T : State} {h h' : Heap} {cells slots : Nat} {Q : Outcome → State → Prop} {Qv : Option Value → Heap → Prop} {pc : Nat} {Ls : Array Slot} {rest : List Value}
/-- the run from U comes to an end that says Q -/
def Go (p : Program) (e : Env) (below : List Frame) (Q : Outcome → State → Prop) (U : State) : Prop := ∃ s₂ o, Steps p.tables e below U s₂ ∧ s₂.status = .running ∧ Ended s₂ below o ∧ Q o s₂
theorem Go.of {U V : State} (g : Go p e below Q V) (k : ∀ t, Steps p.tables e below V t → Steps p.tables e below U t) : Go p e below Q U := by
  obtain ⟨s2, o, a, b⟩ := g; exact ⟨s2, o, k _ a, b⟩
/-- where the walk stands: all that does not depend on the road behind; vm0: the tables over which its Stand is -/
abbrev PosV (p : Program) (l : Launch) (e : Env) (R : Room) (s : State) (m : MethodId) (args : Array Value) (below : List Frame) (meth : Method) (c : Code) (own nm : String) (bytes : ByteArray) (ml : Nat) (rt : Option FieldType) (Z : State) (a0 : Array Value) (EL : List (String × Nat)) (h0 : Heap) (ws : List Addr) (T : State) (h : Heap) (cells slots : Nat) (vm0 : Vm) : Prop :=
  ∃ (k0 : Nat) (locs : List Loc), Stand p l e R (s.setVm vm0) m args below meth c T locs cells slots ∧
    (p.tables.exec = Jvm.exec ∧ c.code = bytes ∧ c.maxLocals = ml ∧ meth.sig.returnType = rt ∧ meth.locks = false ∧ meth.name = nm ∧ s.heap = h0 ∧ EW Z a0 EL ∧ Z.Warmed39 s.vm) ∧
    Z.Warmed39 vm0 ∧ vm0.findClass own = some m.cls ∧ s.Since vm0 k0 ∧ k0 ≤ h.size ∧ T.heap = h ∧ CHr Z EL s.vm h0 vm0 h ∧ Fr Z.heap.size locs ∧ Keep h0 h ws ∧ Ext Z.heap h
def Pos (p : Program) (l : Launch) (e : Env) (R : Room) (s : State) (m : MethodId) (args : Array Value) (below : List Frame) (meth : Method) (c : Code) (own nm : String) (bytes : ByteArray) (ml : Nat) (rt : Option FieldType) (Z : State) (a0 : Array Value) (EL : List (String × Nat)) (h0 : Heap) (ws : List Addr) (T : State) (h : Heap) (cells slots : Nat) : Prop :=
  ∃ vm0 : Vm, PosV p l e R s m args below meth c own nm bytes ml rt Z a0 EL h0 ws T h cells slots vm0
/-- how a contract ends -/
def Fini (Z : State) (EL : List (String × Nat)) (h0 : Heap) (ws : List Addr) (rm : Room) (Qv : Option Value → Heap → Prop) (s : State) (o : Outcome) (t : State) : Prop :=
  ∃ v L, o = .returned v ∧ (Fr Z.heap.size L ∧ Keep h0 t.heap ws ∧ Ext Z.heap t.heap ∧ Qv v t.heap) ∧ CHr Z EL s.vm s.heap t.vm t.heap ∧ ReturnedEndW s o t L rm.cells rm.slots
/-- a method's contract: what it leaves where it is called with these arguments over the heap h0 -/
def Con (l : Launch) (Z : State) (EL : List (String × Nat)) (wl : List Jvm.Cond) (y : MethodName) (bytes : ByteArray) (ml : Nat) (rt : Option FieldType) (rm : Room) (as : Array Value) (h0 : Heap) (ws : List Addr) (Qv : Option Value → Heap → Prop) : Prop :=
  MetFree l y (head1 (Jvm.Cond.code y bytes ml rt :: wl) rm) (fun a U => a = as ∧ Z.Warmed39 U.vm ∧ U.heap = h0 ∧ CHv Z EL U.vm h0) (fun _ _ _ _ _ => True) (fun _ U o U' => ∃ v L, o = .returned v ∧ (Fr Z.heap.size L ∧ Keep h0 U'.heap ws ∧ Ext Z.heap U'.heap ∧ Qv v U'.heap) ∧ CHr Z EL U.vm U.heap U'.vm U'.heap ∧ ReturnedEndW U o U' L rm.cells rm.slots)
theorem Con.of {wl : List Jvm.Cond} {y : MethodName} {as : Array Value} {f0 : MethodId → JFrame} (hpn : plainFor y = true) (hEL : EW Z a0 EL) (hO : Ext Z.heap h0) (hf0 : ∀ m, entryFrame m as ml = f0 m)
    (body : ∀ p e s m below meth c s₁, Pos p l e rm s m as below meth c y.cls y.name bytes ml rt Z a0 EL h0 ws s₁ h0 0 0 → Go p e below (Fini Z EL h0 ws rm Qv s) (s₁.setTop (f0 m))) : Con l Z EL wl y bytes ml rt rm as h0 ws Qv := by
  refine MetFree.of_bodySF (code := bytes) (maxLocals := ml) (ret := rt) hpn hisR ?_
  intro p e s m args below meth c s₁ Bd hml0 hP hK
  obtain ⟨rfl, hZ, hh, hC⟩ := hP
  have hown : s.vm.findClass y.cls = some m.cls := findClass_of_methodNamed Bd.named
  have hnm := (name_of_methodNamed Bd.named Bd.method).1
  have X0 : Stand p l e rm s m args below meth c s₁ [] 0 0 := Stand.of_body Bd
  have e0 : s₁.heap = h0 := by rw [← hh, Bd.state]; rfl
  have hP : Pos p l e rm s m args below meth c y.cls y.name bytes ml rt Z a0 EL h0 ws s₁ h0 0 0 :=
    ⟨s.vm, h0.size, [], X0, ⟨Bd.exec, Bd.bytes, hml0, Bd.returns, Bd.notSynchronized, hnm, hh, hEL, hZ⟩, hZ, hown, State.WarmedH.since (State.WarmedH.refl s) _, Nat.le_refl _, e0, CHr.refl hC, Fr.nil _, Keep.refl _ _, hO⟩
  obtain ⟨s2, o, a, b, c', d⟩ := body p e s m below meth c s₁ hP
  rw [hf0]
  exact ⟨s2, o, a, b, c', d⟩
theorem Pos.xs {U V : State} (P : Pos p l e R s m args below meth c own nm bytes ml rt Z a0 EL h0 ws T h cells slots)
    (f : At T m c below → p.tables.exec = Jvm.exec → c.code = bytes → ∀ t, Steps p.tables e below V t → Steps p.tables e below U t) (g : Go p e below Q V) : Go p e below Q U := by
  obtain ⟨vm0, k0, locs, X, ⟨hx, hby, -⟩, -⟩ := P
  exact g.of (f X.here hx hby)
theorem Pos.st {U V : State} (P : Pos p l e R s m args below meth c own nm bytes ml rt Z a0 EL h0 ws T h cells slots)
    (f : ∀ (vm0 : Vm) (locs : List Loc), Stand p l e R (s.setVm vm0) m args below meth c T locs cells slots → p.tables.exec = Jvm.exec → c.code = bytes → ∀ t, Steps p.tables e below V t → Steps p.tables e below U t) (g : Go p e below Q V) : Go p e below Q U := by
  obtain ⟨vm0, k0, locs, X, ⟨hx, hby, -⟩, -⟩ := P
  exact g.of (f vm0 locs X hx hby)
theorem Pos.old (P : Pos p l e R s m args below meth c own nm bytes ml rt Z a0 EL h0 ws T h cells slots) : Ext Z.heap h := by
  obtain ⟨vm0, k0, locs, X, -, -, -, -, -, -, -, -, -, O⟩ := P; exact O
theorem Pos.kept (P : Pos p l e R s m args below meth c own nm bytes ml rt Z a0 EL h0 ws T h cells slots) : Keep h0 h ws := by
  obtain ⟨vm0, k0, locs, X, -, -, -, -, -, -, -, -, K, -⟩ := P; exact K
theorem Pos.wider (P : Pos p l e R s m args below meth c own nm bytes ml rt Z a0 EL h0 ws T h cells slots) {cells' slots' : Nat} (hc : cells ≤ cells') (hs : slots ≤ slots') : Pos p l e R s m args below meth c own nm bytes ml rt Z a0 EL h0 ws T h cells' slots' := by
  obtain ⟨vm0, k0, locs, X, r⟩ := P
  exact ⟨vm0, k0, locs, { X with same := X.same.mono hc hs }, r⟩
/-- nothing old was written at the end: every way to leave -/
theorem Pos.ret {w : Option Value} {i : Instr} (P : Pos p l e R s m args below meth c own nm bytes ml rt Z a0 EL h0 ws T h cells slots) {stk : List Value}
    (hv : rt = none → w = none)
    (hst : ∀ (vm0 : Vm) (locs : List Loc) (fs : List Frame), Stand p l e R (s.setVm vm0) m args below meth c T locs cells slots → p.tables.exec = Jvm.exec → c.code = bytes → meth.sig.returnType = rt → (∀ (f : JFrame) (acts : List Action), f.method = m → f.locked = none → f.entered = [] → (doReturn e (T.setTop f) acts w).1 = T.setFrames fs) → Steps p.tables e below (T.setTop (mkF m pc Ls stk)) (T.setFrames fs))
    (hc : cells ≤ rm.cells) (hs : slots ≤ rm.slots) (q : Qv w h) : Go p e below (Fini Z EL h0 ws rm Qv s) (T.setTop (mkF m pc Ls stk)) := by
  obtain ⟨vm0, k0, locs, X, ⟨hx, hby, hml, hret, hlk, hnm, hh, hEL, hZs⟩, hZ, hown, hS, hk, eT, hC, N, K, O⟩ := P
  obtain ⟨fs, hr, hrun, hended, r1, r2, r3, r4⟩ := X.leaveW hS (by rw [eT]; exact hk) (v := w) (fun q => hv (hret.symm.trans q)) hlk
  refine ⟨_, _, hst vm0 locs fs X hx hby hret hr, hrun, hended, w, locs, rfl, ⟨N, ?_, ?_, ?_⟩, ?_, r1, r2, r3, r4.mono hc hs⟩
  · show Keep h0 T.heap ws; rw [eT]; exact K
  · show Ext Z.heap T.heap; rw [eT]; exact O
  · show Qv w T.heap; rw [eT]; exact q
  · show CHr Z EL s.vm s.heap T.vm T.heap
    rw [eT, hh]; exact hC.trans (CHv.at X hZ hEL hC.1)
theorem Pos.retR {w : Value} {t : FieldType} (P : Pos p l e R s m args below meth c own nm bytes ml rt Z a0 EL h0 ws T h cells slots) (hret : rt = some t) (ht : t.isReference = true) (hw : w.isRef = true) (hd : decode bytes pc = .ok (.areturn, 1)) (hc : cells ≤ rm.cells) (hs : slots ≤ rm.slots) (q : Qv (some w) h) :
    Go p e below (Fini Z EL h0 ws rm Qv s) (T.setTop (mkF m pc Ls (w :: rest))) :=
  P.ret (i := .areturn) (fun q => by rw [hret] at q; cases q) (fun vm0 locs fs X hx hby hr hl => retOut X hx (i := .areturn) (hr.trans hret) (by cases w <;> first | (cases t <;> rfl) | (simp [Value.isRef] at hw)) (Or.inr (Or.inr (Or.inr (Or.inr ⟨rfl, ht, hw⟩)))) (hb hby hd) hl) hc hs q
theorem Pos.retN {z : Int32} {t : FieldType} (P : Pos p l e R s m args below meth c own nm bytes ml rt Z a0 EL h0 ws T h cells slots) (hret : rt = some t) (ht : t = .boolean ∨ t = .byte ∨ t = .char ∨ t = .short) (hd : decode bytes pc = .ok (.ireturn, 1)) (hc : cells ≤ rm.cells) (hs : slots ≤ rm.slots) (q : Qv (some (.int (nar t z))) h) :
    Go p e below (Fini Z EL h0 ws rm Qv s) (T.setTop (mkF m pc Ls (.int z :: rest))) :=
  P.ret (i := .ireturn) (fun q => by rw [hret] at q; cases q) (fun vm0 locs fs X hx hby hr hl => Jvm.RoadKit.retN X hx (hr.trans hret) ht (hb hby hd) hl) hc hs q
theorem Pos.retI {z : Int32} (P : Pos p l e R s m args below meth c own nm bytes ml rt Z a0 EL h0 ws T h cells slots) (hret : rt = some .int) (hd : decode bytes pc = .ok (.ireturn, 1)) (hc : cells ≤ rm.cells) (hs : slots ≤ rm.slots) (q : Qv (some (.int z)) h) :
    Go p e below (Fini Z EL h0 ws rm Qv s) (T.setTop (mkF m pc Ls (.int z :: rest))) :=
  P.ret (i := .ireturn) (fun q => by rw [hret] at q; cases q) (fun vm0 locs fs X hx hby hr hl => retOut X hx (i := .ireturn) (hr.trans hret) rfl (Or.inl ⟨rfl, Or.inl rfl, z, rfl⟩) (hb hby hd) hl) hc hs q
theorem Pos.retV (P : Pos p l e R s m args below meth c own nm bytes ml rt Z a0 EL h0 ws T h cells slots) (hret : rt = none) (hd : decode bytes pc = .ok (.return_, 1)) (hc : cells ≤ rm.cells) (hs : slots ≤ rm.slots) (q : Qv none h) :
    Go p e below (Fini Z EL h0 ws rm Qv s) (T.setTop (mkF m pc Ls [])) :=
  P.ret (i := .return_) (fun _ => rfl) (fun vm0 locs fs X hx hby hr hl => X.returnOut hx (hr.trans hret) (hb hby hd) hl) hc hs q
/-- a step that leaves the heap, given in the library's shape -/
theorem Pos.same {U : State} (P : Pos p l e R s m args below meth c own nm bytes ml rt Z a0 EL h0 ws T h cells slots) {V : State → State}
    (f : ∀ (vm0 : Vm) (locs : List Loc), Stand p l e R (s.setVm vm0) m args below meth c T locs cells slots → p.tables.exec = Jvm.exec → c.code = bytes → c.maxLocals = ml → Z.Warmed39 vm0 → vm0.findClass own = some m.cls → T.heap = h →
      ∃ T', Stand p l e R (s.setVm vm0) m args below meth c T' locs cells slots ∧ T'.heap = h ∧ ∀ t, Steps p.tables e below (V T') t → Steps p.tables e below U t)
    (k : ∀ T', Pos p l e R s m args below meth c own nm bytes ml rt Z a0 EL h0 ws T' h cells slots → Go p e below Q (V T')) : Go p e below Q U := by
  obtain ⟨vm0, k0, locs, X, ⟨hx, hby, hml, hret, hlk, hnm, hh, hEL, hZs⟩, hZ, hown, hS, hk, eT, r⟩ := P
  obtain ⟨T', X', e', st⟩ := f vm0 locs X hx hby hml hZ hown eT
  exact (k T' ⟨vm0, k0, locs, X', ⟨hx, hby, hml, hret, hlk, hnm, hh, hEL, hZs⟩, hZ, hown, hS, hk, e', r⟩).of st
theorem Pos.getF (P : Pos p l e R s m args below meth c own nm bytes ml rt Z a0 EL h0 ws T h cells slots) {R0 O n d host : String} {index : Nat} (w : (Jvm.Cond.fieldLink own index R0 n d).before a0 Z = true ∨ (Jvm.Cond.fieldLinkNest own index R0 n d host).before a0 Z = true) (via : Via Z R0 O n d) {a : Addr} {v : Value} (F : Fld Z h a O n d v) (hd : decode bytes pc = .ok (.getfield index, 3))
    (k : ∀ T', Pos p l e R s m args below meth c own nm bytes ml rt Z a0 EL h0 ws T' h cells slots → Go p e below Q (T'.setTop (mkF m (pc + 3) Ls (v :: rest)))) : Go p e below Q (T.setTop (mkF m pc Ls (.ref a :: rest))) :=
  P.same (V := fun T' => T'.setTop (mkF m (pc + 3) Ls (v :: rest))) (fun vm0 locs X hx hby hml hZ hown eT => Jvm.RoadKit.getF X hx hZ hown w via eT F (g := mkF m pc Ls (.ref a :: rest)) rfl rfl (hb hby hd)) k
theorem Pos.getS (P : Pos p l e R s m args below meth c own nm bytes ml rt Z a0 EL h0 ws T h cells slots) {R0 O n d host : String} {index : Nat} (w : (Jvm.Cond.fieldLink own index R0 n d).before a0 Z = true ∨ (Jvm.Cond.fieldLinkNest own index R0 n d host).before a0 Z = true) (via : Via Z R0 O n d) {v : Value} (F : Sta Z Z.heap O n d v) (hd : decode bytes pc = .ok (.getstatic index, 3))
    (k : ∀ T', Pos p l e R s m args below meth c own nm bytes ml rt Z a0 EL h0 ws T' h cells slots → Go p e below Q (T'.setTop (mkF m (pc + 3) Ls (v :: rest)))) : Go p e below Q (T.setTop (mkF m pc Ls rest)) :=
  have O := P.old
  P.same (V := fun T' => T'.setTop (mkF m (pc + 3) Ls (v :: rest))) (fun vm0 locs X hx hby hml hZ hown eT => getS2 X hx hZ hown w via eT (F.ext O) (g := mkF m pc Ls rest) rfl (hb hby hd)) k
theorem Pos.cast (P : Pos p l e R s m args below meth c own nm bytes ml rt Z a0 EL h0 ws T h cells slots) {K : String} {index : Nat} (w : (Jvm.Cond.classLink own index K).before a0 Z = true) {a : Addr} (F : Ins Z h a K true) (hd : decode bytes pc = .ok (.checkcast index, 3))
    (k : ∀ T', Pos p l e R s m args below meth c own nm bytes ml rt Z a0 EL h0 ws T' h cells slots → Go p e below Q (T'.setTop (mkF m (pc + 3) Ls (.ref a :: rest)))) : Go p e below Q (T.setTop (mkF m pc Ls (.ref a :: rest))) :=
  P.same (V := fun T' => T'.setTop (mkF m (pc + 3) Ls (.ref a :: rest))) (fun vm0 locs X hx hby hml hZ hown eT => castY X hx hZ hown w eT F (g := mkF m pc Ls (.ref a :: rest)) rfl rfl (hb hby hd)) k
theorem Pos.inst (P : Pos p l e R s m args below meth c own nm bytes ml rt Z a0 EL h0 ws T h cells slots) {K : String} {index : Nat} (w : (Jvm.Cond.classLink own index K).before a0 Z = true) {a : Addr} (F : Ins Z h a K true) (hd : decode bytes pc = .ok (.instanceof index, 3))
    (k : ∀ T', Pos p l e R s m args below meth c own nm bytes ml rt Z a0 EL h0 ws T' h cells slots → Go p e below Q (T'.setTop (mkF m (pc + 3) Ls (.int 1 :: rest)))) : Go p e below Q (T.setTop (mkF m pc Ls (.ref a :: rest))) :=
  P.same (V := fun T' => T'.setTop (mkF m (pc + 3) Ls (.int 1 :: rest))) (fun vm0 locs X hx hby hml hZ hown eT => instY X hx hZ hown w eT F (g := mkF m pc Ls (.ref a :: rest)) rfl rfl (hb hby hd)) k
theorem Pos.init0 (P : Pos p l e R s m args below meth c own nm bytes ml rt Z a0 EL h0 ws T h cells slots) {index W : Nat} (w1 : (Jvm.Cond.methodLink own index Lib.objectInit).before a0 Z = true) (w2 : (Jvm.Cond.instanceMethod Lib.objectInit).before a0 Z = true) (w3 : (Jvm.Cond.code Lib.objectInit ⟨#[0xb1]⟩ 1 none).before a0 Z = true) {a : Addr} (hd : decode bytes pc = .ok (.invokespecial index, 3)) (hsz : Ls.size = ml) (hf : 1 ≤ R.frames) (hW : (rest.map fun v => v.category).sum ≤ W) (hl : W + 12 ≤ R.locals)
    (k : ∀ T', Pos p l e R s m args below meth c own nm bytes ml rt Z a0 EL h0 ws T' h cells slots → Go p e below Q (T'.setTop (mkF m (pc + 3) Ls rest))) : Go p e below Q (T.setTop (mkF m pc Ls (.ref a :: rest))) :=
  P.same (V := fun T' => T'.setTop (mkF m (pc + 3) Ls rest)) (fun vm0 locs X hx hby hml hZ hown eT => initO X hx hZ hown w1 w2 w3 eT (g := mkF m pc Ls (.ref a :: rest)) rfl (by rw [hml]; exact hsz) rfl (hb hby hd) hf (W := W) (by show 2 * 0 + _ ≤ _; rw [Nat.mul_zero, Nat.zero_add]; exact hW) hl) k
/-- a step that makes new cells alone -/
theorem Pos.grow {U : State} {dc dn : Nat} {A : State → Heap → Prop} {V : State → State} (P : Pos p l e R s m args below meth c own nm bytes ml rt Z a0 EL h0 ws T h cells slots)
    (f : ∀ (vm0 : Vm) (locs : List Loc), Stand p l e R (s.setVm vm0) m args below meth c T locs cells slots → p.tables.exec = Jvm.exec → c.code = bytes → Z.Warmed39 vm0 → vm0.findClass own = some m.cls → T.heap = h →
      ∃ T' h', Stand p l e R (s.setVm vm0) m args below meth c T' locs (cells + dc) (slots + dn) ∧ T'.heap = h' ∧ Ext h h' ∧ A T' h' ∧ ∀ t, Steps p.tables e below (V T') t → Steps p.tables e below U t)
    (k : ∀ T' h', Pos p l e R s m args below meth c own nm bytes ml rt Z a0 EL h0 ws T' h' (cells + dc) (slots + dn) → Ext h h' → A T' h' → Go p e below Q (V T')) : Go p e below Q U := by
  obtain ⟨vm0, k0, locs, X, ⟨hx, hby, hml, hret, hlk, hnm, hh, hEL, hZs⟩, hZ, hown, hS, hk, eT, hC, N, K, O⟩ := P
  obtain ⟨T', h', X', e', E, hA, st⟩ := f vm0 locs X hx hby hZ hown eT
  exact (k T' h' ⟨vm0, k0, locs, X', ⟨hx, hby, hml, hret, hlk, hnm, hh, hEL, hZs⟩, hZ, hown, hS, Nat.le_trans hk E.1, e', hC.trans (CHr.ext E hC.1), N, K.ext E, ⟨Nat.le_trans O.1 E.1, fun a c q => E.2 _ _ (O.2 _ _ q)⟩⟩ E hA).of st
theorem Pos.newO (P : Pos p l e R s m args below meth c own nm bytes ml rt Z a0 EL h0 ws T h cells slots) {C : String} {index n : Nat} (w : (Jvm.Cond.classLink own index C).before a0 Z = true) (wi : (Jvm.Cond.instantiable C n).before a0 Z = true) (wz : (Jvm.Cond.initialized C).before a0 Z = true) (hd : decode bytes pc = .ok (.new index, 3)) (hc : cells + 1 ≤ R.cells) (hl : slots + n ≤ R.slots)
    (k : ∀ T' h' x, x = h.size → Pos p l e R s m args below meth c own nm bytes ml rt Z a0 EL h0 ws T' h' (cells + 1) (slots + n) → Ext h h' → Exa Z h' x C → (∀ {O nm d : String} {ty : FieldType}, Laid Z a0 C O nm d → parseFieldDescriptor d = some ty → Fld Z h' x O nm d (defaultValue ty)) → Go p e below Q (T'.setTop (mkF m (pc + 3) Ls (.ref x :: rest)))) : Go p e below Q (T.setTop (mkF m pc Ls rest)) :=
  P.grow (V := fun T' => T'.setTop (mkF m (pc + 3) Ls (.ref h.size :: rest))) (A := fun T' h' => Exa Z h' h.size C ∧ ∀ {O nm d : String} {ty : FieldType}, Laid Z a0 C O nm d → parseFieldDescriptor d = some ty → Fld Z h' h.size O nm d (defaultValue ty))
    (fun vm0 locs X hx hby hZ hown eT => by
      obtain ⟨T', h', X', e', E, A, D, -, st⟩ := Jvm.RoadKit.newO X hx hZ hown w wi wz eT (g := mkF m pc Ls rest) rfl (hb hby hd) hc hl
      exact ⟨T', h', X', e', E, ⟨A, D⟩, st⟩)
    (fun T' h' P' E A => k T' h' _ rfl P' E A.1 A.2)
theorem Pos.newP (P : Pos p l e R s m args below meth c own nm bytes ml rt Z a0 EL h0 ws T h cells slots) {aty : ArrayType} {n : Int32} {cap : Nat} (w : (Jvm.Cond.arrayClass (newarray.typeOf aty)).before a0 Z = true) (hd : decode bytes pc = .ok (.newarray aty, 2)) (hn : ¬ n < 0) (hcap : n.toNatClampNeg ≤ cap) (hb8 : cap * 8 ≤ 536870912) (hc : cells + 1 ≤ R.cells) (hl : slots + cap ≤ R.slots)
    (k : ∀ T' h' x cA, x = h.size → Pos p l e R s m args below meth c own nm bytes ml rt Z a0 EL h0 ws T' h' (cells + 1) (slots + cap) → Ext h h' → Arv Z h' x cA (newarray.typeOf aty) n [] (defaultValue (newarray.typeOf aty)) → Go p e below Q (T'.setTop (mkF m (pc + 2) Ls (.ref x :: rest)))) : Go p e below Q (T.setTop (mkF m pc Ls (.int n :: rest))) :=
  P.grow (V := fun T' => T'.setTop (mkF m (pc + 2) Ls (.ref h.size :: rest))) (A := fun T' h' => ∃ cA, Arv Z h' h.size cA (newarray.typeOf aty) n [] (defaultValue (newarray.typeOf aty)))
    (fun vm0 locs X hx hby hZ hown eT => by
      obtain ⟨T', h', cA, X', e', E, A, st⟩ := Jvm.RoadKit.newP X hx hZ w eT (g := mkF m pc Ls (.int n :: rest)) rfl (hb hby hd) rfl hn hcap hb8 hc hl
      exact ⟨T', h', X', e', E, ⟨cA, Arv.new A hn⟩, st⟩)
    (fun T' h' P' E A => by obtain ⟨cA, A⟩ := A; exact k T' h' _ cA rfl P' E A)
theorem Pos.newR (P : Pos p l e R s m args below meth c own nm bytes ml rt Z a0 EL h0 ws T h cells slots) {C : String} {index : Nat} {n : Int32} {cap : Nat} (w1 : (Jvm.Cond.classLink own index C).before a0 Z = true) (w2 : (Jvm.Cond.arrayOver (.object C)).before a0 Z = true) (hd : decode bytes pc = .ok (.anewarray index, 3)) (hn : ¬ n < 0) (hcap : n.toNatClampNeg ≤ cap) (hb8 : cap * 8 ≤ 536870912) (hc : cells + 1 ≤ R.cells) (hl : slots + cap ≤ R.slots)
    (k : ∀ T' h' x cA, x = h.size → Pos p l e R s m args below meth c own nm bytes ml rt Z a0 EL h0 ws T' h' (cells + 1) (slots + cap) → Ext h h' → Arv Z h' x cA (.object C) n [] .null → Ovr Z cA C → Go p e below Q (T'.setTop (mkF m (pc + 3) Ls (.ref x :: rest)))) : Go p e below Q (T.setTop (mkF m pc Ls (.int n :: rest))) :=
  P.grow (V := fun T' => T'.setTop (mkF m (pc + 3) Ls (.ref h.size :: rest))) (A := fun T' h' => ∃ cA, Arv Z h' h.size cA (.object C) n [] .null ∧ Ovr Z cA C)
    (fun vm0 locs X hx hby hZ hown eT => by
      obtain ⟨T', h', cA, X', e', E, A, O, st⟩ := Jvm.RoadKit.newR X hx hZ hown w1 w2 eT (g := mkF m pc Ls (.int n :: rest)) rfl (hb hby hd) rfl hn hcap hb8 hc hl
      exact ⟨T', h', X', e', E, ⟨cA, Arv.new A hn, O⟩, st⟩)
    (fun T' h' P' E A => by obtain ⟨cA, A, O⟩ := A; exact k T' h' _ cA rfl P' E A O)
/-- a step that writes one place of a -/
theorem Pos.wr {U : State} {a : Addr} {sl : Nat} {v : Value} {V : State → State} (P : Pos p l e R s m args below meth c own nm bytes ml rt Z a0 EL h0 ws T h cells slots)
    (hsafe : ∀ vm, Z.vm.Alike s.vm → Z.vm.Alike vm → CHr Z EL s.vm h0 vm h → Safe Z EL vm h a) (hz : Z.heap.size ≤ a) (hws : a ∈ ws ∨ h0.size ≤ a)
    (f : ∀ (vm0 : Vm) (locs : List Loc), Stand p l e R (s.setVm vm0) m args below meth c T locs cells slots → p.tables.exec = Jvm.exec → c.code = bytes → Z.Warmed39 vm0 → vm0.findClass own = some m.cls → T.heap = h → meth.name = nm →
      ∃ T' h', Stand p l e R (s.setVm vm0) m args below meth c T' (locs ++ [⟨a, sl⟩]) cells slots ∧ T'.heap = h' ∧ Wr h h' a sl v ∧ ∀ t, Steps p.tables e below (V T') t → Steps p.tables e below U t)
    (k : ∀ T' h', Pos p l e R s m args below meth c own nm bytes ml rt Z a0 EL h0 ws T' h' cells slots → Wr h h' a sl v → Go p e below Q (V T')) : Go p e below Q U := by
  obtain ⟨vm0, k0, locs, X, ⟨hx, hby, hml, hret, hlk, hnm, hh, hEL, hZs⟩, hZ, hown, hS, hk, eT, hC, N, K, O⟩ := P
  obtain ⟨T', h', X', e', W, st⟩ := f vm0 locs X hx hby hZ hown eT hnm
  exact (k T' h' ⟨vm0, k0, _, X', ⟨hx, hby, hml, hret, hlk, hnm, hh, hEL, hZs⟩, hZ, hown, hS, Nat.le_trans hk (Nat.le_of_eq W.size.symm), e', hC.trans (CHr.wr W (hsafe vm0 hZs.alike hZ.alike hC) hC.1), Fr.snoc X' N hz, K.wr W hws,
    (Old.wr (n0 := Z.heap.size) ⟨rfl, O⟩ W hz).2⟩ W).of st
theorem Pos.putF (P : Pos p l e R s m args below meth c own nm bytes ml rt Z a0 EL h0 ws T h cells slots) {R0 O n d C : String} {index kk : Nat} {ty : FieldType} {a : Addr} {v v' old : Value}
    (w : (Jvm.Cond.fieldLink own index R0 n d).before a0 Z = true) (via : Via Z R0 O n d) (F : Fld Z h a O n d old) (E : Exa Z h a C) (L : (Jvm.Cond.lays C O n d).before a0 Z = true ∨ ((Jvm.Cond.laysFinal C O n d).before a0 Z = true ∧ own = O ∧ nm = "<init>")) (wi : (Jvm.Cond.instantiable C kk).before a0 Z = true)
    (hty : parseFieldDescriptor d = some ty) (hn : narrow ty v = v') (hf : fits ty v' = true) (hd : decode bytes pc = .ok (.putfield index, 3))
    (hsafe : ∀ vm, Z.vm.Alike s.vm → Z.vm.Alike vm → CHr Z EL s.vm h0 vm h → Safe Z EL vm h a) (hz : Z.heap.size ≤ a) (hws : a ∈ ws ∨ h0.size ≤ a)
    (k : ∀ T' h', Pos p l e R s m args below meth c own nm bytes ml rt Z a0 EL h0 ws T' h' cells slots → Wr h h' a (Jvm.RoadKit.slotOf Z O n d) v' → Go p e below Q (T'.setTop (mkF m (pc + 3) Ls rest))) : Go p e below Q (T.setTop (mkF m pc Ls (v :: .ref a :: rest))) :=
  P.wr hsafe hz hws (V := fun T' => T'.setTop (mkF m (pc + 3) Ls rest)) (fun vm0 locs X hx hby hZ hown eT hnm => putFN X hx hZ hown w via eT F E (L.imp id fun q => ⟨q.1, q.2.1, hnm.trans q.2.2⟩) wi hty hn hf (g := mkF m pc Ls (v :: .ref a :: rest)) rfl rfl (hb hby hd)) k
theorem inb {j : Int32} {i : Nat} {cl : Cell} {z : Int32} (hj : j.toNatClampNeg = i) (hj0 : ¬ j < 0) (hS : cl.slots.size = z.toNatClampNeg) (hlt : i < z.toNatClampNeg) : ¬ (j < 0 ∨ cl.slots.size ≤ j.toNatClampNeg) := by
  rintro (q | q)
  · exact hj0 q
  · rw [hS, hj] at q; omega
theorem Pos.stC (P : Pos p l e R s m args below meth c own nm bytes ml rt Z a0 EL h0 ws T h cells slots) {a : Addr} {kc : ClassId} {z j x x' : Int32} {vs : List Value} {dv : Value} (A : Arv Z h a kc .char z vs dv) (i : Nat) (hj : j.toNatClampNeg = i) (hj0 : ¬ j < 0) (hlt : i < z.toNatClampNeg) (hi : i < vs.length) (hx' : nar .char x = x') (hd : decode bytes pc = .ok (.castore, 1)) (hz : Z.heap.size ≤ a) (hws : a ∈ ws ∨ h0.size ≤ a)
    (k : ∀ T' h', Pos p l e R s m args below meth c own nm bytes ml rt Z a0 EL h0 ws T' h' cells slots → Wr h h' a j.toNatClampNeg (.int x') → Arv Z h' a kc .char z (vs.set i (.int x')) dv → Go p e below Q (T'.setTop (mkF m (pc + 1) Ls rest))) : Go p e below Q (T.setTop (mkF m pc Ls (.int x :: .int j :: .ref a :: rest))) := by
  obtain ⟨cl, Ar, q1, S, N, H, G⟩ := A
  subst hx'
  refine P.wr (fun vm _ hal _ => Safe.arr hal Ar (by decide)) hz hws (V := fun T' => T'.setTop (mkF m (pc + 1) Ls rest)) (fun vm0 locs X hx hby hZ hown eT hnm => Jvm.RoadKit.stC X hx hZ eT Ar (inb hj hj0 S hlt) (g := mkF m pc Ls (.int x :: .int j :: .ref a :: rest)) rfl rfl (hb hby hd)) (fun T' h' P' W => k T' h' P' W (Arv.set Ar q1 S N H G (fits_nar_char x) W i hj hi))
theorem Pos.stR (P : Pos p l e R s m args below meth c own nm bytes ml rt Z a0 EL h0 ws T h cells slots) {a : Addr} {kc : ClassId} {C : String} {z j : Int32} {y : Addr} {vs : List Value} {dv : Value} (A : Arv Z h a kc (.object C) z vs dv) (O : Ovr Z kc C) (I : Ins Z h y C true) (i : Nat) (hj : j.toNatClampNeg = i) (hj0 : ¬ j < 0) (hlt : i < z.toNatClampNeg) (hi : i < vs.length) (hd : decode bytes pc = .ok (.aastore, 1)) (hz : Z.heap.size ≤ a) (hws : a ∈ ws ∨ h0.size ≤ a)
    (k : ∀ T' h', Pos p l e R s m args below meth c own nm bytes ml rt Z a0 EL h0 ws T' h' cells slots → Wr h h' a j.toNatClampNeg (.ref y) → Arv Z h' a kc (.object C) z (vs.set i (.ref y)) dv → Go p e below Q (T'.setTop (mkF m (pc + 1) Ls rest))) : Go p e below Q (T.setTop (mkF m pc Ls (.ref y :: .int j :: .ref a :: rest))) := by
  obtain ⟨cl, Ar, q1, S, N, H, G⟩ := A
  refine P.wr (fun vm _ hal _ => Safe.arr hal Ar nofun) hz hws (V := fun T' => T'.setTop (mkF m (pc + 1) Ls rest)) (fun vm0 locs X hx hby hZ hown eT hnm => Jvm.RoadKit.stR X hx hZ eT Ar (inb hj hj0 S hlt) rfl (Sto.ofV Ar q1 O I) (g := mkF m pc Ls (.ref y :: .int j :: .ref a :: rest)) rfl rfl (hb hby hd)) (fun T' h' P' W => k T' h' P' W (Arv.set Ar q1 S N H G rfl W i hj hi))
/-- a String constant, opaque -/
theorem Pos.ldcO (P : Pos p l e R s m args below meth c own nm bytes ml rt Z a0 EL h0 ws T h cells slots) {text : String} {index n : Nat} (w : (Jvm.Cond.stringLink own index text).before a0 Z = true) (wS : ∀ a ∈ Bundle.stringAtoms, a.before a0 Z = true) (hd : decode bytes pc = .ok (.ldc index, 2)) (hn : 4 * text.toList.length ≤ n) (hbig : n ≤ 536870912) (hc : cells + 2 ≤ R.cells) (hl : slots + (n + 4) ≤ R.slots)
    (k : ∀ T' h' x, Pos p l e R s m args below meth c own nm bytes ml rt Z a0 EL h0 ws T' h' (cells + 2) (slots + (n + 4)) → Ext h h' → Go p e below Q (T'.setTop (mkF m (pc + 2) Ls (.ref x :: rest)))) : Go p e below Q (T.setTop (mkF m pc Ls rest)) := by
  obtain ⟨vm0, k0, locs, X, ⟨hx, hby, hml, hret, hlk, hnm, hh, hEL, hZs⟩, hZ, hown, hS, hk, eT, hC, N, K, O⟩ := P
  obtain ⟨a, T', h', k1, X', e', E, hS', hk', hZ', hown', hC', -, st⟩ := ldcOH X hx hZ hown w wS eT hS hk hEL hC.1 (g := mkF m pc Ls rest) rfl (hb hby hd) hn hbig hc hl
  exact (k T' h' a ⟨T'.vm, k1, locs, X', ⟨hx, hby, hml, hret, hlk, hnm, hh, hEL, hZs⟩, hZ', hown', hS', hk', e', hC.trans hC', N, K.ext E, ⟨Nat.le_trans O.1 E.1, fun a c q => E.2 _ _ (O.2 _ _ q)⟩⟩ E).of st
/-- a String constant, read -/
theorem Pos.ldcR (P : Pos p l e R s m args below meth c own nm bytes ml rt Z a0 EL h0 ws T h cells slots) {text : String} {index n : Nat} {vs : List Value} {z : Int32} (w : (Jvm.Cond.stringLink own index text).before a0 Z = true) (wS : ∀ a ∈ Bundle.stringAtoms, a.before a0 Z = true) (hmem : (own, index) ∈ EL) (ht : (∀ c ∈ text.toList, c.toNat < 256) ∧ text.toList.map (fun c => Value.int (Jvm.Lit.byteI c.toNat.toUInt16)) = vs) (hz : ¬ z < 0) (hl0 : z.toNatClampNeg = vs.length) (hd : decode bytes pc = .ok (.ldc index, 2)) (hn : 4 * text.toList.length ≤ n) (hbig : n ≤ 536870912) (hc : cells + 2 ≤ R.cells) (hl : slots + (n + 4) ≤ R.slots)
    (k : ∀ T' h' x b kb, Pos p l e R s m args below meth c own nm bytes ml rt Z a0 EL h0 ws T' h' (cells + 2) (slots + (n + 4)) → Ext h h' → Exa Z h' x "java/lang/String" → Fld Z h' x "java/lang/String" "coder" "B" (.int 0) → Fld Z h' x "java/lang/String" "value" "[B" (.ref b) → Arv Z h' b kb .byte z vs (.int 0) → Go p e below Q (T'.setTop (mkF m (pc + 2) Ls (.ref x :: rest)))) : Go p e below Q (T.setTop (mkF m pc Ls rest)) := by
  obtain ⟨vm0, k0, locs, X, ⟨hx, hby, hml, hret, hlk, hnm, hh, hEL, hZs⟩, hZ, hown, hS, hk, eT, hC, N, K, O⟩ := P
  obtain ⟨a, T', h', k1, b, kb, X', e', E, hS', hk', hZ', hown', f1, f2, f3, f4, -, -, hC', -, -, st⟩ := ldcCH X hx hZ hown w wS eT hS hk hEL hmem hC.1 ht hz hl0 (g := mkF m pc Ls rest) rfl (hb hby hd) hn hbig hc hl
  exact (k T' h' a b kb ⟨T'.vm, k1, locs, X', ⟨hx, hby, hml, hret, hlk, hnm, hh, hEL, hZs⟩, hZ', hown', hS', hk', e', hC.trans hC', N, K.ext E, ⟨Nat.le_trans O.1 E.1, fun a c q => E.2 _ _ (O.2 _ _ q)⟩⟩ E f1 f2 f3 f4).of st
/-- behind a call by contract: the point, all its facts -/
theorem Pos.after {vm0 : Vm} {k0 : Nat} {locs L : List Loc} {dc dn cc nn : Nat} {ws' : List Addr} {U : State} {LL : List Loc}
    (hR : p.tables.exec = Jvm.exec ∧ c.code = bytes ∧ c.maxLocals = ml ∧ meth.sig.returnType = rt ∧ meth.locks = false ∧ meth.name = nm ∧ s.heap = h0 ∧ EW Z a0 EL ∧ Z.Warmed39 s.vm) (hZ : Z.Warmed39 vm0) (hown : vm0.findClass own = some m.cls) (hS : s.Since vm0 k0) (hk : k0 ≤ h.size) (eT : T.heap = h) (hC : CHr Z EL s.vm h0 vm0 h) (N : Fr Z.heap.size locs) (K : Keep h0 h ws)
    (X' : Stand p l e R ((s.setVm vm0).setVm U.vm) m args below meth c U LL cc nn) (hS2 : (s.setVm vm0).Since U.vm U.heap.size) (g : T.heap.size ≤ U.heap.size) (hLL : LL = locs ++ L) (hcc : cc = cells + dc) (hnn : nn = slots + dn) (hC' : CHr Z EL vm0 h U.vm U.heap) (N' : Fr Z.heap.size L) (K' : Keep h U.heap ws') (O' : Ext Z.heap U.heap) (hws : ∀ x ∈ ws', x ∈ ws ∨ h0.size ≤ x) :
    Pos p l e R s m args below meth c own nm bytes ml rt Z a0 EL h0 ws U U.heap (cells + dc) (slots + dn) := by
  subst hLL hcc hnn
  rw [eT] at g
  obtain ⟨Y, hS3, hZ3, ho3⟩ := rebS hS hk X' hS2 g hZ hown
  exact ⟨U.vm, _, _, Y, hR, hZ3, ho3, hS3, Nat.le_refl _, rfl, hC.trans hC', N.app N', K.trans K' hws, O'⟩
theorem Pos.callS (P : Pos p l e R s m args below meth c own nm bytes ml rt Z a0 EL h0 ws T h cells slots) {index : Nat} {y : MethodName} {bytes' : ByteArray} {ml' W : Nat} {rt' : Option FieldType} {argsL stk : List Value} {ws' : List Addr} {ps : List FieldType} {r : Option FieldType}
    (w1 : (Jvm.Cond.methodLink own index y).before a0 Z = true) (w2 : (Jvm.Cond.static y).before a0 Z = true) (w3 : (Jvm.Cond.initialized y.cls).before a0 Z = true) (w4 : (Jvm.Cond.code y bytes' ml' rt').before a0 Z = true) (hy : y.cls ≠ "java/lang/invoke/MethodHandle" ∧ y.cls ≠ "java/lang/invoke/VarHandle")
    (C : Con l Z EL [] y bytes' ml' rt' rm argsL.toArray h ws' Qv) (hf : rm.frames + 1 ≤ R.frames) (hl : W + (ml' + 11) + rm.locals ≤ R.locals) (hc : cells + rm.cells ≤ R.cells) (hs : slots + rm.slots ≤ R.slots) (hws : ∀ x ∈ ws', x ∈ ws ∨ h0.size ≤ x)
    (pd : parseMethodDescriptor y.desc = some ⟨ps, r⟩) (hlen : argsL.length = ps.length) (hst : stk = argsL.reverse ++ rest) (hsz : Ls.size = ml) (hW : (rest.map fun v => v.category).sum ≤ W) (hd : decode bytes pc = .ok (.invokestatic index, 3))
    (k : ∀ v T' h', Pos p l e R s m args below meth c own nm bytes ml rt Z a0 EL h0 ws T' h' (cells + rm.cells) (slots + rm.slots) → Keep h h' ws' → Qv v h' → Go p e below Q (T'.setTop (mkF m (pc + 3) Ls (v.toList ++ rest)))) : Go p e below Q (T.setTop (mkF m pc Ls stk)) := by
  obtain ⟨vm0, k0, locs, X, hR, hZ, hown, hS, hk, eT, hC, N, K, O⟩ := P
  have hR' := hR
  obtain ⟨hx, hby, hml, hret, hlk, hnm, hh, hEL, hZs⟩ := hR'
  obtain ⟨v, _, ⟨U, LL, cc, nn⟩, -, X', hS2, hg, ⟨L, ⟨N', K', O', hQ⟩, hLL, hcc, hnn, hC'⟩, st⟩ := callSS X hx (y := y) hown (mvT (s := s.setVm vm0) hZ w1) (mvT (s := s.setVm vm0) hZ w2) (mvT (s := s.setVm vm0) hZ w3) (mvT (s := s.setVm vm0) hZ w4) hy (backOfSH (W := W) (vm0 := vm0) (Q := fun v h' L => Fr Z.heap.size L ∧ Keep h h' ws' ∧ Ext Z.heap h' ∧ Qv v h') C hZ w4 w3 hf hl hEL hC.1) (g := mkF m pc Ls stk) rfl (by rw [hml]; exact hsz) (argsL := argsL) (rest := rest) (lenOf pd hlen) hst (by show 2 * 0 + _ ≤ _; rw [Nat.mul_zero, Nat.zero_add]; exact hW) (hb hby hd) (fun _ _ => ⟨rfl, eT, hc, hs⟩)
  dsimp only at X' hS2 hg hLL hcc hnn hC' st N' K' O' hQ
  exact (k v U U.heap (Pos.after hR hZ hown hS hk eT hC N K X' hS2 hg hLL hcc hnn hC' N' K' O' hws) K' hQ).of (fun t q => st.trans q)
theorem Pos.callI (P : Pos p l e R s m args below meth c own nm bytes ml rt Z a0 EL h0 ws T h cells slots) {index : Nat} {y : MethodName} {bytes' : ByteArray} {ml' W : Nat} {a : Addr} {argsL stk : List Value} {ws' : List Addr} {ps : List FieldType} {r : Option FieldType} (hy1 : y.name = "<init>")
    (w1 : (Jvm.Cond.methodLink own index y).before a0 Z = true) (w2 : (Jvm.Cond.instanceMethod y).before a0 Z = true) (w3 : (Jvm.Cond.initialized y.cls).before a0 Z = true) (w4 : (Jvm.Cond.code y bytes' ml' none).before a0 Z = true) (hy : y.cls ≠ "java/lang/invoke/MethodHandle" ∧ y.cls ≠ "java/lang/invoke/VarHandle")
    (C : Con l Z EL [] y bytes' ml' none rm (.ref a :: argsL).toArray h ws' Qv) (hf : rm.frames + 1 ≤ R.frames) (hl : W + (ml' + 11) + rm.locals ≤ R.locals) (hc : cells + rm.cells ≤ R.cells) (hs : slots + rm.slots ≤ R.slots) (hws : ∀ x ∈ ws', x ∈ ws ∨ h0.size ≤ x)
    (pd : parseMethodDescriptor y.desc = some ⟨ps, r⟩) (hlen : argsL.length = ps.length) (hst : stk = argsL.reverse ++ .ref a :: rest) (hsz : Ls.size = ml) (hW : (rest.map fun v => v.category).sum ≤ W) (hd : decode bytes pc = .ok (.invokespecial index, 3))
    (k : ∀ v T' h', Pos p l e R s m args below meth c own nm bytes ml rt Z a0 EL h0 ws T' h' (cells + rm.cells) (slots + rm.slots) → Keep h h' ws' → Qv v h' → Go p e below Q (T'.setTop (mkF m (pc + 3) Ls (v.toList ++ rest)))) : Go p e below Q (T.setTop (mkF m pc Ls stk)) := by
  obtain ⟨vm0, k0, locs, X, hR, hZ, hown, hS, hk, eT, hC, N, K, O⟩ := P
  have hR' := hR
  obtain ⟨hx, hby, hml, hret, hlk, hnm, hh, hEL, hZs⟩ := hR'
  obtain ⟨v, _, ⟨U, LL, cc, nn⟩, -, X', hS2, hg, ⟨L, ⟨N', K', O', hQ⟩, hLL, hcc, hnn, hC'⟩, st⟩ := X.specialBackS hx (y := y) hy1 hown (mvT (s := s.setVm vm0) hZ w1) (mvT (s := s.setVm vm0) hZ w2) (mvT (s := s.setVm vm0) hZ w4) hy (backOfSH (W := W) (vm0 := vm0) (Q := fun v h' L => Fr Z.heap.size L ∧ Keep h h' ws' ∧ Ext Z.heap h' ∧ Qv v h') C hZ w4 w3 hf hl hEL hC.1) (g := mkF m pc Ls stk) rfl (by rw [hml]; exact hsz) (Steps.refl _) (a := a) (argsL := argsL) (rest := rest) (lenOf pd hlen) hst (by show 2 * 0 + _ ≤ _; rw [Nat.mul_zero, Nat.zero_add]; exact hW) (hb hby hd) (fun _ _ => ⟨rfl, eT, hc, hs⟩)
  dsimp only at X' hS2 hg hLL hcc hnn hC' st N' K' O' hQ
  exact (k v U U.heap (Pos.after hR hZ hown hS hk eT hC N K X' hS2 hg hLL hcc hnn hC' N' K' O' hws) K' hQ).of (fun t q => st.trans q)
theorem Pos.callV (P : Pos p l e R s m args below meth c own nm bytes ml rt Z a0 EL h0 ws T h cells slots) {index : Nat} {y z : MethodName} {bytes' : ByteArray} {ml' W : Nat} {rt' : Option FieldType} {C : String} {a : Addr} {argsL stk : List Value} {ws' : List Addr} {ps : List FieldType} {r : Option FieldType}
    (w1 : (Jvm.Cond.methodLink own index y).before a0 Z = true) (w2 : (Jvm.Cond.declares y).before a0 Z = true) (w5 : (Jvm.Cond.selects C y z).before a0 Z = true) (hnf : ∀ vm0, Z.Warmed39 vm0 → NotFace (s.setVm vm0) y) (w6 : (Jvm.Cond.instanceMethod z).before a0 Z = true) (w3 : (Jvm.Cond.initialized z.cls).before a0 Z = true) (w4 : (Jvm.Cond.code z bytes' ml' rt').before a0 Z = true) (hy : y.cls ≠ "java/lang/invoke/MethodHandle" ∧ y.cls ≠ "java/lang/invoke/VarHandle") (E : Exa Z h a C)
    (Cn : Con l Z EL [] z bytes' ml' rt' rm (.ref a :: argsL).toArray h ws' Qv) (hf : rm.frames + 1 ≤ R.frames) (hl : W + (ml' + 11) + rm.locals ≤ R.locals) (hc : cells + rm.cells ≤ R.cells) (hs : slots + rm.slots ≤ R.slots) (hws : ∀ x ∈ ws', x ∈ ws ∨ h0.size ≤ x)
    (pd : parseMethodDescriptor y.desc = some ⟨ps, r⟩) (hlen : argsL.length = ps.length) (hst : stk = argsL.reverse ++ .ref a :: rest) (hsz : Ls.size = ml) (hW : (rest.map fun v => v.category).sum ≤ W) (hd : decode bytes pc = .ok (.invokevirtual index, 3))
    (k : ∀ v T' h', Pos p l e R s m args below meth c own nm bytes ml rt Z a0 EL h0 ws T' h' (cells + rm.cells) (slots + rm.slots) → Keep h h' ws' → Qv v h' → Go p e below Q (T'.setTop (mkF m (pc + 3) Ls (v.toList ++ rest)))) : Go p e below Q (T.setTop (mkF m pc Ls stk)) := by
  obtain ⟨vm0, k0, locs, X, hR, hZ, hown, hS, hk, eT, hC, N, K, O⟩ := P
  have hR' := hR
  obtain ⟨hx, hby, hml, hret, hlk, hnm, hh, hEL, hZs⟩ := hR'
  obtain ⟨cq, kq, qa, qb, qc⟩ := isOf (s := s.setVm vm0) (T := T) hZ eT E
  obtain ⟨v, _, ⟨U, LL, cc, nn⟩, -, X', hS2, hg, ⟨L, ⟨N', K', O', hQ⟩, hLL, hcc, hnn, hC'⟩, st⟩ := X.virtualBackS hx (y := y) (z := z) hown (mvT (s := s.setVm vm0) hZ w1) (mvT (s := s.setVm vm0) hZ w2) (hnf vm0 hZ) (mvT (s := s.setVm vm0) hZ w5) (mvT (s := s.setVm vm0) hZ w6) hy (backOfSH (W := W) (vm0 := vm0) (Q := fun v h' L => Fr Z.heap.size L ∧ Keep h h' ws' ∧ Ext Z.heap h' ∧ Qv v h') Cn hZ w4 w3 hf hl hEL hC.1) qa qc (g := mkF m pc Ls stk) rfl (by rw [hml]; exact hsz) (Steps.refl _) (argsL := argsL) (rest := rest) (lenOf pd hlen) hst (by show 2 * 0 + _ ≤ _; rw [Nat.mul_zero, Nat.zero_add]; exact hW) (hb hby hd) (fun _ _ => ⟨rfl, eT, hc, hs⟩)
  dsimp only at X' hS2 hg hLL hcc hnn hC' st N' K' O' hQ
  exact (k v U U.heap (Pos.after hR hZ hown hS hk eT hC N K X' hS2 hg hLL hcc hnn hC' N' K' O' hws) K' hQ).of (fun t q => st.trans q)
theorem nfOf {y : MethodName} {C : String} (w5 : (Jvm.Cond.selects C y y).before a0 Z = true) : ∀ vm0, Z.Warmed39 vm0 → NotFace (s.setVm vm0) y := fun vm0 hZ => notFace_of_selects (args := #[]) (mvT (s := s.setVm vm0) hZ w5)
/-- behind a call by one of the library's payers (it interns nothing) -/
theorem Pos.afterB {vm0 : Vm} {k0 : Nat} {locs L : List Loc} {dc dn cc nn : Nat} {ws' : List Addr} {U : State} {LL : List Loc}
    (hR : p.tables.exec = Jvm.exec ∧ c.code = bytes ∧ c.maxLocals = ml ∧ meth.sig.returnType = rt ∧ meth.locks = false ∧ meth.name = nm ∧ s.heap = h0 ∧ EW Z a0 EL ∧ Z.Warmed39 s.vm) (hZ : Z.Warmed39 vm0) (hown : vm0.findClass own = some m.cls) (hS : s.Since vm0 k0) (hk : k0 ≤ h.size) (hC : CHr Z EL s.vm h0 vm0 h) (N : Fr Z.heap.size locs) (K : Keep h0 h ws) (O : Ext Z.heap h)
    (X' : Stand p l e R (s.setVm vm0) m args below meth c U LL cc nn) (hLL : LL = locs ++ L) (hcc : cc = cells + dc) (hnn : nn = slots + dn) (N' : Fr Z.heap.size L) (K' : Keep h U.heap ws') (hws : ∀ x ∈ ws', (x ∈ ws ∨ h0.size ≤ x) ∧ Z.heap.size ≤ x) (hsafe : ∀ vm, Z.vm.Alike s.vm → Z.vm.Alike vm → CHr Z EL s.vm h0 vm h → ∀ x ∈ ws', Safe Z EL vm h x) :
    Pos p l e R s m args below meth c own nm bytes ml rt Z a0 EL h0 ws U U.heap (cells + dc) (slots + dn) := by
  subst hLL hcc hnn
  exact ⟨vm0, k0, _, X', hR, hZ, hown, hS, Nat.le_trans hk K'.1, rfl, hC.trans (CHr.keep K' (hsafe vm0 hR.2.2.2.2.2.2.2.2.alike hZ.alike hC) hC.1), N.app N', K.trans K' (fun x hx => (hws x hx).1), (Old.keep (n0 := Z.heap.size) ⟨rfl, O⟩ K' (fun x hx => (hws x hx).2)).2⟩
theorem Pos.specB (P : Pos p l e R s m args below meth c own nm bytes ml rt Z a0 EL h0 ws T h cells slots) {index : Nat} {y : MethodName} {bytes' : ByteArray} {ml' W dc dn : Nat} {a : Addr} {argsL stk : List Value} {as' : Array Value} {ws' : List Addr} {ps : List FieldType} {r : Option FieldType} {Qx : Option Value → Heap → List Loc → Prop} (hy1 : y.name = "<init>")
    (w1 : (Jvm.Cond.methodLink own index y).before a0 Z = true) (w2 : (Jvm.Cond.instanceMethod y).before a0 Z = true) (w4 : (Jvm.Cond.code y bytes' ml' none).before a0 Z = true) (hy : y.cls ≠ "java/lang/invoke/MethodHandle" ∧ y.cls ≠ "java/lang/invoke/VarHandle")
    (B : ∀ vm0 : Vm, Z.Warmed39 (s.setVm vm0).vm → Back l R p e below (s.setVm vm0) args y 3 W (fun P a => a = as' ∧ P.U.heap = h ∧ P.cells + dc ≤ R.cells ∧ P.slots + dn ≤ R.slots) (fun P _ v B => ∃ L, Qx v B.U.heap L ∧ B.locs = P.locs ++ L ∧ B.cells = P.cells + dc ∧ B.slots = P.slots + dn)) (has : (.ref a :: argsL).toArray = as')
    (hQ : ∀ v h' L, Qx v h' L → Fr Z.heap.size L ∧ Keep h h' ws') (hc : cells + dc ≤ R.cells) (hs : slots + dn ≤ R.slots) (hws : ∀ x ∈ ws', (x ∈ ws ∨ h0.size ≤ x) ∧ Z.heap.size ≤ x) (hsafe : ∀ vm, Z.vm.Alike s.vm → Z.vm.Alike vm → CHr Z EL s.vm h0 vm h → ∀ x ∈ ws', Safe Z EL vm h x)
    (pd : parseMethodDescriptor y.desc = some ⟨ps, r⟩) (hlen : argsL.length = ps.length) (hst : stk = argsL.reverse ++ .ref a :: rest) (hsz : Ls.size = ml) (hW : (rest.map fun v => v.category).sum ≤ W) (hd : decode bytes pc = .ok (.invokespecial index, 3))
    (k : ∀ v T' h' L, Pos p l e R s m args below meth c own nm bytes ml rt Z a0 EL h0 ws T' h' (cells + dc) (slots + dn) → Qx v h' L → Go p e below Q (T'.setTop (mkF m (pc + 3) Ls (v.toList ++ rest)))) : Go p e below Q (T.setTop (mkF m pc Ls stk)) := by
  obtain ⟨vm0, k0, locs, X, hR, hZ, hown, hS, hk, eT, hC, N, K, O⟩ := P
  have hR' := hR
  obtain ⟨hx, hby, hml, hret, hlk, hnm, hh, hEL, hZs⟩ := hR'
  obtain ⟨v, _, ⟨U, LL, cc, nn⟩, -, X', ⟨L, hq, hLL, hcc, hnn⟩, st⟩ := X.specialBack hx (y := y) hy1 hown (mvT (s := s.setVm vm0) hZ w1) (mvT (s := s.setVm vm0) hZ w2) (mvT (s := s.setVm vm0) hZ w4) hy (B vm0 hZ) (g := mkF m pc Ls stk) rfl (by rw [hml]; exact hsz) (Steps.refl _) (a := a) (argsL := argsL) (rest := rest) (lenOf pd hlen) hst (by show 2 * 0 + _ ≤ _; rw [Nat.mul_zero, Nat.zero_add]; exact hW) (hb hby hd) (fun _ _ => ⟨has, eT, hc, hs⟩)
  dsimp only at X' hLL hcc hnn st hq
  obtain ⟨N', K'⟩ := hQ _ _ _ hq
  exact (k v U U.heap L (Pos.afterB hR hZ hown hS hk hC N K O X' hLL hcc hnn N' K' hws hsafe) hq).of (fun t q => st.trans q)
theorem Pos.virtB (P : Pos p l e R s m args below meth c own nm bytes ml rt Z a0 EL h0 ws T h cells slots) {index : Nat} {y z : MethodName} {W dc dn : Nat} {C : String} {a : Addr} {argsL stk : List Value} {as' : Array Value} {ws' : List Addr} {ps : List FieldType} {r : Option FieldType} {Qx : Option Value → Heap → List Loc → Prop}
    (w1 : (Jvm.Cond.methodLink own index y).before a0 Z = true) (w2 : (Jvm.Cond.declares y).before a0 Z = true) (w5 : (Jvm.Cond.selects C y z).before a0 Z = true) (hnf : ∀ vm0, Z.Warmed39 vm0 → NotFace (s.setVm vm0) y) (w6 : (Jvm.Cond.instanceMethod z).before a0 Z = true) (hy : y.cls ≠ "java/lang/invoke/MethodHandle" ∧ y.cls ≠ "java/lang/invoke/VarHandle") (E : Exa Z h a C)
    (B : ∀ vm0 : Vm, Z.Warmed39 (s.setVm vm0).vm → Back l R p e below (s.setVm vm0) args z 3 W (fun P a => a = as' ∧ P.U.heap = h ∧ P.cells + dc ≤ R.cells ∧ P.slots + dn ≤ R.slots) (fun P _ v B => ∃ L, Qx v B.U.heap L ∧ B.locs = P.locs ++ L ∧ B.cells = P.cells + dc ∧ B.slots = P.slots + dn)) (has : (.ref a :: argsL).toArray = as')
    (hQ : ∀ v h' L, Qx v h' L → Fr Z.heap.size L ∧ Keep h h' ws') (hc : cells + dc ≤ R.cells) (hs : slots + dn ≤ R.slots) (hws : ∀ x ∈ ws', (x ∈ ws ∨ h0.size ≤ x) ∧ Z.heap.size ≤ x) (hsafe : ∀ vm, Z.vm.Alike s.vm → Z.vm.Alike vm → CHr Z EL s.vm h0 vm h → ∀ x ∈ ws', Safe Z EL vm h x)
    (pd : parseMethodDescriptor y.desc = some ⟨ps, r⟩) (hlen : argsL.length = ps.length) (hst : stk = argsL.reverse ++ .ref a :: rest) (hsz : Ls.size = ml) (hW : (rest.map fun v => v.category).sum ≤ W) (hd : decode bytes pc = .ok (.invokevirtual index, 3))
    (k : ∀ v T' h' L, Pos p l e R s m args below meth c own nm bytes ml rt Z a0 EL h0 ws T' h' (cells + dc) (slots + dn) → Qx v h' L → Go p e below Q (T'.setTop (mkF m (pc + 3) Ls (v.toList ++ rest)))) : Go p e below Q (T.setTop (mkF m pc Ls stk)) := by
  obtain ⟨vm0, k0, locs, X, hR, hZ, hown, hS, hk, eT, hC, N, K, O⟩ := P
  have hR' := hR
  obtain ⟨hx, hby, hml, hret, hlk, hnm, hh, hEL, hZs⟩ := hR'
  obtain ⟨cq, kq, qa, qb, qc⟩ := isOf (s := s.setVm vm0) (T := T) hZ eT E
  obtain ⟨v, _, ⟨U, LL, cc, nn⟩, -, X', ⟨L, hq, hLL, hcc, hnn⟩, st⟩ := X.virtualBack hx (y := y) (z := z) hown (mvT (s := s.setVm vm0) hZ w1) (mvT (s := s.setVm vm0) hZ w2) (hnf vm0 hZ) (mvT (s := s.setVm vm0) hZ w5) (mvT (s := s.setVm vm0) hZ w6) hy (B vm0 hZ) qa qc (g := mkF m pc Ls stk) rfl (by rw [hml]; exact hsz) (Steps.refl _) (argsL := argsL) (rest := rest) (lenOf pd hlen) hst (by show 2 * 0 + _ ≤ _; rw [Nat.mul_zero, Nat.zero_add]; exact hW) (hb hby hd) (fun _ _ => ⟨has, eT, hc, hs⟩)
  dsimp only at X' hLL hcc hnn st hq
  obtain ⟨N', K'⟩ := hQ _ _ _ hq
  exact (k v U U.heap L (Pos.afterB hR hZ hown hS hk hC N K O X' hLL hcc hnn N' K' hws hsafe) hq).of (fun t q => st.trans q)
theorem Pos.alen (P : Pos p l e R s m args below meth c own nm bytes ml rt Z a0 EL h0 ws T h cells slots) {a : Addr} {kc : ClassId} {ty : FieldType} {z : Int32} {vs : List Value} {dv : Value} (A : Arv Z h a kc ty z vs dv) (hd : decode bytes pc = .ok (.arraylength, 1))
    (g : Go p e below Q (T.setTop (mkF m (pc + 1) Ls (.int z :: rest)))) : Go p e below Q (T.setTop (mkF m pc Ls (.ref a :: rest))) := by
  obtain ⟨vm0, k0, locs, X, ⟨hx, hby, hml, hret, hlk, hnm, hh, hEL, hZs⟩, hZ, hown, hS, hk, eT, -⟩ := P
  obtain ⟨cl, Ar, q1, S, N, -, -⟩ := A
  exact g.of fun t k => X.arraylength hx (by rw [eT]; exact Ar.1) (State.isArrayOf_alike (T := s.setVm vm0) hZ.alike Ar.2.1) (g := mkF m pc Ls (.ref a :: rest)) rfl rfl (hb hby hd) _ (by rw [len_of S N]; exact k)
theorem Pos.ldc2 (P : Pos p l e R s m args below meth c own nm bytes ml rt Z a0 EL h0 ws T h cells slots) {index : Nat} {v : Int64} (w : (Jvm.Cond.constantLong own index v).before a0 Z = true) (hd : decode bytes pc = .ok (.ldc2_w index, 3))
    (g : Go p e below Q (T.setTop (mkF m (pc + 3) Ls (.long v :: rest)))) : Go p e below Q (T.setTop (mkF m pc Ls rest)) := by
  obtain ⟨vm0, k0, locs, X, ⟨hx, hby, hml, hret, hlk, hnm, hh, hEL, hZs⟩, hZ, hown, -⟩ := P
  exact g.of fun t k => X.ldc2Long hx hown (mvT (s := s.setVm vm0) hZ w) (g := mkF m pc Ls rest) rfl (hb hby hd) _ k
theorem Pos.ldcI (P : Pos p l e R s m args below meth c own nm bytes ml rt Z a0 EL h0 ws T h cells slots) {index : Nat} {v : Int32} (w : (Jvm.Cond.constant own index v).before a0 Z = true) (hd : decode bytes pc = .ok (.ldc index, 2))
    (g : Go p e below Q (T.setTop (mkF m (pc + 2) Ls (.int v :: rest)))) : Go p e below Q (T.setTop (mkF m pc Ls rest)) := by
  obtain ⟨vm0, k0, locs, X, ⟨hx, hby, hml, hret, hlk, hnm, hh, hEL, hZs⟩, hZ, hown, -⟩ := P
  exact g.of fun t k => X.ldcInt hx hown (mvT (s := s.setVm vm0) hZ w) (g := mkF m pc Ls rest) rfl (hb hby hd) _ k
/-- a new byte array: it is no literal's -/
theorem Pos.newPB (P : Pos p l e R s m args below meth c own nm bytes ml rt Z a0 EL h0 ws T h cells slots) {n : Int32} {cap : Nat} (w : (Jvm.Cond.arrayClass .byte).before a0 Z = true) (hd : decode bytes pc = .ok (.newarray .byte, 2)) (hn : ¬ n < 0) (hcap : n.toNatClampNeg ≤ cap) (hb8 : cap * 8 ≤ 536870912) (hc : cells + 1 ≤ R.cells) (hl : slots + cap ≤ R.slots)
    (k : ∀ T' h' x cA vm, x = h.size → PosV p l e R s m args below meth c own nm bytes ml rt Z a0 EL h0 ws T' h' (cells + 1) (slots + cap) vm → Safe Z EL vm h' x → Ext h h' → Arv Z h' x cA .byte n [] (.int 0) → Go p e below Q (T'.setTop (mkF m (pc + 2) Ls (.ref x :: rest)))) : Go p e below Q (T.setTop (mkF m pc Ls (.int n :: rest))) := by
  obtain ⟨vm0, k0, locs, X, ⟨hx, hby, hml, hret, hlk, hnm, hh, hEL, hZs⟩, hZ, hown, hS, hk, eT, hC, N, K, O⟩ := P
  obtain ⟨T', h', cA, X', e', E, A, st⟩ := Jvm.RoadKit.newP (aty := .byte) X hx hZ w eT (g := mkF m pc Ls (.int n :: rest)) rfl (hb hby hd) rfl hn hcap hb8 hc hl
  exact (k T' h' _ cA vm0 rfl ⟨k0, locs, X', ⟨hx, hby, hml, hret, hlk, hnm, hh, hEL, hZs⟩, hZ, hown, hS, Nat.le_trans hk E.1, e', hC.trans (CHr.ext E hC.1), N, K.ext E, ⟨Nat.le_trans O.1 E.1, fun a c q => E.2 _ _ (O.2 _ _ q)⟩⟩ (Safe.ext E hC.1 (Safe.new (Nat.le_refl _))) E (Arv.new A hn)).of st
theorem posStB {vm : Vm} (P : PosV p l e R s m args below meth c own nm bytes ml rt Z a0 EL h0 ws T h cells slots vm) {a : Addr} {kc : ClassId} {z j x x' : Int32} {vs : List Value} {dv : Value} (hsf : Safe Z EL vm h a) (A : Arv Z h a kc .byte z vs dv) (i : Nat) (hj : j.toNatClampNeg = i) (hj0 : ¬ j < 0) (hlt : i < z.toNatClampNeg) (hi : i < vs.length) (hx' : nar .byte x = x') (hd : decode bytes pc = .ok (.bastore, 1)) (hz : Z.heap.size ≤ a) (hws : a ∈ ws ∨ h0.size ≤ a)
    (k : ∀ T' h', Pos p l e R s m args below meth c own nm bytes ml rt Z a0 EL h0 ws T' h' cells slots → Wr h h' a j.toNatClampNeg (.int x') → Arv Z h' a kc .byte z (vs.set i (.int x')) dv → Go p e below Q (T'.setTop (mkF m (pc + 1) Ls rest))) : Go p e below Q (T.setTop (mkF m pc Ls (.int x :: .int j :: .ref a :: rest))) := by
  obtain ⟨cl, Ar, q1, S, N', H, G⟩ := A
  subst hx'
  obtain ⟨k0, locs, X, ⟨hx, hby, hml, hret, hlk, hnm, hh, hEL, hZs⟩, hZ, hown, hS, hk, eT, hC, N, K, O⟩ := P
  obtain ⟨T', h', X', e', W, st⟩ := Jvm.RoadKit.stB X hx hZ eT Ar (inb hj hj0 S hlt) (g := mkF m pc Ls (.int x :: .int j :: .ref a :: rest)) rfl rfl (hb hby hd)
  exact (k T' h' ⟨vm, k0, _, X', ⟨hx, hby, hml, hret, hlk, hnm, hh, hEL, hZs⟩, hZ, hown, hS, Nat.le_trans hk (Nat.le_of_eq W.size.symm), e', hC.trans (CHr.wr W hsf hC.1), Fr.snoc X' N hz, K.wr W hws, (Old.wr (n0 := Z.heap.size) ⟨rfl, O⟩ W hz).2⟩ W (Arv.set Ar q1 S N' H G (fits_nar_byte x) W i hj hi)).of st
end Own
section Own2
theorem nin0 {x : Addr} : x ∉ ([] : List Addr) := fun q => nomatch q
theorem ninS {x a : Addr} {ws : List Addr} (h : x ≠ a) (r : x ∉ ws) : x ∉ a :: ws := fun q => (List.mem_cons.mp q).elim h r
theorem narR {t : FieldType} {v : Value} (h : v.isRef = true) : narrow t v = v := by cases v <;> first | (simp [Value.isRef] at h; done) | (cases t <;> rfl)
theorem fitR {C : String} {v : Value} (h : v.isRef = true) : fits (.object C) v = true := by cases v <;> first | (simp [Value.isRef] at h; done) | rfl
theorem mask255 (x : Int32) : ∃ k : Fin 256, (x &&& 255) = Int32.ofNat k.val := by
  have h : (x &&& 255).toBitVec.toNat < 256 := by
    simp only [Int32.toBitVec_and, BitVec.toNat_and]
    exact Nat.lt_succ_of_le Nat.and_le_right
  refine ⟨⟨_, h⟩, ?_⟩
  apply Int32.toBitVec_inj.mp
  show _ = BitVec.ofNat 32 _
  rw [BitVec.ofNat_toNat]; simp
/-- (char) (x & 255): from 0 to 255, and a char -/
theorem chr255 {x y : Int32} (h : ((x &&& (255 : Int32)).toUInt32.toUInt16.toUInt32.toInt32) = y) : (¬ y < 0 ∧ ¬ (255 : Int32) < y) ∧ nar .char y = y := by
  subst h
  have t : ∀ k : Fin 256, (¬ ((Int32.ofNat k.val).toUInt32.toUInt16.toUInt32.toInt32) < 0 ∧ ¬ (255 : Int32) < ((Int32.ofNat k.val).toUInt32.toUInt16.toUInt32.toInt32)) ∧ nar .char ((Int32.ofNat k.val).toUInt32.toUInt16.toUInt32.toInt32) = ((Int32.ofNat k.val).toUInt32.toUInt16.toUInt32.toInt32) := by decide +kernel
  obtain ⟨k, e⟩ := mask255 x
  rw [e]; exact t k
theorem upC (cs : List Int32) (h : ∀ c ∈ cs, ¬ c < 0 ∧ ¬ (255 : Int32) < c) : ∀ c ∈ cs, ¬ c < 0 ∧ ¬ (65535 : Int32) < c := fun c hc => ⟨(h c hc).1, fun q => (h c hc).2 (by rw [Int32.lt_iff_toInt_lt] at q ⊢; have e1 : (65535 : Int32).toInt = 65535 := rfl; have e2 : (255 : Int32).toInt = 255 := rfl; omega)⟩
theorem lat0 : ∀ c ∈ ([] : List Int32), ¬ c < 0 ∧ ¬ (255 : Int32) < c := fun _ q => nomatch q
theorem latS {x : Int32} {cs : List Int32} (h : ¬ x < 0 ∧ ¬ (255 : Int32) < x) (r : ∀ c ∈ cs, ¬ c < 0 ∧ ¬ (255 : Int32) < c) : ∀ c ∈ x :: cs, ¬ c < 0 ∧ ¬ (255 : Int32) < c := fun c q => (List.mem_cons.mp q).elim (fun e => e ▸ h) (r c)
/-- a String whose value is not laid yet is no literal -/
theorem safeNull {Z : State} {EL : List (String × Nat)} {vm : Vm} {h : Heap} {x : Addr} (hal : Z.vm.Alike vm) (E : Exa Z h x "java/lang/String") (F : Fld Z h x "java/lang/String" "value" "[B" .null) : Safe Z EL vm h x := fun B => by
  obtain ⟨cell, k, e1, e2, e3, -, -⟩ := E
  obtain ⟨cell', cf, kf, i, f, f1, f2, f3, f4, f5, f6, f7⟩ := F
  cases e1.symm.trans f1
  obtain ⟨p, -, u, a, -, q, -, G, rfl | rfl⟩ := B
  · cases (show h[q.sa]? = some q.sC from G.ha).symm.trans e1
    obtain ⟨cS, ⟨⟨-, -, -, ⟨c1, k1, i1, g1, -⟩, -, -, -, v1, -⟩, -⟩, -⟩ := G
    obtain ⟨k', z⟩ := ff_back (U := Wst Z vm h) hal g1
    have e4 := z.symm.trans f2
    simp only [Option.some.injEq, Prod.mk.injEq] at e4
    rw [e4.2.2.2, f7] at v1
    cases v1
  · cases (show h[q.sd]? = some q.SA from G.hd).symm.trans e1
    obtain ⟨cS, -, -, g, -⟩ := G
    have g' : vm.findClass "[B" = some q.SA.cls := g
    rw [hal.findClass] at g'
    obtain ⟨k1, q1, q2⟩ := Vm.findClass_spec g'
    obtain ⟨k2, q3, q4⟩ := Vm.findClass_spec e2
    cases q1.symm.trans q3
    exact absurd (q2.symm.trans q4) (by decide)
theorem safe1 {Z : State} {EL : List (String × Nat)} {vm : Vm} {h : Heap} {x : Addr} (S : Safe Z EL vm h x) : ∀ y ∈ [x], Safe Z EL vm h y := fun y q => by cases List.mem_singleton.mp q; exact S
theorem ieq {x y : Int32} (h : x.toInt = y.toInt) : x = y := Int32.toInt_inj.mp h
theorem narB (x : Int32) : nar .byte (x.toInt8.toInt32) = x.toInt8.toInt32 := by simp [nar]
end Own2
section Own3
/-- x is a String of the chars cs -/
def Str (Z : State) (h : Heap) (x : Addr) (cs : List Int32) : Prop := Exa Z h x "java/lang/String" ∧ (∀ c ∈ cs, ¬ c < 0 ∧ ¬ (65535 : Int32) < c) ∧ cs.length ≤ 4000 ∧ ∃ (t : Addr) (kb : ClassId) (cd N2 : Int32) (vs : List Value), Fld Z h x "java/lang/String" "value" "[B" (.ref t) ∧ Fld Z h x "java/lang/String" "coder" "B" (.int cd) ∧ Arv Z h t kb .byte N2 vs (.int 0) ∧ StrChars.Road.CodA cs cd N2 vs
/-- a is no byte array -/
def NB (Z : State) (h : Heap) (a : Addr) : Prop := (∃ (C : String) (n : Nat) (a0 : Array Value), Exa Z h a C ∧ (Jvm.Cond.instantiable C n).before a0 Z = true) ∨ ∃ (cl : Cell) (ty : FieldType), Arr Z h a cl ty ∧ ty ≠ .byte
theorem NB.ne {Z : State} {h : Heap} {a t : Addr} {k : ClassId} {z : Int32} {vs : List Value} {d : Value} (N : NB Z h a) (A : Arv Z h t k .byte z vs d) : t ≠ a := by
  rcases N with ⟨C, n, a0, E, w⟩ | ⟨cl, ty, B, hty⟩
  · exact Ne.symm (Exa.neArv E A w)
  · rintro rfl
    obtain ⟨cl', ⟨A1, ⟨-, kA, hkA, compA, hkindA⟩, -⟩, -⟩ := A
    obtain ⟨B1, ⟨-, kB, hkB, compB, hkindB⟩, -⟩ := B
    cases A1.symm.trans B1
    cases hkA.symm.trans hkB
    have := hkindA.symm.trans hkindB
    injection this with _ e
    exact hty e.symm
theorem nbE {Z : State} {h : Heap} {a : Addr} {C : String} {n : Nat} {a0 : Array Value} (E : Exa Z h a C) (w : (Jvm.Cond.instantiable C n).before a0 Z = true) : NB Z h a := Or.inl ⟨C, n, a0, E, w⟩
theorem nbA {Z : State} {h : Heap} {a : Addr} {k : ClassId} {ty : FieldType} {z : Int32} {vs : List Value} {d : Value} (A : Arv Z h a k ty z vs d) (q : ty ≠ .byte) : NB Z h a := by obtain ⟨cl, B, -⟩ := A; exact Or.inr ⟨cl, ty, B, q⟩
theorem Str.lt {Z : State} {h : Heap} {x : Addr} {cs : List Int32} (S : Str Z h x cs) : x < h.size := S.1.lt
theorem Str.ext {Z : State} {h h' : Heap} {x : Addr} {cs : List Int32} (S : Str Z h x cs) (E : Ext h h') : Str Z h' x cs := by
  obtain ⟨s1, s2, s3, t, kb, cd, N2, vs, s4, s5, s6, s7⟩ := S
  exact ⟨s1.ext E, s2, s3, t, kb, cd, N2, vs, s4.ext E, s5.ext E, s6.ext E, s7⟩
theorem Str.keep {Z : State} {h h' : Heap} {x : Addr} {cs : List Int32} {ws : List Addr} (S : Str Z h x cs) (K : Keep h h' ws) (q : ∀ a ∈ ws, x ≠ a ∧ NB Z h a) : Str Z h' x cs := by
  obtain ⟨s1, s2, s3, t, kb, cd, N2, vs, s4, s5, s6, s7⟩ := S
  have n1 : x ∉ ws := fun m => (q x m).1 rfl
  have n2 : t ∉ ws := fun m => (q t m).2.ne s6 rfl
  exact ⟨s1.keep K, s2, s3, t, kb, cd, N2, vs, s4.keep K n1, s5.keep K n1, s6.keep K n2, s7⟩
theorem Str.wr {Z : State} {h h' : Heap} {x a : Addr} {cs : List Int32} {sl : Nat} {v : Value} (S : Str Z h x cs) (W : Wr h h' a sl v) (q1 : x ≠ a) (q2 : NB Z h a) : Str Z h' x cs := S.keep (Keep.of_wr W) (allS ⟨q1, q2⟩ all0)
theorem strOf {Z : State} {h : Heap} {x t : Addr} {kb : ClassId} {cs : List Int32} {n : Nat} (hn : cs.length = n) (hb : ∀ c ∈ cs, ¬ c < 0 ∧ ¬ (255 : Int32) < c) (h4 : n ≤ 4000) (E : Exa Z h x "java/lang/String") (C : Fld Z h x "java/lang/String" "coder" "B" (.int 0)) (V : Fld Z h x "java/lang/String" "value" "[B" (.ref t)) (B : Arv Z h t kb .byte (Int32.ofNat n) ((cs.map (fun c => c.toInt8.toInt32)).map Value.int) (.int 0)) : Str Z h x cs :=
  ⟨E, upC cs hb, by rw [hn]; exact h4, t, kb, 0, _, _, V, C, B, StrChars.Road.codOf hn (fun c hc => (hb c hc).2)⟩
theorem strE {Z : State} {h : Heap} {x t : Addr} {kb : ClassId} (E : Exa Z h x "java/lang/String") (C : Fld Z h x "java/lang/String" "coder" "B" (.int 0)) (V : Fld Z h x "java/lang/String" "value" "[B" (.ref t)) (B : Arv Z h t kb .byte (0 : Int32) [] (.int 0)) : Str Z h x [] :=
  strOf (n := 0) rfl lat0 (by decide) E C V B
end Own3
section Own4
variable {p : Program} {l : Launch} {e : Env} {R rm : Room} {s : State} {m : MethodId} {args : Array Value} {below : List Frame} {meth : Method} {c : Code} {own nm : String} {bytes : ByteArray} {ml : Nat} {rt : Option FieldType} {Z : State} {a0 : Array Value} {EL : List (String × Nat)} {h0 : Heap} {ws : List Addr} {T : State} {h h' : Heap} {cells slots : Nat} {Q : Outcome → State → Prop} {pc : Nat} {Ls : Array Slot} {rest : List Value}
/-- equals of two Strings of known chars -/
theorem Pos.strEq (P : Pos p l e R s m args below meth c own nm bytes ml rt Z a0 EL h0 ws T h cells slots) {index W : Nat} {x y : Addr} {cs ds : List Int32} {zc : Int32} {ps : List FieldType} {r : Option FieldType} {C : String}
    (w1 : (Jvm.Cond.methodLink own index (⟨C, "equals", "(Ljava/lang/Object;)Z"⟩ : MethodName)).before a0 Z = true) (w2 : (Jvm.Cond.declares (⟨C, "equals", "(Ljava/lang/Object;)Z"⟩ : MethodName)).before a0 Z = true) (w5 : (Jvm.Cond.selects "java/lang/String" (⟨C, "equals", "(Ljava/lang/Object;)Z"⟩ : MethodName) (⟨"java/lang/String", "equals", "(Ljava/lang/Object;)Z"⟩ : MethodName)).before a0 Z = true) (hnf : ∀ vm0, Z.Warmed39 vm0 → NotFace (s.setVm vm0) (⟨C, "equals", "(Ljava/lang/Object;)Z"⟩ : MethodName)) (w6 : (Jvm.Cond.instanceMethod (⟨"java/lang/String", "equals", "(Ljava/lang/Object;)Z"⟩ : MethodName)).before a0 Z = true) (hy : C ≠ "java/lang/invoke/MethodHandle" ∧ C ≠ "java/lang/invoke/VarHandle")
    (wq : ∀ d ∈ StrChars.Road.wordsEq, d.before a0 Z = true) (wi : (Jvm.Cond.instantiable "java/lang/String" 4).before a0 Z = true) (S0 : Sta Z Z.heap "java/lang/String" "COMPACT_STRINGS" "Z" (.int zc)) (Pz : ¬ zc = 0) (S1 : Str Z h x cs) (S2 : Str Z h y ds)
    (hf : 2 ≤ R.frames) (hl : W + 28 ≤ R.locals) (hc : cells + 0 ≤ R.cells) (hs : slots + 0 ≤ R.slots) (pd : parseMethodDescriptor "(Ljava/lang/Object;)Z" = some ⟨ps, r⟩) (hlen : 1 = ps.length) (hsz : Ls.size = ml) (hW : (rest.map fun v => v.category).sum ≤ W) (hd : decode bytes pc = .ok (.invokevirtual index, 3))
    (k1 : ∀ T', Pos p l e R s m args below meth c own nm bytes ml rt Z a0 EL h0 ws T' h cells slots → cs = ds → Go p e below Q (T'.setTop (mkF m (pc + 3) Ls (.int 1 :: rest))))
    (k0 : ∀ T', Pos p l e R s m args below meth c own nm bytes ml rt Z a0 EL h0 ws T' h cells slots → ¬ cs = ds → Go p e below Q (T'.setTop (mkF m (pc + 3) Ls (.int 0 :: rest)))) : Go p e below Q (T.setTop (mkF m pc Ls (.ref y :: .ref x :: rest))) := by
  have O := P.old
  obtain ⟨e1, b1, l1, t1, kb1, c1, n1, v1, F1, G1, A1, D1⟩ := S1
  obtain ⟨e2, b2, l2, t2, kb2, c2, n2, v2, F2, G2, A2, D2⟩ := S2
  refine P.virtB (W := W) (ws' := []) (Qx := fun v h' L => ((v = some (.int 1) ∧ cs = ds) ∨ (v = some (.int 0) ∧ ¬ cs = ds)) ∧ L = [] ∧ h' = h) w1 w2 w5 hnf w6 hy e1 (fun vm0 hZ => StrChars.Road.eqW (W := W) hZ wq (kI := 4) wi e1 F1 G1 A1 D1 b1 l1 e2 F2 G2 A2 D2 b2 l2 (S0.ext O) Pz hf hl) (argsL := [.ref y]) rfl (fun v h' L q => ⟨by rw [q.2.1]; exact Fr.nil _, by rw [q.2.2]; exact Keep.refl _ _⟩) hc hs all0 (fun _ _ _ _ => all0) pd hlen rfl hsz hW hd ?_
  intro v T' h' L P' q
  obtain ⟨q, -, hh⟩ := q
  rw [hh] at P'
  rcases q with ⟨rfl, q⟩ | ⟨rfl, q⟩
  · exact k1 T' P' q
  · exact k0 T' P' q
end Own4
section Own5
variable {p : Program} {l : Launch} {e : Env} {R rm : Room} {s : State} {m : MethodId} {args : Array Value} {below : List Frame} {meth : Method} {c : Code} {own nm : String} {bytes : ByteArray} {ml : Nat} {rt : Option FieldType} {Z : State} {a0 : Array Value} {EL : List (String × Nat)} {h0 : Heap} {ws : List Addr} {T : State} {h h' : Heap} {cells slots : Nat} {Q : Outcome → State → Prop} {pc : Nat} {Ls : Array Slot} {rest : List Value}
theorem noAsg {C S K : String} {n : Nat} (w : (Jvm.Cond.superclass C S).before a0 Z = true) (wr : (Jvm.Cond.noSuperclass S).before a0 Z = true) (wi : (Jvm.Cond.instantiable K n).before a0 Z = true) (h1 : C ≠ K) (h2 : S ≠ K) : ∃ c t, Z.vm.findClass C = some c ∧ Z.vm.findClass K = some t ∧ Z.vm.assignable c t = false := by
  obtain ⟨t, kt, g1, g2, g3, g4, -, -⟩ := Cond.instantiable_spec wi
  obtain ⟨c, f0⟩ := found_sup w
  obtain ⟨p, k, kp, f1, f2, f3, f4, f5, f6, f7⟩ := Cond.superclass_spec f0 w
  obtain ⟨o, ko, r1, r2, r3, r4, r5⟩ := Cond.noSuperclass_spec wr
  obtain rfl : o = p := Option.some.inj (r1.symm.trans f1)
  have n1 := ids_ne f0 g1 h1
  have n2 := ids_ne f1 g1 h2
  have hi : kt.isInterface = false := by
    cases hq : kt.isInterface with
    | false => rfl
    | true => rw [hq] at g4; simp at g4
  have n4 : ∀ fuel, Z.vm.isSubclassAux fuel o t = false := fun fuel => by
    cases fuel with
    | zero => rfl
    | succ f => simp [Vm.isSubclassAux, n2, r2, r3]
  have n3 : ∀ fuel, Z.vm.isSubclassAux fuel c t = false := fun fuel => by
    cases fuel with
    | zero => rfl
    | succ f => simp [Vm.isSubclassAux, n1, f2, f4, n4]
  refine ⟨c, t, f0, g1, ?_⟩
  show Z.vm.assignableAux (255 + 1) c t = false
  simp [Vm.assignableAux, n1, f2, g2, f5, g3, hi, Vm.isSubclass, n3]
theorem Pos.instN (P : Pos p l e R s m args below meth c own nm bytes ml rt Z a0 EL h0 ws T h cells slots) {K C : String} {index : Nat} (w : (Jvm.Cond.classLink own index K).before a0 Z = true) {a : Addr} (E : Exa Z h a C) (F : ∃ c t, Z.vm.findClass C = some c ∧ Z.vm.findClass K = some t ∧ Z.vm.assignable c t = false) (hd : decode bytes pc = .ok (.instanceof index, 3))
    (k : ∀ T', Pos p l e R s m args below meth c own nm bytes ml rt Z a0 EL h0 ws T' h cells slots → Go p e below Q (T'.setTop (mkF m (pc + 3) Ls (.int 0 :: rest)))) : Go p e below Q (T.setTop (mkF m pc Ls (.ref a :: rest))) :=
  P.same (V := fun T' => T'.setTop (mkF m (pc + 3) Ls (.int 0 :: rest))) (fun vm0 locs X hx hby hml hZ hown eT => instNo X hx hZ hown w eT E F (g := mkF m pc Ls (.ref a :: rest)) rfl rfl (hb hby hd)) k
theorem Pos.inst0 (P : Pos p l e R s m args below meth c own nm bytes ml rt Z a0 EL h0 ws T h cells slots) {index : Nat} (hd : decode bytes pc = .ok (.instanceof index, 3))
    (g : Go p e below Q (T.setTop (mkF m (pc + 3) Ls (.int 0 :: rest)))) : Go p e below Q (T.setTop (mkF m pc Ls (.null :: rest))) :=
  P.st (fun vm0 locs X hx hy t k => X.instanceofNull hx (g := mkF m pc Ls (.null :: rest)) rfl rfl (hb hy hd) _ k) g
end Own5
theorem wSt {Z : State} {a0 : Array Value} (hw : ∀ d ∈ tables_1, d.before a0 Z = true) : ∀ d ∈ Bundle.stringAtoms, d.before a0 Z = true := fun d hd => hw d ((by decide +kernel : ∀ d ∈ Bundle.stringAtoms, d ∈ tables_1) d hd)
theorem wStr {Z : State} {a0 : Array Value} (hw : ∀ d ∈ tables_1, d.before a0 Z = true) : ∀ d ∈ StrChars.Road.words, d.before a0 Z = true := fun d hd => hw d ((by decide +kernel : ∀ d ∈ StrChars.Road.words, d ∈ tables_1) d hd)
theorem wEq {Z : State} {a0 : Array Value} (hw : ∀ d ∈ tables_1, d.before a0 Z = true) : ∀ d ∈ StrChars.Road.wordsEq, d.before a0 Z = true := fun d hd => hw d ((by decide +kernel : ∀ d ∈ StrChars.Road.wordsEq, d ∈ tables_1) d hd)
theorem d1_0 : decode method_2_code 0 = .ok (.iload_n 0, 1) := by decide +kernel
theorem d1_1 : decode method_2_code 1 = .ok (.sipush 255, 3) := by decide +kernel
theorem d1_4 : decode method_2_code 4 = .ok (.iand, 1) := by decide +kernel
theorem d1_5 : decode method_2_code 5 = .ok (.i2c, 1) := by decide +kernel
theorem d1_6 : decode method_2_code 6 = .ok (.istore_n 2, 1) := by decide +kernel
theorem d1_7 : decode method_2_code 7 = .ok (.iload_n 0, 1) := by decide +kernel
theorem d1_8 : decode method_2_code 8 = .ok (.bipush 8, 2) := by decide +kernel
theorem d1_10 : decode method_2_code 10 = .ok (.iushr, 1) := by decide +kernel
theorem d1_11 : decode method_2_code 11 = .ok (.sipush 255, 3) := by decide +kernel
theorem d1_14 : decode method_2_code 14 = .ok (.iand, 1) := by decide +kernel
theorem d1_15 : decode method_2_code 15 = .ok (.i2c, 1) := by decide +kernel
theorem d1_16 : decode method_2_code 16 = .ok (.istore_n 3, 1) := by decide +kernel
theorem d1_17 : decode method_2_code 17 = .ok (.iload_n 0, 1) := by decide +kernel
theorem d1_18 : decode method_2_code 18 = .ok (.bipush 16, 2) := by decide +kernel
theorem d1_20 : decode method_2_code 20 = .ok (.iushr, 1) := by decide +kernel
theorem d1_21 : decode method_2_code 21 = .ok (.sipush 255, 3) := by decide +kernel
theorem d1_24 : decode method_2_code 24 = .ok (.iand, 1) := by decide +kernel
theorem d1_25 : decode method_2_code 25 = .ok (.i2c, 1) := by decide +kernel
theorem d1_26 : decode method_2_code 26 = .ok (.istore 4, 2) := by decide +kernel
theorem d1_28 : decode method_2_code 28 = .ok (.iload_n 1, 1) := by decide +kernel
theorem d1_29 : decode method_2_code 29 = .ok (.ifCond .ne 14, 3) := by decide +kernel
theorem d1_32 : decode method_2_code 32 = .ok (.new 7, 3) := by decide +kernel
theorem d1_35 : decode method_2_code 35 = .ok (.dup, 1) := by decide +kernel
theorem d1_36 : decode method_2_code 36 = .ok (.iconst 0, 1) := by decide +kernel
theorem d1_37 : decode method_2_code 37 = .ok (.newarray .char, 2) := by decide +kernel
theorem d1_39 : decode method_2_code 39 = .ok (.invokespecial 9, 3) := by decide +kernel
theorem d1_42 : decode method_2_code 42 = .ok (.areturn, 1) := by decide +kernel
theorem d1_43 : decode method_2_code 43 = .ok (.iload_n 1, 1) := by decide +kernel
theorem d1_44 : decode method_2_code 44 = .ok (.iconst 1, 1) := by decide +kernel
theorem d1_45 : decode method_2_code 45 = .ok (.if_icmp .ne 18, 3) := by decide +kernel
theorem d1_48 : decode method_2_code 48 = .ok (.new 7, 3) := by decide +kernel
theorem d1_51 : decode method_2_code 51 = .ok (.dup, 1) := by decide +kernel
theorem d1_52 : decode method_2_code 52 = .ok (.iconst 1, 1) := by decide +kernel
theorem d1_53 : decode method_2_code 53 = .ok (.newarray .char, 2) := by decide +kernel
theorem d1_55 : decode method_2_code 55 = .ok (.dup, 1) := by decide +kernel
theorem d1_56 : decode method_2_code 56 = .ok (.iconst 0, 1) := by decide +kernel
theorem d1_57 : decode method_2_code 57 = .ok (.iload_n 2, 1) := by decide +kernel
theorem d1_58 : decode method_2_code 58 = .ok (.castore, 1) := by decide +kernel
theorem d1_59 : decode method_2_code 59 = .ok (.invokespecial 9, 3) := by decide +kernel
theorem d1_62 : decode method_2_code 62 = .ok (.areturn, 1) := by decide +kernel
theorem d1_63 : decode method_2_code 63 = .ok (.iload_n 1, 1) := by decide +kernel
theorem d1_64 : decode method_2_code 64 = .ok (.iconst 2, 1) := by decide +kernel
theorem d1_65 : decode method_2_code 65 = .ok (.if_icmp .ne 22, 3) := by decide +kernel
theorem d1_68 : decode method_2_code 68 = .ok (.new 7, 3) := by decide +kernel
theorem d1_71 : decode method_2_code 71 = .ok (.dup, 1) := by decide +kernel
theorem d1_72 : decode method_2_code 72 = .ok (.iconst 2, 1) := by decide +kernel
theorem d1_73 : decode method_2_code 73 = .ok (.newarray .char, 2) := by decide +kernel
theorem d1_75 : decode method_2_code 75 = .ok (.dup, 1) := by decide +kernel
theorem d1_76 : decode method_2_code 76 = .ok (.iconst 0, 1) := by decide +kernel
theorem d1_77 : decode method_2_code 77 = .ok (.iload_n 2, 1) := by decide +kernel
theorem d1_78 : decode method_2_code 78 = .ok (.castore, 1) := by decide +kernel
theorem d1_79 : decode method_2_code 79 = .ok (.dup, 1) := by decide +kernel
theorem d1_80 : decode method_2_code 80 = .ok (.iconst 1, 1) := by decide +kernel
theorem d1_81 : decode method_2_code 81 = .ok (.iload_n 3, 1) := by decide +kernel
theorem d1_82 : decode method_2_code 82 = .ok (.castore, 1) := by decide +kernel
theorem d1_83 : decode method_2_code 83 = .ok (.invokespecial 9, 3) := by decide +kernel
theorem d1_86 : decode method_2_code 86 = .ok (.areturn, 1) := by decide +kernel
theorem d1_87 : decode method_2_code 87 = .ok (.new 7, 3) := by decide +kernel
theorem d1_90 : decode method_2_code 90 = .ok (.dup, 1) := by decide +kernel
theorem d1_91 : decode method_2_code 91 = .ok (.iconst 3, 1) := by decide +kernel
theorem d1_92 : decode method_2_code 92 = .ok (.newarray .char, 2) := by decide +kernel
theorem d1_94 : decode method_2_code 94 = .ok (.dup, 1) := by decide +kernel
theorem d1_95 : decode method_2_code 95 = .ok (.iconst 0, 1) := by decide +kernel
theorem d1_96 : decode method_2_code 96 = .ok (.iload_n 2, 1) := by decide +kernel
theorem d1_97 : decode method_2_code 97 = .ok (.castore, 1) := by decide +kernel
theorem d1_98 : decode method_2_code 98 = .ok (.dup, 1) := by decide +kernel
theorem d1_99 : decode method_2_code 99 = .ok (.iconst 1, 1) := by decide +kernel
theorem d1_100 : decode method_2_code 100 = .ok (.iload_n 3, 1) := by decide +kernel
theorem d1_101 : decode method_2_code 101 = .ok (.castore, 1) := by decide +kernel
theorem d1_102 : decode method_2_code 102 = .ok (.dup, 1) := by decide +kernel
theorem d1_103 : decode method_2_code 103 = .ok (.iconst 2, 1) := by decide +kernel
theorem d1_104 : decode method_2_code 104 = .ok (.iload 4, 2) := by decide +kernel
theorem d1_106 : decode method_2_code 106 = .ok (.castore, 1) := by decide +kernel
theorem d1_107 : decode method_2_code 107 = .ok (.invokespecial 9, 3) := by decide +kernel
theorem d1_110 : decode method_2_code 110 = .ok (.areturn, 1) := by decide +kernel
theorem d2_0 : decode jdk_42_method_3_code 0 = .ok (.aload_n 0, 1) := by decide +kernel
theorem d2_1 : decode jdk_42_method_3_code 1 = .ok (.aload_n 1, 1) := by decide +kernel
theorem d2_2 : decode jdk_42_method_3_code 2 = .ok (.iconst 0, 1) := by decide +kernel
theorem d2_3 : decode jdk_42_method_3_code 3 = .ok (.aload_n 1, 1) := by decide +kernel
theorem d2_4 : decode jdk_42_method_3_code 4 = .ok (.arraylength, 1) := by decide +kernel
theorem d2_5 : decode jdk_42_method_3_code 5 = .ok (.aconst_null, 1) := by decide +kernel
theorem d2_6 : decode jdk_42_method_3_code 6 = .ok (.invokespecial 27, 3) := by decide +kernel
theorem d2_9 : decode jdk_42_method_3_code 9 = .ok (.return_, 1) := by decide +kernel
theorem d3_0 : decode jdk_42_method_149_code 0 = .ok (.aload_n 0, 1) := by decide +kernel
theorem d3_1 : decode jdk_42_method_149_code 1 = .ok (.invokespecial 1, 3) := by decide +kernel
theorem d3_4 : decode jdk_42_method_149_code 4 = .ok (.iload_n 3, 1) := by decide +kernel
theorem d3_5 : decode jdk_42_method_149_code 5 = .ok (.ifCond .ne 22, 3) := by decide +kernel
theorem d3_8 : decode jdk_42_method_149_code 8 = .ok (.aload_n 0, 1) := by decide +kernel
theorem d3_9 : decode jdk_42_method_149_code 9 = .ok (.ldc 7, 2) := by decide +kernel
theorem d3_11 : decode jdk_42_method_149_code 11 = .ok (.getfield 9, 3) := by decide +kernel
theorem d3_14 : decode jdk_42_method_149_code 14 = .ok (.putfield 9, 3) := by decide +kernel
theorem d3_17 : decode jdk_42_method_149_code 17 = .ok (.aload_n 0, 1) := by decide +kernel
theorem d3_18 : decode jdk_42_method_149_code 18 = .ok (.ldc 7, 2) := by decide +kernel
theorem d3_20 : decode jdk_42_method_149_code 20 = .ok (.getfield 15, 3) := by decide +kernel
theorem d3_23 : decode jdk_42_method_149_code 23 = .ok (.putfield 15, 3) := by decide +kernel
theorem d3_26 : decode jdk_42_method_149_code 26 = .ok (.return_, 1) := by decide +kernel
theorem d8_0 : decode prog_13_method_1_code 0 = .ok (.aload_n 0, 1) := by decide +kernel
theorem d8_1 : decode prog_13_method_1_code 1 = .ok (.invokespecial 1, 3) := by decide +kernel
theorem d8_4 : decode prog_13_method_1_code 4 = .ok (.aload_n 0, 1) := by decide +kernel
theorem d8_5 : decode prog_13_method_1_code 5 = .ok (.aload_n 1, 1) := by decide +kernel
theorem d8_6 : decode prog_13_method_1_code 6 = .ok (.ldc 7, 2) := by decide +kernel
theorem d8_8 : decode prog_13_method_1_code 8 = .ok (.invokestatic 9, 3) := by decide +kernel
theorem d8_11 : decode prog_13_method_1_code 11 = .ok (.checkcast 15, 3) := by decide +kernel
theorem d8_14 : decode prog_13_method_1_code 14 = .ok (.putfield 17, 3) := by decide +kernel
theorem d8_17 : decode prog_13_method_1_code 17 = .ok (.return_, 1) := by decide +kernel
theorem d9_0 : decode jdk_31_method_11_code 0 = .ok (.aload_n 0, 1) := by decide +kernel
theorem d9_1 : decode jdk_31_method_11_code 1 = .ok (.ifnonnull 12, 3) := by decide +kernel
theorem d9_13 : decode jdk_31_method_11_code 13 = .ok (.aload_n 0, 1) := by decide +kernel
theorem d9_14 : decode jdk_31_method_11_code 14 = .ok (.areturn, 1) := by decide +kernel
theorem d10_0 : decode method_3_code 0 = .ok (.iload_n 1, 1) := by decide +kernel
theorem d10_1 : decode method_3_code 1 = .ok (.iload_n 3, 1) := by decide +kernel
theorem d10_2 : decode method_3_code 2 = .ok (.if_icmp .eq 5, 3) := by decide +kernel
theorem d10_5 : decode method_3_code 5 = .ok (.iconst 0, 1) := by decide +kernel
theorem d10_6 : decode method_3_code 6 = .ok (.ireturn, 1) := by decide +kernel
theorem d10_7 : decode method_3_code 7 = .ok (.iload_n 1, 1) := by decide +kernel
theorem d10_8 : decode method_3_code 8 = .ok (.iconst 1, 1) := by decide +kernel
theorem d10_9 : decode method_3_code 9 = .ok (.if_icmp .lt 18, 3) := by decide +kernel
theorem d10_12 : decode method_3_code 12 = .ok (.iload_n 0, 1) := by decide +kernel
theorem d10_13 : decode method_3_code 13 = .ok (.sipush 255, 3) := by decide +kernel
theorem d10_16 : decode method_3_code 16 = .ok (.iand, 1) := by decide +kernel
theorem d10_17 : decode method_3_code 17 = .ok (.iload_n 2, 1) := by decide +kernel
theorem d10_18 : decode method_3_code 18 = .ok (.sipush 255, 3) := by decide +kernel
theorem d10_21 : decode method_3_code 21 = .ok (.iand, 1) := by decide +kernel
theorem d10_22 : decode method_3_code 22 = .ok (.if_icmp .eq 5, 3) := by decide +kernel
theorem d10_25 : decode method_3_code 25 = .ok (.iconst 0, 1) := by decide +kernel
theorem d10_26 : decode method_3_code 26 = .ok (.ireturn, 1) := by decide +kernel
theorem d10_27 : decode method_3_code 27 = .ok (.iload_n 1, 1) := by decide +kernel
theorem d10_28 : decode method_3_code 28 = .ok (.iconst 2, 1) := by decide +kernel
theorem d10_29 : decode method_3_code 29 = .ok (.if_icmp .lt 24, 3) := by decide +kernel
theorem d10_32 : decode method_3_code 32 = .ok (.iload_n 0, 1) := by decide +kernel
theorem d10_33 : decode method_3_code 33 = .ok (.bipush 8, 2) := by decide +kernel
theorem d10_35 : decode method_3_code 35 = .ok (.iushr, 1) := by decide +kernel
theorem d10_36 : decode method_3_code 36 = .ok (.sipush 255, 3) := by decide +kernel
theorem d10_39 : decode method_3_code 39 = .ok (.iand, 1) := by decide +kernel
theorem d10_40 : decode method_3_code 40 = .ok (.iload_n 2, 1) := by decide +kernel
theorem d10_41 : decode method_3_code 41 = .ok (.bipush 8, 2) := by decide +kernel
theorem d10_43 : decode method_3_code 43 = .ok (.iushr, 1) := by decide +kernel
theorem d10_44 : decode method_3_code 44 = .ok (.sipush 255, 3) := by decide +kernel
theorem d10_47 : decode method_3_code 47 = .ok (.iand, 1) := by decide +kernel
theorem d10_48 : decode method_3_code 48 = .ok (.if_icmp .eq 5, 3) := by decide +kernel
theorem d10_51 : decode method_3_code 51 = .ok (.iconst 0, 1) := by decide +kernel
theorem d10_52 : decode method_3_code 52 = .ok (.ireturn, 1) := by decide +kernel
theorem d10_53 : decode method_3_code 53 = .ok (.iload_n 1, 1) := by decide +kernel
theorem d10_54 : decode method_3_code 54 = .ok (.iconst 3, 1) := by decide +kernel
theorem d10_55 : decode method_3_code 55 = .ok (.if_icmp .lt 24, 3) := by decide +kernel
theorem d10_58 : decode method_3_code 58 = .ok (.iload_n 0, 1) := by decide +kernel
theorem d10_59 : decode method_3_code 59 = .ok (.bipush 16, 2) := by decide +kernel
theorem d10_61 : decode method_3_code 61 = .ok (.iushr, 1) := by decide +kernel
theorem d10_62 : decode method_3_code 62 = .ok (.sipush 255, 3) := by decide +kernel
theorem d10_65 : decode method_3_code 65 = .ok (.iand, 1) := by decide +kernel
theorem d10_66 : decode method_3_code 66 = .ok (.iload_n 2, 1) := by decide +kernel
theorem d10_67 : decode method_3_code 67 = .ok (.bipush 16, 2) := by decide +kernel
theorem d10_69 : decode method_3_code 69 = .ok (.iushr, 1) := by decide +kernel
theorem d10_70 : decode method_3_code 70 = .ok (.sipush 255, 3) := by decide +kernel
theorem d10_73 : decode method_3_code 73 = .ok (.iand, 1) := by decide +kernel
theorem d10_74 : decode method_3_code 74 = .ok (.if_icmp .eq 5, 3) := by decide +kernel
theorem d10_77 : decode method_3_code 77 = .ok (.iconst 0, 1) := by decide +kernel
theorem d10_78 : decode method_3_code 78 = .ok (.ireturn, 1) := by decide +kernel
theorem d10_79 : decode method_3_code 79 = .ok (.iconst 1, 1) := by decide +kernel
theorem d10_80 : decode method_3_code 80 = .ok (.ireturn, 1) := by decide +kernel
theorem d11_0 : decode prog_13_method_3_code 0 = .ok (.aload_n 1, 1) := by decide +kernel
theorem d11_1 : decode prog_13_method_3_code 1 = .ok (.instanceof 18, 3) := by decide +kernel
theorem d11_4 : decode prog_13_method_3_code 4 = .ok (.ifCond .eq 26, 3) := by decide +kernel
theorem d11_7 : decode prog_13_method_3_code 7 = .ok (.aload_n 1, 1) := by decide +kernel
theorem d11_8 : decode prog_13_method_3_code 8 = .ok (.checkcast 18, 3) := by decide +kernel
theorem d11_11 : decode prog_13_method_3_code 11 = .ok (.astore_n 2, 1) := by decide +kernel
theorem d11_12 : decode prog_13_method_3_code 12 = .ok (.aload_n 0, 1) := by decide +kernel
theorem d11_13 : decode prog_13_method_3_code 13 = .ok (.getfield 17, 3) := by decide +kernel
theorem d11_16 : decode prog_13_method_3_code 16 = .ok (.aload_n 2, 1) := by decide +kernel
theorem d11_17 : decode prog_13_method_3_code 17 = .ok (.getfield 17, 3) := by decide +kernel
theorem d11_20 : decode prog_13_method_3_code 20 = .ok (.invokevirtual 22, 3) := by decide +kernel
theorem d11_23 : decode prog_13_method_3_code 23 = .ok (.ifCond .eq 7, 3) := by decide +kernel
theorem d11_26 : decode prog_13_method_3_code 26 = .ok (.iconst 1, 1) := by decide +kernel
theorem d11_27 : decode prog_13_method_3_code 27 = .ok (.goto 4, 3) := by decide +kernel
theorem d11_30 : decode prog_13_method_3_code 30 = .ok (.iconst 0, 1) := by decide +kernel
theorem d11_31 : decode prog_13_method_3_code 31 = .ok (.ireturn, 1) := by decide +kernel
theorem d14_0 : decode prog_26_method_1_code 0 = .ok (.aload_n 0, 1) := by decide +kernel
theorem d14_1 : decode prog_26_method_1_code 1 = .ok (.invokespecial 1, 3) := by decide +kernel
theorem d14_4 : decode prog_26_method_1_code 4 = .ok (.aload_n 0, 1) := by decide +kernel
theorem d14_5 : decode prog_26_method_1_code 5 = .ok (.aload_n 1, 1) := by decide +kernel
theorem d14_6 : decode prog_26_method_1_code 6 = .ok (.ldc 7, 2) := by decide +kernel
theorem d14_8 : decode prog_26_method_1_code 8 = .ok (.invokestatic 9, 3) := by decide +kernel
theorem d14_11 : decode prog_26_method_1_code 11 = .ok (.checkcast 15, 3) := by decide +kernel
theorem d14_14 : decode prog_26_method_1_code 14 = .ok (.putfield 17, 3) := by decide +kernel
theorem d14_17 : decode prog_26_method_1_code 17 = .ok (.return_, 1) := by decide +kernel
theorem pd_0 : parseMethodDescriptor "([CIILjava/lang/Void;)V" = some ⟨[(.array .char), .int, .int, (.object "java/lang/Void")], none⟩ := by decide +kernel
theorem pd_1 : parseMethodDescriptor "([C)V" = some ⟨[(.array .char)], none⟩ := by decide +kernel
theorem pd_2 : parseMethodDescriptor "(Ljava/lang/Object;Ljava/lang/String;)Ljava/lang/Object;" = some ⟨[(.object "java/lang/Object"), (.object "java/lang/String")], some (.object "java/lang/Object")⟩ := by decide +kernel
theorem pd_3 : parseMethodDescriptor "(Ljava/lang/Object;)Z" = some ⟨[(.object "java/lang/Object")], some .boolean⟩ := by decide +kernel
theorem pd_4 : parseMethodDescriptor "(II)Ljava/lang/String;" = some ⟨[.int, .int], some (.object "java/lang/String")⟩ := by decide +kernel
theorem pd_5 : parseMethodDescriptor "(Ljava/lang/String;)V" = some ⟨[(.object "java/lang/String")], none⟩ := by decide +kernel
theorem pd_6 : parseMethodDescriptor "(IIII)Z" = some ⟨[.int, .int, .int, .int], some .boolean⟩ := by decide +kernel
theorem pn_3 : plainName "com/example/qrew/qrew/logic/Constant" = true := by first | (simp [plainName, overriddenIn]; done) | decide +kernel
theorem pn_2 : plainName "com/example/qrew/qrew/logic/ConstantEqualsPinLaw" = true := by first | (simp [plainName, overriddenIn]; done) | decide +kernel
theorem pn_4 : plainName "com/example/qrew/qrew/logic/Variable" = true := by first | (simp [plainName, overriddenIn]; done) | decide +kernel
theorem pn_0 : plainName "java/lang/String" = true := by first | (simp [plainName, overriddenIn]; done) | decide +kernel
theorem pn_1 : plainName "java/util/Objects" = true := by first | (simp [plainName, overriddenIn]; done) | decide +kernel
/-- the first n of these chars (all three from 3 on) -/
def cs3 (n a b c : Int32) : List Int32 := if n = 0 then [] else if n = 1 then [a] else if n = 2 then [a, b] else [a, b, c]
theorem cs3_0 {n a b c : Int32} (h : n = 0) : cs3 n a b c = [] := if_pos h
theorem cs3_1 {n a b c : Int32} (h : ¬ n = 0) (h1 : n = 1) : cs3 n a b c = [a] := by unfold cs3; rw [if_neg h, if_pos h1]
theorem cs3_2 {n a b c : Int32} (h : ¬ n = 0) (h1 : ¬ n = 1) (h2 : n = 2) : cs3 n a b c = [a, b] := by unfold cs3; rw [if_neg h, if_neg h1, if_pos h2]
theorem cs3_3 {n a b c : Int32} (h : ¬ n = 0) (h1 : ¬ n = 1) (h2 : ¬ n = 2) : cs3 n a b c = [a, b, c] := by unfold cs3; rw [if_neg h, if_neg h1, if_neg h2]

section Own6
theorem mask3 (x : Int32) : (x &&& 3) = 0 ∨ (x &&& 3) = 1 ∨ (x &&& 3) = 2 ∨ (x &&& 3) = 3 := by
  have h : (x &&& 3).toBitVec.toNat < 4 := by
    simp only [Int32.toBitVec_and, BitVec.toNat_and]
    exact Nat.lt_succ_of_le Nat.and_le_right
  have e : (x &&& 3) = Int32.ofNat (x &&& 3).toBitVec.toNat := by
    apply Int32.toBitVec_inj.mp
    show _ = BitVec.ofNat 32 _
    rw [BitVec.ofNat_toNat]; simp
  have t : ∀ k : Fin 4, Int32.ofNat k.val = 0 ∨ Int32.ofNat k.val = 1 ∨ Int32.ofNat k.val = 2 ∨ Int32.ofNat k.val = 3 := by decide
  rw [e]; exact t ⟨_, h⟩
/-- one char for one low byte -/
theorem chrI (x y : Int32) : ((x &&& (255 : Int32)).toUInt32.toUInt16.toUInt32.toInt32) = ((y &&& (255 : Int32)).toUInt32.toUInt16.toUInt32.toInt32) ↔ (x &&& (255 : Int32)) = (y &&& (255 : Int32)) := by
  refine ⟨fun h => ?_, fun h => by rw [h]⟩
  have t : ∀ k : Fin 256, (Int32.ofNat k.val).toUInt32.toUInt16.toUInt32.toInt32 = Int32.ofNat k.val := by decide +kernel
  obtain ⟨k, e⟩ := mask255 x
  obtain ⟨k', e'⟩ := mask255 y
  rw [e, e'] at h ⊢
  rwa [t k, t k'] at h
theorem cs3_ne {n m a b c a' b' c' : Int32} (hn : n = 0 ∨ n = 1 ∨ n = 2 ∨ n = 3) (hm : m = 0 ∨ m = 1 ∨ m = 2 ∨ m = 3) (h : ¬ n = m) : ¬ cs3 n a b c = cs3 m a' b' c' := by
  rcases hn with rfl | rfl | rfl | rfl <;> rcases hm with rfl | rfl | rfl | rfl <;> first | exact absurd rfl h | (simp [cs3])
theorem cs3_e1 {a b c a' b' c' : Int32} : cs3 1 a b c = cs3 1 a' b' c' ↔ a = a' := by simp [cs3]
theorem cs3_e2 {a b c a' b' c' : Int32} : cs3 2 a b c = cs3 2 a' b' c' ↔ a = a' ∧ b = b' := by simp [cs3]
theorem cs3_e3 {a b c a' b' c' : Int32} : cs3 3 a b c = cs3 3 a' b' c' ↔ a = a' ∧ b = b' ∧ c = c' := by simp [cs3]
end Own6

def R_initE4 : Room := { frames := 1, cells := 4, slots := 8, locals := 12 }
def Q_initE4 (Z : State) (x : Addr) (h0 : Heap) (v : Option Value) (h : Heap) : Prop := v = none ∧ Exa Z h x "java/lang/String" ∧ Fld Z h x "java/lang/String" "coder" "B" (.int (0 : Int32)) ∧ ∃ (t : Addr) (kb : ClassId), Fld Z h x "java/lang/String" "value" "[B" (.ref t) ∧ Arv Z h t kb .byte (0 : Int32) [] (.int 0)
set_option maxRecDepth 65536 in
set_option maxHeartbeats 40000000 in
theorem initE4 (l : Launch) (Z : State) (a0 : Array Value) (hw : ∀ d ∈ tables_1, d.before a0 Z = true) (hEL : EW Z a0 EL0) (zc : Int32) (S0 : Sta Z Z.heap "java/lang/String" "COMPACT_STRINGS" "Z" (.int zc)) (Pz : ¬ zc = 0) (x b : Addr) (h0 : Heap) (hO : Ext Z.heap h0) (E : Exa Z h0 x "java/lang/String") (V : Fld Z h0 x "java/lang/String" "value" "[B" .null) (C : Fld Z h0 x "java/lang/String" "coder" "B" (.int (0 : Int32))) (gx : Z.heap.size ≤ x) (hmem : ("java/lang/String", 7) ∈ EL0) :
    Con l Z EL0 [] (⟨"java/lang/String", "<init>", "([CIILjava/lang/Void;)V"⟩ : MethodName) jdk_42_method_149_code 6 none R_initE4 #[(.ref x), (.ref b), (.int (0 : Int32)), (.int (0 : Int32)), .null] h0 [x] (Q_initE4 Z x h0) := by
  refine Con.of (y := (⟨"java/lang/String", "<init>", "([CIILjava/lang/Void;)V"⟩ : MethodName)) (f0 := fun m => mkF m 0 #[.val (.ref x), .val (.ref b), .val (.int (0 : Int32)), .val (.int (0 : Int32)), .val .null, .unset] []) (plainFor_of_name pn_0) hEL hO (fun m => by skip <;> first | (simp [entryFrame, mkF, argsToLocals, Value.category, maxLocals]; done) | rfl) ?_
  intro p e s m below meth c s₁ P0
  show Go p e below _ (s₁.setTop (mkF m 0 #[.val (.ref x), .val (.ref b), .val (.int (0 : Int32)), .val (.int (0 : Int32)), .val .null, .unset] []))
  refine P0.xs (fun hA hx hy t k => XS.aloadN hA hx rfl (hb hy d3_0) rfl rfl  k) ?_
  show Go p e below _ (s₁.setTop (mkF m 1 #[.val (.ref x), .val (.ref b), .val (.int (0 : Int32)), .val (.int (0 : Int32)), .val .null, .unset] [(.ref x)]))
  refine P0.init0 (W := 0) (hw _ (List.mem_of_getElem? (i := 16) rfl)) (hw _ (List.mem_of_getElem? (i := 17) rfl)) (hw _ (List.mem_of_getElem? (i := 18) rfl)) d3_1 rfl (by decide) (Nat.le_of_eq rfl) (by decide) fun T1 P1 => ?_
  show Go p e below _ (T1.setTop (mkF m 4 #[.val (.ref x), .val (.ref b), .val (.int (0 : Int32)), .val (.int (0 : Int32)), .val .null, .unset] []))
  refine P1.xs (fun hA hx hy t k => XS.iloadN hA hx rfl (hb hy d3_4) rfl  k) ?_
  show Go p e below _ (T1.setTop (mkF m 5 #[.val (.ref x), .val (.ref b), .val (.int (0 : Int32)), .val (.int (0 : Int32)), .val .null, .unset] [(.int (0 : Int32))]))
  refine P1.xs (fun hA hx hy t k => XS.ifNo hA hx rfl (hb hy d3_5) rfl ((if0 _ _).trans (teq rfl).2) k) ?_
  show Go p e below _ (T1.setTop (mkF m 8 #[.val (.ref x), .val (.ref b), .val (.int (0 : Int32)), .val (.int (0 : Int32)), .val .null, .unset] []))
  refine P1.xs (fun hA hx hy t k => XS.aloadN hA hx rfl (hb hy d3_8) rfl rfl  k) ?_
  show Go p e below _ (T1.setTop (mkF m 9 #[.val (.ref x), .val (.ref b), .val (.int (0 : Int32)), .val (.int (0 : Int32)), .val .null, .unset] [(.ref x)]))
  refine P1.ldcR (hw _ (List.mem_of_getElem? (i := 35) rfl)) (wSt hw) hmem (vs := []) (z := (0 : Int32)) ⟨by decide, by decide⟩ (by decide) (by decide) d3_9 (n := 0) (by decide) (by decide) (by decide) (by decide) fun T2 h2 o2 b2 k2 P2 E2 A2 C2 V2 B2 => ?_
  show Go p e below _ (T2.setTop (mkF m 11 #[.val (.ref x), .val (.ref b), .val (.int (0 : Int32)), .val (.int (0 : Int32)), .val .null, .unset] [(.ref o2), (.ref x)]))
  refine P2.getF (host := "") (Or.inl (hw _ (List.mem_of_getElem? (i := 33) rfl))) Via.refl V2 d3_11 fun T3 P3 => ?_
  show Go p e below _ (T3.setTop (mkF m 14 #[.val (.ref x), .val (.ref b), .val (.int (0 : Int32)), .val (.int (0 : Int32)), .val .null, .unset] [(.ref b2), (.ref x)]))
  have Ec5 : Exa Z h2 x "java/lang/String" := (E.ext E2)
  have Fc6 : Fld Z h2 x "java/lang/String" "coder" "B" (.int (0 : Int32)) := (C.ext E2)
  have Fc7 : Fld Z h2 x "java/lang/String" "value" "[B" .null := (V.ext E2)
  refine P3.putF (hw _ (List.mem_of_getElem? (i := 33) rfl)) Via.refl Fc7 Ec5 (Or.inr ⟨(hw _ (List.mem_of_getElem? (i := 34) rfl)), rfl, rfl⟩) (hw _ (List.mem_of_getElem? (i := 6) rfl)) (ty := (.array .byte)) (v' := (.ref b2)) (by decide) rfl rfl d3_14 (fun vm hs hal hr => hr.safe E.lt (safeNull hs E V)) gx (Or.inl (List.mem_of_getElem? (i := 0) rfl)) fun T4 h4 P4 W4 => ?_
  show Go p e below _ (T4.setTop (mkF m 17 #[.val (.ref x), .val (.ref b), .val (.int (0 : Int32)), .val (.int (0 : Int32)), .val .null, .unset] []))
  refine P4.xs (fun hA hx hy t k => XS.aloadN hA hx rfl (hb hy d3_17) rfl rfl  k) ?_
  show Go p e below _ (T4.setTop (mkF m 18 #[.val (.ref x), .val (.ref b), .val (.int (0 : Int32)), .val (.int (0 : Int32)), .val .null, .unset] [(.ref x)]))
  refine P4.ldcR (hw _ (List.mem_of_getElem? (i := 35) rfl)) (wSt hw) hmem (vs := []) (z := (0 : Int32)) ⟨by decide, by decide⟩ (by decide) (by decide) d3_18 (n := 0) (by decide) (by decide) (by decide) (by decide) fun T8 h8 o8 b8 k8 P8 E8 A8 C8 V8 B8 => ?_
  show Go p e below _ (T8.setTop (mkF m 20 #[.val (.ref x), .val (.ref b), .val (.int (0 : Int32)), .val (.int (0 : Int32)), .val .null, .unset] [(.ref o8), (.ref x)]))
  refine P8.getF (host := "") (Or.inl (hw _ (List.mem_of_getElem? (i := 31) rfl))) Via.refl C8 d3_20 fun T9 P9 => ?_
  show Go p e below _ (T9.setTop (mkF m 23 #[.val (.ref x), .val (.ref b), .val (.int (0 : Int32)), .val (.int (0 : Int32)), .val .null, .unset] [(.int (0 : Int32)), (.ref x)]))
  have Ec11 : Exa Z h8 x "java/lang/String" := ((Ec5.wr W4).ext E8)
  have Fc12 : Fld Z h8 x "java/lang/String" "coder" "B" (.int (0 : Int32)) := ((Fc6.other W4 (Or.inr (slot_ne (Or.inr (hw _ (List.mem_of_getElem? (i := 32) rfl))) (Or.inr (hw _ (List.mem_of_getElem? (i := 34) rfl))) (by decide) (t := .byte) (t' := (.array .byte)) (by decide) (by decide)))).ext E8)
  have Fc13 : Fld Z h8 x "java/lang/String" "value" "[B" (.ref b2) := ((Fc7.same W4).ext E8)
  have Ac14 : Arv Z h8 b2 k2 .byte (0 : Int32) [] (.int 0) := ((B2.other W4 (Ne.symm (Exa.neArv (E.ext E2) B2 (hw _ (List.mem_of_getElem? (i := 6) rfl))))).ext E8)
  refine P9.putF (hw _ (List.mem_of_getElem? (i := 31) rfl)) Via.refl Fc12 Ec11 (Or.inr ⟨(hw _ (List.mem_of_getElem? (i := 32) rfl)), rfl, rfl⟩) (hw _ (List.mem_of_getElem? (i := 6) rfl)) (ty := .byte) (v' := (.int (0 : Int32))) (by decide) rfl rfl d3_23 (fun vm hs hal hr => hr.safe E.lt (safeNull hs E V)) gx (Or.inl (List.mem_of_getElem? (i := 0) rfl)) fun T10 h10 P10 W10 => ?_
  show Go p e below _ (T10.setTop (mkF m 26 #[.val (.ref x), .val (.ref b), .val (.int (0 : Int32)), .val (.int (0 : Int32)), .val .null, .unset] []))
  have Ec15 : Exa Z h10 x "java/lang/String" := (Ec11.wr W10)
  have Fc16 : Fld Z h10 x "java/lang/String" "coder" "B" (.int (0 : Int32)) := (Fc12.same W10)
  have Fc17 : Fld Z h10 x "java/lang/String" "value" "[B" (.ref b2) := (Fc13.other W10 (Or.inr (slot_ne (Or.inr (hw _ (List.mem_of_getElem? (i := 34) rfl))) (Or.inr (hw _ (List.mem_of_getElem? (i := 32) rfl))) (by decide) (t := (.array .byte)) (t' := .byte) (by decide) (by decide))))
  have Ac18 : Arv Z h10 b2 k2 .byte (0 : Int32) [] (.int 0) := (Ac14.other W10 (Ne.symm (Exa.neArv ((Ec5.wr W4).ext E8) ((B2.other W4 (Ne.symm (Exa.neArv (E.ext E2) B2 (hw _ (List.mem_of_getElem? (i := 6) rfl))))).ext E8) (hw _ (List.mem_of_getElem? (i := 6) rfl)))))
  exact P10.retV rfl d3_26 (by decide) (by decide) ⟨rfl, Ec15, Fc16, b2, _, Fc17, Ac18⟩

def R_initE1 : Room := { frames := 2, cells := 4, slots := 8, locals := 29 }
def Q_initE1 (Z : State) (x : Addr) (h0 : Heap) (v : Option Value) (h : Heap) : Prop := v = none ∧ Exa Z h x "java/lang/String" ∧ Fld Z h x "java/lang/String" "coder" "B" (.int (0 : Int32)) ∧ ∃ (t : Addr) (kb : ClassId), Fld Z h x "java/lang/String" "value" "[B" (.ref t) ∧ Arv Z h t kb .byte (0 : Int32) [] (.int 0)
set_option maxRecDepth 65536 in
set_option maxHeartbeats 40000000 in
theorem initE1 (l : Launch) (Z : State) (a0 : Array Value) (hw : ∀ d ∈ tables_1, d.before a0 Z = true) (hEL : EW Z a0 EL0) (zc : Int32) (S0 : Sta Z Z.heap "java/lang/String" "COMPACT_STRINGS" "Z" (.int zc)) (Pz : ¬ zc = 0) (x b : Addr) (kc : ClassId) (h0 : Heap) (hO : Ext Z.heap h0) (E : Exa Z h0 x "java/lang/String") (V : Fld Z h0 x "java/lang/String" "value" "[B" .null) (C : Fld Z h0 x "java/lang/String" "coder" "B" (.int (0 : Int32))) (gx : Z.heap.size ≤ x) (hmem : ("java/lang/String", 7) ∈ EL0) (A : Arv Z h0 b kc .char (0 : Int32) [] (.int (0 : Int32))) :
    Con l Z EL0 [] (⟨"java/lang/String", "<init>", "([C)V"⟩ : MethodName) jdk_42_method_3_code 2 none R_initE1 #[(.ref x), (.ref b)] h0 [x] (Q_initE1 Z x h0) := by
  refine Con.of (y := (⟨"java/lang/String", "<init>", "([C)V"⟩ : MethodName)) (f0 := fun m => mkF m 0 #[.val (.ref x), .val (.ref b)] []) (plainFor_of_name pn_0) hEL hO (fun m => by skip <;> first | (simp [entryFrame, mkF, argsToLocals, Value.category, maxLocals]; done) | rfl) ?_
  intro p e s m below meth c s₁ P0
  show Go p e below _ (s₁.setTop (mkF m 0 #[.val (.ref x), .val (.ref b)] []))
  refine P0.xs (fun hA hx hy t k => XS.aloadN hA hx rfl (hb hy d2_0) rfl rfl  k) ?_
  show Go p e below _ (s₁.setTop (mkF m 1 #[.val (.ref x), .val (.ref b)] [(.ref x)]))
  refine P0.xs (fun hA hx hy t k => XS.aloadN hA hx rfl (hb hy d2_1) rfl rfl  k) ?_
  show Go p e below _ (s₁.setTop (mkF m 2 #[.val (.ref x), .val (.ref b)] [(.ref b), (.ref x)]))
  refine P0.xs (fun hA hx hy t k => XS.iconst hA hx rfl (hb hy d2_2) k) ?_
  show Go p e below _ (s₁.setTop (mkF m 3 #[.val (.ref x), .val (.ref b)] [(.int (0 : Int32)), (.ref b), (.ref x)]))
  refine P0.xs (fun hA hx hy t k => XS.aloadN hA hx rfl (hb hy d2_3) rfl rfl  k) ?_
  show Go p e below _ (s₁.setTop (mkF m 4 #[.val (.ref x), .val (.ref b)] [(.ref b), (.int (0 : Int32)), (.ref b), (.ref x)]))
  refine P0.alen A d2_4 ?_
  show Go p e below _ (s₁.setTop (mkF m 5 #[.val (.ref x), .val (.ref b)] [(.int (0 : Int32)), (.int (0 : Int32)), (.ref b), (.ref x)]))
  refine P0.xs (fun hA hx hy t k => XS.aconstNull hA hx rfl (hb hy d2_5) k) ?_
  show Go p e below _ (s₁.setTop (mkF m 6 #[.val (.ref x), .val (.ref b)] [.null, (.int (0 : Int32)), (.int (0 : Int32)), (.ref b), (.ref x)]))
  refine P0.callI rfl (hw _ (List.mem_of_getElem? (i := 12) rfl)) (hw _ (List.mem_of_getElem? (i := 13) rfl)) (hw _ (List.mem_of_getElem? (i := 7) rfl)) (hw _ (List.mem_of_getElem? (i := 15) rfl)) (by decide) (initE4 l Z a0 hw hEL zc S0 Pz x b h0 P0.old E V C gx hmem) (W := 0) (by decide) (by decide) (by decide) (by decide) (allS (Or.inl (List.mem_of_getElem? (i := 0) rfl)) all0) pd_0 (argsL := [(.ref b), (.int (0 : Int32)), (.int (0 : Int32)), .null]) rfl rfl rfl (Nat.le_of_eq rfl) d2_6 fun v19 T19 h19 P19 K19 Q19 => ?_
  obtain ⟨rfl, E19, C19, b19, k19, V19, B19⟩ := Q19
  show Go p e below _ (T19.setTop (mkF m 9 #[.val (.ref x), .val (.ref b)] []))
  exact P19.retV rfl d2_9 (by decide) (by decide) ⟨rfl, E19, C19, b19, _, V19, B19⟩

def R_reqNN : Room := { frames := 0, cells := 0, slots := 0, locals := 0 }
def Q_reqNN (Z : State) (x : Addr) (h0 : Heap) (v : Option Value) (h : Heap) : Prop := v = some (.ref x) ∧ h = h0
set_option maxRecDepth 65536 in
set_option maxHeartbeats 40000000 in
theorem reqNN (l : Launch) (Z : State) (a0 : Array Value) (hw : ∀ d ∈ tables_1, d.before a0 Z = true) (hEL : EW Z a0 EL0) (zc : Int32) (S0 : Sta Z Z.heap "java/lang/String" "COMPACT_STRINGS" "Z" (.int zc)) (Pz : ¬ zc = 0) (x y : Addr) (h0 : Heap) (hO : Ext Z.heap h0)  :
    Con l Z EL0 [] (⟨"java/util/Objects", "requireNonNull", "(Ljava/lang/Object;Ljava/lang/String;)Ljava/lang/Object;"⟩ : MethodName) jdk_31_method_11_code 2 (some (.object "java/lang/Object")) R_reqNN #[(.ref x), (.ref y)] h0 [] (Q_reqNN Z x h0) := by
  refine Con.of (y := (⟨"java/util/Objects", "requireNonNull", "(Ljava/lang/Object;Ljava/lang/String;)Ljava/lang/Object;"⟩ : MethodName)) (f0 := fun m => mkF m 0 #[.val (.ref x), .val (.ref y)] []) (plainFor_of_name pn_1) hEL hO (fun m => by skip <;> first | (simp [entryFrame, mkF, argsToLocals, Value.category, maxLocals]; done) | rfl) ?_
  intro p e s m below meth c s₁ P0
  show Go p e below _ (s₁.setTop (mkF m 0 #[.val (.ref x), .val (.ref y)] []))
  refine P0.xs (fun hA hx hy t k => XS.aloadN hA hx rfl (hb hy d9_0) rfl rfl  k) ?_
  show Go p e below _ (s₁.setTop (mkF m 1 #[.val (.ref x), .val (.ref y)] [(.ref x)]))
  refine P0.xs (fun hA hx hy t k => XS.ifnonnullYes hA hx rfl (pc0 := 1) (pc' := 13) rfl (hb hy d9_1) rfl (by decide) (by decide) k) ?_
  show Go p e below _ (s₁.setTop (mkF m 13 #[.val (.ref x), .val (.ref y)] []))
  refine P0.xs (fun hA hx hy t k => XS.aloadN hA hx rfl (hb hy d9_13) rfl rfl  k) ?_
  show Go p e below _ (s₁.setTop (mkF m 14 #[.val (.ref x), .val (.ref y)] [(.ref x)]))
  exact P0.retR rfl rfl rfl d9_14 (by decide) (by decide) ⟨rfl, rfl⟩

def R_mStr : Room := { frames := 4, cells := 6, slots := 12, locals := 66 }
def Q_mStr (Z : State) (i j : Int32) (h0 : Heap) (v : Option Value) (h : Heap) : Prop := ∃ x : Addr, v = some (.ref x) ∧ h0.size ≤ x ∧ Str Z h x (cs3 j ((i &&& (255 : Int32)).toUInt32.toUInt16.toUInt32.toInt32) ((((i.toUInt32 >>> ((8 : Int32) &&& 31).toUInt32).toInt32) &&& (255 : Int32)).toUInt32.toUInt16.toUInt32.toInt32) ((((i.toUInt32 >>> ((16 : Int32) &&& 31).toUInt32).toInt32) &&& (255 : Int32)).toUInt32.toUInt16.toUInt32.toInt32))
set_option maxRecDepth 65536 in
set_option maxHeartbeats 40000000 in
theorem mStr (l : Launch) (Z : State) (a0 : Array Value) (hw : ∀ d ∈ tables_1, d.before a0 Z = true) (hEL : EW Z a0 EL0) (zc : Int32) (S0 : Sta Z Z.heap "java/lang/String" "COMPACT_STRINGS" "Z" (.int zc)) (Pz : ¬ zc = 0) (i j : Int32) (h0 : Heap) (hO : Ext Z.heap h0)  :
    Con l Z EL0 [] (⟨"com/example/qrew/qrew/logic/ConstantEqualsPinLaw", "str", "(II)Ljava/lang/String;"⟩ : MethodName) method_2_code 5 (some (.object "java/lang/String")) R_mStr #[(.int i), (.int j)] h0 [] (Q_mStr Z i j h0) := by
  refine Con.of (y := (⟨"com/example/qrew/qrew/logic/ConstantEqualsPinLaw", "str", "(II)Ljava/lang/String;"⟩ : MethodName)) (f0 := fun m => mkF m 0 #[.val (.int i), .val (.int j), .unset, .unset, .unset] []) (plainFor_of_name pn_2) hEL hO (fun m => by skip <;> first | (simp [entryFrame, mkF, argsToLocals, Value.category, maxLocals]; done) | rfl) ?_
  intro p e s m below meth c s₁ P0
  show Go p e below _ (s₁.setTop (mkF m 0 #[.val (.int i), .val (.int j), .unset, .unset, .unset] []))
  refine P0.xs (fun hA hx hy t k => XS.iloadN hA hx rfl (hb hy d1_0) rfl  k) ?_
  show Go p e below _ (s₁.setTop (mkF m 1 #[.val (.int i), .val (.int j), .unset, .unset, .unset] [(.int i)]))
  refine P0.xs (fun hA hx hy t k => XS.sipush hA hx rfl (hb hy d1_1) k) ?_
  show Go p e below _ (s₁.setTop (mkF m 4 #[.val (.int i), .val (.int j), .unset, .unset, .unset] [(.int (255 : Int32)), (.int i)]))
  refine P0.xs (fun hA hx hy t k => XS.iand hA hx rfl (hb hy d1_4) rfl k) ?_
  show Go p e below _ (s₁.setTop (mkF m 5 #[.val (.int i), .val (.int j), .unset, .unset, .unset] [(.int (i &&& (255 : Int32)))]))
  refine P0.xs (fun hA hx hy t k => XS.i2c hA hx rfl (hb hy d1_5) rfl k) ?_
  show Go p e below _ (s₁.setTop (mkF m 6 #[.val (.int i), .val (.int j), .unset, .unset, .unset] [(.int ((i &&& (255 : Int32)).toUInt32.toUInt16.toUInt32.toInt32))]))
  generalize hch20 : ((i &&& (255 : Int32)).toUInt32.toUInt16.toUInt32.toInt32) = ch20
  obtain ⟨lch20, nch20⟩ := chr255 hch20
  show Go p e below _ (s₁.setTop (mkF m 6 #[.val (.int i), .val (.int j), .unset, .unset, .unset] [(.int ch20)]))
  refine P0.xs (fun hA hx hy t k => XS.istoreN hA hx rfl (hb hy d1_6) rfl (l' := #[.val (.int i), .val (.int j), .val (.int ch20), .unset, .unset]) rfl k) ?_
  show Go p e below _ (s₁.setTop (mkF m 7 #[.val (.int i), .val (.int j), .val (.int ch20), .unset, .unset] []))
  refine P0.xs (fun hA hx hy t k => XS.iloadN hA hx rfl (hb hy d1_7) rfl  k) ?_
  show Go p e below _ (s₁.setTop (mkF m 8 #[.val (.int i), .val (.int j), .val (.int ch20), .unset, .unset] [(.int i)]))
  refine P0.xs (fun hA hx hy t k => XS.bipush hA hx rfl (hb hy d1_8) k) ?_
  show Go p e below _ (s₁.setTop (mkF m 10 #[.val (.int i), .val (.int j), .val (.int ch20), .unset, .unset] [(.int (8 : Int32)), (.int i)]))
  refine P0.xs (fun hA hx hy t k => XS.iushr hA hx rfl (hb hy d1_10) rfl k) ?_
  show Go p e below _ (s₁.setTop (mkF m 11 #[.val (.int i), .val (.int j), .val (.int ch20), .unset, .unset] [(.int ((i.toUInt32 >>> ((8 : Int32) &&& 31).toUInt32).toInt32))]))
  refine P0.xs (fun hA hx hy t k => XS.sipush hA hx rfl (hb hy d1_11) k) ?_
  show Go p e below _ (s₁.setTop (mkF m 14 #[.val (.int i), .val (.int j), .val (.int ch20), .unset, .unset] [(.int (255 : Int32)), (.int ((i.toUInt32 >>> ((8 : Int32) &&& 31).toUInt32).toInt32))]))
  refine P0.xs (fun hA hx hy t k => XS.iand hA hx rfl (hb hy d1_14) rfl k) ?_
  show Go p e below _ (s₁.setTop (mkF m 15 #[.val (.int i), .val (.int j), .val (.int ch20), .unset, .unset] [(.int (((i.toUInt32 >>> ((8 : Int32) &&& 31).toUInt32).toInt32) &&& (255 : Int32)))]))
  refine P0.xs (fun hA hx hy t k => XS.i2c hA hx rfl (hb hy d1_15) rfl k) ?_
  show Go p e below _ (s₁.setTop (mkF m 16 #[.val (.int i), .val (.int j), .val (.int ch20), .unset, .unset] [(.int ((((i.toUInt32 >>> ((8 : Int32) &&& 31).toUInt32).toInt32) &&& (255 : Int32)).toUInt32.toUInt16.toUInt32.toInt32))]))
  generalize hch21 : ((((i.toUInt32 >>> ((8 : Int32) &&& 31).toUInt32).toInt32) &&& (255 : Int32)).toUInt32.toUInt16.toUInt32.toInt32) = ch21
  obtain ⟨lch21, nch21⟩ := chr255 hch21
  show Go p e below _ (s₁.setTop (mkF m 16 #[.val (.int i), .val (.int j), .val (.int ch20), .unset, .unset] [(.int ch21)]))
  refine P0.xs (fun hA hx hy t k => XS.istoreN hA hx rfl (hb hy d1_16) rfl (l' := #[.val (.int i), .val (.int j), .val (.int ch20), .val (.int ch21), .unset]) rfl k) ?_
  show Go p e below _ (s₁.setTop (mkF m 17 #[.val (.int i), .val (.int j), .val (.int ch20), .val (.int ch21), .unset] []))
  refine P0.xs (fun hA hx hy t k => XS.iloadN hA hx rfl (hb hy d1_17) rfl  k) ?_
  show Go p e below _ (s₁.setTop (mkF m 18 #[.val (.int i), .val (.int j), .val (.int ch20), .val (.int ch21), .unset] [(.int i)]))
  refine P0.xs (fun hA hx hy t k => XS.bipush hA hx rfl (hb hy d1_18) k) ?_
  show Go p e below _ (s₁.setTop (mkF m 20 #[.val (.int i), .val (.int j), .val (.int ch20), .val (.int ch21), .unset] [(.int (16 : Int32)), (.int i)]))
  refine P0.xs (fun hA hx hy t k => XS.iushr hA hx rfl (hb hy d1_20) rfl k) ?_
  show Go p e below _ (s₁.setTop (mkF m 21 #[.val (.int i), .val (.int j), .val (.int ch20), .val (.int ch21), .unset] [(.int ((i.toUInt32 >>> ((16 : Int32) &&& 31).toUInt32).toInt32))]))
  refine P0.xs (fun hA hx hy t k => XS.sipush hA hx rfl (hb hy d1_21) k) ?_
  show Go p e below _ (s₁.setTop (mkF m 24 #[.val (.int i), .val (.int j), .val (.int ch20), .val (.int ch21), .unset] [(.int (255 : Int32)), (.int ((i.toUInt32 >>> ((16 : Int32) &&& 31).toUInt32).toInt32))]))
  refine P0.xs (fun hA hx hy t k => XS.iand hA hx rfl (hb hy d1_24) rfl k) ?_
  show Go p e below _ (s₁.setTop (mkF m 25 #[.val (.int i), .val (.int j), .val (.int ch20), .val (.int ch21), .unset] [(.int (((i.toUInt32 >>> ((16 : Int32) &&& 31).toUInt32).toInt32) &&& (255 : Int32)))]))
  refine P0.xs (fun hA hx hy t k => XS.i2c hA hx rfl (hb hy d1_25) rfl k) ?_
  show Go p e below _ (s₁.setTop (mkF m 26 #[.val (.int i), .val (.int j), .val (.int ch20), .val (.int ch21), .unset] [(.int ((((i.toUInt32 >>> ((16 : Int32) &&& 31).toUInt32).toInt32) &&& (255 : Int32)).toUInt32.toUInt16.toUInt32.toInt32))]))
  generalize hch22 : ((((i.toUInt32 >>> ((16 : Int32) &&& 31).toUInt32).toInt32) &&& (255 : Int32)).toUInt32.toUInt16.toUInt32.toInt32) = ch22
  obtain ⟨lch22, nch22⟩ := chr255 hch22
  show Go p e below _ (s₁.setTop (mkF m 26 #[.val (.int i), .val (.int j), .val (.int ch20), .val (.int ch21), .unset] [(.int ch22)]))
  refine P0.xs (fun hA hx hy t k => XS.istore hA hx rfl (hb hy d1_26) rfl (l' := #[.val (.int i), .val (.int j), .val (.int ch20), .val (.int ch21), .val (.int ch22)]) rfl k) ?_
  show Go p e below _ (s₁.setTop (mkF m 28 #[.val (.int i), .val (.int j), .val (.int ch20), .val (.int ch21), .val (.int ch22)] []))
  refine P0.xs (fun hA hx hy t k => XS.iloadN hA hx rfl (hb hy d1_28) rfl  k) ?_
  show Go p e below _ (s₁.setTop (mkF m 29 #[.val (.int i), .val (.int j), .val (.int ch20), .val (.int ch21), .val (.int ch22)] [(.int j)]))
  by_cases hq0 : j = 0
  · refine P0.xs (fun hA hx hy t k => XS.ifNo hA hx rfl (hb hy d1_29) rfl ((if0 _ _).trans (teq hq0).2) k) ?_
    show Go p e below _ (s₁.setTop (mkF m 32 #[.val (.int i), .val (.int j), .val (.int ch20), .val (.int ch21), .val (.int ch22)] []))
    refine P0.newO (hw _ (List.mem_of_getElem? (i := 5) rfl)) (hw _ (List.mem_of_getElem? (i := 6) rfl)) (hw _ (List.mem_of_getElem? (i := 7) rfl)) d1_32 (by decide) (by decide) fun T23 h23 o23 g23 P23 E23 A23 D23 => ?_
    have gz_o23 : Z.heap.size ≤ o23 := Nat.le_trans P0.old.1 (Nat.le_of_eq g23.symm)
    have gw_o23 : h0.size ≤ o23 := Nat.le_trans P0.kept.1 (Nat.le_of_eq g23.symm)
    have F23_coder : Fld Z h23 o23 "java/lang/String" "coder" "B" (.int (0 : Int32)) := D23 (Or.inr (hw _ (List.mem_of_getElem? (i := 32) rfl))) (ty := .byte) (by decide)
    have F23_value : Fld Z h23 o23 "java/lang/String" "value" "[B" .null := D23 (Or.inr (hw _ (List.mem_of_getElem? (i := 34) rfl))) (ty := (.array .byte)) (by decide)
    show Go p e below _ (T23.setTop (mkF m 35 #[.val (.int i), .val (.int j), .val (.int ch20), .val (.int ch21), .val (.int ch22)] [(.ref o23)]))
    refine P23.xs (fun hA hx hy t k => XS.dup hA hx rfl (hb hy d1_35) rfl rfl k) ?_
    show Go p e below _ (T23.setTop (mkF m 36 #[.val (.int i), .val (.int j), .val (.int ch20), .val (.int ch21), .val (.int ch22)] [(.ref o23), (.ref o23)]))
    refine P23.xs (fun hA hx hy t k => XS.iconst hA hx rfl (hb hy d1_36) k) ?_
    show Go p e below _ (T23.setTop (mkF m 37 #[.val (.int i), .val (.int j), .val (.int ch20), .val (.int ch21), .val (.int ch22)] [(.int (0 : Int32)), (.ref o23), (.ref o23)]))
    refine P23.newP (aty := .char) (hw _ (List.mem_of_getElem? (i := 8) rfl)) d1_37 (by decide) (cap := 0) (by decide) (by decide) (by decide) (by decide) fun T24 h24 o24 k24 g24 P24 E24 A24 => ?_
    have ne_o23_o24 : o23 ≠ o24 := Nat.ne_of_lt (Nat.lt_of_lt_of_le A23.lt (Nat.le_of_eq g24.symm))
    have gz_o24 : Z.heap.size ≤ o24 := Nat.le_trans P23.old.1 (Nat.le_of_eq g24.symm)
    have gw_o24 : h0.size ≤ o24 := Nat.le_trans P23.kept.1 (Nat.le_of_eq g24.symm)
    have V24 : Arv Z h24 o24 k24 .char (0 : Int32) [] (.int (0 : Int32)) := Arv.pad A24 (pad_rep [] (.int (0 : Int32)) 0)
    show Go p e below _ (T24.setTop (mkF m 39 #[.val (.int i), .val (.int j), .val (.int ch20), .val (.int ch21), .val (.int ch22)] [(.ref o24), (.ref o23), (.ref o23)]))
    have Ec25 : Exa Z h24 o23 "java/lang/String" := (A23.ext E24)
    have Fc26 : Fld Z h24 o23 "java/lang/String" "coder" "B" (.int (0 : Int32)) := (F23_coder.ext E24)
    have Fc27 : Fld Z h24 o23 "java/lang/String" "value" "[B" .null := (F23_value.ext E24)
    have hmem : ("java/lang/String", 7) ∈ EL0 := (by decide)
    refine P24.callI rfl (hw _ (List.mem_of_getElem? (i := 9) rfl)) (hw _ (List.mem_of_getElem? (i := 10) rfl)) (hw _ (List.mem_of_getElem? (i := 7) rfl)) (hw _ (List.mem_of_getElem? (i := 11) rfl)) (by decide) (initE1 l Z a0 hw hEL zc S0 Pz o23 o24 k24 h24 P24.old Ec25 Fc27 Fc26 gz_o23 hmem V24) (W := 1) (by decide) (by decide) (by decide) (by decide) (allS (Or.inr gw_o23) all0) pd_1 (argsL := [(.ref o24)]) rfl rfl rfl (Nat.le_of_eq rfl) d1_39 fun v28 T28 h28 P28 K28 Q28 => ?_
    obtain ⟨rfl, E28, C28, b28, k28, V28, B28⟩ := Q28
    show Go p e below _ (T28.setTop (mkF m 42 #[.val (.int i), .val (.int j), .val (.int ch20), .val (.int ch21), .val (.int ch22)] [(.ref o23)]))
    have Ac29 : Arv Z h28 o24 k24 .char (0 : Int32) [] (.int (0 : Int32)) := (V24.keep K28 (ninS (Ne.symm ne_o23_o24) nin0))
    have hcs30 : cs3 j ((i &&& (255 : Int32)).toUInt32.toUInt16.toUInt32.toInt32) ((((i.toUInt32 >>> ((8 : Int32) &&& 31).toUInt32).toInt32) &&& (255 : Int32)).toUInt32.toUInt16.toUInt32.toInt32) ((((i.toUInt32 >>> ((16 : Int32) &&& 31).toUInt32).toInt32) &&& (255 : Int32)).toUInt32.toUInt16.toUInt32.toInt32) = [] := by rw [hch20, hch21, hch22]; exact cs3_0 hq0
    exact P28.retR rfl rfl rfl d1_42 (by decide) (by decide) ⟨o23, rfl, gw_o23, by rw [hcs30]; exact (strE E28 C28 V28 B28)⟩
  · refine P0.xs (fun hA hx hy t k => XS.ifYes hA hx rfl (pc0 := 29) (pc' := 43) rfl (hb hy d1_29) rfl ((if0 _ _).trans (feq hq0).2) (by decide) (by decide) k) ?_
    show Go p e below _ (s₁.setTop (mkF m 43 #[.val (.int i), .val (.int j), .val (.int ch20), .val (.int ch21), .val (.int ch22)] []))
    refine P0.xs (fun hA hx hy t k => XS.iloadN hA hx rfl (hb hy d1_43) rfl  k) ?_
    show Go p e below _ (s₁.setTop (mkF m 44 #[.val (.int i), .val (.int j), .val (.int ch20), .val (.int ch21), .val (.int ch22)] [(.int j)]))
    refine P0.xs (fun hA hx hy t k => XS.iconst hA hx rfl (hb hy d1_44) k) ?_
    show Go p e below _ (s₁.setTop (mkF m 45 #[.val (.int i), .val (.int j), .val (.int ch20), .val (.int ch21), .val (.int ch22)] [(.int (1 : Int32)), (.int j)]))
    by_cases hq1 : j = 1
    · refine P0.xs (fun hA hx hy t k => XS.icmpNo hA hx rfl (hb hy d1_45) rfl (teq hq1).2 k) ?_
      show Go p e below _ (s₁.setTop (mkF m 48 #[.val (.int i), .val (.int j), .val (.int ch20), .val (.int ch21), .val (.int ch22)] []))
      refine P0.newO (hw _ (List.mem_of_getElem? (i := 5) rfl)) (hw _ (List.mem_of_getElem? (i := 6) rfl)) (hw _ (List.mem_of_getElem? (i := 7) rfl)) d1_48 (by decide) (by decide) fun T31 h31 o31 g31 P31 E31 A31 D31 => ?_
      have gz_o31 : Z.heap.size ≤ o31 := Nat.le_trans P0.old.1 (Nat.le_of_eq g31.symm)
      have gw_o31 : h0.size ≤ o31 := Nat.le_trans P0.kept.1 (Nat.le_of_eq g31.symm)
      have F31_coder : Fld Z h31 o31 "java/lang/String" "coder" "B" (.int (0 : Int32)) := D31 (Or.inr (hw _ (List.mem_of_getElem? (i := 32) rfl))) (ty := .byte) (by decide)
      have F31_value : Fld Z h31 o31 "java/lang/String" "value" "[B" .null := D31 (Or.inr (hw _ (List.mem_of_getElem? (i := 34) rfl))) (ty := (.array .byte)) (by decide)
      show Go p e below _ (T31.setTop (mkF m 51 #[.val (.int i), .val (.int j), .val (.int ch20), .val (.int ch21), .val (.int ch22)] [(.ref o31)]))
      refine P31.xs (fun hA hx hy t k => XS.dup hA hx rfl (hb hy d1_51) rfl rfl k) ?_
      show Go p e below _ (T31.setTop (mkF m 52 #[.val (.int i), .val (.int j), .val (.int ch20), .val (.int ch21), .val (.int ch22)] [(.ref o31), (.ref o31)]))
      refine P31.xs (fun hA hx hy t k => XS.iconst hA hx rfl (hb hy d1_52) k) ?_
      show Go p e below _ (T31.setTop (mkF m 53 #[.val (.int i), .val (.int j), .val (.int ch20), .val (.int ch21), .val (.int ch22)] [(.int (1 : Int32)), (.ref o31), (.ref o31)]))
      refine P31.newP (aty := .char) (hw _ (List.mem_of_getElem? (i := 8) rfl)) d1_53 (by decide) (cap := 1) (by decide) (by decide) (by decide) (by decide) fun T32 h32 o32 k32 g32 P32 E32 A32 => ?_
      have ne_o31_o32 : o31 ≠ o32 := Nat.ne_of_lt (Nat.lt_of_lt_of_le A31.lt (Nat.le_of_eq g32.symm))
      have gz_o32 : Z.heap.size ≤ o32 := Nat.le_trans P31.old.1 (Nat.le_of_eq g32.symm)
      have gw_o32 : h0.size ≤ o32 := Nat.le_trans P31.kept.1 (Nat.le_of_eq g32.symm)
      have V32 : Arv Z h32 o32 k32 .char (1 : Int32) [(.int (0 : Int32))] (.int (0 : Int32)) := Arv.pad A32 (pad_rep [] (.int (0 : Int32)) 1)
      show Go p e below _ (T32.setTop (mkF m 55 #[.val (.int i), .val (.int j), .val (.int ch20), .val (.int ch21), .val (.int ch22)] [(.ref o32), (.ref o31), (.ref o31)]))
      refine P32.xs (fun hA hx hy t k => XS.dup hA hx rfl (hb hy d1_55) rfl rfl k) ?_
      show Go p e below _ (T32.setTop (mkF m 56 #[.val (.int i), .val (.int j), .val (.int ch20), .val (.int ch21), .val (.int ch22)] [(.ref o32), (.ref o32), (.ref o31), (.ref o31)]))
      refine P32.xs (fun hA hx hy t k => XS.iconst hA hx rfl (hb hy d1_56) k) ?_
      show Go p e below _ (T32.setTop (mkF m 57 #[.val (.int i), .val (.int j), .val (.int ch20), .val (.int ch21), .val (.int ch22)] [(.int (0 : Int32)), (.ref o32), (.ref o32), (.ref o31), (.ref o31)]))
      refine P32.xs (fun hA hx hy t k => XS.iloadN hA hx rfl (hb hy d1_57) rfl  k) ?_
      show Go p e below _ (T32.setTop (mkF m 58 #[.val (.int i), .val (.int j), .val (.int ch20), .val (.int ch21), .val (.int ch22)] [(.int ch20), (.int (0 : Int32)), (.ref o32), (.ref o32), (.ref o31), (.ref o31)]))
      have Ec34 : Exa Z h32 o31 "java/lang/String" := (A31.ext E32)
      have Fc35 : Fld Z h32 o31 "java/lang/String" "coder" "B" (.int (0 : Int32)) := (F31_coder.ext E32)
      have Fc36 : Fld Z h32 o31 "java/lang/String" "value" "[B" .null := (F31_value.ext E32)
      refine P32.stC V32 0 (by decide) (by decide) (by decide) (Nat.le_of_ble_eq_true rfl) (x' := ch20) nch20 d1_58 gz_o32 (Or.inr gw_o32) fun T33 h33 P33 W33 V33 => ?_
      have Va33 : Arv Z h33 o32 k32 .char (1 : Int32) [(.int ch20)] (.int (0 : Int32)) := V33
      show Go p e below _ (T33.setTop (mkF m 59 #[.val (.int i), .val (.int j), .val (.int ch20), .val (.int ch21), .val (.int ch22)] [(.ref o32), (.ref o31), (.ref o31)]))
      have Ec37 : Exa Z h33 o31 "java/lang/String" := (Ec34.wr W33)
      have Fc38 : Fld Z h33 o31 "java/lang/String" "coder" "B" (.int (0 : Int32)) := (Fc35.other W33 (Or.inl ne_o31_o32))
      have Fc39 : Fld Z h33 o31 "java/lang/String" "value" "[B" .null := (Fc36.other W33 (Or.inl ne_o31_o32))
      refine P33.specB (W := 1) (ws' := [o31]) rfl (hw _ (List.mem_of_getElem? (i := 9) rfl)) (hw _ (List.mem_of_getElem? (i := 10) rfl)) (hw _ (List.mem_of_getElem? (i := 11) rfl)) (by decide) (fun vm0 hZ => StrChars.Road.backV (W := 1) hZ (wStr hw) (kI := 4) (hw _ (List.mem_of_getElem? (i := 6) rfl)) (cs := ([ch20] : List Int32)) (bs := ([ch20] : List Int32).map (fun c => c.toInt8.toInt32)) (n := 1) gz_o31 P33.old.1 Ec37 Fc39 Fc38 Va33 (S0.ext P33.old) Pz rfl rfl (by decide) (by decide) (latS lch20 lat0) rfl (by decide) (by decide)) rfl (fun v h' L q => ⟨q.2.1, q.2.2.1⟩) (by decide) (by decide) (allS ⟨(Or.inr gw_o31), gz_o31⟩ all0) (fun vm hs hal hr => safe1 (safeNull hal Ec37 Fc39)) pd_1 (argsL := [(.ref o32)]) rfl rfl rfl (Nat.le_of_eq rfl) d1_59 fun v40 T40 h40 L40 P40 Q40 => ?_
      obtain ⟨rfl, N40, K40, E40, C40, b40, k40, gb40, gc40, gd40, V40, B40⟩ := Q40
      show Go p e below _ (T40.setTop (mkF m 62 #[.val (.int i), .val (.int j), .val (.int ch20), .val (.int ch21), .val (.int ch22)] [(.ref o31)]))
      have Ac41 : Arv Z h40 o32 k32 .char (1 : Int32) [(.int ch20)] (.int (0 : Int32)) := (Va33.keep K40 (ninS (Ne.symm ne_o31_o32) nin0))
      have hcs42 : cs3 j ((i &&& (255 : Int32)).toUInt32.toUInt16.toUInt32.toInt32) ((((i.toUInt32 >>> ((8 : Int32) &&& 31).toUInt32).toInt32) &&& (255 : Int32)).toUInt32.toUInt16.toUInt32.toInt32) ((((i.toUInt32 >>> ((16 : Int32) &&& 31).toUInt32).toInt32) &&& (255 : Int32)).toUInt32.toUInt16.toUInt32.toInt32) = ([ch20] : List Int32) := by rw [hch20, hch21, hch22]; exact cs3_1 hq0 hq1
      exact P40.retR rfl rfl rfl d1_62 (by decide) (by decide) ⟨o31, rfl, gw_o31, by rw [hcs42]; exact (strOf (n := 1) rfl (latS lch20 lat0) (by decide) E40 C40 V40 B40)⟩
    · refine P0.xs (fun hA hx hy t k => XS.icmpYes hA hx rfl (pc0 := 45) (pc' := 63) rfl (hb hy d1_45) rfl (feq hq1).2 (by decide) (by decide) k) ?_
      show Go p e below _ (s₁.setTop (mkF m 63 #[.val (.int i), .val (.int j), .val (.int ch20), .val (.int ch21), .val (.int ch22)] []))
      refine P0.xs (fun hA hx hy t k => XS.iloadN hA hx rfl (hb hy d1_63) rfl  k) ?_
      show Go p e below _ (s₁.setTop (mkF m 64 #[.val (.int i), .val (.int j), .val (.int ch20), .val (.int ch21), .val (.int ch22)] [(.int j)]))
      refine P0.xs (fun hA hx hy t k => XS.iconst hA hx rfl (hb hy d1_64) k) ?_
      show Go p e below _ (s₁.setTop (mkF m 65 #[.val (.int i), .val (.int j), .val (.int ch20), .val (.int ch21), .val (.int ch22)] [(.int (2 : Int32)), (.int j)]))
      by_cases hq2 : j = 2
      · refine P0.xs (fun hA hx hy t k => XS.icmpNo hA hx rfl (hb hy d1_65) rfl (teq hq2).2 k) ?_
        show Go p e below _ (s₁.setTop (mkF m 68 #[.val (.int i), .val (.int j), .val (.int ch20), .val (.int ch21), .val (.int ch22)] []))
        refine P0.newO (hw _ (List.mem_of_getElem? (i := 5) rfl)) (hw _ (List.mem_of_getElem? (i := 6) rfl)) (hw _ (List.mem_of_getElem? (i := 7) rfl)) d1_68 (by decide) (by decide) fun T43 h43 o43 g43 P43 E43 A43 D43 => ?_
        have gz_o43 : Z.heap.size ≤ o43 := Nat.le_trans P0.old.1 (Nat.le_of_eq g43.symm)
        have gw_o43 : h0.size ≤ o43 := Nat.le_trans P0.kept.1 (Nat.le_of_eq g43.symm)
        have F43_coder : Fld Z h43 o43 "java/lang/String" "coder" "B" (.int (0 : Int32)) := D43 (Or.inr (hw _ (List.mem_of_getElem? (i := 32) rfl))) (ty := .byte) (by decide)
        have F43_value : Fld Z h43 o43 "java/lang/String" "value" "[B" .null := D43 (Or.inr (hw _ (List.mem_of_getElem? (i := 34) rfl))) (ty := (.array .byte)) (by decide)
        show Go p e below _ (T43.setTop (mkF m 71 #[.val (.int i), .val (.int j), .val (.int ch20), .val (.int ch21), .val (.int ch22)] [(.ref o43)]))
        refine P43.xs (fun hA hx hy t k => XS.dup hA hx rfl (hb hy d1_71) rfl rfl k) ?_
        show Go p e below _ (T43.setTop (mkF m 72 #[.val (.int i), .val (.int j), .val (.int ch20), .val (.int ch21), .val (.int ch22)] [(.ref o43), (.ref o43)]))
        refine P43.xs (fun hA hx hy t k => XS.iconst hA hx rfl (hb hy d1_72) k) ?_
        show Go p e below _ (T43.setTop (mkF m 73 #[.val (.int i), .val (.int j), .val (.int ch20), .val (.int ch21), .val (.int ch22)] [(.int (2 : Int32)), (.ref o43), (.ref o43)]))
        refine P43.newP (aty := .char) (hw _ (List.mem_of_getElem? (i := 8) rfl)) d1_73 (by decide) (cap := 2) (by decide) (by decide) (by decide) (by decide) fun T44 h44 o44 k44 g44 P44 E44 A44 => ?_
        have ne_o43_o44 : o43 ≠ o44 := Nat.ne_of_lt (Nat.lt_of_lt_of_le A43.lt (Nat.le_of_eq g44.symm))
        have gz_o44 : Z.heap.size ≤ o44 := Nat.le_trans P43.old.1 (Nat.le_of_eq g44.symm)
        have gw_o44 : h0.size ≤ o44 := Nat.le_trans P43.kept.1 (Nat.le_of_eq g44.symm)
        have V44 : Arv Z h44 o44 k44 .char (2 : Int32) [(.int (0 : Int32)), (.int (0 : Int32))] (.int (0 : Int32)) := Arv.pad A44 (pad_rep [] (.int (0 : Int32)) 2)
        show Go p e below _ (T44.setTop (mkF m 75 #[.val (.int i), .val (.int j), .val (.int ch20), .val (.int ch21), .val (.int ch22)] [(.ref o44), (.ref o43), (.ref o43)]))
        refine P44.xs (fun hA hx hy t k => XS.dup hA hx rfl (hb hy d1_75) rfl rfl k) ?_
        show Go p e below _ (T44.setTop (mkF m 76 #[.val (.int i), .val (.int j), .val (.int ch20), .val (.int ch21), .val (.int ch22)] [(.ref o44), (.ref o44), (.ref o43), (.ref o43)]))
        refine P44.xs (fun hA hx hy t k => XS.iconst hA hx rfl (hb hy d1_76) k) ?_
        show Go p e below _ (T44.setTop (mkF m 77 #[.val (.int i), .val (.int j), .val (.int ch20), .val (.int ch21), .val (.int ch22)] [(.int (0 : Int32)), (.ref o44), (.ref o44), (.ref o43), (.ref o43)]))
        refine P44.xs (fun hA hx hy t k => XS.iloadN hA hx rfl (hb hy d1_77) rfl  k) ?_
        show Go p e below _ (T44.setTop (mkF m 78 #[.val (.int i), .val (.int j), .val (.int ch20), .val (.int ch21), .val (.int ch22)] [(.int ch20), (.int (0 : Int32)), (.ref o44), (.ref o44), (.ref o43), (.ref o43)]))
        have Ec46 : Exa Z h44 o43 "java/lang/String" := (A43.ext E44)
        have Fc47 : Fld Z h44 o43 "java/lang/String" "coder" "B" (.int (0 : Int32)) := (F43_coder.ext E44)
        have Fc48 : Fld Z h44 o43 "java/lang/String" "value" "[B" .null := (F43_value.ext E44)
        refine P44.stC V44 0 (by decide) (by decide) (by decide) (Nat.le_of_ble_eq_true rfl) (x' := ch20) nch20 d1_78 gz_o44 (Or.inr gw_o44) fun T45 h45 P45 W45 V45 => ?_
        have Va45 : Arv Z h45 o44 k44 .char (2 : Int32) [(.int ch20), (.int (0 : Int32))] (.int (0 : Int32)) := V45
        show Go p e below _ (T45.setTop (mkF m 79 #[.val (.int i), .val (.int j), .val (.int ch20), .val (.int ch21), .val (.int ch22)] [(.ref o44), (.ref o43), (.ref o43)]))
        refine P45.xs (fun hA hx hy t k => XS.dup hA hx rfl (hb hy d1_79) rfl rfl k) ?_
        show Go p e below _ (T45.setTop (mkF m 80 #[.val (.int i), .val (.int j), .val (.int ch20), .val (.int ch21), .val (.int ch22)] [(.ref o44), (.ref o44), (.ref o43), (.ref o43)]))
        refine P45.xs (fun hA hx hy t k => XS.iconst hA hx rfl (hb hy d1_80) k) ?_
        show Go p e below _ (T45.setTop (mkF m 81 #[.val (.int i), .val (.int j), .val (.int ch20), .val (.int ch21), .val (.int ch22)] [(.int (1 : Int32)), (.ref o44), (.ref o44), (.ref o43), (.ref o43)]))
        refine P45.xs (fun hA hx hy t k => XS.iloadN hA hx rfl (hb hy d1_81) rfl  k) ?_
        show Go p e below _ (T45.setTop (mkF m 82 #[.val (.int i), .val (.int j), .val (.int ch20), .val (.int ch21), .val (.int ch22)] [(.int ch21), (.int (1 : Int32)), (.ref o44), (.ref o44), (.ref o43), (.ref o43)]))
        have Ec50 : Exa Z h45 o43 "java/lang/String" := (Ec46.wr W45)
        have Fc51 : Fld Z h45 o43 "java/lang/String" "coder" "B" (.int (0 : Int32)) := (Fc47.other W45 (Or.inl ne_o43_o44))
        have Fc52 : Fld Z h45 o43 "java/lang/String" "value" "[B" .null := (Fc48.other W45 (Or.inl ne_o43_o44))
        refine P45.stC Va45 1 (by decide) (by decide) (by decide) (Nat.le_of_ble_eq_true rfl) (x' := ch21) nch21 d1_82 gz_o44 (Or.inr gw_o44) fun T49 h49 P49 W49 V49 => ?_
        have Va49 : Arv Z h49 o44 k44 .char (2 : Int32) [(.int ch20), (.int ch21)] (.int (0 : Int32)) := V49
        show Go p e below _ (T49.setTop (mkF m 83 #[.val (.int i), .val (.int j), .val (.int ch20), .val (.int ch21), .val (.int ch22)] [(.ref o44), (.ref o43), (.ref o43)]))
        have Ec53 : Exa Z h49 o43 "java/lang/String" := (Ec50.wr W49)
        have Fc54 : Fld Z h49 o43 "java/lang/String" "coder" "B" (.int (0 : Int32)) := (Fc51.other W49 (Or.inl ne_o43_o44))
        have Fc55 : Fld Z h49 o43 "java/lang/String" "value" "[B" .null := (Fc52.other W49 (Or.inl ne_o43_o44))
        refine P49.specB (W := 1) (ws' := [o43]) rfl (hw _ (List.mem_of_getElem? (i := 9) rfl)) (hw _ (List.mem_of_getElem? (i := 10) rfl)) (hw _ (List.mem_of_getElem? (i := 11) rfl)) (by decide) (fun vm0 hZ => StrChars.Road.backV (W := 1) hZ (wStr hw) (kI := 4) (hw _ (List.mem_of_getElem? (i := 6) rfl)) (cs := ([ch20, ch21] : List Int32)) (bs := ([ch20, ch21] : List Int32).map (fun c => c.toInt8.toInt32)) (n := 2) gz_o43 P49.old.1 Ec53 Fc55 Fc54 Va49 (S0.ext P49.old) Pz rfl rfl (by decide) (by decide) (latS lch20 (latS lch21 lat0)) rfl (by decide) (by decide)) rfl (fun v h' L q => ⟨q.2.1, q.2.2.1⟩) (by decide) (by decide) (allS ⟨(Or.inr gw_o43), gz_o43⟩ all0) (fun vm hs hal hr => safe1 (safeNull hal Ec53 Fc55)) pd_1 (argsL := [(.ref o44)]) rfl rfl rfl (Nat.le_of_eq rfl) d1_83 fun v56 T56 h56 L56 P56 Q56 => ?_
        obtain ⟨rfl, N56, K56, E56, C56, b56, k56, gb56, gc56, gd56, V56, B56⟩ := Q56
        show Go p e below _ (T56.setTop (mkF m 86 #[.val (.int i), .val (.int j), .val (.int ch20), .val (.int ch21), .val (.int ch22)] [(.ref o43)]))
        have Ac57 : Arv Z h56 o44 k44 .char (2 : Int32) [(.int ch20), (.int ch21)] (.int (0 : Int32)) := (Va49.keep K56 (ninS (Ne.symm ne_o43_o44) nin0))
        have hcs58 : cs3 j ((i &&& (255 : Int32)).toUInt32.toUInt16.toUInt32.toInt32) ((((i.toUInt32 >>> ((8 : Int32) &&& 31).toUInt32).toInt32) &&& (255 : Int32)).toUInt32.toUInt16.toUInt32.toInt32) ((((i.toUInt32 >>> ((16 : Int32) &&& 31).toUInt32).toInt32) &&& (255 : Int32)).toUInt32.toUInt16.toUInt32.toInt32) = ([ch20, ch21] : List Int32) := by rw [hch20, hch21, hch22]; exact cs3_2 hq0 hq1 hq2
        exact P56.retR rfl rfl rfl d1_86 (by decide) (by decide) ⟨o43, rfl, gw_o43, by rw [hcs58]; exact (strOf (n := 2) rfl (latS lch20 (latS lch21 lat0)) (by decide) E56 C56 V56 B56)⟩
      · refine P0.xs (fun hA hx hy t k => XS.icmpYes hA hx rfl (pc0 := 65) (pc' := 87) rfl (hb hy d1_65) rfl (feq hq2).2 (by decide) (by decide) k) ?_
        show Go p e below _ (s₁.setTop (mkF m 87 #[.val (.int i), .val (.int j), .val (.int ch20), .val (.int ch21), .val (.int ch22)] []))
        refine P0.newO (hw _ (List.mem_of_getElem? (i := 5) rfl)) (hw _ (List.mem_of_getElem? (i := 6) rfl)) (hw _ (List.mem_of_getElem? (i := 7) rfl)) d1_87 (by decide) (by decide) fun T59 h59 o59 g59 P59 E59 A59 D59 => ?_
        have gz_o59 : Z.heap.size ≤ o59 := Nat.le_trans P0.old.1 (Nat.le_of_eq g59.symm)
        have gw_o59 : h0.size ≤ o59 := Nat.le_trans P0.kept.1 (Nat.le_of_eq g59.symm)
        have F59_coder : Fld Z h59 o59 "java/lang/String" "coder" "B" (.int (0 : Int32)) := D59 (Or.inr (hw _ (List.mem_of_getElem? (i := 32) rfl))) (ty := .byte) (by decide)
        have F59_value : Fld Z h59 o59 "java/lang/String" "value" "[B" .null := D59 (Or.inr (hw _ (List.mem_of_getElem? (i := 34) rfl))) (ty := (.array .byte)) (by decide)
        show Go p e below _ (T59.setTop (mkF m 90 #[.val (.int i), .val (.int j), .val (.int ch20), .val (.int ch21), .val (.int ch22)] [(.ref o59)]))
        refine P59.xs (fun hA hx hy t k => XS.dup hA hx rfl (hb hy d1_90) rfl rfl k) ?_
        show Go p e below _ (T59.setTop (mkF m 91 #[.val (.int i), .val (.int j), .val (.int ch20), .val (.int ch21), .val (.int ch22)] [(.ref o59), (.ref o59)]))
        refine P59.xs (fun hA hx hy t k => XS.iconst hA hx rfl (hb hy d1_91) k) ?_
        show Go p e below _ (T59.setTop (mkF m 92 #[.val (.int i), .val (.int j), .val (.int ch20), .val (.int ch21), .val (.int ch22)] [(.int (3 : Int32)), (.ref o59), (.ref o59)]))
        refine P59.newP (aty := .char) (hw _ (List.mem_of_getElem? (i := 8) rfl)) d1_92 (by decide) (cap := 3) (by decide) (by decide) (by decide) (by decide) fun T60 h60 o60 k60 g60 P60 E60 A60 => ?_
        have ne_o59_o60 : o59 ≠ o60 := Nat.ne_of_lt (Nat.lt_of_lt_of_le A59.lt (Nat.le_of_eq g60.symm))
        have gz_o60 : Z.heap.size ≤ o60 := Nat.le_trans P59.old.1 (Nat.le_of_eq g60.symm)
        have gw_o60 : h0.size ≤ o60 := Nat.le_trans P59.kept.1 (Nat.le_of_eq g60.symm)
        have V60 : Arv Z h60 o60 k60 .char (3 : Int32) [(.int (0 : Int32)), (.int (0 : Int32)), (.int (0 : Int32))] (.int (0 : Int32)) := Arv.pad A60 (pad_rep [] (.int (0 : Int32)) 3)
        show Go p e below _ (T60.setTop (mkF m 94 #[.val (.int i), .val (.int j), .val (.int ch20), .val (.int ch21), .val (.int ch22)] [(.ref o60), (.ref o59), (.ref o59)]))
        refine P60.xs (fun hA hx hy t k => XS.dup hA hx rfl (hb hy d1_94) rfl rfl k) ?_
        show Go p e below _ (T60.setTop (mkF m 95 #[.val (.int i), .val (.int j), .val (.int ch20), .val (.int ch21), .val (.int ch22)] [(.ref o60), (.ref o60), (.ref o59), (.ref o59)]))
        refine P60.xs (fun hA hx hy t k => XS.iconst hA hx rfl (hb hy d1_95) k) ?_
        show Go p e below _ (T60.setTop (mkF m 96 #[.val (.int i), .val (.int j), .val (.int ch20), .val (.int ch21), .val (.int ch22)] [(.int (0 : Int32)), (.ref o60), (.ref o60), (.ref o59), (.ref o59)]))
        refine P60.xs (fun hA hx hy t k => XS.iloadN hA hx rfl (hb hy d1_96) rfl  k) ?_
        show Go p e below _ (T60.setTop (mkF m 97 #[.val (.int i), .val (.int j), .val (.int ch20), .val (.int ch21), .val (.int ch22)] [(.int ch20), (.int (0 : Int32)), (.ref o60), (.ref o60), (.ref o59), (.ref o59)]))
        have Ec62 : Exa Z h60 o59 "java/lang/String" := (A59.ext E60)
        have Fc63 : Fld Z h60 o59 "java/lang/String" "coder" "B" (.int (0 : Int32)) := (F59_coder.ext E60)
        have Fc64 : Fld Z h60 o59 "java/lang/String" "value" "[B" .null := (F59_value.ext E60)
        refine P60.stC V60 0 (by decide) (by decide) (by decide) (Nat.le_of_ble_eq_true rfl) (x' := ch20) nch20 d1_97 gz_o60 (Or.inr gw_o60) fun T61 h61 P61 W61 V61 => ?_
        have Va61 : Arv Z h61 o60 k60 .char (3 : Int32) [(.int ch20), (.int (0 : Int32)), (.int (0 : Int32))] (.int (0 : Int32)) := V61
        show Go p e below _ (T61.setTop (mkF m 98 #[.val (.int i), .val (.int j), .val (.int ch20), .val (.int ch21), .val (.int ch22)] [(.ref o60), (.ref o59), (.ref o59)]))
        refine P61.xs (fun hA hx hy t k => XS.dup hA hx rfl (hb hy d1_98) rfl rfl k) ?_
        show Go p e below _ (T61.setTop (mkF m 99 #[.val (.int i), .val (.int j), .val (.int ch20), .val (.int ch21), .val (.int ch22)] [(.ref o60), (.ref o60), (.ref o59), (.ref o59)]))
        refine P61.xs (fun hA hx hy t k => XS.iconst hA hx rfl (hb hy d1_99) k) ?_
        show Go p e below _ (T61.setTop (mkF m 100 #[.val (.int i), .val (.int j), .val (.int ch20), .val (.int ch21), .val (.int ch22)] [(.int (1 : Int32)), (.ref o60), (.ref o60), (.ref o59), (.ref o59)]))
        refine P61.xs (fun hA hx hy t k => XS.iloadN hA hx rfl (hb hy d1_100) rfl  k) ?_
        show Go p e below _ (T61.setTop (mkF m 101 #[.val (.int i), .val (.int j), .val (.int ch20), .val (.int ch21), .val (.int ch22)] [(.int ch21), (.int (1 : Int32)), (.ref o60), (.ref o60), (.ref o59), (.ref o59)]))
        have Ec66 : Exa Z h61 o59 "java/lang/String" := (Ec62.wr W61)
        have Fc67 : Fld Z h61 o59 "java/lang/String" "coder" "B" (.int (0 : Int32)) := (Fc63.other W61 (Or.inl ne_o59_o60))
        have Fc68 : Fld Z h61 o59 "java/lang/String" "value" "[B" .null := (Fc64.other W61 (Or.inl ne_o59_o60))
        refine P61.stC Va61 1 (by decide) (by decide) (by decide) (Nat.le_of_ble_eq_true rfl) (x' := ch21) nch21 d1_101 gz_o60 (Or.inr gw_o60) fun T65 h65 P65 W65 V65 => ?_
        have Va65 : Arv Z h65 o60 k60 .char (3 : Int32) [(.int ch20), (.int ch21), (.int (0 : Int32))] (.int (0 : Int32)) := V65
        show Go p e below _ (T65.setTop (mkF m 102 #[.val (.int i), .val (.int j), .val (.int ch20), .val (.int ch21), .val (.int ch22)] [(.ref o60), (.ref o59), (.ref o59)]))
        refine P65.xs (fun hA hx hy t k => XS.dup hA hx rfl (hb hy d1_102) rfl rfl k) ?_
        show Go p e below _ (T65.setTop (mkF m 103 #[.val (.int i), .val (.int j), .val (.int ch20), .val (.int ch21), .val (.int ch22)] [(.ref o60), (.ref o60), (.ref o59), (.ref o59)]))
        refine P65.xs (fun hA hx hy t k => XS.iconst hA hx rfl (hb hy d1_103) k) ?_
        show Go p e below _ (T65.setTop (mkF m 104 #[.val (.int i), .val (.int j), .val (.int ch20), .val (.int ch21), .val (.int ch22)] [(.int (2 : Int32)), (.ref o60), (.ref o60), (.ref o59), (.ref o59)]))
        refine P65.xs (fun hA hx hy t k => XS.iload hA hx rfl (hb hy d1_104) rfl  k) ?_
        show Go p e below _ (T65.setTop (mkF m 106 #[.val (.int i), .val (.int j), .val (.int ch20), .val (.int ch21), .val (.int ch22)] [(.int ch22), (.int (2 : Int32)), (.ref o60), (.ref o60), (.ref o59), (.ref o59)]))
        have Ec70 : Exa Z h65 o59 "java/lang/String" := (Ec66.wr W65)
        have Fc71 : Fld Z h65 o59 "java/lang/String" "coder" "B" (.int (0 : Int32)) := (Fc67.other W65 (Or.inl ne_o59_o60))
        have Fc72 : Fld Z h65 o59 "java/lang/String" "value" "[B" .null := (Fc68.other W65 (Or.inl ne_o59_o60))
        refine P65.stC Va65 2 (by decide) (by decide) (by decide) (Nat.le_of_ble_eq_true rfl) (x' := ch22) nch22 d1_106 gz_o60 (Or.inr gw_o60) fun T69 h69 P69 W69 V69 => ?_
        have Va69 : Arv Z h69 o60 k60 .char (3 : Int32) [(.int ch20), (.int ch21), (.int ch22)] (.int (0 : Int32)) := V69
        show Go p e below _ (T69.setTop (mkF m 107 #[.val (.int i), .val (.int j), .val (.int ch20), .val (.int ch21), .val (.int ch22)] [(.ref o60), (.ref o59), (.ref o59)]))
        have Ec73 : Exa Z h69 o59 "java/lang/String" := (Ec70.wr W69)
        have Fc74 : Fld Z h69 o59 "java/lang/String" "coder" "B" (.int (0 : Int32)) := (Fc71.other W69 (Or.inl ne_o59_o60))
        have Fc75 : Fld Z h69 o59 "java/lang/String" "value" "[B" .null := (Fc72.other W69 (Or.inl ne_o59_o60))
        refine P69.specB (W := 1) (ws' := [o59]) rfl (hw _ (List.mem_of_getElem? (i := 9) rfl)) (hw _ (List.mem_of_getElem? (i := 10) rfl)) (hw _ (List.mem_of_getElem? (i := 11) rfl)) (by decide) (fun vm0 hZ => StrChars.Road.backV (W := 1) hZ (wStr hw) (kI := 4) (hw _ (List.mem_of_getElem? (i := 6) rfl)) (cs := ([ch20, ch21, ch22] : List Int32)) (bs := ([ch20, ch21, ch22] : List Int32).map (fun c => c.toInt8.toInt32)) (n := 3) gz_o59 P69.old.1 Ec73 Fc75 Fc74 Va69 (S0.ext P69.old) Pz rfl rfl (by decide) (by decide) (latS lch20 (latS lch21 (latS lch22 lat0))) rfl (by decide) (by decide)) rfl (fun v h' L q => ⟨q.2.1, q.2.2.1⟩) (by decide) (by decide) (allS ⟨(Or.inr gw_o59), gz_o59⟩ all0) (fun vm hs hal hr => safe1 (safeNull hal Ec73 Fc75)) pd_1 (argsL := [(.ref o60)]) rfl rfl rfl (Nat.le_of_eq rfl) d1_107 fun v76 T76 h76 L76 P76 Q76 => ?_
        obtain ⟨rfl, N76, K76, E76, C76, b76, k76, gb76, gc76, gd76, V76, B76⟩ := Q76
        show Go p e below _ (T76.setTop (mkF m 110 #[.val (.int i), .val (.int j), .val (.int ch20), .val (.int ch21), .val (.int ch22)] [(.ref o59)]))
        have Ac77 : Arv Z h76 o60 k60 .char (3 : Int32) [(.int ch20), (.int ch21), (.int ch22)] (.int (0 : Int32)) := (Va69.keep K76 (ninS (Ne.symm ne_o59_o60) nin0))
        have hcs78 : cs3 j ((i &&& (255 : Int32)).toUInt32.toUInt16.toUInt32.toInt32) ((((i.toUInt32 >>> ((8 : Int32) &&& 31).toUInt32).toInt32) &&& (255 : Int32)).toUInt32.toUInt16.toUInt32.toInt32) ((((i.toUInt32 >>> ((16 : Int32) &&& 31).toUInt32).toInt32) &&& (255 : Int32)).toUInt32.toUInt16.toUInt32.toInt32) = ([ch20, ch21, ch22] : List Int32) := by rw [hch20, hch21, hch22]; exact cs3_3 hq0 hq1 hq2
        exact P76.retR rfl rfl rfl d1_110 (by decide) (by decide) ⟨o59, rfl, gw_o59, by rw [hcs78]; exact (strOf (n := 3) rfl (latS lch20 (latS lch21 (latS lch22 lat0))) (by decide) E76 C76 V76 B76)⟩

def R_mCon : Room := { frames := 1, cells := 2, slots := 20, locals := 14 }
def Q_mCon (Z : State) (o t : Addr) (h0 : Heap) (v : Option Value) (h : Heap) : Prop := v = none ∧ Exa Z h o "com/example/qrew/qrew/logic/Constant" ∧ Fld Z h o "com/example/qrew/qrew/logic/Constant" "text" "Ljava/lang/String;" (.ref t)
set_option maxRecDepth 65536 in
set_option maxHeartbeats 40000000 in
theorem mCon (l : Launch) (Z : State) (a0 : Array Value) (hw : ∀ d ∈ tables_1, d.before a0 Z = true) (hEL : EW Z a0 EL0) (zc : Int32) (S0 : Sta Z Z.heap "java/lang/String" "COMPACT_STRINGS" "Z" (.int zc)) (Pz : ¬ zc = 0) (o t : Addr) (h0 : Heap) (hO : Ext Z.heap h0) (E : Exa Z h0 o "com/example/qrew/qrew/logic/Constant") (F : Fld Z h0 o "com/example/qrew/qrew/logic/Constant" "text" "Ljava/lang/String;" .null) (go : Z.heap.size ≤ o) (Et : Exa Z h0 t "java/lang/String") :
    Con l Z EL0 [] (⟨"com/example/qrew/qrew/logic/Constant", "<init>", "(Ljava/lang/String;)V"⟩ : MethodName) prog_13_method_1_code 2 none R_mCon #[(.ref o), (.ref t)] h0 [o] (Q_mCon Z o t h0) := by
  refine Con.of (y := (⟨"com/example/qrew/qrew/logic/Constant", "<init>", "(Ljava/lang/String;)V"⟩ : MethodName)) (f0 := fun m => mkF m 0 #[.val (.ref o), .val (.ref t)] []) (plainFor_of_name pn_3) hEL hO (fun m => by skip <;> first | (simp [entryFrame, mkF, argsToLocals, Value.category, maxLocals]; done) | rfl) ?_
  intro p e s m below meth c s₁ P0
  show Go p e below _ (s₁.setTop (mkF m 0 #[.val (.ref o), .val (.ref t)] []))
  refine P0.xs (fun hA hx hy t k => XS.aloadN hA hx rfl (hb hy d8_0) rfl rfl  k) ?_
  show Go p e below _ (s₁.setTop (mkF m 1 #[.val (.ref o), .val (.ref t)] [(.ref o)]))
  refine P0.init0 (W := 0) (hw _ (List.mem_of_getElem? (i := 44) rfl)) (hw _ (List.mem_of_getElem? (i := 17) rfl)) (hw _ (List.mem_of_getElem? (i := 18) rfl)) d8_1 rfl (by decide) (Nat.le_of_eq rfl) (by decide) fun T79 P79 => ?_
  show Go p e below _ (T79.setTop (mkF m 4 #[.val (.ref o), .val (.ref t)] []))
  refine P79.xs (fun hA hx hy t k => XS.aloadN hA hx rfl (hb hy d8_4) rfl rfl  k) ?_
  show Go p e below _ (T79.setTop (mkF m 5 #[.val (.ref o), .val (.ref t)] [(.ref o)]))
  refine P79.xs (fun hA hx hy t k => XS.aloadN hA hx rfl (hb hy d8_5) rfl rfl  k) ?_
  show Go p e below _ (T79.setTop (mkF m 6 #[.val (.ref o), .val (.ref t)] [(.ref t), (.ref o)]))
  refine P79.ldcO (hw _ (List.mem_of_getElem? (i := 45) rfl)) (wSt hw) d8_6 (n := 16) (by decide) (by decide) (by decide) (by decide) fun T80 h80 o80 P80 E80 => ?_
  show Go p e below _ (T80.setTop (mkF m 8 #[.val (.ref o), .val (.ref t)] [(.ref o80), (.ref t), (.ref o)]))
  have Ec82 : Exa Z h80 o "com/example/qrew/qrew/logic/Constant" := (E.ext E80)
  have Ec83 : Exa Z h80 t "java/lang/String" := (Et.ext E80)
  have Fc84 : Fld Z h80 o "com/example/qrew/qrew/logic/Constant" "text" "Ljava/lang/String;" .null := (F.ext E80)
  refine P80.callS (hw _ (List.mem_of_getElem? (i := 46) rfl)) (hw _ (List.mem_of_getElem? (i := 47) rfl)) (hw _ (List.mem_of_getElem? (i := 48) rfl)) (hw _ (List.mem_of_getElem? (i := 49) rfl)) (by decide) (reqNN l Z a0 hw hEL zc S0 Pz t o80 h80 P80.old) (W := 1) (by decide) (by decide) (by decide) (by decide) all0 pd_2 (argsL := [(.ref t), (.ref o80)]) rfl rfl rfl (Nat.le_of_eq rfl) d8_8 fun v81 T81 h81 P81 K81 Q81 => ?_
  obtain ⟨hv81, hh81⟩ := Q81
  subst hv81
  rw [hh81] at P81
  show Go p e below _ (T81.setTop (mkF m 11 #[.val (.ref o), .val (.ref t)] [(.ref t), (.ref o)]))
  refine P81.cast (hw _ (List.mem_of_getElem? (i := 50) rfl)) (Ins.self Ec83) d8_11 fun T85 P85 => ?_
  show Go p e below _ (T85.setTop (mkF m 14 #[.val (.ref o), .val (.ref t)] [(.ref t), (.ref o)]))
  refine P85.putF (hw _ (List.mem_of_getElem? (i := 51) rfl)) Via.refl Fc84 Ec82 (Or.inr ⟨(hw _ (List.mem_of_getElem? (i := 52) rfl)), rfl, rfl⟩) (hw _ (List.mem_of_getElem? (i := 39) rfl)) (ty := (.object "java/lang/String")) (v' := (.ref t)) (by decide) rfl rfl d8_14 (fun vm _ hal _ => Safe.exa hal Ec82 (by decide) (by decide)) go (Or.inl (List.mem_of_getElem? (i := 0) rfl)) fun T86 h86 P86 W86 => ?_
  show Go p e below _ (T86.setTop (mkF m 17 #[.val (.ref o), .val (.ref t)] []))
  exact P86.retV rfl d8_17 (by decide) (by decide) ⟨rfl, (Ec82.wr W86), (Fc84.same W86)⟩

def R_mVar : Room := { frames := 1, cells := 2, slots := 20, locals := 14 }
def Q_mVar (Z : State) (o t : Addr) (h0 : Heap) (v : Option Value) (h : Heap) : Prop := v = none ∧ Exa Z h o "com/example/qrew/qrew/logic/Variable" ∧ Fld Z h o "com/example/qrew/qrew/logic/Variable" "name" "Ljava/lang/String;" (.ref t)
set_option maxRecDepth 65536 in
set_option maxHeartbeats 40000000 in
theorem mVar (l : Launch) (Z : State) (a0 : Array Value) (hw : ∀ d ∈ tables_1, d.before a0 Z = true) (hEL : EW Z a0 EL0) (zc : Int32) (S0 : Sta Z Z.heap "java/lang/String" "COMPACT_STRINGS" "Z" (.int zc)) (Pz : ¬ zc = 0) (o t : Addr) (h0 : Heap) (hO : Ext Z.heap h0) (E : Exa Z h0 o "com/example/qrew/qrew/logic/Variable") (F : Fld Z h0 o "com/example/qrew/qrew/logic/Variable" "name" "Ljava/lang/String;" .null) (go : Z.heap.size ≤ o) (Et : Exa Z h0 t "java/lang/String") :
    Con l Z EL0 [] (⟨"com/example/qrew/qrew/logic/Variable", "<init>", "(Ljava/lang/String;)V"⟩ : MethodName) prog_26_method_1_code 2 none R_mVar #[(.ref o), (.ref t)] h0 [o] (Q_mVar Z o t h0) := by
  refine Con.of (y := (⟨"com/example/qrew/qrew/logic/Variable", "<init>", "(Ljava/lang/String;)V"⟩ : MethodName)) (f0 := fun m => mkF m 0 #[.val (.ref o), .val (.ref t)] []) (plainFor_of_name pn_4) hEL hO (fun m => by skip <;> first | (simp [entryFrame, mkF, argsToLocals, Value.category, maxLocals]; done) | rfl) ?_
  intro p e s m below meth c s₁ P0
  show Go p e below _ (s₁.setTop (mkF m 0 #[.val (.ref o), .val (.ref t)] []))
  refine P0.xs (fun hA hx hy t k => XS.aloadN hA hx rfl (hb hy d14_0) rfl rfl  k) ?_
  show Go p e below _ (s₁.setTop (mkF m 1 #[.val (.ref o), .val (.ref t)] [(.ref o)]))
  refine P0.init0 (W := 0) (hw _ (List.mem_of_getElem? (i := 79) rfl)) (hw _ (List.mem_of_getElem? (i := 17) rfl)) (hw _ (List.mem_of_getElem? (i := 18) rfl)) d14_1 rfl (by decide) (Nat.le_of_eq rfl) (by decide) fun T87 P87 => ?_
  show Go p e below _ (T87.setTop (mkF m 4 #[.val (.ref o), .val (.ref t)] []))
  refine P87.xs (fun hA hx hy t k => XS.aloadN hA hx rfl (hb hy d14_4) rfl rfl  k) ?_
  show Go p e below _ (T87.setTop (mkF m 5 #[.val (.ref o), .val (.ref t)] [(.ref o)]))
  refine P87.xs (fun hA hx hy t k => XS.aloadN hA hx rfl (hb hy d14_5) rfl rfl  k) ?_
  show Go p e below _ (T87.setTop (mkF m 6 #[.val (.ref o), .val (.ref t)] [(.ref t), (.ref o)]))
  refine P87.ldcO (hw _ (List.mem_of_getElem? (i := 80) rfl)) (wSt hw) d14_6 (n := 16) (by decide) (by decide) (by decide) (by decide) fun T88 h88 o88 P88 E88 => ?_
  show Go p e below _ (T88.setTop (mkF m 8 #[.val (.ref o), .val (.ref t)] [(.ref o88), (.ref t), (.ref o)]))
  have Ec90 : Exa Z h88 o "com/example/qrew/qrew/logic/Variable" := (E.ext E88)
  have Ec91 : Exa Z h88 t "java/lang/String" := (Et.ext E88)
  have Fc92 : Fld Z h88 o "com/example/qrew/qrew/logic/Variable" "name" "Ljava/lang/String;" .null := (F.ext E88)
  refine P88.callS (hw _ (List.mem_of_getElem? (i := 81) rfl)) (hw _ (List.mem_of_getElem? (i := 47) rfl)) (hw _ (List.mem_of_getElem? (i := 48) rfl)) (hw _ (List.mem_of_getElem? (i := 49) rfl)) (by decide) (reqNN l Z a0 hw hEL zc S0 Pz t o88 h88 P88.old) (W := 1) (by decide) (by decide) (by decide) (by decide) all0 pd_2 (argsL := [(.ref t), (.ref o88)]) rfl rfl rfl (Nat.le_of_eq rfl) d14_8 fun v89 T89 h89 P89 K89 Q89 => ?_
  obtain ⟨hv89, hh89⟩ := Q89
  subst hv89
  rw [hh89] at P89
  show Go p e below _ (T89.setTop (mkF m 11 #[.val (.ref o), .val (.ref t)] [(.ref t), (.ref o)]))
  refine P89.cast (hw _ (List.mem_of_getElem? (i := 82) rfl)) (Ins.self Ec91) d14_11 fun T93 P93 => ?_
  show Go p e below _ (T93.setTop (mkF m 14 #[.val (.ref o), .val (.ref t)] [(.ref t), (.ref o)]))
  refine P93.putF (hw _ (List.mem_of_getElem? (i := 83) rfl)) Via.refl Fc92 Ec90 (Or.inr ⟨(hw _ (List.mem_of_getElem? (i := 84) rfl)), rfl, rfl⟩) (hw _ (List.mem_of_getElem? (i := 74) rfl)) (ty := (.object "java/lang/String")) (v' := (.ref t)) (by decide) rfl rfl d14_14 (fun vm _ hal _ => Safe.exa hal Ec90 (by decide) (by decide)) go (Or.inl (List.mem_of_getElem? (i := 0) rfl)) fun T94 h94 P94 W94 => ?_
  show Go p e below _ (T94.setTop (mkF m 17 #[.val (.ref o), .val (.ref t)] []))
  exact P94.retV rfl d14_17 (by decide) (by decide) ⟨rfl, (Ec90.wr W94), (Fc92.same W94)⟩

def R_mSame : Room := { frames := 0, cells := 0, slots := 0, locals := 0 }
def Q_mSame (Z : State) (pa la pb lb : Int32) (h0 : Heap) (v : Option Value) (h : Heap) : Prop := ((v = some (.int 1) ∧ (cs3 la ((pa &&& (255 : Int32)).toUInt32.toUInt16.toUInt32.toInt32) ((((pa.toUInt32 >>> ((8 : Int32) &&& 31).toUInt32).toInt32) &&& (255 : Int32)).toUInt32.toUInt16.toUInt32.toInt32) ((((pa.toUInt32 >>> ((16 : Int32) &&& 31).toUInt32).toInt32) &&& (255 : Int32)).toUInt32.toUInt16.toUInt32.toInt32)) = (cs3 lb ((pb &&& (255 : Int32)).toUInt32.toUInt16.toUInt32.toInt32) ((((pb.toUInt32 >>> ((8 : Int32) &&& 31).toUInt32).toInt32) &&& (255 : Int32)).toUInt32.toUInt16.toUInt32.toInt32) ((((pb.toUInt32 >>> ((16 : Int32) &&& 31).toUInt32).toInt32) &&& (255 : Int32)).toUInt32.toUInt16.toUInt32.toInt32))) ∨ (v = some (.int 0) ∧ ¬ (cs3 la ((pa &&& (255 : Int32)).toUInt32.toUInt16.toUInt32.toInt32) ((((pa.toUInt32 >>> ((8 : Int32) &&& 31).toUInt32).toInt32) &&& (255 : Int32)).toUInt32.toUInt16.toUInt32.toInt32) ((((pa.toUInt32 >>> ((16 : Int32) &&& 31).toUInt32).toInt32) &&& (255 : Int32)).toUInt32.toUInt16.toUInt32.toInt32)) = (cs3 lb ((pb &&& (255 : Int32)).toUInt32.toUInt16.toUInt32.toInt32) ((((pb.toUInt32 >>> ((8 : Int32) &&& 31).toUInt32).toInt32) &&& (255 : Int32)).toUInt32.toUInt16.toUInt32.toInt32) ((((pb.toUInt32 >>> ((16 : Int32) &&& 31).toUInt32).toInt32) &&& (255 : Int32)).toUInt32.toUInt16.toUInt32.toInt32)))) ∧ h = h0
set_option maxRecDepth 65536 in
set_option maxHeartbeats 40000000 in
theorem mSame (l : Launch) (Z : State) (a0 : Array Value) (hw : ∀ d ∈ tables_1, d.before a0 Z = true) (hEL : EW Z a0 EL0) (zc : Int32) (S0 : Sta Z Z.heap "java/lang/String" "COMPACT_STRINGS" "Z" (.int zc)) (Pz : ¬ zc = 0) (pa la pb lb : Int32) (h0 : Heap) (hO : Ext Z.heap h0) (hla : la = 0 ∨ la = 1 ∨ la = 2 ∨ la = 3) (hlb : lb = 0 ∨ lb = 1 ∨ lb = 2 ∨ lb = 3) :
    Con l Z EL0 [] (⟨"com/example/qrew/qrew/logic/ConstantEqualsPinLaw", "sameText", "(IIII)Z"⟩ : MethodName) method_3_code 4 (some .boolean) R_mSame #[(.int pa), (.int la), (.int pb), (.int lb)] h0 [] (Q_mSame Z pa la pb lb h0) := by
  refine Con.of (y := (⟨"com/example/qrew/qrew/logic/ConstantEqualsPinLaw", "sameText", "(IIII)Z"⟩ : MethodName)) (f0 := fun m => mkF m 0 #[.val (.int pa), .val (.int la), .val (.int pb), .val (.int lb)] []) (plainFor_of_name pn_2) hEL hO (fun m => by skip <;> first | (simp [entryFrame, mkF, argsToLocals, Value.category, maxLocals]; done) | rfl) ?_
  intro p e s m below meth c s₁ P0
  show Go p e below _ (s₁.setTop (mkF m 0 #[.val (.int pa), .val (.int la), .val (.int pb), .val (.int lb)] []))
  refine P0.xs (fun hA hx hy t k => XS.iloadN hA hx rfl (hb hy d10_0) rfl  k) ?_
  show Go p e below _ (s₁.setTop (mkF m 1 #[.val (.int pa), .val (.int la), .val (.int pb), .val (.int lb)] [(.int la)]))
  refine P0.xs (fun hA hx hy t k => XS.iloadN hA hx rfl (hb hy d10_1) rfl  k) ?_
  show Go p e below _ (s₁.setTop (mkF m 2 #[.val (.int pa), .val (.int la), .val (.int pb), .val (.int lb)] [(.int lb), (.int la)]))
  by_cases hl : la = lb
  · refine P0.xs (fun hA hx hy t k => XS.icmpYes hA hx rfl (pc0 := 2) (pc' := 7) rfl (hb hy d10_2) rfl (teq hl).1 (by decide) (by decide) k) ?_
    show Go p e below _ (s₁.setTop (mkF m 7 #[.val (.int pa), .val (.int la), .val (.int pb), .val (.int lb)] []))
    subst hl
    rcases hla with rfl | rfl | rfl | rfl
    · show Go p e below _ (s₁.setTop (mkF m 7 #[.val (.int pa), .val (.int (0 : Int32)), .val (.int pb), .val (.int (0 : Int32))] []))
      refine P0.xs (fun hA hx hy t k => XS.iloadN hA hx rfl (hb hy d10_7) rfl  k) ?_
      show Go p e below _ (s₁.setTop (mkF m 8 #[.val (.int pa), .val (.int (0 : Int32)), .val (.int pb), .val (.int (0 : Int32))] [(.int (0 : Int32))]))
      refine P0.xs (fun hA hx hy t k => XS.iconst hA hx rfl (hb hy d10_8) k) ?_
      show Go p e below _ (s₁.setTop (mkF m 9 #[.val (.int pa), .val (.int (0 : Int32)), .val (.int pb), .val (.int (0 : Int32))] [(.int (1 : Int32)), (.int (0 : Int32))]))
      refine P0.xs (fun hA hx hy t k => XS.icmpYes hA hx rfl (pc0 := 9) (pc' := 27) rfl (hb hy d10_9) rfl (tlt (by decide)).1 (by decide) (by decide) k) ?_
      show Go p e below _ (s₁.setTop (mkF m 27 #[.val (.int pa), .val (.int (0 : Int32)), .val (.int pb), .val (.int (0 : Int32))] []))
      refine P0.xs (fun hA hx hy t k => XS.iloadN hA hx rfl (hb hy d10_27) rfl  k) ?_
      show Go p e below _ (s₁.setTop (mkF m 28 #[.val (.int pa), .val (.int (0 : Int32)), .val (.int pb), .val (.int (0 : Int32))] [(.int (0 : Int32))]))
      refine P0.xs (fun hA hx hy t k => XS.iconst hA hx rfl (hb hy d10_28) k) ?_
      show Go p e below _ (s₁.setTop (mkF m 29 #[.val (.int pa), .val (.int (0 : Int32)), .val (.int pb), .val (.int (0 : Int32))] [(.int (2 : Int32)), (.int (0 : Int32))]))
      refine P0.xs (fun hA hx hy t k => XS.icmpYes hA hx rfl (pc0 := 29) (pc' := 53) rfl (hb hy d10_29) rfl (tlt (by decide)).1 (by decide) (by decide) k) ?_
      show Go p e below _ (s₁.setTop (mkF m 53 #[.val (.int pa), .val (.int (0 : Int32)), .val (.int pb), .val (.int (0 : Int32))] []))
      refine P0.xs (fun hA hx hy t k => XS.iloadN hA hx rfl (hb hy d10_53) rfl  k) ?_
      show Go p e below _ (s₁.setTop (mkF m 54 #[.val (.int pa), .val (.int (0 : Int32)), .val (.int pb), .val (.int (0 : Int32))] [(.int (0 : Int32))]))
      refine P0.xs (fun hA hx hy t k => XS.iconst hA hx rfl (hb hy d10_54) k) ?_
      show Go p e below _ (s₁.setTop (mkF m 55 #[.val (.int pa), .val (.int (0 : Int32)), .val (.int pb), .val (.int (0 : Int32))] [(.int (3 : Int32)), (.int (0 : Int32))]))
      refine P0.xs (fun hA hx hy t k => XS.icmpYes hA hx rfl (pc0 := 55) (pc' := 79) rfl (hb hy d10_55) rfl (tlt (by decide)).1 (by decide) (by decide) k) ?_
      show Go p e below _ (s₁.setTop (mkF m 79 #[.val (.int pa), .val (.int (0 : Int32)), .val (.int pb), .val (.int (0 : Int32))] []))
      refine P0.xs (fun hA hx hy t k => XS.iconst hA hx rfl (hb hy d10_79) k) ?_
      show Go p e below _ (s₁.setTop (mkF m 80 #[.val (.int pa), .val (.int (0 : Int32)), .val (.int pb), .val (.int (0 : Int32))] [(.int (1 : Int32))]))
      exact P0.retN (t := .boolean) rfl (by simp) d10_80 (by decide) (by decide) ⟨Or.inl ⟨rfl, rfl⟩, rfl⟩
    · show Go p e below _ (s₁.setTop (mkF m 7 #[.val (.int pa), .val (.int (1 : Int32)), .val (.int pb), .val (.int (1 : Int32))] []))
      refine P0.xs (fun hA hx hy t k => XS.iloadN hA hx rfl (hb hy d10_7) rfl  k) ?_
      show Go p e below _ (s₁.setTop (mkF m 8 #[.val (.int pa), .val (.int (1 : Int32)), .val (.int pb), .val (.int (1 : Int32))] [(.int (1 : Int32))]))
      refine P0.xs (fun hA hx hy t k => XS.iconst hA hx rfl (hb hy d10_8) k) ?_
      show Go p e below _ (s₁.setTop (mkF m 9 #[.val (.int pa), .val (.int (1 : Int32)), .val (.int pb), .val (.int (1 : Int32))] [(.int (1 : Int32)), (.int (1 : Int32))]))
      refine P0.xs (fun hA hx hy t k => XS.icmpNo hA hx rfl (hb hy d10_9) rfl (flt (by decide)).1 k) ?_
      show Go p e below _ (s₁.setTop (mkF m 12 #[.val (.int pa), .val (.int (1 : Int32)), .val (.int pb), .val (.int (1 : Int32))] []))
      refine P0.xs (fun hA hx hy t k => XS.iloadN hA hx rfl (hb hy d10_12) rfl  k) ?_
      show Go p e below _ (s₁.setTop (mkF m 13 #[.val (.int pa), .val (.int (1 : Int32)), .val (.int pb), .val (.int (1 : Int32))] [(.int pa)]))
      refine P0.xs (fun hA hx hy t k => XS.sipush hA hx rfl (hb hy d10_13) k) ?_
      show Go p e below _ (s₁.setTop (mkF m 16 #[.val (.int pa), .val (.int (1 : Int32)), .val (.int pb), .val (.int (1 : Int32))] [(.int (255 : Int32)), (.int pa)]))
      refine P0.xs (fun hA hx hy t k => XS.iand hA hx rfl (hb hy d10_16) rfl k) ?_
      show Go p e below _ (s₁.setTop (mkF m 17 #[.val (.int pa), .val (.int (1 : Int32)), .val (.int pb), .val (.int (1 : Int32))] [(.int (pa &&& (255 : Int32)))]))
      refine P0.xs (fun hA hx hy t k => XS.iloadN hA hx rfl (hb hy d10_17) rfl  k) ?_
      show Go p e below _ (s₁.setTop (mkF m 18 #[.val (.int pa), .val (.int (1 : Int32)), .val (.int pb), .val (.int (1 : Int32))] [(.int pb), (.int (pa &&& (255 : Int32)))]))
      refine P0.xs (fun hA hx hy t k => XS.sipush hA hx rfl (hb hy d10_18) k) ?_
      show Go p e below _ (s₁.setTop (mkF m 21 #[.val (.int pa), .val (.int (1 : Int32)), .val (.int pb), .val (.int (1 : Int32))] [(.int (255 : Int32)), (.int pb), (.int (pa &&& (255 : Int32)))]))
      refine P0.xs (fun hA hx hy t k => XS.iand hA hx rfl (hb hy d10_21) rfl k) ?_
      show Go p e below _ (s₁.setTop (mkF m 22 #[.val (.int pa), .val (.int (1 : Int32)), .val (.int pb), .val (.int (1 : Int32))] [(.int (pb &&& (255 : Int32))), (.int (pa &&& (255 : Int32)))]))
      by_cases he0 : (pa &&& (255 : Int32)) = (pb &&& (255 : Int32))
      · refine P0.xs (fun hA hx hy t k => XS.icmpYes hA hx rfl (pc0 := 22) (pc' := 27) rfl (hb hy d10_22) rfl (teq he0).1 (by decide) (by decide) k) ?_
        show Go p e below _ (s₁.setTop (mkF m 27 #[.val (.int pa), .val (.int (1 : Int32)), .val (.int pb), .val (.int (1 : Int32))] []))
        refine P0.xs (fun hA hx hy t k => XS.iloadN hA hx rfl (hb hy d10_27) rfl  k) ?_
        show Go p e below _ (s₁.setTop (mkF m 28 #[.val (.int pa), .val (.int (1 : Int32)), .val (.int pb), .val (.int (1 : Int32))] [(.int (1 : Int32))]))
        refine P0.xs (fun hA hx hy t k => XS.iconst hA hx rfl (hb hy d10_28) k) ?_
        show Go p e below _ (s₁.setTop (mkF m 29 #[.val (.int pa), .val (.int (1 : Int32)), .val (.int pb), .val (.int (1 : Int32))] [(.int (2 : Int32)), (.int (1 : Int32))]))
        refine P0.xs (fun hA hx hy t k => XS.icmpYes hA hx rfl (pc0 := 29) (pc' := 53) rfl (hb hy d10_29) rfl (tlt (by decide)).1 (by decide) (by decide) k) ?_
        show Go p e below _ (s₁.setTop (mkF m 53 #[.val (.int pa), .val (.int (1 : Int32)), .val (.int pb), .val (.int (1 : Int32))] []))
        refine P0.xs (fun hA hx hy t k => XS.iloadN hA hx rfl (hb hy d10_53) rfl  k) ?_
        show Go p e below _ (s₁.setTop (mkF m 54 #[.val (.int pa), .val (.int (1 : Int32)), .val (.int pb), .val (.int (1 : Int32))] [(.int (1 : Int32))]))
        refine P0.xs (fun hA hx hy t k => XS.iconst hA hx rfl (hb hy d10_54) k) ?_
        show Go p e below _ (s₁.setTop (mkF m 55 #[.val (.int pa), .val (.int (1 : Int32)), .val (.int pb), .val (.int (1 : Int32))] [(.int (3 : Int32)), (.int (1 : Int32))]))
        refine P0.xs (fun hA hx hy t k => XS.icmpYes hA hx rfl (pc0 := 55) (pc' := 79) rfl (hb hy d10_55) rfl (tlt (by decide)).1 (by decide) (by decide) k) ?_
        show Go p e below _ (s₁.setTop (mkF m 79 #[.val (.int pa), .val (.int (1 : Int32)), .val (.int pb), .val (.int (1 : Int32))] []))
        refine P0.xs (fun hA hx hy t k => XS.iconst hA hx rfl (hb hy d10_79) k) ?_
        show Go p e below _ (s₁.setTop (mkF m 80 #[.val (.int pa), .val (.int (1 : Int32)), .val (.int pb), .val (.int (1 : Int32))] [(.int (1 : Int32))]))
        exact P0.retN (t := .boolean) rfl (by simp) d10_80 (by decide) (by decide) ⟨Or.inl ⟨rfl, cs3_e1.mpr ((chrI _ _).mpr he0)⟩, rfl⟩
      · refine P0.xs (fun hA hx hy t k => XS.icmpNo hA hx rfl (hb hy d10_22) rfl (feq he0).1 k) ?_
        show Go p e below _ (s₁.setTop (mkF m 25 #[.val (.int pa), .val (.int (1 : Int32)), .val (.int pb), .val (.int (1 : Int32))] []))
        refine P0.xs (fun hA hx hy t k => XS.iconst hA hx rfl (hb hy d10_25) k) ?_
        show Go p e below _ (s₁.setTop (mkF m 26 #[.val (.int pa), .val (.int (1 : Int32)), .val (.int pb), .val (.int (1 : Int32))] [(.int (0 : Int32))]))
        exact P0.retN (t := .boolean) rfl (by simp) d10_26 (by decide) (by decide) ⟨Or.inr ⟨rfl, fun q => he0 ((chrI _ _).mp ((cs3_e1.mp q)))⟩, rfl⟩
    · show Go p e below _ (s₁.setTop (mkF m 7 #[.val (.int pa), .val (.int (2 : Int32)), .val (.int pb), .val (.int (2 : Int32))] []))
      refine P0.xs (fun hA hx hy t k => XS.iloadN hA hx rfl (hb hy d10_7) rfl  k) ?_
      show Go p e below _ (s₁.setTop (mkF m 8 #[.val (.int pa), .val (.int (2 : Int32)), .val (.int pb), .val (.int (2 : Int32))] [(.int (2 : Int32))]))
      refine P0.xs (fun hA hx hy t k => XS.iconst hA hx rfl (hb hy d10_8) k) ?_
      show Go p e below _ (s₁.setTop (mkF m 9 #[.val (.int pa), .val (.int (2 : Int32)), .val (.int pb), .val (.int (2 : Int32))] [(.int (1 : Int32)), (.int (2 : Int32))]))
      refine P0.xs (fun hA hx hy t k => XS.icmpNo hA hx rfl (hb hy d10_9) rfl (flt (by decide)).1 k) ?_
      show Go p e below _ (s₁.setTop (mkF m 12 #[.val (.int pa), .val (.int (2 : Int32)), .val (.int pb), .val (.int (2 : Int32))] []))
      refine P0.xs (fun hA hx hy t k => XS.iloadN hA hx rfl (hb hy d10_12) rfl  k) ?_
      show Go p e below _ (s₁.setTop (mkF m 13 #[.val (.int pa), .val (.int (2 : Int32)), .val (.int pb), .val (.int (2 : Int32))] [(.int pa)]))
      refine P0.xs (fun hA hx hy t k => XS.sipush hA hx rfl (hb hy d10_13) k) ?_
      show Go p e below _ (s₁.setTop (mkF m 16 #[.val (.int pa), .val (.int (2 : Int32)), .val (.int pb), .val (.int (2 : Int32))] [(.int (255 : Int32)), (.int pa)]))
      refine P0.xs (fun hA hx hy t k => XS.iand hA hx rfl (hb hy d10_16) rfl k) ?_
      show Go p e below _ (s₁.setTop (mkF m 17 #[.val (.int pa), .val (.int (2 : Int32)), .val (.int pb), .val (.int (2 : Int32))] [(.int (pa &&& (255 : Int32)))]))
      refine P0.xs (fun hA hx hy t k => XS.iloadN hA hx rfl (hb hy d10_17) rfl  k) ?_
      show Go p e below _ (s₁.setTop (mkF m 18 #[.val (.int pa), .val (.int (2 : Int32)), .val (.int pb), .val (.int (2 : Int32))] [(.int pb), (.int (pa &&& (255 : Int32)))]))
      refine P0.xs (fun hA hx hy t k => XS.sipush hA hx rfl (hb hy d10_18) k) ?_
      show Go p e below _ (s₁.setTop (mkF m 21 #[.val (.int pa), .val (.int (2 : Int32)), .val (.int pb), .val (.int (2 : Int32))] [(.int (255 : Int32)), (.int pb), (.int (pa &&& (255 : Int32)))]))
      refine P0.xs (fun hA hx hy t k => XS.iand hA hx rfl (hb hy d10_21) rfl k) ?_
      show Go p e below _ (s₁.setTop (mkF m 22 #[.val (.int pa), .val (.int (2 : Int32)), .val (.int pb), .val (.int (2 : Int32))] [(.int (pb &&& (255 : Int32))), (.int (pa &&& (255 : Int32)))]))
      by_cases he0 : (pa &&& (255 : Int32)) = (pb &&& (255 : Int32))
      · refine P0.xs (fun hA hx hy t k => XS.icmpYes hA hx rfl (pc0 := 22) (pc' := 27) rfl (hb hy d10_22) rfl (teq he0).1 (by decide) (by decide) k) ?_
        show Go p e below _ (s₁.setTop (mkF m 27 #[.val (.int pa), .val (.int (2 : Int32)), .val (.int pb), .val (.int (2 : Int32))] []))
        refine P0.xs (fun hA hx hy t k => XS.iloadN hA hx rfl (hb hy d10_27) rfl  k) ?_
        show Go p e below _ (s₁.setTop (mkF m 28 #[.val (.int pa), .val (.int (2 : Int32)), .val (.int pb), .val (.int (2 : Int32))] [(.int (2 : Int32))]))
        refine P0.xs (fun hA hx hy t k => XS.iconst hA hx rfl (hb hy d10_28) k) ?_
        show Go p e below _ (s₁.setTop (mkF m 29 #[.val (.int pa), .val (.int (2 : Int32)), .val (.int pb), .val (.int (2 : Int32))] [(.int (2 : Int32)), (.int (2 : Int32))]))
        refine P0.xs (fun hA hx hy t k => XS.icmpNo hA hx rfl (hb hy d10_29) rfl (flt (by decide)).1 k) ?_
        show Go p e below _ (s₁.setTop (mkF m 32 #[.val (.int pa), .val (.int (2 : Int32)), .val (.int pb), .val (.int (2 : Int32))] []))
        refine P0.xs (fun hA hx hy t k => XS.iloadN hA hx rfl (hb hy d10_32) rfl  k) ?_
        show Go p e below _ (s₁.setTop (mkF m 33 #[.val (.int pa), .val (.int (2 : Int32)), .val (.int pb), .val (.int (2 : Int32))] [(.int pa)]))
        refine P0.xs (fun hA hx hy t k => XS.bipush hA hx rfl (hb hy d10_33) k) ?_
        show Go p e below _ (s₁.setTop (mkF m 35 #[.val (.int pa), .val (.int (2 : Int32)), .val (.int pb), .val (.int (2 : Int32))] [(.int (8 : Int32)), (.int pa)]))
        refine P0.xs (fun hA hx hy t k => XS.iushr hA hx rfl (hb hy d10_35) rfl k) ?_
        show Go p e below _ (s₁.setTop (mkF m 36 #[.val (.int pa), .val (.int (2 : Int32)), .val (.int pb), .val (.int (2 : Int32))] [(.int ((pa.toUInt32 >>> ((8 : Int32) &&& 31).toUInt32).toInt32))]))
        refine P0.xs (fun hA hx hy t k => XS.sipush hA hx rfl (hb hy d10_36) k) ?_
        show Go p e below _ (s₁.setTop (mkF m 39 #[.val (.int pa), .val (.int (2 : Int32)), .val (.int pb), .val (.int (2 : Int32))] [(.int (255 : Int32)), (.int ((pa.toUInt32 >>> ((8 : Int32) &&& 31).toUInt32).toInt32))]))
        refine P0.xs (fun hA hx hy t k => XS.iand hA hx rfl (hb hy d10_39) rfl k) ?_
        show Go p e below _ (s₁.setTop (mkF m 40 #[.val (.int pa), .val (.int (2 : Int32)), .val (.int pb), .val (.int (2 : Int32))] [(.int (((pa.toUInt32 >>> ((8 : Int32) &&& 31).toUInt32).toInt32) &&& (255 : Int32)))]))
        refine P0.xs (fun hA hx hy t k => XS.iloadN hA hx rfl (hb hy d10_40) rfl  k) ?_
        show Go p e below _ (s₁.setTop (mkF m 41 #[.val (.int pa), .val (.int (2 : Int32)), .val (.int pb), .val (.int (2 : Int32))] [(.int pb), (.int (((pa.toUInt32 >>> ((8 : Int32) &&& 31).toUInt32).toInt32) &&& (255 : Int32)))]))
        refine P0.xs (fun hA hx hy t k => XS.bipush hA hx rfl (hb hy d10_41) k) ?_
        show Go p e below _ (s₁.setTop (mkF m 43 #[.val (.int pa), .val (.int (2 : Int32)), .val (.int pb), .val (.int (2 : Int32))] [(.int (8 : Int32)), (.int pb), (.int (((pa.toUInt32 >>> ((8 : Int32) &&& 31).toUInt32).toInt32) &&& (255 : Int32)))]))
        refine P0.xs (fun hA hx hy t k => XS.iushr hA hx rfl (hb hy d10_43) rfl k) ?_
        show Go p e below _ (s₁.setTop (mkF m 44 #[.val (.int pa), .val (.int (2 : Int32)), .val (.int pb), .val (.int (2 : Int32))] [(.int ((pb.toUInt32 >>> ((8 : Int32) &&& 31).toUInt32).toInt32)), (.int (((pa.toUInt32 >>> ((8 : Int32) &&& 31).toUInt32).toInt32) &&& (255 : Int32)))]))
        refine P0.xs (fun hA hx hy t k => XS.sipush hA hx rfl (hb hy d10_44) k) ?_
        show Go p e below _ (s₁.setTop (mkF m 47 #[.val (.int pa), .val (.int (2 : Int32)), .val (.int pb), .val (.int (2 : Int32))] [(.int (255 : Int32)), (.int ((pb.toUInt32 >>> ((8 : Int32) &&& 31).toUInt32).toInt32)), (.int (((pa.toUInt32 >>> ((8 : Int32) &&& 31).toUInt32).toInt32) &&& (255 : Int32)))]))
        refine P0.xs (fun hA hx hy t k => XS.iand hA hx rfl (hb hy d10_47) rfl k) ?_
        show Go p e below _ (s₁.setTop (mkF m 48 #[.val (.int pa), .val (.int (2 : Int32)), .val (.int pb), .val (.int (2 : Int32))] [(.int (((pb.toUInt32 >>> ((8 : Int32) &&& 31).toUInt32).toInt32) &&& (255 : Int32))), (.int (((pa.toUInt32 >>> ((8 : Int32) &&& 31).toUInt32).toInt32) &&& (255 : Int32)))]))
        by_cases he1 : (((pa.toUInt32 >>> ((8 : Int32) &&& 31).toUInt32).toInt32) &&& (255 : Int32)) = (((pb.toUInt32 >>> ((8 : Int32) &&& 31).toUInt32).toInt32) &&& (255 : Int32))
        · refine P0.xs (fun hA hx hy t k => XS.icmpYes hA hx rfl (pc0 := 48) (pc' := 53) rfl (hb hy d10_48) rfl (teq he1).1 (by decide) (by decide) k) ?_
          show Go p e below _ (s₁.setTop (mkF m 53 #[.val (.int pa), .val (.int (2 : Int32)), .val (.int pb), .val (.int (2 : Int32))] []))
          refine P0.xs (fun hA hx hy t k => XS.iloadN hA hx rfl (hb hy d10_53) rfl  k) ?_
          show Go p e below _ (s₁.setTop (mkF m 54 #[.val (.int pa), .val (.int (2 : Int32)), .val (.int pb), .val (.int (2 : Int32))] [(.int (2 : Int32))]))
          refine P0.xs (fun hA hx hy t k => XS.iconst hA hx rfl (hb hy d10_54) k) ?_
          show Go p e below _ (s₁.setTop (mkF m 55 #[.val (.int pa), .val (.int (2 : Int32)), .val (.int pb), .val (.int (2 : Int32))] [(.int (3 : Int32)), (.int (2 : Int32))]))
          refine P0.xs (fun hA hx hy t k => XS.icmpYes hA hx rfl (pc0 := 55) (pc' := 79) rfl (hb hy d10_55) rfl (tlt (by decide)).1 (by decide) (by decide) k) ?_
          show Go p e below _ (s₁.setTop (mkF m 79 #[.val (.int pa), .val (.int (2 : Int32)), .val (.int pb), .val (.int (2 : Int32))] []))
          refine P0.xs (fun hA hx hy t k => XS.iconst hA hx rfl (hb hy d10_79) k) ?_
          show Go p e below _ (s₁.setTop (mkF m 80 #[.val (.int pa), .val (.int (2 : Int32)), .val (.int pb), .val (.int (2 : Int32))] [(.int (1 : Int32))]))
          exact P0.retN (t := .boolean) rfl (by simp) d10_80 (by decide) (by decide) ⟨Or.inl ⟨rfl, cs3_e2.mpr ⟨(chrI _ _).mpr he0, (chrI _ _).mpr he1⟩⟩, rfl⟩
        · refine P0.xs (fun hA hx hy t k => XS.icmpNo hA hx rfl (hb hy d10_48) rfl (feq he1).1 k) ?_
          show Go p e below _ (s₁.setTop (mkF m 51 #[.val (.int pa), .val (.int (2 : Int32)), .val (.int pb), .val (.int (2 : Int32))] []))
          refine P0.xs (fun hA hx hy t k => XS.iconst hA hx rfl (hb hy d10_51) k) ?_
          show Go p e below _ (s₁.setTop (mkF m 52 #[.val (.int pa), .val (.int (2 : Int32)), .val (.int pb), .val (.int (2 : Int32))] [(.int (0 : Int32))]))
          exact P0.retN (t := .boolean) rfl (by simp) d10_52 (by decide) (by decide) ⟨Or.inr ⟨rfl, fun q => he1 ((chrI _ _).mp ((cs3_e2.mp q).2))⟩, rfl⟩
      · refine P0.xs (fun hA hx hy t k => XS.icmpNo hA hx rfl (hb hy d10_22) rfl (feq he0).1 k) ?_
        show Go p e below _ (s₁.setTop (mkF m 25 #[.val (.int pa), .val (.int (2 : Int32)), .val (.int pb), .val (.int (2 : Int32))] []))
        refine P0.xs (fun hA hx hy t k => XS.iconst hA hx rfl (hb hy d10_25) k) ?_
        show Go p e below _ (s₁.setTop (mkF m 26 #[.val (.int pa), .val (.int (2 : Int32)), .val (.int pb), .val (.int (2 : Int32))] [(.int (0 : Int32))]))
        exact P0.retN (t := .boolean) rfl (by simp) d10_26 (by decide) (by decide) ⟨Or.inr ⟨rfl, fun q => he0 ((chrI _ _).mp ((cs3_e2.mp q).1))⟩, rfl⟩
    · show Go p e below _ (s₁.setTop (mkF m 7 #[.val (.int pa), .val (.int (3 : Int32)), .val (.int pb), .val (.int (3 : Int32))] []))
      refine P0.xs (fun hA hx hy t k => XS.iloadN hA hx rfl (hb hy d10_7) rfl  k) ?_
      show Go p e below _ (s₁.setTop (mkF m 8 #[.val (.int pa), .val (.int (3 : Int32)), .val (.int pb), .val (.int (3 : Int32))] [(.int (3 : Int32))]))
      refine P0.xs (fun hA hx hy t k => XS.iconst hA hx rfl (hb hy d10_8) k) ?_
      show Go p e below _ (s₁.setTop (mkF m 9 #[.val (.int pa), .val (.int (3 : Int32)), .val (.int pb), .val (.int (3 : Int32))] [(.int (1 : Int32)), (.int (3 : Int32))]))
      refine P0.xs (fun hA hx hy t k => XS.icmpNo hA hx rfl (hb hy d10_9) rfl (flt (by decide)).1 k) ?_
      show Go p e below _ (s₁.setTop (mkF m 12 #[.val (.int pa), .val (.int (3 : Int32)), .val (.int pb), .val (.int (3 : Int32))] []))
      refine P0.xs (fun hA hx hy t k => XS.iloadN hA hx rfl (hb hy d10_12) rfl  k) ?_
      show Go p e below _ (s₁.setTop (mkF m 13 #[.val (.int pa), .val (.int (3 : Int32)), .val (.int pb), .val (.int (3 : Int32))] [(.int pa)]))
      refine P0.xs (fun hA hx hy t k => XS.sipush hA hx rfl (hb hy d10_13) k) ?_
      show Go p e below _ (s₁.setTop (mkF m 16 #[.val (.int pa), .val (.int (3 : Int32)), .val (.int pb), .val (.int (3 : Int32))] [(.int (255 : Int32)), (.int pa)]))
      refine P0.xs (fun hA hx hy t k => XS.iand hA hx rfl (hb hy d10_16) rfl k) ?_
      show Go p e below _ (s₁.setTop (mkF m 17 #[.val (.int pa), .val (.int (3 : Int32)), .val (.int pb), .val (.int (3 : Int32))] [(.int (pa &&& (255 : Int32)))]))
      refine P0.xs (fun hA hx hy t k => XS.iloadN hA hx rfl (hb hy d10_17) rfl  k) ?_
      show Go p e below _ (s₁.setTop (mkF m 18 #[.val (.int pa), .val (.int (3 : Int32)), .val (.int pb), .val (.int (3 : Int32))] [(.int pb), (.int (pa &&& (255 : Int32)))]))
      refine P0.xs (fun hA hx hy t k => XS.sipush hA hx rfl (hb hy d10_18) k) ?_
      show Go p e below _ (s₁.setTop (mkF m 21 #[.val (.int pa), .val (.int (3 : Int32)), .val (.int pb), .val (.int (3 : Int32))] [(.int (255 : Int32)), (.int pb), (.int (pa &&& (255 : Int32)))]))
      refine P0.xs (fun hA hx hy t k => XS.iand hA hx rfl (hb hy d10_21) rfl k) ?_
      show Go p e below _ (s₁.setTop (mkF m 22 #[.val (.int pa), .val (.int (3 : Int32)), .val (.int pb), .val (.int (3 : Int32))] [(.int (pb &&& (255 : Int32))), (.int (pa &&& (255 : Int32)))]))
      by_cases he0 : (pa &&& (255 : Int32)) = (pb &&& (255 : Int32))
      · refine P0.xs (fun hA hx hy t k => XS.icmpYes hA hx rfl (pc0 := 22) (pc' := 27) rfl (hb hy d10_22) rfl (teq he0).1 (by decide) (by decide) k) ?_
        show Go p e below _ (s₁.setTop (mkF m 27 #[.val (.int pa), .val (.int (3 : Int32)), .val (.int pb), .val (.int (3 : Int32))] []))
        refine P0.xs (fun hA hx hy t k => XS.iloadN hA hx rfl (hb hy d10_27) rfl  k) ?_
        show Go p e below _ (s₁.setTop (mkF m 28 #[.val (.int pa), .val (.int (3 : Int32)), .val (.int pb), .val (.int (3 : Int32))] [(.int (3 : Int32))]))
        refine P0.xs (fun hA hx hy t k => XS.iconst hA hx rfl (hb hy d10_28) k) ?_
        show Go p e below _ (s₁.setTop (mkF m 29 #[.val (.int pa), .val (.int (3 : Int32)), .val (.int pb), .val (.int (3 : Int32))] [(.int (2 : Int32)), (.int (3 : Int32))]))
        refine P0.xs (fun hA hx hy t k => XS.icmpNo hA hx rfl (hb hy d10_29) rfl (flt (by decide)).1 k) ?_
        show Go p e below _ (s₁.setTop (mkF m 32 #[.val (.int pa), .val (.int (3 : Int32)), .val (.int pb), .val (.int (3 : Int32))] []))
        refine P0.xs (fun hA hx hy t k => XS.iloadN hA hx rfl (hb hy d10_32) rfl  k) ?_
        show Go p e below _ (s₁.setTop (mkF m 33 #[.val (.int pa), .val (.int (3 : Int32)), .val (.int pb), .val (.int (3 : Int32))] [(.int pa)]))
        refine P0.xs (fun hA hx hy t k => XS.bipush hA hx rfl (hb hy d10_33) k) ?_
        show Go p e below _ (s₁.setTop (mkF m 35 #[.val (.int pa), .val (.int (3 : Int32)), .val (.int pb), .val (.int (3 : Int32))] [(.int (8 : Int32)), (.int pa)]))
        refine P0.xs (fun hA hx hy t k => XS.iushr hA hx rfl (hb hy d10_35) rfl k) ?_
        show Go p e below _ (s₁.setTop (mkF m 36 #[.val (.int pa), .val (.int (3 : Int32)), .val (.int pb), .val (.int (3 : Int32))] [(.int ((pa.toUInt32 >>> ((8 : Int32) &&& 31).toUInt32).toInt32))]))
        refine P0.xs (fun hA hx hy t k => XS.sipush hA hx rfl (hb hy d10_36) k) ?_
        show Go p e below _ (s₁.setTop (mkF m 39 #[.val (.int pa), .val (.int (3 : Int32)), .val (.int pb), .val (.int (3 : Int32))] [(.int (255 : Int32)), (.int ((pa.toUInt32 >>> ((8 : Int32) &&& 31).toUInt32).toInt32))]))
        refine P0.xs (fun hA hx hy t k => XS.iand hA hx rfl (hb hy d10_39) rfl k) ?_
        show Go p e below _ (s₁.setTop (mkF m 40 #[.val (.int pa), .val (.int (3 : Int32)), .val (.int pb), .val (.int (3 : Int32))] [(.int (((pa.toUInt32 >>> ((8 : Int32) &&& 31).toUInt32).toInt32) &&& (255 : Int32)))]))
        refine P0.xs (fun hA hx hy t k => XS.iloadN hA hx rfl (hb hy d10_40) rfl  k) ?_
        show Go p e below _ (s₁.setTop (mkF m 41 #[.val (.int pa), .val (.int (3 : Int32)), .val (.int pb), .val (.int (3 : Int32))] [(.int pb), (.int (((pa.toUInt32 >>> ((8 : Int32) &&& 31).toUInt32).toInt32) &&& (255 : Int32)))]))
        refine P0.xs (fun hA hx hy t k => XS.bipush hA hx rfl (hb hy d10_41) k) ?_
        show Go p e below _ (s₁.setTop (mkF m 43 #[.val (.int pa), .val (.int (3 : Int32)), .val (.int pb), .val (.int (3 : Int32))] [(.int (8 : Int32)), (.int pb), (.int (((pa.toUInt32 >>> ((8 : Int32) &&& 31).toUInt32).toInt32) &&& (255 : Int32)))]))
        refine P0.xs (fun hA hx hy t k => XS.iushr hA hx rfl (hb hy d10_43) rfl k) ?_
        show Go p e below _ (s₁.setTop (mkF m 44 #[.val (.int pa), .val (.int (3 : Int32)), .val (.int pb), .val (.int (3 : Int32))] [(.int ((pb.toUInt32 >>> ((8 : Int32) &&& 31).toUInt32).toInt32)), (.int (((pa.toUInt32 >>> ((8 : Int32) &&& 31).toUInt32).toInt32) &&& (255 : Int32)))]))
        refine P0.xs (fun hA hx hy t k => XS.sipush hA hx rfl (hb hy d10_44) k) ?_
        show Go p e below _ (s₁.setTop (mkF m 47 #[.val (.int pa), .val (.int (3 : Int32)), .val (.int pb), .val (.int (3 : Int32))] [(.int (255 : Int32)), (.int ((pb.toUInt32 >>> ((8 : Int32) &&& 31).toUInt32).toInt32)), (.int (((pa.toUInt32 >>> ((8 : Int32) &&& 31).toUInt32).toInt32) &&& (255 : Int32)))]))
        refine P0.xs (fun hA hx hy t k => XS.iand hA hx rfl (hb hy d10_47) rfl k) ?_
        show Go p e below _ (s₁.setTop (mkF m 48 #[.val (.int pa), .val (.int (3 : Int32)), .val (.int pb), .val (.int (3 : Int32))] [(.int (((pb.toUInt32 >>> ((8 : Int32) &&& 31).toUInt32).toInt32) &&& (255 : Int32))), (.int (((pa.toUInt32 >>> ((8 : Int32) &&& 31).toUInt32).toInt32) &&& (255 : Int32)))]))
        by_cases he1 : (((pa.toUInt32 >>> ((8 : Int32) &&& 31).toUInt32).toInt32) &&& (255 : Int32)) = (((pb.toUInt32 >>> ((8 : Int32) &&& 31).toUInt32).toInt32) &&& (255 : Int32))
        · refine P0.xs (fun hA hx hy t k => XS.icmpYes hA hx rfl (pc0 := 48) (pc' := 53) rfl (hb hy d10_48) rfl (teq he1).1 (by decide) (by decide) k) ?_
          show Go p e below _ (s₁.setTop (mkF m 53 #[.val (.int pa), .val (.int (3 : Int32)), .val (.int pb), .val (.int (3 : Int32))] []))
          refine P0.xs (fun hA hx hy t k => XS.iloadN hA hx rfl (hb hy d10_53) rfl  k) ?_
          show Go p e below _ (s₁.setTop (mkF m 54 #[.val (.int pa), .val (.int (3 : Int32)), .val (.int pb), .val (.int (3 : Int32))] [(.int (3 : Int32))]))
          refine P0.xs (fun hA hx hy t k => XS.iconst hA hx rfl (hb hy d10_54) k) ?_
          show Go p e below _ (s₁.setTop (mkF m 55 #[.val (.int pa), .val (.int (3 : Int32)), .val (.int pb), .val (.int (3 : Int32))] [(.int (3 : Int32)), (.int (3 : Int32))]))
          refine P0.xs (fun hA hx hy t k => XS.icmpNo hA hx rfl (hb hy d10_55) rfl (flt (by decide)).1 k) ?_
          show Go p e below _ (s₁.setTop (mkF m 58 #[.val (.int pa), .val (.int (3 : Int32)), .val (.int pb), .val (.int (3 : Int32))] []))
          refine P0.xs (fun hA hx hy t k => XS.iloadN hA hx rfl (hb hy d10_58) rfl  k) ?_
          show Go p e below _ (s₁.setTop (mkF m 59 #[.val (.int pa), .val (.int (3 : Int32)), .val (.int pb), .val (.int (3 : Int32))] [(.int pa)]))
          refine P0.xs (fun hA hx hy t k => XS.bipush hA hx rfl (hb hy d10_59) k) ?_
          show Go p e below _ (s₁.setTop (mkF m 61 #[.val (.int pa), .val (.int (3 : Int32)), .val (.int pb), .val (.int (3 : Int32))] [(.int (16 : Int32)), (.int pa)]))
          refine P0.xs (fun hA hx hy t k => XS.iushr hA hx rfl (hb hy d10_61) rfl k) ?_
          show Go p e below _ (s₁.setTop (mkF m 62 #[.val (.int pa), .val (.int (3 : Int32)), .val (.int pb), .val (.int (3 : Int32))] [(.int ((pa.toUInt32 >>> ((16 : Int32) &&& 31).toUInt32).toInt32))]))
          refine P0.xs (fun hA hx hy t k => XS.sipush hA hx rfl (hb hy d10_62) k) ?_
          show Go p e below _ (s₁.setTop (mkF m 65 #[.val (.int pa), .val (.int (3 : Int32)), .val (.int pb), .val (.int (3 : Int32))] [(.int (255 : Int32)), (.int ((pa.toUInt32 >>> ((16 : Int32) &&& 31).toUInt32).toInt32))]))
          refine P0.xs (fun hA hx hy t k => XS.iand hA hx rfl (hb hy d10_65) rfl k) ?_
          show Go p e below _ (s₁.setTop (mkF m 66 #[.val (.int pa), .val (.int (3 : Int32)), .val (.int pb), .val (.int (3 : Int32))] [(.int (((pa.toUInt32 >>> ((16 : Int32) &&& 31).toUInt32).toInt32) &&& (255 : Int32)))]))
          refine P0.xs (fun hA hx hy t k => XS.iloadN hA hx rfl (hb hy d10_66) rfl  k) ?_
          show Go p e below _ (s₁.setTop (mkF m 67 #[.val (.int pa), .val (.int (3 : Int32)), .val (.int pb), .val (.int (3 : Int32))] [(.int pb), (.int (((pa.toUInt32 >>> ((16 : Int32) &&& 31).toUInt32).toInt32) &&& (255 : Int32)))]))
          refine P0.xs (fun hA hx hy t k => XS.bipush hA hx rfl (hb hy d10_67) k) ?_
          show Go p e below _ (s₁.setTop (mkF m 69 #[.val (.int pa), .val (.int (3 : Int32)), .val (.int pb), .val (.int (3 : Int32))] [(.int (16 : Int32)), (.int pb), (.int (((pa.toUInt32 >>> ((16 : Int32) &&& 31).toUInt32).toInt32) &&& (255 : Int32)))]))
          refine P0.xs (fun hA hx hy t k => XS.iushr hA hx rfl (hb hy d10_69) rfl k) ?_
          show Go p e below _ (s₁.setTop (mkF m 70 #[.val (.int pa), .val (.int (3 : Int32)), .val (.int pb), .val (.int (3 : Int32))] [(.int ((pb.toUInt32 >>> ((16 : Int32) &&& 31).toUInt32).toInt32)), (.int (((pa.toUInt32 >>> ((16 : Int32) &&& 31).toUInt32).toInt32) &&& (255 : Int32)))]))
          refine P0.xs (fun hA hx hy t k => XS.sipush hA hx rfl (hb hy d10_70) k) ?_
          show Go p e below _ (s₁.setTop (mkF m 73 #[.val (.int pa), .val (.int (3 : Int32)), .val (.int pb), .val (.int (3 : Int32))] [(.int (255 : Int32)), (.int ((pb.toUInt32 >>> ((16 : Int32) &&& 31).toUInt32).toInt32)), (.int (((pa.toUInt32 >>> ((16 : Int32) &&& 31).toUInt32).toInt32) &&& (255 : Int32)))]))
          refine P0.xs (fun hA hx hy t k => XS.iand hA hx rfl (hb hy d10_73) rfl k) ?_
          show Go p e below _ (s₁.setTop (mkF m 74 #[.val (.int pa), .val (.int (3 : Int32)), .val (.int pb), .val (.int (3 : Int32))] [(.int (((pb.toUInt32 >>> ((16 : Int32) &&& 31).toUInt32).toInt32) &&& (255 : Int32))), (.int (((pa.toUInt32 >>> ((16 : Int32) &&& 31).toUInt32).toInt32) &&& (255 : Int32)))]))
          by_cases he2 : (((pa.toUInt32 >>> ((16 : Int32) &&& 31).toUInt32).toInt32) &&& (255 : Int32)) = (((pb.toUInt32 >>> ((16 : Int32) &&& 31).toUInt32).toInt32) &&& (255 : Int32))
          · refine P0.xs (fun hA hx hy t k => XS.icmpYes hA hx rfl (pc0 := 74) (pc' := 79) rfl (hb hy d10_74) rfl (teq he2).1 (by decide) (by decide) k) ?_
            show Go p e below _ (s₁.setTop (mkF m 79 #[.val (.int pa), .val (.int (3 : Int32)), .val (.int pb), .val (.int (3 : Int32))] []))
            refine P0.xs (fun hA hx hy t k => XS.iconst hA hx rfl (hb hy d10_79) k) ?_
            show Go p e below _ (s₁.setTop (mkF m 80 #[.val (.int pa), .val (.int (3 : Int32)), .val (.int pb), .val (.int (3 : Int32))] [(.int (1 : Int32))]))
            exact P0.retN (t := .boolean) rfl (by simp) d10_80 (by decide) (by decide) ⟨Or.inl ⟨rfl, cs3_e3.mpr ⟨(chrI _ _).mpr he0, (chrI _ _).mpr he1, (chrI _ _).mpr he2⟩⟩, rfl⟩
          · refine P0.xs (fun hA hx hy t k => XS.icmpNo hA hx rfl (hb hy d10_74) rfl (feq he2).1 k) ?_
            show Go p e below _ (s₁.setTop (mkF m 77 #[.val (.int pa), .val (.int (3 : Int32)), .val (.int pb), .val (.int (3 : Int32))] []))
            refine P0.xs (fun hA hx hy t k => XS.iconst hA hx rfl (hb hy d10_77) k) ?_
            show Go p e below _ (s₁.setTop (mkF m 78 #[.val (.int pa), .val (.int (3 : Int32)), .val (.int pb), .val (.int (3 : Int32))] [(.int (0 : Int32))]))
            exact P0.retN (t := .boolean) rfl (by simp) d10_78 (by decide) (by decide) ⟨Or.inr ⟨rfl, fun q => he2 ((chrI _ _).mp ((cs3_e3.mp q).2.2))⟩, rfl⟩
        · refine P0.xs (fun hA hx hy t k => XS.icmpNo hA hx rfl (hb hy d10_48) rfl (feq he1).1 k) ?_
          show Go p e below _ (s₁.setTop (mkF m 51 #[.val (.int pa), .val (.int (3 : Int32)), .val (.int pb), .val (.int (3 : Int32))] []))
          refine P0.xs (fun hA hx hy t k => XS.iconst hA hx rfl (hb hy d10_51) k) ?_
          show Go p e below _ (s₁.setTop (mkF m 52 #[.val (.int pa), .val (.int (3 : Int32)), .val (.int pb), .val (.int (3 : Int32))] [(.int (0 : Int32))]))
          exact P0.retN (t := .boolean) rfl (by simp) d10_52 (by decide) (by decide) ⟨Or.inr ⟨rfl, fun q => he1 ((chrI _ _).mp ((cs3_e3.mp q).2.1))⟩, rfl⟩
      · refine P0.xs (fun hA hx hy t k => XS.icmpNo hA hx rfl (hb hy d10_22) rfl (feq he0).1 k) ?_
        show Go p e below _ (s₁.setTop (mkF m 25 #[.val (.int pa), .val (.int (3 : Int32)), .val (.int pb), .val (.int (3 : Int32))] []))
        refine P0.xs (fun hA hx hy t k => XS.iconst hA hx rfl (hb hy d10_25) k) ?_
        show Go p e below _ (s₁.setTop (mkF m 26 #[.val (.int pa), .val (.int (3 : Int32)), .val (.int pb), .val (.int (3 : Int32))] [(.int (0 : Int32))]))
        exact P0.retN (t := .boolean) rfl (by simp) d10_26 (by decide) (by decide) ⟨Or.inr ⟨rfl, fun q => he0 ((chrI _ _).mp ((cs3_e3.mp q).1))⟩, rfl⟩
  · refine P0.xs (fun hA hx hy t k => XS.icmpNo hA hx rfl (hb hy d10_2) rfl (feq hl).1 k) ?_
    show Go p e below _ (s₁.setTop (mkF m 5 #[.val (.int pa), .val (.int la), .val (.int pb), .val (.int lb)] []))
    refine P0.xs (fun hA hx hy t k => XS.iconst hA hx rfl (hb hy d10_5) k) ?_
    show Go p e below _ (s₁.setTop (mkF m 6 #[.val (.int pa), .val (.int la), .val (.int pb), .val (.int lb)] [(.int (0 : Int32))]))
    exact P0.retN (t := .boolean) rfl (by simp) d10_6 (by decide) (by decide) ⟨Or.inr ⟨rfl, cs3_ne hla hlb hl⟩, rfl⟩

def R_eqN : Room := { frames := 0, cells := 0, slots := 0, locals := 0 }
def Q_eqN (Z : State)  (h0 : Heap) (v : Option Value) (h : Heap) : Prop := v = some (.int (0 : Int32)) ∧ h = h0
set_option maxRecDepth 65536 in
set_option maxHeartbeats 40000000 in
theorem eqN (l : Launch) (Z : State) (a0 : Array Value) (hw : ∀ d ∈ tables_1, d.before a0 Z = true) (hEL : EW Z a0 EL0) (zc : Int32) (S0 : Sta Z Z.heap "java/lang/String" "COMPACT_STRINGS" "Z" (.int zc)) (Pz : ¬ zc = 0) (o : Addr) (h0 : Heap) (hO : Ext Z.heap h0)  :
    Con l Z EL0 [] (⟨"com/example/qrew/qrew/logic/Constant", "equals", "(Ljava/lang/Object;)Z"⟩ : MethodName) prog_13_method_3_code 3 (some .boolean) R_eqN #[(.ref o), .null] h0 [] (Q_eqN Z  h0) := by
  refine Con.of (y := (⟨"com/example/qrew/qrew/logic/Constant", "equals", "(Ljava/lang/Object;)Z"⟩ : MethodName)) (f0 := fun m => mkF m 0 #[.val (.ref o), .val .null, .unset] []) (plainFor_of_name pn_3) hEL hO (fun m => by skip <;> first | (simp [entryFrame, mkF, argsToLocals, Value.category, maxLocals]; done) | rfl) ?_
  intro p e s m below meth c s₁ P0
  show Go p e below _ (s₁.setTop (mkF m 0 #[.val (.ref o), .val .null, .unset] []))
  refine P0.xs (fun hA hx hy t k => XS.aloadN hA hx rfl (hb hy d11_0) rfl rfl  k) ?_
  show Go p e below _ (s₁.setTop (mkF m 1 #[.val (.ref o), .val .null, .unset] [.null]))
  refine P0.inst0 d11_1 ?_
  show Go p e below _ (s₁.setTop (mkF m 4 #[.val (.ref o), .val .null, .unset] [(.int (0 : Int32))]))
  refine P0.xs (fun hA hx hy t k => XS.ifYes hA hx rfl (pc0 := 4) (pc' := 30) rfl (hb hy d11_4) rfl ((if0 _ _).trans (teq rfl).1) (by decide) (by decide) k) ?_
  show Go p e below _ (s₁.setTop (mkF m 30 #[.val (.ref o), .val .null, .unset] []))
  refine P0.xs (fun hA hx hy t k => XS.iconst hA hx rfl (hb hy d11_30) k) ?_
  show Go p e below _ (s₁.setTop (mkF m 31 #[.val (.ref o), .val .null, .unset] [(.int (0 : Int32))]))
  exact P0.retN (t := .boolean) rfl (by simp) d11_31 (by decide) (by decide) ⟨rfl, rfl⟩

def R_eqV : Room := { frames := 0, cells := 0, slots := 0, locals := 0 }
def Q_eqV (Z : State)  (h0 : Heap) (v : Option Value) (h : Heap) : Prop := v = some (.int (0 : Int32)) ∧ h = h0
set_option maxRecDepth 65536 in
set_option maxHeartbeats 40000000 in
theorem eqV (l : Launch) (Z : State) (a0 : Array Value) (hw : ∀ d ∈ tables_1, d.before a0 Z = true) (hEL : EW Z a0 EL0) (zc : Int32) (S0 : Sta Z Z.heap "java/lang/String" "COMPACT_STRINGS" "Z" (.int zc)) (Pz : ¬ zc = 0) (o y : Addr) (h0 : Heap) (hO : Ext Z.heap h0) (Ey : Exa Z h0 y "com/example/qrew/qrew/logic/Variable") :
    Con l Z EL0 [] (⟨"com/example/qrew/qrew/logic/Constant", "equals", "(Ljava/lang/Object;)Z"⟩ : MethodName) prog_13_method_3_code 3 (some .boolean) R_eqV #[(.ref o), (.ref y)] h0 [] (Q_eqV Z  h0) := by
  refine Con.of (y := (⟨"com/example/qrew/qrew/logic/Constant", "equals", "(Ljava/lang/Object;)Z"⟩ : MethodName)) (f0 := fun m => mkF m 0 #[.val (.ref o), .val (.ref y), .unset] []) (plainFor_of_name pn_3) hEL hO (fun m => by skip <;> first | (simp [entryFrame, mkF, argsToLocals, Value.category, maxLocals]; done) | rfl) ?_
  intro p e s m below meth c s₁ P0
  show Go p e below _ (s₁.setTop (mkF m 0 #[.val (.ref o), .val (.ref y), .unset] []))
  refine P0.xs (fun hA hx hy t k => XS.aloadN hA hx rfl (hb hy d11_0) rfl rfl  k) ?_
  show Go p e below _ (s₁.setTop (mkF m 1 #[.val (.ref o), .val (.ref y), .unset] [(.ref y)]))
  refine P0.instN (hw _ (List.mem_of_getElem? (i := 61) rfl)) Ey (noAsg (hw _ (List.mem_of_getElem? (i := 85) rfl)) (hw _ (List.mem_of_getElem? (i := 86) rfl)) (hw _ (List.mem_of_getElem? (i := 39) rfl)) (by decide) (by decide)) d11_1 fun T95 P95 => ?_
  show Go p e below _ (T95.setTop (mkF m 4 #[.val (.ref o), .val (.ref y), .unset] [(.int (0 : Int32))]))
  refine P95.xs (fun hA hx hy t k => XS.ifYes hA hx rfl (pc0 := 4) (pc' := 30) rfl (hb hy d11_4) rfl ((if0 _ _).trans (teq rfl).1) (by decide) (by decide) k) ?_
  show Go p e below _ (T95.setTop (mkF m 30 #[.val (.ref o), .val (.ref y), .unset] []))
  refine P95.xs (fun hA hx hy t k => XS.iconst hA hx rfl (hb hy d11_30) k) ?_
  show Go p e below _ (T95.setTop (mkF m 31 #[.val (.ref o), .val (.ref y), .unset] [(.int (0 : Int32))]))
  exact P95.retN (t := .boolean) rfl (by simp) d11_31 (by decide) (by decide) ⟨rfl, rfl⟩

def R_eqS : Room := { frames := 0, cells := 0, slots := 0, locals := 0 }
def Q_eqS (Z : State)  (h0 : Heap) (v : Option Value) (h : Heap) : Prop := v = some (.int (0 : Int32)) ∧ h = h0
set_option maxRecDepth 65536 in
set_option maxHeartbeats 40000000 in
theorem eqS (l : Launch) (Z : State) (a0 : Array Value) (hw : ∀ d ∈ tables_1, d.before a0 Z = true) (hEL : EW Z a0 EL0) (zc : Int32) (S0 : Sta Z Z.heap "java/lang/String" "COMPACT_STRINGS" "Z" (.int zc)) (Pz : ¬ zc = 0) (o y : Addr) (h0 : Heap) (hO : Ext Z.heap h0) (Ey : Exa Z h0 y "java/lang/String") :
    Con l Z EL0 [] (⟨"com/example/qrew/qrew/logic/Constant", "equals", "(Ljava/lang/Object;)Z"⟩ : MethodName) prog_13_method_3_code 3 (some .boolean) R_eqS #[(.ref o), (.ref y)] h0 [] (Q_eqS Z  h0) := by
  refine Con.of (y := (⟨"com/example/qrew/qrew/logic/Constant", "equals", "(Ljava/lang/Object;)Z"⟩ : MethodName)) (f0 := fun m => mkF m 0 #[.val (.ref o), .val (.ref y), .unset] []) (plainFor_of_name pn_3) hEL hO (fun m => by skip <;> first | (simp [entryFrame, mkF, argsToLocals, Value.category, maxLocals]; done) | rfl) ?_
  intro p e s m below meth c s₁ P0
  show Go p e below _ (s₁.setTop (mkF m 0 #[.val (.ref o), .val (.ref y), .unset] []))
  refine P0.xs (fun hA hx hy t k => XS.aloadN hA hx rfl (hb hy d11_0) rfl rfl  k) ?_
  show Go p e below _ (s₁.setTop (mkF m 1 #[.val (.ref o), .val (.ref y), .unset] [(.ref y)]))
  refine P0.instN (hw _ (List.mem_of_getElem? (i := 61) rfl)) Ey (noAsg (hw _ (List.mem_of_getElem? (i := 87) rfl)) (hw _ (List.mem_of_getElem? (i := 86) rfl)) (hw _ (List.mem_of_getElem? (i := 39) rfl)) (by decide) (by decide)) d11_1 fun T96 P96 => ?_
  show Go p e below _ (T96.setTop (mkF m 4 #[.val (.ref o), .val (.ref y), .unset] [(.int (0 : Int32))]))
  refine P96.xs (fun hA hx hy t k => XS.ifYes hA hx rfl (pc0 := 4) (pc' := 30) rfl (hb hy d11_4) rfl ((if0 _ _).trans (teq rfl).1) (by decide) (by decide) k) ?_
  show Go p e below _ (T96.setTop (mkF m 30 #[.val (.ref o), .val (.ref y), .unset] []))
  refine P96.xs (fun hA hx hy t k => XS.iconst hA hx rfl (hb hy d11_30) k) ?_
  show Go p e below _ (T96.setTop (mkF m 31 #[.val (.ref o), .val (.ref y), .unset] [(.int (0 : Int32))]))
  exact P96.retN (t := .boolean) rfl (by simp) d11_31 (by decide) (by decide) ⟨rfl, rfl⟩

def R_eqC : Room := { frames := 2, cells := 0, slots := 0, locals := 28 }
def Q_eqC (Z : State) (cs ds : List Int32) (h0 : Heap) (v : Option Value) (h : Heap) : Prop := ((v = some (.int 1) ∧ cs = ds) ∨ (v = some (.int 0) ∧ ¬ cs = ds)) ∧ h = h0
set_option maxRecDepth 65536 in
set_option maxHeartbeats 40000000 in
theorem eqC (l : Launch) (Z : State) (a0 : Array Value) (hw : ∀ d ∈ tables_1, d.before a0 Z = true) (hEL : EW Z a0 EL0) (zc : Int32) (S0 : Sta Z Z.heap "java/lang/String" "COMPACT_STRINGS" "Z" (.int zc)) (Pz : ¬ zc = 0) (o y sx t : Addr) (cs ds : List Int32) (h0 : Heap) (hO : Ext Z.heap h0) (Ey : Exa Z h0 y "com/example/qrew/qrew/logic/Constant") (Fo : Fld Z h0 o "com/example/qrew/qrew/logic/Constant" "text" "Ljava/lang/String;" (.ref sx)) (Fy : Fld Z h0 y "com/example/qrew/qrew/logic/Constant" "text" "Ljava/lang/String;" (.ref t)) (Ss : Str Z h0 sx cs) (St : Str Z h0 t ds) :
    Con l Z EL0 [] (⟨"com/example/qrew/qrew/logic/Constant", "equals", "(Ljava/lang/Object;)Z"⟩ : MethodName) prog_13_method_3_code 3 (some .boolean) R_eqC #[(.ref o), (.ref y)] h0 [] (Q_eqC Z cs ds h0) := by
  refine Con.of (y := (⟨"com/example/qrew/qrew/logic/Constant", "equals", "(Ljava/lang/Object;)Z"⟩ : MethodName)) (f0 := fun m => mkF m 0 #[.val (.ref o), .val (.ref y), .unset] []) (plainFor_of_name pn_3) hEL hO (fun m => by skip <;> first | (simp [entryFrame, mkF, argsToLocals, Value.category, maxLocals]; done) | rfl) ?_
  intro p e s m below meth c s₁ P0
  show Go p e below _ (s₁.setTop (mkF m 0 #[.val (.ref o), .val (.ref y), .unset] []))
  refine P0.xs (fun hA hx hy t k => XS.aloadN hA hx rfl (hb hy d11_0) rfl rfl  k) ?_
  show Go p e below _ (s₁.setTop (mkF m 1 #[.val (.ref o), .val (.ref y), .unset] [(.ref y)]))
  refine P0.inst (hw _ (List.mem_of_getElem? (i := 61) rfl)) (Ins.self Ey) d11_1 fun T97 P97 => ?_
  show Go p e below _ (T97.setTop (mkF m 4 #[.val (.ref o), .val (.ref y), .unset] [(.int (1 : Int32))]))
  refine P97.xs (fun hA hx hy t k => XS.ifNo hA hx rfl (hb hy d11_4) rfl ((if0 _ _).trans (feq (by decide)).1) k) ?_
  show Go p e below _ (T97.setTop (mkF m 7 #[.val (.ref o), .val (.ref y), .unset] []))
  refine P97.xs (fun hA hx hy t k => XS.aloadN hA hx rfl (hb hy d11_7) rfl rfl  k) ?_
  show Go p e below _ (T97.setTop (mkF m 8 #[.val (.ref o), .val (.ref y), .unset] [(.ref y)]))
  refine P97.cast (hw _ (List.mem_of_getElem? (i := 61) rfl)) (Ins.self Ey) d11_8 fun T98 P98 => ?_
  show Go p e below _ (T98.setTop (mkF m 11 #[.val (.ref o), .val (.ref y), .unset] [(.ref y)]))
  refine P98.xs (fun hA hx hy t k => XS.astoreN hA hx rfl (hb hy d11_11) rfl rfl (l' := #[.val (.ref o), .val (.ref y), .val (.ref y)]) rfl k) ?_
  show Go p e below _ (T98.setTop (mkF m 12 #[.val (.ref o), .val (.ref y), .val (.ref y)] []))
  refine P98.xs (fun hA hx hy t k => XS.aloadN hA hx rfl (hb hy d11_12) rfl rfl  k) ?_
  show Go p e below _ (T98.setTop (mkF m 13 #[.val (.ref o), .val (.ref y), .val (.ref y)] [(.ref o)]))
  refine P98.getF (host := "") (Or.inl (hw _ (List.mem_of_getElem? (i := 51) rfl))) Via.refl Fo d11_13 fun T99 P99 => ?_
  show Go p e below _ (T99.setTop (mkF m 16 #[.val (.ref o), .val (.ref y), .val (.ref y)] [(.ref sx)]))
  refine P99.xs (fun hA hx hy t k => XS.aloadN hA hx rfl (hb hy d11_16) rfl rfl  k) ?_
  show Go p e below _ (T99.setTop (mkF m 17 #[.val (.ref o), .val (.ref y), .val (.ref y)] [(.ref y), (.ref sx)]))
  refine P99.getF (host := "") (Or.inl (hw _ (List.mem_of_getElem? (i := 51) rfl))) Via.refl Fy d11_17 fun T100 P100 => ?_
  show Go p e below _ (T100.setTop (mkF m 20 #[.val (.ref o), .val (.ref y), .val (.ref y)] [(.ref t), (.ref sx)]))
  have Ec101 : Exa Z h0 sx "java/lang/String" := Ss.1
  have Ec102 : Exa Z h0 t "java/lang/String" := St.1
  refine P100.strEq (W := 0) (hw _ (List.mem_of_getElem? (i := 63) rfl)) (hw _ (List.mem_of_getElem? (i := 64) rfl)) (hw _ (List.mem_of_getElem? (i := 66) rfl)) (nfOf (hw _ (List.mem_of_getElem? (i := 66) rfl))) (hw _ (List.mem_of_getElem? (i := 65) rfl)) (by decide) (wEq hw) (hw _ (List.mem_of_getElem? (i := 6) rfl)) S0 Pz Ss St (by decide) (by decide) (by decide) (by decide) pd_3 rfl rfl (Nat.le_of_eq rfl) d11_20 (fun T103 P103 hq => ?_) (fun T104 P104 hq => ?_)
  · show Go p e below _ (T103.setTop (mkF m 23 #[.val (.ref o), .val (.ref y), .val (.ref y)] [(.int (1 : Int32))]))
    refine P103.xs (fun hA hx hy t k => XS.ifNo hA hx rfl (hb hy d11_23) rfl ((if0 _ _).trans (feq (by decide)).1) k) ?_
    show Go p e below _ (T103.setTop (mkF m 26 #[.val (.ref o), .val (.ref y), .val (.ref y)] []))
    refine P103.xs (fun hA hx hy t k => XS.iconst hA hx rfl (hb hy d11_26) k) ?_
    show Go p e below _ (T103.setTop (mkF m 27 #[.val (.ref o), .val (.ref y), .val (.ref y)] [(.int (1 : Int32))]))
    refine P103.xs (fun hA hx hy t k => XS.goto hA hx rfl (pc0 := 27) (pc' := 31) rfl (hb hy d11_27) (by decide) (by decide) k) ?_
    show Go p e below _ (T103.setTop (mkF m 31 #[.val (.ref o), .val (.ref y), .val (.ref y)] [(.int (1 : Int32))]))
    exact P103.retN (t := .boolean) rfl (by simp) d11_31 (by decide) (by decide) ⟨Or.inl ⟨rfl, hq⟩, rfl⟩
  · show Go p e below _ (T104.setTop (mkF m 23 #[.val (.ref o), .val (.ref y), .val (.ref y)] [(.int (0 : Int32))]))
    refine P104.xs (fun hA hx hy t k => XS.ifYes hA hx rfl (pc0 := 23) (pc' := 30) rfl (hb hy d11_23) rfl ((if0 _ _).trans (teq rfl).1) (by decide) (by decide) k) ?_
    show Go p e below _ (T104.setTop (mkF m 30 #[.val (.ref o), .val (.ref y), .val (.ref y)] []))
    refine P104.xs (fun hA hx hy t k => XS.iconst hA hx rfl (hb hy d11_30) k) ?_
    show Go p e below _ (T104.setTop (mkF m 31 #[.val (.ref o), .val (.ref y), .val (.ref y)] [(.int (0 : Int32))]))
    exact P104.retN (t := .boolean) rfl (by simp) d11_31 (by decide) (by decide) ⟨Or.inr ⟨rfl, hq⟩, rfl⟩

def Q_mLaw (Z : State)  (h0 : Heap) (v : Option Value) (h : Heap) : Prop := v = some (.int 1)
set_option maxRecDepth 65536 in
set_option maxHeartbeats 40000000 in
theorem mLaw (l : Launch) (Z : State) (a0 : Array Value) (hw : ∀ d ∈ tables_1, d.before a0 Z = true) (hEL : EW Z a0 EL0) (zc : Int32) (S0 : Sta Z Z.heap "java/lang/String" "COMPACT_STRINGS" "Z" (.int zc)) (Pz : ¬ zc = 0) (p0 p1 p2 p3 : Int32) (h0 : Heap) (hO : Ext Z.heap h0)  :
    Con l Z EL0 tables_1 x code maxLocals ret room_1 #[(.int p0), (.int p1), (.int p2), (.int p3)] h0 [] (Q_mLaw Z  h0) := by
  refine Con.of (y := (⟨"com/example/qrew/qrew/logic/ConstantEqualsPinLaw", "law", "(IIII)Z"⟩ : MethodName)) (f0 := fun m => mkF m 0 #[.val (.int p0), .val (.int p1), .val (.int p2), .val (.int p3), .unset, .unset, .unset, .unset, .unset, .unset, .unset, .unset, .unset, .unset] []) (plainFor_of_name pn_2) hEL hO (fun m => by skip <;> first | (simp [entryFrame, mkF, argsToLocals, Value.category, maxLocals]; done) | rfl) ?_
  intro p e s m below meth c s₁ P0
  show Go p e below _ (s₁.setTop (mkF m 0 #[.val (.int p0), .val (.int p1), .val (.int p2), .val (.int p3), .unset, .unset, .unset, .unset, .unset, .unset, .unset, .unset, .unset, .unset] []))
  refine P0.xs (fun hA hx hy t k => XS.iloadN hA hx rfl (hb hy at_0) rfl  k) ?_
  show Go p e below _ (s₁.setTop (mkF m 1 #[.val (.int p0), .val (.int p1), .val (.int p2), .val (.int p3), .unset, .unset, .unset, .unset, .unset, .unset, .unset, .unset, .unset, .unset] [(.int p2)]))
  refine P0.xs (fun hA hx hy t k => XS.iconst hA hx rfl (hb hy at_1) k) ?_
  show Go p e below _ (s₁.setTop (mkF m 2 #[.val (.int p0), .val (.int p1), .val (.int p2), .val (.int p3), .unset, .unset, .unset, .unset, .unset, .unset, .unset, .unset, .unset, .unset] [(.int (3 : Int32)), (.int p2)]))
  refine P0.xs (fun hA hx hy t k => XS.iand hA hx rfl (hb hy at_2) rfl k) ?_
  show Go p e below _ (s₁.setTop (mkF m 3 #[.val (.int p0), .val (.int p1), .val (.int p2), .val (.int p3), .unset, .unset, .unset, .unset, .unset, .unset, .unset, .unset, .unset, .unset] [(.int (p2 &&& (3 : Int32)))]))
  have hla := mask3 p2
  generalize hgla : (p2 &&& (3 : Int32)) = la at hla ⊢
  show Go p e below _ (s₁.setTop (mkF m 3 #[.val (.int p0), .val (.int p1), .val (.int p2), .val (.int p3), .unset, .unset, .unset, .unset, .unset, .unset, .unset, .unset, .unset, .unset] [(.int la)]))
  refine P0.xs (fun hA hx hy t k => XS.istore hA hx rfl (hb hy at_3) rfl (l' := #[.val (.int p0), .val (.int p1), .val (.int p2), .val (.int p3), .val (.int la), .unset, .unset, .unset, .unset, .unset, .unset, .unset, .unset, .unset]) rfl k) ?_
  show Go p e below _ (s₁.setTop (mkF m 5 #[.val (.int p0), .val (.int p1), .val (.int p2), .val (.int p3), .val (.int la), .unset, .unset, .unset, .unset, .unset, .unset, .unset, .unset, .unset] []))
  refine P0.xs (fun hA hx hy t k => XS.iloadN hA hx rfl (hb hy at_5) rfl  k) ?_
  show Go p e below _ (s₁.setTop (mkF m 6 #[.val (.int p0), .val (.int p1), .val (.int p2), .val (.int p3), .val (.int la), .unset, .unset, .unset, .unset, .unset, .unset, .unset, .unset, .unset] [(.int p3)]))
  refine P0.xs (fun hA hx hy t k => XS.iconst hA hx rfl (hb hy at_6) k) ?_
  show Go p e below _ (s₁.setTop (mkF m 7 #[.val (.int p0), .val (.int p1), .val (.int p2), .val (.int p3), .val (.int la), .unset, .unset, .unset, .unset, .unset, .unset, .unset, .unset, .unset] [(.int (1 : Int32)), (.int p3)]))
  refine P0.xs (fun hA hx hy t k => XS.iand hA hx rfl (hb hy at_7) rfl k) ?_
  show Go p e below _ (s₁.setTop (mkF m 8 #[.val (.int p0), .val (.int p1), .val (.int p2), .val (.int p3), .val (.int la), .unset, .unset, .unset, .unset, .unset, .unset, .unset, .unset, .unset] [(.int (p3 &&& (1 : Int32)))]))
  suffices j1 : ∀ (T105 : State) (h105 : Heap) (pb : Int32), Pos p l e room_1 s m #[(.int p0), (.int p1), (.int p2), (.int p3)] below meth c "com/example/qrew/qrew/logic/ConstantEqualsPinLaw" "law" code maxLocals ret Z a0 EL0 h0 [] T105 h105 0 0 → Go p e below (Fini Z EL0 h0 [] room_1 (Q_mLaw Z  h0) s) (T105.setTop (mkF m 16 #[.val (.int p0), .val (.int p1), .val (.int p2), .val (.int p3), .val (.int la), .unset, .unset, .unset, .unset, .unset, .unset, .unset, .unset, .unset] [(.int pb)])) by
    by_cases hk : (p3 &&& (1 : Int32)) = 0
    · refine P0.xs (fun hA hx hy t k => XS.ifYes hA hx rfl (pc0 := 8) (pc' := 15) rfl (hb hy at_8) rfl ((if0 _ _).trans (teq hk).1) (by decide) (by decide) k) ?_
      show Go p e below _ (s₁.setTop (mkF m 15 #[.val (.int p0), .val (.int p1), .val (.int p2), .val (.int p3), .val (.int la), .unset, .unset, .unset, .unset, .unset, .unset, .unset, .unset, .unset] []))
      refine P0.xs (fun hA hx hy t k => XS.iloadN hA hx rfl (hb hy at_15) rfl  k) ?_
      show Go p e below _ (s₁.setTop (mkF m 16 #[.val (.int p0), .val (.int p1), .val (.int p2), .val (.int p3), .val (.int la), .unset, .unset, .unset, .unset, .unset, .unset, .unset, .unset, .unset] [(.int p1)]))
      exact j1 _ _ _  (P0.wider (by decide) (by decide)) 
    · refine P0.xs (fun hA hx hy t k => XS.ifNo hA hx rfl (hb hy at_8) rfl ((if0 _ _).trans (feq hk).1) k) ?_
      show Go p e below _ (s₁.setTop (mkF m 11 #[.val (.int p0), .val (.int p1), .val (.int p2), .val (.int p3), .val (.int la), .unset, .unset, .unset, .unset, .unset, .unset, .unset, .unset, .unset] []))
      refine P0.xs (fun hA hx hy t k => XS.iloadN hA hx rfl (hb hy at_11) rfl  k) ?_
      show Go p e below _ (s₁.setTop (mkF m 12 #[.val (.int p0), .val (.int p1), .val (.int p2), .val (.int p3), .val (.int la), .unset, .unset, .unset, .unset, .unset, .unset, .unset, .unset, .unset] [(.int p0)]))
      refine P0.xs (fun hA hx hy t k => XS.goto hA hx rfl (pc0 := 12) (pc' := 16) rfl (hb hy at_12) (by decide) (by decide) k) ?_
      show Go p e below _ (s₁.setTop (mkF m 16 #[.val (.int p0), .val (.int p1), .val (.int p2), .val (.int p3), .val (.int la), .unset, .unset, .unset, .unset, .unset, .unset, .unset, .unset, .unset] [(.int p0)]))
      exact j1 _ _ _  (P0.wider (by decide) (by decide)) 
  intro T105 h105 pb  P105 
  show Go p e below _ (T105.setTop (mkF m 16 #[.val (.int p0), .val (.int p1), .val (.int p2), .val (.int p3), .val (.int la), .unset, .unset, .unset, .unset, .unset, .unset, .unset, .unset, .unset] [(.int pb)]))
  refine P105.xs (fun hA hx hy t k => XS.istore hA hx rfl (hb hy at_16) rfl (l' := #[.val (.int p0), .val (.int p1), .val (.int p2), .val (.int p3), .val (.int la), .val (.int pb), .unset, .unset, .unset, .unset, .unset, .unset, .unset, .unset]) rfl k) ?_
  show Go p e below _ (T105.setTop (mkF m 18 #[.val (.int p0), .val (.int p1), .val (.int p2), .val (.int p3), .val (.int la), .val (.int pb), .unset, .unset, .unset, .unset, .unset, .unset, .unset, .unset] []))
  refine P105.xs (fun hA hx hy t k => XS.iloadN hA hx rfl (hb hy at_18) rfl  k) ?_
  show Go p e below _ (T105.setTop (mkF m 19 #[.val (.int p0), .val (.int p1), .val (.int p2), .val (.int p3), .val (.int la), .val (.int pb), .unset, .unset, .unset, .unset, .unset, .unset, .unset, .unset] [(.int p3)]))
  refine P105.xs (fun hA hx hy t k => XS.iconst hA hx rfl (hb hy at_19) k) ?_
  show Go p e below _ (T105.setTop (mkF m 20 #[.val (.int p0), .val (.int p1), .val (.int p2), .val (.int p3), .val (.int la), .val (.int pb), .unset, .unset, .unset, .unset, .unset, .unset, .unset, .unset] [(.int (2 : Int32)), (.int p3)]))
  refine P105.xs (fun hA hx hy t k => XS.iand hA hx rfl (hb hy at_20) rfl k) ?_
  show Go p e below _ (T105.setTop (mkF m 21 #[.val (.int p0), .val (.int p1), .val (.int p2), .val (.int p3), .val (.int la), .val (.int pb), .unset, .unset, .unset, .unset, .unset, .unset, .unset, .unset] [(.int (p3 &&& (2 : Int32)))]))
  suffices j2 : ∀ (T106 : State) (h106 : Heap) (lb : Int32), (lb = 0 ∨ lb = 1 ∨ lb = 2 ∨ lb = 3) → Pos p l e room_1 s m #[(.int p0), (.int p1), (.int p2), (.int p3)] below meth c "com/example/qrew/qrew/logic/ConstantEqualsPinLaw" "law" code maxLocals ret Z a0 EL0 h0 [] T106 h106 0 0 → Go p e below (Fini Z EL0 h0 [] room_1 (Q_mLaw Z  h0) s) (T106.setTop (mkF m 34 #[.val (.int p0), .val (.int p1), .val (.int p2), .val (.int p3), .val (.int la), .val (.int pb), .unset, .unset, .unset, .unset, .unset, .unset, .unset, .unset] [(.int lb)])) by
    by_cases hk : (p3 &&& (2 : Int32)) = 0
    · refine P105.xs (fun hA hx hy t k => XS.ifYes hA hx rfl (pc0 := 21) (pc' := 29) rfl (hb hy at_21) rfl ((if0 _ _).trans (teq hk).1) (by decide) (by decide) k) ?_
      show Go p e below _ (T105.setTop (mkF m 29 #[.val (.int p0), .val (.int p1), .val (.int p2), .val (.int p3), .val (.int la), .val (.int pb), .unset, .unset, .unset, .unset, .unset, .unset, .unset, .unset] []))
      refine P105.xs (fun hA hx hy t k => XS.iloadN hA hx rfl (hb hy at_29) rfl  k) ?_
      show Go p e below _ (T105.setTop (mkF m 30 #[.val (.int p0), .val (.int p1), .val (.int p2), .val (.int p3), .val (.int la), .val (.int pb), .unset, .unset, .unset, .unset, .unset, .unset, .unset, .unset] [(.int p2)]))
      refine P105.xs (fun hA hx hy t k => XS.iconst hA hx rfl (hb hy at_30) k) ?_
      show Go p e below _ (T105.setTop (mkF m 31 #[.val (.int p0), .val (.int p1), .val (.int p2), .val (.int p3), .val (.int la), .val (.int pb), .unset, .unset, .unset, .unset, .unset, .unset, .unset, .unset] [(.int (2 : Int32)), (.int p2)]))
      refine P105.xs (fun hA hx hy t k => XS.iushr hA hx rfl (hb hy at_31) rfl k) ?_
      show Go p e below _ (T105.setTop (mkF m 32 #[.val (.int p0), .val (.int p1), .val (.int p2), .val (.int p3), .val (.int la), .val (.int pb), .unset, .unset, .unset, .unset, .unset, .unset, .unset, .unset] [(.int ((p2.toUInt32 >>> ((2 : Int32) &&& 31).toUInt32).toInt32))]))
      refine P105.xs (fun hA hx hy t k => XS.iconst hA hx rfl (hb hy at_32) k) ?_
      show Go p e below _ (T105.setTop (mkF m 33 #[.val (.int p0), .val (.int p1), .val (.int p2), .val (.int p3), .val (.int la), .val (.int pb), .unset, .unset, .unset, .unset, .unset, .unset, .unset, .unset] [(.int (3 : Int32)), (.int ((p2.toUInt32 >>> ((2 : Int32) &&& 31).toUInt32).toInt32))]))
      refine P105.xs (fun hA hx hy t k => XS.iand hA hx rfl (hb hy at_33) rfl k) ?_
      show Go p e below _ (T105.setTop (mkF m 34 #[.val (.int p0), .val (.int p1), .val (.int p2), .val (.int p3), .val (.int la), .val (.int pb), .unset, .unset, .unset, .unset, .unset, .unset, .unset, .unset] [(.int (((p2.toUInt32 >>> ((2 : Int32) &&& 31).toUInt32).toInt32) &&& (3 : Int32)))]))
      exact j2 _ _ _ (mask3 _) (P105.wider (by decide) (by decide)) 
    · refine P105.xs (fun hA hx hy t k => XS.ifNo hA hx rfl (hb hy at_21) rfl ((if0 _ _).trans (feq hk).1) k) ?_
      show Go p e below _ (T105.setTop (mkF m 24 #[.val (.int p0), .val (.int p1), .val (.int p2), .val (.int p3), .val (.int la), .val (.int pb), .unset, .unset, .unset, .unset, .unset, .unset, .unset, .unset] []))
      refine P105.xs (fun hA hx hy t k => XS.iload hA hx rfl (hb hy at_24) rfl  k) ?_
      show Go p e below _ (T105.setTop (mkF m 26 #[.val (.int p0), .val (.int p1), .val (.int p2), .val (.int p3), .val (.int la), .val (.int pb), .unset, .unset, .unset, .unset, .unset, .unset, .unset, .unset] [(.int la)]))
      refine P105.xs (fun hA hx hy t k => XS.goto hA hx rfl (pc0 := 26) (pc' := 34) rfl (hb hy at_26) (by decide) (by decide) k) ?_
      show Go p e below _ (T105.setTop (mkF m 34 #[.val (.int p0), .val (.int p1), .val (.int p2), .val (.int p3), .val (.int la), .val (.int pb), .unset, .unset, .unset, .unset, .unset, .unset, .unset, .unset] [(.int la)]))
      exact j2 _ _ _ hla (P105.wider (by decide) (by decide)) 
  intro T106 h106 lb hlb P106 
  show Go p e below _ (T106.setTop (mkF m 34 #[.val (.int p0), .val (.int p1), .val (.int p2), .val (.int p3), .val (.int la), .val (.int pb), .unset, .unset, .unset, .unset, .unset, .unset, .unset, .unset] [(.int lb)]))
  refine P106.xs (fun hA hx hy t k => XS.istore hA hx rfl (hb hy at_34) rfl (l' := #[.val (.int p0), .val (.int p1), .val (.int p2), .val (.int p3), .val (.int la), .val (.int pb), .val (.int lb), .unset, .unset, .unset, .unset, .unset, .unset, .unset]) rfl k) ?_
  show Go p e below _ (T106.setTop (mkF m 36 #[.val (.int p0), .val (.int p1), .val (.int p2), .val (.int p3), .val (.int la), .val (.int pb), .val (.int lb), .unset, .unset, .unset, .unset, .unset, .unset, .unset] []))
  refine P106.xs (fun hA hx hy t k => XS.iloadN hA hx rfl (hb hy at_36) rfl  k) ?_
  show Go p e below _ (T106.setTop (mkF m 37 #[.val (.int p0), .val (.int p1), .val (.int p2), .val (.int p3), .val (.int la), .val (.int pb), .val (.int lb), .unset, .unset, .unset, .unset, .unset, .unset, .unset] [(.int p2)]))
  refine P106.xs (fun hA hx hy t k => XS.iconst hA hx rfl (hb hy at_37) k) ?_
  show Go p e below _ (T106.setTop (mkF m 38 #[.val (.int p0), .val (.int p1), .val (.int p2), .val (.int p3), .val (.int la), .val (.int pb), .val (.int lb), .unset, .unset, .unset, .unset, .unset, .unset, .unset] [(.int (4 : Int32)), (.int p2)]))
  refine P106.xs (fun hA hx hy t k => XS.iushr hA hx rfl (hb hy at_38) rfl k) ?_
  show Go p e below _ (T106.setTop (mkF m 39 #[.val (.int p0), .val (.int p1), .val (.int p2), .val (.int p3), .val (.int la), .val (.int pb), .val (.int lb), .unset, .unset, .unset, .unset, .unset, .unset, .unset] [(.int ((p2.toUInt32 >>> ((4 : Int32) &&& 31).toUInt32).toInt32))]))
  refine P106.ldcI (hw _ (List.mem_of_getElem? (i := 0) rfl)) at_39 ?_
  show Go p e below _ (T106.setTop (mkF m 41 #[.val (.int p0), .val (.int p1), .val (.int p2), .val (.int p3), .val (.int la), .val (.int pb), .val (.int lb), .unset, .unset, .unset, .unset, .unset, .unset, .unset] [(.int (2147483647 : Int32)), (.int ((p2.toUInt32 >>> ((4 : Int32) &&& 31).toUInt32).toInt32))]))
  refine P106.xs (fun hA hx hy t k => XS.iand hA hx rfl (hb hy at_41) rfl k) ?_
  show Go p e below _ (T106.setTop (mkF m 42 #[.val (.int p0), .val (.int p1), .val (.int p2), .val (.int p3), .val (.int la), .val (.int pb), .val (.int lb), .unset, .unset, .unset, .unset, .unset, .unset, .unset] [(.int (((p2.toUInt32 >>> ((4 : Int32) &&& 31).toUInt32).toInt32) &&& (2147483647 : Int32)))]))
  refine P106.xs (fun hA hx hy t k => XS.bipush hA hx rfl (hb hy at_42) k) ?_
  show Go p e below _ (T106.setTop (mkF m 44 #[.val (.int p0), .val (.int p1), .val (.int p2), .val (.int p3), .val (.int la), .val (.int pb), .val (.int lb), .unset, .unset, .unset, .unset, .unset, .unset, .unset] [(.int (24 : Int32)), (.int (((p2.toUInt32 >>> ((4 : Int32) &&& 31).toUInt32).toInt32) &&& (2147483647 : Int32)))]))
  refine P106.st (fun vm0 locs X hx hy t k => Jvm.RoadKit.iremM X hx rfl (hb hy at_44) rfl (by decide) k) ?_
  show Go p e below _ (T106.setTop (mkF m 45 #[.val (.int p0), .val (.int p1), .val (.int p2), .val (.int p3), .val (.int la), .val (.int pb), .val (.int lb), .unset, .unset, .unset, .unset, .unset, .unset, .unset] [(.int ((((p2.toUInt32 >>> ((4 : Int32) &&& 31).toUInt32).toInt32) &&& (2147483647 : Int32)) % (24 : Int32)))]))
  generalize hshf : ((((p2.toUInt32 >>> ((4 : Int32) &&& 31).toUInt32).toInt32) &&& (2147483647 : Int32)) % (24 : Int32)) = shf
  refine P106.xs (fun hA hx hy t k => XS.istore hA hx rfl (hb hy at_45) rfl (l' := #[.val (.int p0), .val (.int p1), .val (.int p2), .val (.int p3), .val (.int la), .val (.int pb), .val (.int lb), .val (.int shf), .unset, .unset, .unset, .unset, .unset, .unset]) rfl k) ?_
  show Go p e below _ (T106.setTop (mkF m 47 #[.val (.int p0), .val (.int p1), .val (.int p2), .val (.int p3), .val (.int la), .val (.int pb), .val (.int lb), .val (.int shf), .unset, .unset, .unset, .unset, .unset, .unset] []))
  refine P106.xs (fun hA hx hy t k => XS.iloadN hA hx rfl (hb hy at_47) rfl  k) ?_
  show Go p e below _ (T106.setTop (mkF m 48 #[.val (.int p0), .val (.int p1), .val (.int p2), .val (.int p3), .val (.int la), .val (.int pb), .val (.int lb), .val (.int shf), .unset, .unset, .unset, .unset, .unset, .unset] [(.int p3)]))
  refine P106.xs (fun hA hx hy t k => XS.iconst hA hx rfl (hb hy at_48) k) ?_
  show Go p e below _ (T106.setTop (mkF m 49 #[.val (.int p0), .val (.int p1), .val (.int p2), .val (.int p3), .val (.int la), .val (.int pb), .val (.int lb), .val (.int shf), .unset, .unset, .unset, .unset, .unset, .unset] [(.int (4 : Int32)), (.int p3)]))
  refine P106.xs (fun hA hx hy t k => XS.iand hA hx rfl (hb hy at_49) rfl k) ?_
  show Go p e below _ (T106.setTop (mkF m 50 #[.val (.int p0), .val (.int p1), .val (.int p2), .val (.int p3), .val (.int la), .val (.int pb), .val (.int lb), .val (.int shf), .unset, .unset, .unset, .unset, .unset, .unset] [(.int (p3 &&& (4 : Int32)))]))
  suffices j3 : ∀ (T107 : State) (h107 : Heap) (pc5 : Int32), Pos p l e room_1 s m #[(.int p0), (.int p1), (.int p2), (.int p3)] below meth c "com/example/qrew/qrew/logic/ConstantEqualsPinLaw" "law" code maxLocals ret Z a0 EL0 h0 [] T107 h107 0 0 → Go p e below (Fini Z EL0 h0 [] room_1 (Q_mLaw Z  h0) s) (T107.setTop (mkF m 62 #[.val (.int p0), .val (.int p1), .val (.int p2), .val (.int p3), .val (.int la), .val (.int pc5), .val (.int lb), .val (.int shf), .unset, .unset, .unset, .unset, .unset, .unset] [])) by
    by_cases hk : (p3 &&& (4 : Int32)) = 0
    · refine P106.xs (fun hA hx hy t k => XS.ifYes hA hx rfl (pc0 := 50) (pc' := 62) rfl (hb hy at_50) rfl ((if0 _ _).trans (teq hk).1) (by decide) (by decide) k) ?_
      show Go p e below _ (T106.setTop (mkF m 62 #[.val (.int p0), .val (.int p1), .val (.int p2), .val (.int p3), .val (.int la), .val (.int pb), .val (.int lb), .val (.int shf), .unset, .unset, .unset, .unset, .unset, .unset] []))
      exact j3 _ _ _  (P106.wider (by decide) (by decide)) 
    · refine P106.xs (fun hA hx hy t k => XS.ifNo hA hx rfl (hb hy at_50) rfl ((if0 _ _).trans (feq hk).1) k) ?_
      show Go p e below _ (T106.setTop (mkF m 53 #[.val (.int p0), .val (.int p1), .val (.int p2), .val (.int p3), .val (.int la), .val (.int pb), .val (.int lb), .val (.int shf), .unset, .unset, .unset, .unset, .unset, .unset] []))
      refine P106.xs (fun hA hx hy t k => XS.iload hA hx rfl (hb hy at_53) rfl  k) ?_
      show Go p e below _ (T106.setTop (mkF m 55 #[.val (.int p0), .val (.int p1), .val (.int p2), .val (.int p3), .val (.int la), .val (.int pb), .val (.int lb), .val (.int shf), .unset, .unset, .unset, .unset, .unset, .unset] [(.int pb)]))
      refine P106.xs (fun hA hx hy t k => XS.iconst hA hx rfl (hb hy at_55) k) ?_
      show Go p e below _ (T106.setTop (mkF m 56 #[.val (.int p0), .val (.int p1), .val (.int p2), .val (.int p3), .val (.int la), .val (.int pb), .val (.int lb), .val (.int shf), .unset, .unset, .unset, .unset, .unset, .unset] [(.int (1 : Int32)), (.int pb)]))
      refine P106.xs (fun hA hx hy t k => XS.iload hA hx rfl (hb hy at_56) rfl  k) ?_
      show Go p e below _ (T106.setTop (mkF m 58 #[.val (.int p0), .val (.int p1), .val (.int p2), .val (.int p3), .val (.int la), .val (.int pb), .val (.int lb), .val (.int shf), .unset, .unset, .unset, .unset, .unset, .unset] [(.int shf), (.int (1 : Int32)), (.int pb)]))
      refine P106.xs (fun hA hx hy t k => XS.ishl hA hx rfl (hb hy at_58) rfl k) ?_
      show Go p e below _ (T106.setTop (mkF m 59 #[.val (.int p0), .val (.int p1), .val (.int p2), .val (.int p3), .val (.int la), .val (.int pb), .val (.int lb), .val (.int shf), .unset, .unset, .unset, .unset, .unset, .unset] [(.int ((1 : Int32) <<< (shf &&& 31))), (.int pb)]))
      refine P106.xs (fun hA hx hy t k => XS.ixor hA hx rfl (hb hy at_59) rfl k) ?_
      show Go p e below _ (T106.setTop (mkF m 60 #[.val (.int p0), .val (.int p1), .val (.int p2), .val (.int p3), .val (.int la), .val (.int pb), .val (.int lb), .val (.int shf), .unset, .unset, .unset, .unset, .unset, .unset] [(.int (pb ^^^ ((1 : Int32) <<< (shf &&& 31))))]))
      refine P106.xs (fun hA hx hy t k => XS.istore hA hx rfl (hb hy at_60) rfl (l' := #[.val (.int p0), .val (.int p1), .val (.int p2), .val (.int p3), .val (.int la), .val (.int (pb ^^^ ((1 : Int32) <<< (shf &&& 31)))), .val (.int lb), .val (.int shf), .unset, .unset, .unset, .unset, .unset, .unset]) rfl k) ?_
      show Go p e below _ (T106.setTop (mkF m 62 #[.val (.int p0), .val (.int p1), .val (.int p2), .val (.int p3), .val (.int la), .val (.int (pb ^^^ ((1 : Int32) <<< (shf &&& 31)))), .val (.int lb), .val (.int shf), .unset, .unset, .unset, .unset, .unset, .unset] []))
      exact j3 _ _ _  (P106.wider (by decide) (by decide)) 
  intro T107 h107 pc5  P107 
  show Go p e below _ (T107.setTop (mkF m 62 #[.val (.int p0), .val (.int p1), .val (.int p2), .val (.int p3), .val (.int la), .val (.int pc5), .val (.int lb), .val (.int shf), .unset, .unset, .unset, .unset, .unset, .unset] []))
  refine P107.xs (fun hA hx hy t k => XS.iloadN hA hx rfl (hb hy at_62) rfl  k) ?_
  show Go p e below _ (T107.setTop (mkF m 63 #[.val (.int p0), .val (.int p1), .val (.int p2), .val (.int p3), .val (.int la), .val (.int pc5), .val (.int lb), .val (.int shf), .unset, .unset, .unset, .unset, .unset, .unset] [(.int p0)]))
  refine P107.xs (fun hA hx hy t k => XS.iload hA hx rfl (hb hy at_63) rfl  k) ?_
  show Go p e below _ (T107.setTop (mkF m 65 #[.val (.int p0), .val (.int p1), .val (.int p2), .val (.int p3), .val (.int la), .val (.int pc5), .val (.int lb), .val (.int shf), .unset, .unset, .unset, .unset, .unset, .unset] [(.int la), (.int p0)]))
  refine P107.callS (hw _ (List.mem_of_getElem? (i := 1) rfl)) (hw _ (List.mem_of_getElem? (i := 2) rfl)) (hw _ (List.mem_of_getElem? (i := 3) rfl)) (hw _ (List.mem_of_getElem? (i := 4) rfl)) (by decide) (mStr l Z a0 hw hEL zc S0 Pz p0 la h107 P107.old) (W := 0) (by decide) (by decide) (by decide) (by decide) all0 pd_4 (argsL := [(.int p0), (.int la)]) rfl rfl rfl (Nat.le_of_eq rfl) at_65 fun v108 T108 h108 P108 K108 Q108 => ?_
  obtain ⟨o108, rfl, g108, E108⟩ := Q108
  have gz_o108 : Z.heap.size ≤ o108 := Nat.le_trans P107.old.1 g108
  have gw_o108 : h0.size ≤ o108 := Nat.le_trans P107.kept.1 g108
  show Go p e below _ (T108.setTop (mkF m 68 #[.val (.int p0), .val (.int p1), .val (.int p2), .val (.int p3), .val (.int la), .val (.int pc5), .val (.int lb), .val (.int shf), .unset, .unset, .unset, .unset, .unset, .unset] [(.ref o108)]))
  refine P108.xs (fun hA hx hy t k => XS.astore hA hx rfl (hb hy at_68) rfl rfl (l' := #[.val (.int p0), .val (.int p1), .val (.int p2), .val (.int p3), .val (.int la), .val (.int pc5), .val (.int lb), .val (.int shf), .val (.ref o108), .unset, .unset, .unset, .unset, .unset]) rfl k) ?_
  show Go p e below _ (T108.setTop (mkF m 70 #[.val (.int p0), .val (.int p1), .val (.int p2), .val (.int p3), .val (.int la), .val (.int pc5), .val (.int lb), .val (.int shf), .val (.ref o108), .unset, .unset, .unset, .unset, .unset] []))
  refine P108.xs (fun hA hx hy t k => XS.iload hA hx rfl (hb hy at_70) rfl  k) ?_
  show Go p e below _ (T108.setTop (mkF m 72 #[.val (.int p0), .val (.int p1), .val (.int p2), .val (.int p3), .val (.int la), .val (.int pc5), .val (.int lb), .val (.int shf), .val (.ref o108), .unset, .unset, .unset, .unset, .unset] [(.int pc5)]))
  refine P108.xs (fun hA hx hy t k => XS.iload hA hx rfl (hb hy at_72) rfl  k) ?_
  show Go p e below _ (T108.setTop (mkF m 74 #[.val (.int p0), .val (.int p1), .val (.int p2), .val (.int p3), .val (.int la), .val (.int pc5), .val (.int lb), .val (.int shf), .val (.ref o108), .unset, .unset, .unset, .unset, .unset] [(.int lb), (.int pc5)]))
  have Ec110 : Exa Z h108 o108 "java/lang/String" := E108.1
  refine P108.callS (hw _ (List.mem_of_getElem? (i := 1) rfl)) (hw _ (List.mem_of_getElem? (i := 2) rfl)) (hw _ (List.mem_of_getElem? (i := 3) rfl)) (hw _ (List.mem_of_getElem? (i := 4) rfl)) (by decide) (mStr l Z a0 hw hEL zc S0 Pz pc5 lb h108 P108.old) (W := 0) (by decide) (by decide) (by decide) (by decide) all0 pd_4 (argsL := [(.int pc5), (.int lb)]) rfl rfl rfl (Nat.le_of_eq rfl) at_74 fun v109 T109 h109 P109 K109 Q109 => ?_
  obtain ⟨o109, rfl, g109, E109⟩ := Q109
  have ne_o108_o109 : o108 ≠ o109 := Nat.ne_of_lt (Nat.lt_of_lt_of_le Ec110.lt g109)
  have gz_o109 : Z.heap.size ≤ o109 := Nat.le_trans P108.old.1 g109
  have gw_o109 : h0.size ≤ o109 := Nat.le_trans P108.kept.1 g109
  show Go p e below _ (T109.setTop (mkF m 77 #[.val (.int p0), .val (.int p1), .val (.int p2), .val (.int p3), .val (.int la), .val (.int pc5), .val (.int lb), .val (.int shf), .val (.ref o108), .unset, .unset, .unset, .unset, .unset] [(.ref o109)]))
  refine P109.xs (fun hA hx hy t k => XS.astore hA hx rfl (hb hy at_77) rfl rfl (l' := #[.val (.int p0), .val (.int p1), .val (.int p2), .val (.int p3), .val (.int la), .val (.int pc5), .val (.int lb), .val (.int shf), .val (.ref o108), .val (.ref o109), .unset, .unset, .unset, .unset]) rfl k) ?_
  show Go p e below _ (T109.setTop (mkF m 79 #[.val (.int p0), .val (.int p1), .val (.int p2), .val (.int p3), .val (.int la), .val (.int pc5), .val (.int lb), .val (.int shf), .val (.ref o108), .val (.ref o109), .unset, .unset, .unset, .unset] []))
  refine P109.newO (hw _ (List.mem_of_getElem? (i := 38) rfl)) (hw _ (List.mem_of_getElem? (i := 39) rfl)) (hw _ (List.mem_of_getElem? (i := 40) rfl)) at_79 (by decide) (by decide) fun T111 h111 o111 g111 P111 E111 A111 D111 => ?_
  have ne_o108_o111 : o108 ≠ o111 := Nat.ne_of_lt (Nat.lt_of_lt_of_le (Ec110.keep K109).lt (Nat.le_of_eq g111.symm))
  have ne_o109_o111 : o109 ≠ o111 := Nat.ne_of_lt (Nat.lt_of_lt_of_le E109.1.lt (Nat.le_of_eq g111.symm))
  have gz_o111 : Z.heap.size ≤ o111 := Nat.le_trans P109.old.1 (Nat.le_of_eq g111.symm)
  have gw_o111 : h0.size ≤ o111 := Nat.le_trans P109.kept.1 (Nat.le_of_eq g111.symm)
  have F111_text : Fld Z h111 o111 "com/example/qrew/qrew/logic/Constant" "text" "Ljava/lang/String;" .null := D111 (Or.inr (hw _ (List.mem_of_getElem? (i := 52) rfl))) (ty := (.object "java/lang/String")) (by decide)
  show Go p e below _ (T111.setTop (mkF m 82 #[.val (.int p0), .val (.int p1), .val (.int p2), .val (.int p3), .val (.int la), .val (.int pc5), .val (.int lb), .val (.int shf), .val (.ref o108), .val (.ref o109), .unset, .unset, .unset, .unset] [(.ref o111)]))
  refine P111.xs (fun hA hx hy t k => XS.dup hA hx rfl (hb hy at_82) rfl rfl k) ?_
  show Go p e below _ (T111.setTop (mkF m 83 #[.val (.int p0), .val (.int p1), .val (.int p2), .val (.int p3), .val (.int la), .val (.int pc5), .val (.int lb), .val (.int shf), .val (.ref o108), .val (.ref o109), .unset, .unset, .unset, .unset] [(.ref o111), (.ref o111)]))
  refine P111.xs (fun hA hx hy t k => XS.aload hA hx rfl (hb hy at_83) rfl rfl  k) ?_
  show Go p e below _ (T111.setTop (mkF m 85 #[.val (.int p0), .val (.int p1), .val (.int p2), .val (.int p3), .val (.int la), .val (.int pc5), .val (.int lb), .val (.int shf), .val (.ref o108), .val (.ref o109), .unset, .unset, .unset, .unset] [(.ref o108), (.ref o111), (.ref o111)]))
  have Ec113 : Exa Z h111 o108 "java/lang/String" := ((Ec110.keep K109).ext E111)
  have Ec114 : Exa Z h111 o109 "java/lang/String" := (E109.1.ext E111)
  have Sc115 : Str Z h111 o108 (cs3 la ((p0 &&& (255 : Int32)).toUInt32.toUInt16.toUInt32.toInt32) ((((p0.toUInt32 >>> ((8 : Int32) &&& 31).toUInt32).toInt32) &&& (255 : Int32)).toUInt32.toUInt16.toUInt32.toInt32) ((((p0.toUInt32 >>> ((16 : Int32) &&& 31).toUInt32).toInt32) &&& (255 : Int32)).toUInt32.toUInt16.toUInt32.toInt32)) := ((E108.keep K109 all0).ext E111)
  have Sc116 : Str Z h111 o109 (cs3 lb ((pc5 &&& (255 : Int32)).toUInt32.toUInt16.toUInt32.toInt32) ((((pc5.toUInt32 >>> ((8 : Int32) &&& 31).toUInt32).toInt32) &&& (255 : Int32)).toUInt32.toUInt16.toUInt32.toInt32) ((((pc5.toUInt32 >>> ((16 : Int32) &&& 31).toUInt32).toInt32) &&& (255 : Int32)).toUInt32.toUInt16.toUInt32.toInt32)) := (E109.ext E111)
  refine P111.callI rfl (hw _ (List.mem_of_getElem? (i := 41) rfl)) (hw _ (List.mem_of_getElem? (i := 42) rfl)) (hw _ (List.mem_of_getElem? (i := 40) rfl)) (hw _ (List.mem_of_getElem? (i := 43) rfl)) (by decide) (mCon l Z a0 hw hEL zc S0 Pz o111 o108 h111 P111.old A111 F111_text gz_o111 Ec113) (W := 1) (by decide) (by decide) (by decide) (by decide) (allS (Or.inr gw_o111) all0) pd_5 (argsL := [(.ref o108)]) rfl rfl rfl (Nat.le_of_eq rfl) at_85 fun v112 T112 h112 P112 K112 Q112 => ?_
  obtain ⟨rfl, E112, F112⟩ := Q112
  show Go p e below _ (T112.setTop (mkF m 88 #[.val (.int p0), .val (.int p1), .val (.int p2), .val (.int p3), .val (.int la), .val (.int pc5), .val (.int lb), .val (.int shf), .val (.ref o108), .val (.ref o109), .unset, .unset, .unset, .unset] [(.ref o111)]))
  refine P112.xs (fun hA hx hy t k => XS.astore hA hx rfl (hb hy at_88) rfl rfl (l' := #[.val (.int p0), .val (.int p1), .val (.int p2), .val (.int p3), .val (.int la), .val (.int pc5), .val (.int lb), .val (.int shf), .val (.ref o108), .val (.ref o109), .val (.ref o111), .unset, .unset, .unset]) rfl k) ?_
  show Go p e below _ (T112.setTop (mkF m 90 #[.val (.int p0), .val (.int p1), .val (.int p2), .val (.int p3), .val (.int la), .val (.int pc5), .val (.int lb), .val (.int shf), .val (.ref o108), .val (.ref o109), .val (.ref o111), .unset, .unset, .unset] []))
  refine P112.xs (fun hA hx hy t k => XS.iloadN hA hx rfl (hb hy at_90) rfl  k) ?_
  show Go p e below _ (T112.setTop (mkF m 91 #[.val (.int p0), .val (.int p1), .val (.int p2), .val (.int p3), .val (.int la), .val (.int pc5), .val (.int lb), .val (.int shf), .val (.ref o108), .val (.ref o109), .val (.ref o111), .unset, .unset, .unset] [(.int p3)]))
  refine P112.xs (fun hA hx hy t k => XS.iconst hA hx rfl (hb hy at_91) k) ?_
  show Go p e below _ (T112.setTop (mkF m 92 #[.val (.int p0), .val (.int p1), .val (.int p2), .val (.int p3), .val (.int la), .val (.int pc5), .val (.int lb), .val (.int shf), .val (.ref o108), .val (.ref o109), .val (.ref o111), .unset, .unset, .unset] [(.int (3 : Int32)), (.int p3)]))
  refine P112.xs (fun hA hx hy t k => XS.iushr hA hx rfl (hb hy at_92) rfl k) ?_
  show Go p e below _ (T112.setTop (mkF m 93 #[.val (.int p0), .val (.int p1), .val (.int p2), .val (.int p3), .val (.int la), .val (.int pc5), .val (.int lb), .val (.int shf), .val (.ref o108), .val (.ref o109), .val (.ref o111), .unset, .unset, .unset] [(.int ((p3.toUInt32 >>> ((3 : Int32) &&& 31).toUInt32).toInt32))]))
  refine P112.xs (fun hA hx hy t k => XS.bipush hA hx rfl (hb hy at_93) k) ?_
  show Go p e below _ (T112.setTop (mkF m 95 #[.val (.int p0), .val (.int p1), .val (.int p2), .val (.int p3), .val (.int la), .val (.int pc5), .val (.int lb), .val (.int shf), .val (.ref o108), .val (.ref o109), .val (.ref o111), .unset, .unset, .unset] [(.int (7 : Int32)), (.int ((p3.toUInt32 >>> ((3 : Int32) &&& 31).toUInt32).toInt32))]))
  refine P112.xs (fun hA hx hy t k => XS.iand hA hx rfl (hb hy at_95) rfl k) ?_
  show Go p e below _ (T112.setTop (mkF m 96 #[.val (.int p0), .val (.int p1), .val (.int p2), .val (.int p3), .val (.int la), .val (.int pc5), .val (.int lb), .val (.int shf), .val (.ref o108), .val (.ref o109), .val (.ref o111), .unset, .unset, .unset] [(.int (((p3.toUInt32 >>> ((3 : Int32) &&& 31).toUInt32).toInt32) &&& (7 : Int32)))]))
  generalize hsel : (((p3.toUInt32 >>> ((3 : Int32) &&& 31).toUInt32).toInt32) &&& (7 : Int32)) = sel
  refine P112.xs (fun hA hx hy t k => XS.istore hA hx rfl (hb hy at_96) rfl (l' := #[.val (.int p0), .val (.int p1), .val (.int p2), .val (.int p3), .val (.int la), .val (.int pc5), .val (.int lb), .val (.int shf), .val (.ref o108), .val (.ref o109), .val (.ref o111), .val (.int sel), .unset, .unset]) rfl k) ?_
  show Go p e below _ (T112.setTop (mkF m 98 #[.val (.int p0), .val (.int p1), .val (.int p2), .val (.int p3), .val (.int la), .val (.int pc5), .val (.int lb), .val (.int shf), .val (.ref o108), .val (.ref o109), .val (.ref o111), .val (.int sel), .unset, .unset] []))
  refine P112.xs (fun hA hx hy t k => XS.iload hA hx rfl (hb hy at_98) rfl  k) ?_
  show Go p e below _ (T112.setTop (mkF m 100 #[.val (.int p0), .val (.int p1), .val (.int p2), .val (.int p3), .val (.int la), .val (.int pc5), .val (.int lb), .val (.int shf), .val (.ref o108), .val (.ref o109), .val (.ref o111), .val (.int sel), .unset, .unset] [(.int sel)]))
  refine P112.xs (fun hA hx hy t k => XS.iconst hA hx rfl (hb hy at_100) k) ?_
  show Go p e below _ (T112.setTop (mkF m 101 #[.val (.int p0), .val (.int p1), .val (.int p2), .val (.int p3), .val (.int la), .val (.int pc5), .val (.int lb), .val (.int shf), .val (.ref o108), .val (.ref o109), .val (.ref o111), .val (.int sel), .unset, .unset] [(.int (4 : Int32)), (.int sel)]))
  by_cases h4 : sel = 4
  · refine P112.xs (fun hA hx hy t k => XS.icmpNo hA hx rfl (hb hy at_101) rfl (teq h4).2 k) ?_
    show Go p e below _ (T112.setTop (mkF m 104 #[.val (.int p0), .val (.int p1), .val (.int p2), .val (.int p3), .val (.int la), .val (.int pc5), .val (.int lb), .val (.int shf), .val (.ref o108), .val (.ref o109), .val (.ref o111), .val (.int sel), .unset, .unset] []))
    refine P112.xs (fun hA hx hy t k => XS.aload hA hx rfl (hb hy at_104) rfl rfl  k) ?_
    show Go p e below _ (T112.setTop (mkF m 106 #[.val (.int p0), .val (.int p1), .val (.int p2), .val (.int p3), .val (.int la), .val (.int pc5), .val (.int lb), .val (.int shf), .val (.ref o108), .val (.ref o109), .val (.ref o111), .val (.int sel), .unset, .unset] [(.ref o111)]))
    refine P112.newO (hw _ (List.mem_of_getElem? (i := 73) rfl)) (hw _ (List.mem_of_getElem? (i := 74) rfl)) (hw _ (List.mem_of_getElem? (i := 75) rfl)) at_106 (by decide) (by decide) fun T117 h117 o117 g117 P117 E117 A117 D117 => ?_
    have ne_o108_o117 : o108 ≠ o117 := Nat.ne_of_lt (Nat.lt_of_lt_of_le (Ec113.keep K112).lt (Nat.le_of_eq g117.symm))
    have ne_o109_o117 : o109 ≠ o117 := Nat.ne_of_lt (Nat.lt_of_lt_of_le (Ec114.keep K112).lt (Nat.le_of_eq g117.symm))
    have ne_o111_o117 : o111 ≠ o117 := Nat.ne_of_lt (Nat.lt_of_lt_of_le E112.lt (Nat.le_of_eq g117.symm))
    have gz_o117 : Z.heap.size ≤ o117 := Nat.le_trans P112.old.1 (Nat.le_of_eq g117.symm)
    have gw_o117 : h0.size ≤ o117 := Nat.le_trans P112.kept.1 (Nat.le_of_eq g117.symm)
    have F117_name : Fld Z h117 o117 "com/example/qrew/qrew/logic/Variable" "name" "Ljava/lang/String;" .null := D117 (Or.inr (hw _ (List.mem_of_getElem? (i := 84) rfl))) (ty := (.object "java/lang/String")) (by decide)
    show Go p e below _ (T117.setTop (mkF m 109 #[.val (.int p0), .val (.int p1), .val (.int p2), .val (.int p3), .val (.int la), .val (.int pc5), .val (.int lb), .val (.int shf), .val (.ref o108), .val (.ref o109), .val (.ref o111), .val (.int sel), .unset, .unset] [(.ref o117), (.ref o111)]))
    refine P117.xs (fun hA hx hy t k => XS.dup hA hx rfl (hb hy at_109) rfl rfl k) ?_
    show Go p e below _ (T117.setTop (mkF m 110 #[.val (.int p0), .val (.int p1), .val (.int p2), .val (.int p3), .val (.int la), .val (.int pc5), .val (.int lb), .val (.int shf), .val (.ref o108), .val (.ref o109), .val (.ref o111), .val (.int sel), .unset, .unset] [(.ref o117), (.ref o117), (.ref o111)]))
    refine P117.xs (fun hA hx hy t k => XS.aload hA hx rfl (hb hy at_110) rfl rfl  k) ?_
    show Go p e below _ (T117.setTop (mkF m 112 #[.val (.int p0), .val (.int p1), .val (.int p2), .val (.int p3), .val (.int la), .val (.int pc5), .val (.int lb), .val (.int shf), .val (.ref o108), .val (.ref o109), .val (.ref o111), .val (.int sel), .unset, .unset] [(.ref o109), (.ref o117), (.ref o117), (.ref o111)]))
    have Ec119 : Exa Z h117 o108 "java/lang/String" := ((Ec113.keep K112).ext E117)
    have Ec120 : Exa Z h117 o109 "java/lang/String" := ((Ec114.keep K112).ext E117)
    have Ec121 : Exa Z h117 o111 "com/example/qrew/qrew/logic/Constant" := (E112.ext E117)
    have Fc122 : Fld Z h117 o111 "com/example/qrew/qrew/logic/Constant" "text" "Ljava/lang/String;" (.ref o108) := (F112.ext E117)
    have Sc123 : Str Z h117 o108 (cs3 la ((p0 &&& (255 : Int32)).toUInt32.toUInt16.toUInt32.toInt32) ((((p0.toUInt32 >>> ((8 : Int32) &&& 31).toUInt32).toInt32) &&& (255 : Int32)).toUInt32.toUInt16.toUInt32.toInt32) ((((p0.toUInt32 >>> ((16 : Int32) &&& 31).toUInt32).toInt32) &&& (255 : Int32)).toUInt32.toUInt16.toUInt32.toInt32)) := ((Sc115.keep K112 (allS ⟨ne_o108_o111, (nbE A111 (hw _ (List.mem_of_getElem? (i := 39) rfl)))⟩ all0)).ext E117)
    have Sc124 : Str Z h117 o109 (cs3 lb ((pc5 &&& (255 : Int32)).toUInt32.toUInt16.toUInt32.toInt32) ((((pc5.toUInt32 >>> ((8 : Int32) &&& 31).toUInt32).toInt32) &&& (255 : Int32)).toUInt32.toUInt16.toUInt32.toInt32) ((((pc5.toUInt32 >>> ((16 : Int32) &&& 31).toUInt32).toInt32) &&& (255 : Int32)).toUInt32.toUInt16.toUInt32.toInt32)) := ((Sc116.keep K112 (allS ⟨ne_o109_o111, (nbE A111 (hw _ (List.mem_of_getElem? (i := 39) rfl)))⟩ all0)).ext E117)
    refine P117.callI rfl (hw _ (List.mem_of_getElem? (i := 76) rfl)) (hw _ (List.mem_of_getElem? (i := 77) rfl)) (hw _ (List.mem_of_getElem? (i := 75) rfl)) (hw _ (List.mem_of_getElem? (i := 78) rfl)) (by decide) (mVar l Z a0 hw hEL zc S0 Pz o117 o109 h117 P117.old A117 F117_name gz_o117 Ec120) (W := 2) (by decide) (by decide) (by decide) (by decide) (allS (Or.inr gw_o117) all0) pd_5 (argsL := [(.ref o109)]) rfl rfl rfl (Nat.le_of_eq rfl) at_112 fun v118 T118 h118 P118 K118 Q118 => ?_
    obtain ⟨rfl, E118, F118⟩ := Q118
    show Go p e below _ (T118.setTop (mkF m 115 #[.val (.int p0), .val (.int p1), .val (.int p2), .val (.int p3), .val (.int la), .val (.int pc5), .val (.int lb), .val (.int shf), .val (.ref o108), .val (.ref o109), .val (.ref o111), .val (.int sel), .unset, .unset] [(.ref o117), (.ref o111)]))
    have Ec126 : Exa Z h118 o108 "java/lang/String" := (Ec119.keep K118)
    have Ec127 : Exa Z h118 o109 "java/lang/String" := (Ec120.keep K118)
    have Ec128 : Exa Z h118 o111 "com/example/qrew/qrew/logic/Constant" := (Ec121.keep K118)
    have Fc129 : Fld Z h118 o111 "com/example/qrew/qrew/logic/Constant" "text" "Ljava/lang/String;" (.ref o108) := (Fc122.keep K118 (ninS ne_o111_o117 nin0))
    have Sc130 : Str Z h118 o108 (cs3 la ((p0 &&& (255 : Int32)).toUInt32.toUInt16.toUInt32.toInt32) ((((p0.toUInt32 >>> ((8 : Int32) &&& 31).toUInt32).toInt32) &&& (255 : Int32)).toUInt32.toUInt16.toUInt32.toInt32) ((((p0.toUInt32 >>> ((16 : Int32) &&& 31).toUInt32).toInt32) &&& (255 : Int32)).toUInt32.toUInt16.toUInt32.toInt32)) := (Sc123.keep K118 (allS ⟨ne_o108_o117, (nbE A117 (hw _ (List.mem_of_getElem? (i := 74) rfl)))⟩ all0))
    have Sc131 : Str Z h118 o109 (cs3 lb ((pc5 &&& (255 : Int32)).toUInt32.toUInt16.toUInt32.toInt32) ((((pc5.toUInt32 >>> ((8 : Int32) &&& 31).toUInt32).toInt32) &&& (255 : Int32)).toUInt32.toUInt16.toUInt32.toInt32) ((((pc5.toUInt32 >>> ((16 : Int32) &&& 31).toUInt32).toInt32) &&& (255 : Int32)).toUInt32.toUInt16.toUInt32.toInt32)) := (Sc124.keep K118 (allS ⟨ne_o109_o117, (nbE A117 (hw _ (List.mem_of_getElem? (i := 74) rfl)))⟩ all0))
    refine P118.callV (hw _ (List.mem_of_getElem? (i := 56) rfl)) (hw _ (List.mem_of_getElem? (i := 57) rfl)) (hw _ (List.mem_of_getElem? (i := 59) rfl)) (nfOf (hw _ (List.mem_of_getElem? (i := 59) rfl))) (hw _ (List.mem_of_getElem? (i := 58) rfl)) (hw _ (List.mem_of_getElem? (i := 40) rfl)) (hw _ (List.mem_of_getElem? (i := 60) rfl)) (by decide) Ec128 (eqV l Z a0 hw hEL zc S0 Pz o111 o117 h118 P118.old E118) (W := 0) (by decide) (by decide) (by decide) (by decide) all0 pd_3 (argsL := [(.ref o117)]) rfl rfl rfl (Nat.le_of_eq rfl) at_115 fun v125 T125 h125 P125 K125 Q125 => ?_
    obtain ⟨hv125, hh125⟩ := Q125
    subst hv125
    rw [hh125] at P125
    show Go p e below _ (T125.setTop (mkF m 118 #[.val (.int p0), .val (.int p1), .val (.int p2), .val (.int p3), .val (.int la), .val (.int pc5), .val (.int lb), .val (.int shf), .val (.ref o108), .val (.ref o109), .val (.ref o111), .val (.int sel), .unset, .unset] [(.int (0 : Int32))]))
    refine P125.xs (fun hA hx hy t k => XS.ifNo hA hx rfl (hb hy at_118) rfl ((if0 _ _).trans (teq rfl).2) k) ?_
    show Go p e below _ (T125.setTop (mkF m 121 #[.val (.int p0), .val (.int p1), .val (.int p2), .val (.int p3), .val (.int la), .val (.int pc5), .val (.int lb), .val (.int shf), .val (.ref o108), .val (.ref o109), .val (.ref o111), .val (.int sel), .unset, .unset] []))
    refine P125.xs (fun hA hx hy t k => XS.iconst hA hx rfl (hb hy at_121) k) ?_
    show Go p e below _ (T125.setTop (mkF m 122 #[.val (.int p0), .val (.int p1), .val (.int p2), .val (.int p3), .val (.int la), .val (.int pc5), .val (.int lb), .val (.int shf), .val (.ref o108), .val (.ref o109), .val (.ref o111), .val (.int sel), .unset, .unset] [(.int (1 : Int32))]))
    refine P125.xs (fun hA hx hy t k => XS.goto hA hx rfl (pc0 := 122) (pc' := 126) rfl (hb hy at_122) (by decide) (by decide) k) ?_
    show Go p e below _ (T125.setTop (mkF m 126 #[.val (.int p0), .val (.int p1), .val (.int p2), .val (.int p3), .val (.int la), .val (.int pc5), .val (.int lb), .val (.int shf), .val (.ref o108), .val (.ref o109), .val (.ref o111), .val (.int sel), .unset, .unset] [(.int (1 : Int32))]))
    exact P125.retN (t := .boolean) rfl (by simp) at_126 (by decide) (by decide) rfl
  · refine P112.xs (fun hA hx hy t k => XS.icmpYes hA hx rfl (pc0 := 101) (pc' := 127) rfl (hb hy at_101) rfl (feq h4).2 (by decide) (by decide) k) ?_
    show Go p e below _ (T112.setTop (mkF m 127 #[.val (.int p0), .val (.int p1), .val (.int p2), .val (.int p3), .val (.int la), .val (.int pc5), .val (.int lb), .val (.int shf), .val (.ref o108), .val (.ref o109), .val (.ref o111), .val (.int sel), .unset, .unset] []))
    refine P112.xs (fun hA hx hy t k => XS.iload hA hx rfl (hb hy at_127) rfl  k) ?_
    show Go p e below _ (T112.setTop (mkF m 129 #[.val (.int p0), .val (.int p1), .val (.int p2), .val (.int p3), .val (.int la), .val (.int pc5), .val (.int lb), .val (.int shf), .val (.ref o108), .val (.ref o109), .val (.ref o111), .val (.int sel), .unset, .unset] [(.int sel)]))
    refine P112.xs (fun hA hx hy t k => XS.iconst hA hx rfl (hb hy at_129) k) ?_
    show Go p e below _ (T112.setTop (mkF m 130 #[.val (.int p0), .val (.int p1), .val (.int p2), .val (.int p3), .val (.int la), .val (.int pc5), .val (.int lb), .val (.int shf), .val (.ref o108), .val (.ref o109), .val (.ref o111), .val (.int sel), .unset, .unset] [(.int (5 : Int32)), (.int sel)]))
    by_cases h5 : sel = 5
    · refine P112.xs (fun hA hx hy t k => XS.icmpNo hA hx rfl (hb hy at_130) rfl (teq h5).2 k) ?_
      show Go p e below _ (T112.setTop (mkF m 133 #[.val (.int p0), .val (.int p1), .val (.int p2), .val (.int p3), .val (.int la), .val (.int pc5), .val (.int lb), .val (.int shf), .val (.ref o108), .val (.ref o109), .val (.ref o111), .val (.int sel), .unset, .unset] []))
      refine P112.xs (fun hA hx hy t k => XS.aload hA hx rfl (hb hy at_133) rfl rfl  k) ?_
      show Go p e below _ (T112.setTop (mkF m 135 #[.val (.int p0), .val (.int p1), .val (.int p2), .val (.int p3), .val (.int la), .val (.int pc5), .val (.int lb), .val (.int shf), .val (.ref o108), .val (.ref o109), .val (.ref o111), .val (.int sel), .unset, .unset] [(.ref o111)]))
      refine P112.xs (fun hA hx hy t k => XS.aconstNull hA hx rfl (hb hy at_135) k) ?_
      show Go p e below _ (T112.setTop (mkF m 136 #[.val (.int p0), .val (.int p1), .val (.int p2), .val (.int p3), .val (.int la), .val (.int pc5), .val (.int lb), .val (.int shf), .val (.ref o108), .val (.ref o109), .val (.ref o111), .val (.int sel), .unset, .unset] [.null, (.ref o111)]))
      have Ec133 : Exa Z h112 o108 "java/lang/String" := (Ec113.keep K112)
      have Ec134 : Exa Z h112 o109 "java/lang/String" := (Ec114.keep K112)
      have Sc135 : Str Z h112 o108 (cs3 la ((p0 &&& (255 : Int32)).toUInt32.toUInt16.toUInt32.toInt32) ((((p0.toUInt32 >>> ((8 : Int32) &&& 31).toUInt32).toInt32) &&& (255 : Int32)).toUInt32.toUInt16.toUInt32.toInt32) ((((p0.toUInt32 >>> ((16 : Int32) &&& 31).toUInt32).toInt32) &&& (255 : Int32)).toUInt32.toUInt16.toUInt32.toInt32)) := (Sc115.keep K112 (allS ⟨ne_o108_o111, (nbE A111 (hw _ (List.mem_of_getElem? (i := 39) rfl)))⟩ all0))
      have Sc136 : Str Z h112 o109 (cs3 lb ((pc5 &&& (255 : Int32)).toUInt32.toUInt16.toUInt32.toInt32) ((((pc5.toUInt32 >>> ((8 : Int32) &&& 31).toUInt32).toInt32) &&& (255 : Int32)).toUInt32.toUInt16.toUInt32.toInt32) ((((pc5.toUInt32 >>> ((16 : Int32) &&& 31).toUInt32).toInt32) &&& (255 : Int32)).toUInt32.toUInt16.toUInt32.toInt32)) := (Sc116.keep K112 (allS ⟨ne_o109_o111, (nbE A111 (hw _ (List.mem_of_getElem? (i := 39) rfl)))⟩ all0))
      refine P112.callV (hw _ (List.mem_of_getElem? (i := 56) rfl)) (hw _ (List.mem_of_getElem? (i := 57) rfl)) (hw _ (List.mem_of_getElem? (i := 59) rfl)) (nfOf (hw _ (List.mem_of_getElem? (i := 59) rfl))) (hw _ (List.mem_of_getElem? (i := 58) rfl)) (hw _ (List.mem_of_getElem? (i := 40) rfl)) (hw _ (List.mem_of_getElem? (i := 60) rfl)) (by decide) E112 (eqN l Z a0 hw hEL zc S0 Pz o111 h112 P112.old) (W := 0) (by decide) (by decide) (by decide) (by decide) all0 pd_3 (argsL := [.null]) rfl rfl rfl (Nat.le_of_eq rfl) at_136 fun v132 T132 h132 P132 K132 Q132 => ?_
      obtain ⟨hv132, hh132⟩ := Q132
      subst hv132
      rw [hh132] at P132
      show Go p e below _ (T132.setTop (mkF m 139 #[.val (.int p0), .val (.int p1), .val (.int p2), .val (.int p3), .val (.int la), .val (.int pc5), .val (.int lb), .val (.int shf), .val (.ref o108), .val (.ref o109), .val (.ref o111), .val (.int sel), .unset, .unset] [(.int (0 : Int32))]))
      refine P132.xs (fun hA hx hy t k => XS.ifNo hA hx rfl (hb hy at_139) rfl ((if0 _ _).trans (teq rfl).2) k) ?_
      show Go p e below _ (T132.setTop (mkF m 142 #[.val (.int p0), .val (.int p1), .val (.int p2), .val (.int p3), .val (.int la), .val (.int pc5), .val (.int lb), .val (.int shf), .val (.ref o108), .val (.ref o109), .val (.ref o111), .val (.int sel), .unset, .unset] []))
      refine P132.xs (fun hA hx hy t k => XS.iconst hA hx rfl (hb hy at_142) k) ?_
      show Go p e below _ (T132.setTop (mkF m 143 #[.val (.int p0), .val (.int p1), .val (.int p2), .val (.int p3), .val (.int la), .val (.int pc5), .val (.int lb), .val (.int shf), .val (.ref o108), .val (.ref o109), .val (.ref o111), .val (.int sel), .unset, .unset] [(.int (1 : Int32))]))
      refine P132.xs (fun hA hx hy t k => XS.goto hA hx rfl (pc0 := 143) (pc' := 147) rfl (hb hy at_143) (by decide) (by decide) k) ?_
      show Go p e below _ (T132.setTop (mkF m 147 #[.val (.int p0), .val (.int p1), .val (.int p2), .val (.int p3), .val (.int la), .val (.int pc5), .val (.int lb), .val (.int shf), .val (.ref o108), .val (.ref o109), .val (.ref o111), .val (.int sel), .unset, .unset] [(.int (1 : Int32))]))
      exact P132.retN (t := .boolean) rfl (by simp) at_147 (by decide) (by decide) rfl
    · refine P112.xs (fun hA hx hy t k => XS.icmpYes hA hx rfl (pc0 := 130) (pc' := 148) rfl (hb hy at_130) rfl (feq h5).2 (by decide) (by decide) k) ?_
      show Go p e below _ (T112.setTop (mkF m 148 #[.val (.int p0), .val (.int p1), .val (.int p2), .val (.int p3), .val (.int la), .val (.int pc5), .val (.int lb), .val (.int shf), .val (.ref o108), .val (.ref o109), .val (.ref o111), .val (.int sel), .unset, .unset] []))
      refine P112.xs (fun hA hx hy t k => XS.iload hA hx rfl (hb hy at_148) rfl  k) ?_
      show Go p e below _ (T112.setTop (mkF m 150 #[.val (.int p0), .val (.int p1), .val (.int p2), .val (.int p3), .val (.int la), .val (.int pc5), .val (.int lb), .val (.int shf), .val (.ref o108), .val (.ref o109), .val (.ref o111), .val (.int sel), .unset, .unset] [(.int sel)]))
      refine P112.xs (fun hA hx hy t k => XS.bipush hA hx rfl (hb hy at_150) k) ?_
      show Go p e below _ (T112.setTop (mkF m 152 #[.val (.int p0), .val (.int p1), .val (.int p2), .val (.int p3), .val (.int la), .val (.int pc5), .val (.int lb), .val (.int shf), .val (.ref o108), .val (.ref o109), .val (.ref o111), .val (.int sel), .unset, .unset] [(.int (6 : Int32)), (.int sel)]))
      by_cases h6 : sel = 6
      · refine P112.xs (fun hA hx hy t k => XS.icmpNo hA hx rfl (hb hy at_152) rfl (teq h6).2 k) ?_
        show Go p e below _ (T112.setTop (mkF m 155 #[.val (.int p0), .val (.int p1), .val (.int p2), .val (.int p3), .val (.int la), .val (.int pc5), .val (.int lb), .val (.int shf), .val (.ref o108), .val (.ref o109), .val (.ref o111), .val (.int sel), .unset, .unset] []))
        refine P112.xs (fun hA hx hy t k => XS.aload hA hx rfl (hb hy at_155) rfl rfl  k) ?_
        show Go p e below _ (T112.setTop (mkF m 157 #[.val (.int p0), .val (.int p1), .val (.int p2), .val (.int p3), .val (.int la), .val (.int pc5), .val (.int lb), .val (.int shf), .val (.ref o108), .val (.ref o109), .val (.ref o111), .val (.int sel), .unset, .unset] [(.ref o109)]))
        refine P112.xs (fun hA hx hy t k => XS.astore hA hx rfl (hb hy at_157) rfl rfl (l' := #[.val (.int p0), .val (.int p1), .val (.int p2), .val (.int p3), .val (.int la), .val (.int pc5), .val (.int lb), .val (.int shf), .val (.ref o108), .val (.ref o109), .val (.ref o111), .val (.int sel), .val (.ref o109), .unset]) rfl k) ?_
        show Go p e below _ (T112.setTop (mkF m 159 #[.val (.int p0), .val (.int p1), .val (.int p2), .val (.int p3), .val (.int la), .val (.int pc5), .val (.int lb), .val (.int shf), .val (.ref o108), .val (.ref o109), .val (.ref o111), .val (.int sel), .val (.ref o109), .unset] []))
        refine P112.xs (fun hA hx hy t k => XS.aload hA hx rfl (hb hy at_159) rfl rfl  k) ?_
        show Go p e below _ (T112.setTop (mkF m 161 #[.val (.int p0), .val (.int p1), .val (.int p2), .val (.int p3), .val (.int la), .val (.int pc5), .val (.int lb), .val (.int shf), .val (.ref o108), .val (.ref o109), .val (.ref o111), .val (.int sel), .val (.ref o109), .unset] [(.ref o111)]))
        refine P112.xs (fun hA hx hy t k => XS.aload hA hx rfl (hb hy at_161) rfl rfl  k) ?_
        show Go p e below _ (T112.setTop (mkF m 163 #[.val (.int p0), .val (.int p1), .val (.int p2), .val (.int p3), .val (.int la), .val (.int pc5), .val (.int lb), .val (.int shf), .val (.ref o108), .val (.ref o109), .val (.ref o111), .val (.int sel), .val (.ref o109), .unset] [(.ref o109), (.ref o111)]))
        have Ec138 : Exa Z h112 o108 "java/lang/String" := (Ec113.keep K112)
        have Ec139 : Exa Z h112 o109 "java/lang/String" := (Ec114.keep K112)
        have Sc140 : Str Z h112 o108 (cs3 la ((p0 &&& (255 : Int32)).toUInt32.toUInt16.toUInt32.toInt32) ((((p0.toUInt32 >>> ((8 : Int32) &&& 31).toUInt32).toInt32) &&& (255 : Int32)).toUInt32.toUInt16.toUInt32.toInt32) ((((p0.toUInt32 >>> ((16 : Int32) &&& 31).toUInt32).toInt32) &&& (255 : Int32)).toUInt32.toUInt16.toUInt32.toInt32)) := (Sc115.keep K112 (allS ⟨ne_o108_o111, (nbE A111 (hw _ (List.mem_of_getElem? (i := 39) rfl)))⟩ all0))
        have Sc141 : Str Z h112 o109 (cs3 lb ((pc5 &&& (255 : Int32)).toUInt32.toUInt16.toUInt32.toInt32) ((((pc5.toUInt32 >>> ((8 : Int32) &&& 31).toUInt32).toInt32) &&& (255 : Int32)).toUInt32.toUInt16.toUInt32.toInt32) ((((pc5.toUInt32 >>> ((16 : Int32) &&& 31).toUInt32).toInt32) &&& (255 : Int32)).toUInt32.toUInt16.toUInt32.toInt32)) := (Sc116.keep K112 (allS ⟨ne_o109_o111, (nbE A111 (hw _ (List.mem_of_getElem? (i := 39) rfl)))⟩ all0))
        refine P112.callV (hw _ (List.mem_of_getElem? (i := 56) rfl)) (hw _ (List.mem_of_getElem? (i := 57) rfl)) (hw _ (List.mem_of_getElem? (i := 59) rfl)) (nfOf (hw _ (List.mem_of_getElem? (i := 59) rfl))) (hw _ (List.mem_of_getElem? (i := 58) rfl)) (hw _ (List.mem_of_getElem? (i := 40) rfl)) (hw _ (List.mem_of_getElem? (i := 60) rfl)) (by decide) E112 (eqS l Z a0 hw hEL zc S0 Pz o111 o109 h112 P112.old Ec139) (W := 0) (by decide) (by decide) (by decide) (by decide) all0 pd_3 (argsL := [(.ref o109)]) rfl rfl rfl (Nat.le_of_eq rfl) at_163 fun v137 T137 h137 P137 K137 Q137 => ?_
        obtain ⟨hv137, hh137⟩ := Q137
        subst hv137
        rw [hh137] at P137
        show Go p e below _ (T137.setTop (mkF m 166 #[.val (.int p0), .val (.int p1), .val (.int p2), .val (.int p3), .val (.int la), .val (.int pc5), .val (.int lb), .val (.int shf), .val (.ref o108), .val (.ref o109), .val (.ref o111), .val (.int sel), .val (.ref o109), .unset] [(.int (0 : Int32))]))
        refine P137.xs (fun hA hx hy t k => XS.ifNo hA hx rfl (hb hy at_166) rfl ((if0 _ _).trans (teq rfl).2) k) ?_
        show Go p e below _ (T137.setTop (mkF m 169 #[.val (.int p0), .val (.int p1), .val (.int p2), .val (.int p3), .val (.int la), .val (.int pc5), .val (.int lb), .val (.int shf), .val (.ref o108), .val (.ref o109), .val (.ref o111), .val (.int sel), .val (.ref o109), .unset] []))
        refine P137.xs (fun hA hx hy t k => XS.iconst hA hx rfl (hb hy at_169) k) ?_
        show Go p e below _ (T137.setTop (mkF m 170 #[.val (.int p0), .val (.int p1), .val (.int p2), .val (.int p3), .val (.int la), .val (.int pc5), .val (.int lb), .val (.int shf), .val (.ref o108), .val (.ref o109), .val (.ref o111), .val (.int sel), .val (.ref o109), .unset] [(.int (1 : Int32))]))
        refine P137.xs (fun hA hx hy t k => XS.goto hA hx rfl (pc0 := 170) (pc' := 174) rfl (hb hy at_170) (by decide) (by decide) k) ?_
        show Go p e below _ (T137.setTop (mkF m 174 #[.val (.int p0), .val (.int p1), .val (.int p2), .val (.int p3), .val (.int la), .val (.int pc5), .val (.int lb), .val (.int shf), .val (.ref o108), .val (.ref o109), .val (.ref o111), .val (.int sel), .val (.ref o109), .unset] [(.int (1 : Int32))]))
        exact P137.retN (t := .boolean) rfl (by simp) at_174 (by decide) (by decide) rfl
      · refine P112.xs (fun hA hx hy t k => XS.icmpYes hA hx rfl (pc0 := 152) (pc' := 175) rfl (hb hy at_152) rfl (feq h6).2 (by decide) (by decide) k) ?_
        show Go p e below _ (T112.setTop (mkF m 175 #[.val (.int p0), .val (.int p1), .val (.int p2), .val (.int p3), .val (.int la), .val (.int pc5), .val (.int lb), .val (.int shf), .val (.ref o108), .val (.ref o109), .val (.ref o111), .val (.int sel), .unset, .unset] []))
        refine P112.xs (fun hA hx hy t k => XS.iload hA hx rfl (hb hy at_175) rfl  k) ?_
        show Go p e below _ (T112.setTop (mkF m 177 #[.val (.int p0), .val (.int p1), .val (.int p2), .val (.int p3), .val (.int la), .val (.int pc5), .val (.int lb), .val (.int shf), .val (.ref o108), .val (.ref o109), .val (.ref o111), .val (.int sel), .unset, .unset] [(.int sel)]))
        refine P112.xs (fun hA hx hy t k => XS.bipush hA hx rfl (hb hy at_177) k) ?_
        show Go p e below _ (T112.setTop (mkF m 179 #[.val (.int p0), .val (.int p1), .val (.int p2), .val (.int p3), .val (.int la), .val (.int pc5), .val (.int lb), .val (.int shf), .val (.ref o108), .val (.ref o109), .val (.ref o111), .val (.int sel), .unset, .unset] [(.int (7 : Int32)), (.int sel)]))
        by_cases h7 : sel = 7
        · refine P112.xs (fun hA hx hy t k => XS.icmpNo hA hx rfl (hb hy at_179) rfl (teq h7).2 k) ?_
          show Go p e below _ (T112.setTop (mkF m 182 #[.val (.int p0), .val (.int p1), .val (.int p2), .val (.int p3), .val (.int la), .val (.int pc5), .val (.int lb), .val (.int shf), .val (.ref o108), .val (.ref o109), .val (.ref o111), .val (.int sel), .unset, .unset] []))
          refine P112.xs (fun hA hx hy t k => XS.aload hA hx rfl (hb hy at_182) rfl rfl  k) ?_
          show Go p e below _ (T112.setTop (mkF m 184 #[.val (.int p0), .val (.int p1), .val (.int p2), .val (.int p3), .val (.int la), .val (.int pc5), .val (.int lb), .val (.int shf), .val (.ref o108), .val (.ref o109), .val (.ref o111), .val (.int sel), .unset, .unset] [(.ref o111)]))
          refine P112.xs (fun hA hx hy t k => XS.aload hA hx rfl (hb hy at_184) rfl rfl  k) ?_
          show Go p e below _ (T112.setTop (mkF m 186 #[.val (.int p0), .val (.int p1), .val (.int p2), .val (.int p3), .val (.int la), .val (.int pc5), .val (.int lb), .val (.int shf), .val (.ref o108), .val (.ref o109), .val (.ref o111), .val (.int sel), .unset, .unset] [(.ref o111), (.ref o111)]))
          have Ec143 : Exa Z h112 o108 "java/lang/String" := (Ec113.keep K112)
          have Ec144 : Exa Z h112 o109 "java/lang/String" := (Ec114.keep K112)
          have Sc145 : Str Z h112 o108 (cs3 la ((p0 &&& (255 : Int32)).toUInt32.toUInt16.toUInt32.toInt32) ((((p0.toUInt32 >>> ((8 : Int32) &&& 31).toUInt32).toInt32) &&& (255 : Int32)).toUInt32.toUInt16.toUInt32.toInt32) ((((p0.toUInt32 >>> ((16 : Int32) &&& 31).toUInt32).toInt32) &&& (255 : Int32)).toUInt32.toUInt16.toUInt32.toInt32)) := (Sc115.keep K112 (allS ⟨ne_o108_o111, (nbE A111 (hw _ (List.mem_of_getElem? (i := 39) rfl)))⟩ all0))
          have Sc146 : Str Z h112 o109 (cs3 lb ((pc5 &&& (255 : Int32)).toUInt32.toUInt16.toUInt32.toInt32) ((((pc5.toUInt32 >>> ((8 : Int32) &&& 31).toUInt32).toInt32) &&& (255 : Int32)).toUInt32.toUInt16.toUInt32.toInt32) ((((pc5.toUInt32 >>> ((16 : Int32) &&& 31).toUInt32).toInt32) &&& (255 : Int32)).toUInt32.toUInt16.toUInt32.toInt32)) := (Sc116.keep K112 (allS ⟨ne_o109_o111, (nbE A111 (hw _ (List.mem_of_getElem? (i := 39) rfl)))⟩ all0))
          refine P112.callV (hw _ (List.mem_of_getElem? (i := 56) rfl)) (hw _ (List.mem_of_getElem? (i := 57) rfl)) (hw _ (List.mem_of_getElem? (i := 59) rfl)) (nfOf (hw _ (List.mem_of_getElem? (i := 59) rfl))) (hw _ (List.mem_of_getElem? (i := 58) rfl)) (hw _ (List.mem_of_getElem? (i := 40) rfl)) (hw _ (List.mem_of_getElem? (i := 60) rfl)) (by decide) E112 (eqC l Z a0 hw hEL zc S0 Pz o111 o111 o108 o108 (cs3 la ((p0 &&& (255 : Int32)).toUInt32.toUInt16.toUInt32.toInt32) ((((p0.toUInt32 >>> ((8 : Int32) &&& 31).toUInt32).toInt32) &&& (255 : Int32)).toUInt32.toUInt16.toUInt32.toInt32) ((((p0.toUInt32 >>> ((16 : Int32) &&& 31).toUInt32).toInt32) &&& (255 : Int32)).toUInt32.toUInt16.toUInt32.toInt32)) (cs3 la ((p0 &&& (255 : Int32)).toUInt32.toUInt16.toUInt32.toInt32) ((((p0.toUInt32 >>> ((8 : Int32) &&& 31).toUInt32).toInt32) &&& (255 : Int32)).toUInt32.toUInt16.toUInt32.toInt32) ((((p0.toUInt32 >>> ((16 : Int32) &&& 31).toUInt32).toInt32) &&& (255 : Int32)).toUInt32.toUInt16.toUInt32.toInt32)) h112 P112.old E112 F112 F112 Sc145 Sc145) (W := 0) (by decide) (by decide) (by decide) (by decide) all0 pd_3 (argsL := [(.ref o111)]) rfl rfl rfl (Nat.le_of_eq rfl) at_186 fun v142 T142 h142 P142 K142 Q142 => ?_
          obtain ⟨hd142, hh142⟩ := Q142
          rw [hh142] at P142
          rcases hd142 with ⟨rfl, hc⟩ | ⟨rfl, hc⟩
          · show Go p e below _ (T142.setTop (mkF m 189 #[.val (.int p0), .val (.int p1), .val (.int p2), .val (.int p3), .val (.int la), .val (.int pc5), .val (.int lb), .val (.int shf), .val (.ref o108), .val (.ref o109), .val (.ref o111), .val (.int sel), .unset, .unset] [(.int (1 : Int32))]))
            exact P142.retN (t := .boolean) rfl (by simp) at_189 (by decide) (by decide) rfl
          · exact absurd rfl hc
        · refine P112.xs (fun hA hx hy t k => XS.icmpYes hA hx rfl (pc0 := 179) (pc' := 190) rfl (hb hy at_179) rfl (feq h7).2 (by decide) (by decide) k) ?_
          show Go p e below _ (T112.setTop (mkF m 190 #[.val (.int p0), .val (.int p1), .val (.int p2), .val (.int p3), .val (.int la), .val (.int pc5), .val (.int lb), .val (.int shf), .val (.ref o108), .val (.ref o109), .val (.ref o111), .val (.int sel), .unset, .unset] []))
          refine P112.newO (hw _ (List.mem_of_getElem? (i := 38) rfl)) (hw _ (List.mem_of_getElem? (i := 39) rfl)) (hw _ (List.mem_of_getElem? (i := 40) rfl)) at_190 (by decide) (by decide) fun T147 h147 o147 g147 P147 E147 A147 D147 => ?_
          have ne_o108_o147 : o108 ≠ o147 := Nat.ne_of_lt (Nat.lt_of_lt_of_le (Ec113.keep K112).lt (Nat.le_of_eq g147.symm))
          have ne_o109_o147 : o109 ≠ o147 := Nat.ne_of_lt (Nat.lt_of_lt_of_le (Ec114.keep K112).lt (Nat.le_of_eq g147.symm))
          have ne_o111_o147 : o111 ≠ o147 := Nat.ne_of_lt (Nat.lt_of_lt_of_le E112.lt (Nat.le_of_eq g147.symm))
          have gz_o147 : Z.heap.size ≤ o147 := Nat.le_trans P112.old.1 (Nat.le_of_eq g147.symm)
          have gw_o147 : h0.size ≤ o147 := Nat.le_trans P112.kept.1 (Nat.le_of_eq g147.symm)
          have F147_text : Fld Z h147 o147 "com/example/qrew/qrew/logic/Constant" "text" "Ljava/lang/String;" .null := D147 (Or.inr (hw _ (List.mem_of_getElem? (i := 52) rfl))) (ty := (.object "java/lang/String")) (by decide)
          show Go p e below _ (T147.setTop (mkF m 193 #[.val (.int p0), .val (.int p1), .val (.int p2), .val (.int p3), .val (.int la), .val (.int pc5), .val (.int lb), .val (.int shf), .val (.ref o108), .val (.ref o109), .val (.ref o111), .val (.int sel), .unset, .unset] [(.ref o147)]))
          refine P147.xs (fun hA hx hy t k => XS.dup hA hx rfl (hb hy at_193) rfl rfl k) ?_
          show Go p e below _ (T147.setTop (mkF m 194 #[.val (.int p0), .val (.int p1), .val (.int p2), .val (.int p3), .val (.int la), .val (.int pc5), .val (.int lb), .val (.int shf), .val (.ref o108), .val (.ref o109), .val (.ref o111), .val (.int sel), .unset, .unset] [(.ref o147), (.ref o147)]))
          refine P147.xs (fun hA hx hy t k => XS.aload hA hx rfl (hb hy at_194) rfl rfl  k) ?_
          show Go p e below _ (T147.setTop (mkF m 196 #[.val (.int p0), .val (.int p1), .val (.int p2), .val (.int p3), .val (.int la), .val (.int pc5), .val (.int lb), .val (.int shf), .val (.ref o108), .val (.ref o109), .val (.ref o111), .val (.int sel), .unset, .unset] [(.ref o109), (.ref o147), (.ref o147)]))
          have Ec149 : Exa Z h147 o108 "java/lang/String" := ((Ec113.keep K112).ext E147)
          have Ec150 : Exa Z h147 o109 "java/lang/String" := ((Ec114.keep K112).ext E147)
          have Ec151 : Exa Z h147 o111 "com/example/qrew/qrew/logic/Constant" := (E112.ext E147)
          have Fc152 : Fld Z h147 o111 "com/example/qrew/qrew/logic/Constant" "text" "Ljava/lang/String;" (.ref o108) := (F112.ext E147)
          have Sc153 : Str Z h147 o108 (cs3 la ((p0 &&& (255 : Int32)).toUInt32.toUInt16.toUInt32.toInt32) ((((p0.toUInt32 >>> ((8 : Int32) &&& 31).toUInt32).toInt32) &&& (255 : Int32)).toUInt32.toUInt16.toUInt32.toInt32) ((((p0.toUInt32 >>> ((16 : Int32) &&& 31).toUInt32).toInt32) &&& (255 : Int32)).toUInt32.toUInt16.toUInt32.toInt32)) := ((Sc115.keep K112 (allS ⟨ne_o108_o111, (nbE A111 (hw _ (List.mem_of_getElem? (i := 39) rfl)))⟩ all0)).ext E147)
          have Sc154 : Str Z h147 o109 (cs3 lb ((pc5 &&& (255 : Int32)).toUInt32.toUInt16.toUInt32.toInt32) ((((pc5.toUInt32 >>> ((8 : Int32) &&& 31).toUInt32).toInt32) &&& (255 : Int32)).toUInt32.toUInt16.toUInt32.toInt32) ((((pc5.toUInt32 >>> ((16 : Int32) &&& 31).toUInt32).toInt32) &&& (255 : Int32)).toUInt32.toUInt16.toUInt32.toInt32)) := ((Sc116.keep K112 (allS ⟨ne_o109_o111, (nbE A111 (hw _ (List.mem_of_getElem? (i := 39) rfl)))⟩ all0)).ext E147)
          refine P147.callI rfl (hw _ (List.mem_of_getElem? (i := 41) rfl)) (hw _ (List.mem_of_getElem? (i := 42) rfl)) (hw _ (List.mem_of_getElem? (i := 40) rfl)) (hw _ (List.mem_of_getElem? (i := 43) rfl)) (by decide) (mCon l Z a0 hw hEL zc S0 Pz o147 o109 h147 P147.old A147 F147_text gz_o147 Ec150) (W := 1) (by decide) (by decide) (by decide) (by decide) (allS (Or.inr gw_o147) all0) pd_5 (argsL := [(.ref o109)]) rfl rfl rfl (Nat.le_of_eq rfl) at_196 fun v148 T148 h148 P148 K148 Q148 => ?_
          obtain ⟨rfl, E148, F148⟩ := Q148
          show Go p e below _ (T148.setTop (mkF m 199 #[.val (.int p0), .val (.int p1), .val (.int p2), .val (.int p3), .val (.int la), .val (.int pc5), .val (.int lb), .val (.int shf), .val (.ref o108), .val (.ref o109), .val (.ref o111), .val (.int sel), .unset, .unset] [(.ref o147)]))
          refine P148.xs (fun hA hx hy t k => XS.astore hA hx rfl (hb hy at_199) rfl rfl (l' := #[.val (.int p0), .val (.int p1), .val (.int p2), .val (.int p3), .val (.int la), .val (.int pc5), .val (.int lb), .val (.int shf), .val (.ref o108), .val (.ref o109), .val (.ref o111), .val (.int sel), .val (.ref o147), .unset]) rfl k) ?_
          show Go p e below _ (T148.setTop (mkF m 201 #[.val (.int p0), .val (.int p1), .val (.int p2), .val (.int p3), .val (.int la), .val (.int pc5), .val (.int lb), .val (.int shf), .val (.ref o108), .val (.ref o109), .val (.ref o111), .val (.int sel), .val (.ref o147), .unset] []))
          refine P148.xs (fun hA hx hy t k => XS.iloadN hA hx rfl (hb hy at_201) rfl  k) ?_
          show Go p e below _ (T148.setTop (mkF m 202 #[.val (.int p0), .val (.int p1), .val (.int p2), .val (.int p3), .val (.int la), .val (.int pc5), .val (.int lb), .val (.int shf), .val (.ref o108), .val (.ref o109), .val (.ref o111), .val (.int sel), .val (.ref o147), .unset] [(.int p0)]))
          refine P148.xs (fun hA hx hy t k => XS.iload hA hx rfl (hb hy at_202) rfl  k) ?_
          show Go p e below _ (T148.setTop (mkF m 204 #[.val (.int p0), .val (.int p1), .val (.int p2), .val (.int p3), .val (.int la), .val (.int pc5), .val (.int lb), .val (.int shf), .val (.ref o108), .val (.ref o109), .val (.ref o111), .val (.int sel), .val (.ref o147), .unset] [(.int la), (.int p0)]))
          refine P148.xs (fun hA hx hy t k => XS.iload hA hx rfl (hb hy at_204) rfl  k) ?_
          show Go p e below _ (T148.setTop (mkF m 206 #[.val (.int p0), .val (.int p1), .val (.int p2), .val (.int p3), .val (.int la), .val (.int pc5), .val (.int lb), .val (.int shf), .val (.ref o108), .val (.ref o109), .val (.ref o111), .val (.int sel), .val (.ref o147), .unset] [(.int pc5), (.int la), (.int p0)]))
          refine P148.xs (fun hA hx hy t k => XS.iload hA hx rfl (hb hy at_206) rfl  k) ?_
          show Go p e below _ (T148.setTop (mkF m 208 #[.val (.int p0), .val (.int p1), .val (.int p2), .val (.int p3), .val (.int la), .val (.int pc5), .val (.int lb), .val (.int shf), .val (.ref o108), .val (.ref o109), .val (.ref o111), .val (.int sel), .val (.ref o147), .unset] [(.int lb), (.int pc5), (.int la), (.int p0)]))
          have Ec156 : Exa Z h148 o108 "java/lang/String" := (Ec149.keep K148)
          have Ec157 : Exa Z h148 o109 "java/lang/String" := (Ec150.keep K148)
          have Ec158 : Exa Z h148 o111 "com/example/qrew/qrew/logic/Constant" := (Ec151.keep K148)
          have Fc159 : Fld Z h148 o111 "com/example/qrew/qrew/logic/Constant" "text" "Ljava/lang/String;" (.ref o108) := (Fc152.keep K148 (ninS ne_o111_o147 nin0))
          have Sc160 : Str Z h148 o108 (cs3 la ((p0 &&& (255 : Int32)).toUInt32.toUInt16.toUInt32.toInt32) ((((p0.toUInt32 >>> ((8 : Int32) &&& 31).toUInt32).toInt32) &&& (255 : Int32)).toUInt32.toUInt16.toUInt32.toInt32) ((((p0.toUInt32 >>> ((16 : Int32) &&& 31).toUInt32).toInt32) &&& (255 : Int32)).toUInt32.toUInt16.toUInt32.toInt32)) := (Sc153.keep K148 (allS ⟨ne_o108_o147, (nbE A147 (hw _ (List.mem_of_getElem? (i := 39) rfl)))⟩ all0))
          have Sc161 : Str Z h148 o109 (cs3 lb ((pc5 &&& (255 : Int32)).toUInt32.toUInt16.toUInt32.toInt32) ((((pc5.toUInt32 >>> ((8 : Int32) &&& 31).toUInt32).toInt32) &&& (255 : Int32)).toUInt32.toUInt16.toUInt32.toInt32) ((((pc5.toUInt32 >>> ((16 : Int32) &&& 31).toUInt32).toInt32) &&& (255 : Int32)).toUInt32.toUInt16.toUInt32.toInt32)) := (Sc154.keep K148 (allS ⟨ne_o109_o147, (nbE A147 (hw _ (List.mem_of_getElem? (i := 39) rfl)))⟩ all0))
          refine P148.callS (hw _ (List.mem_of_getElem? (i := 53) rfl)) (hw _ (List.mem_of_getElem? (i := 54) rfl)) (hw _ (List.mem_of_getElem? (i := 3) rfl)) (hw _ (List.mem_of_getElem? (i := 55) rfl)) (by decide) (mSame l Z a0 hw hEL zc S0 Pz p0 la pc5 lb h148 P148.old hla hlb) (W := 0) (by decide) (by decide) (by decide) (by decide) all0 pd_6 (argsL := [(.int p0), (.int la), (.int pc5), (.int lb)]) rfl rfl rfl (Nat.le_of_eq rfl) at_208 fun v155 T155 h155 P155 K155 Q155 => ?_
          obtain ⟨hd155, hh155⟩ := Q155
          rw [hh155] at P155
          rcases hd155 with ⟨rfl, hsm⟩ | ⟨rfl, hsm⟩
          · show Go p e below _ (T155.setTop (mkF m 211 #[.val (.int p0), .val (.int p1), .val (.int p2), .val (.int p3), .val (.int la), .val (.int pc5), .val (.int lb), .val (.int shf), .val (.ref o108), .val (.ref o109), .val (.ref o111), .val (.int sel), .val (.ref o147), .unset] [(.int (1 : Int32))]))
            refine P155.xs (fun hA hx hy t k => XS.istore hA hx rfl (hb hy at_211) rfl (l' := #[.val (.int p0), .val (.int p1), .val (.int p2), .val (.int p3), .val (.int la), .val (.int pc5), .val (.int lb), .val (.int shf), .val (.ref o108), .val (.ref o109), .val (.ref o111), .val (.int sel), .val (.ref o147), .val (.int (1 : Int32))]) rfl k) ?_
            show Go p e below _ (T155.setTop (mkF m 213 #[.val (.int p0), .val (.int p1), .val (.int p2), .val (.int p3), .val (.int la), .val (.int pc5), .val (.int lb), .val (.int shf), .val (.ref o108), .val (.ref o109), .val (.ref o111), .val (.int sel), .val (.ref o147), .val (.int (1 : Int32))] []))
            refine P155.xs (fun hA hx hy t k => XS.aload hA hx rfl (hb hy at_213) rfl rfl  k) ?_
            show Go p e below _ (T155.setTop (mkF m 215 #[.val (.int p0), .val (.int p1), .val (.int p2), .val (.int p3), .val (.int la), .val (.int pc5), .val (.int lb), .val (.int shf), .val (.ref o108), .val (.ref o109), .val (.ref o111), .val (.int sel), .val (.ref o147), .val (.int (1 : Int32))] [(.ref o111)]))
            refine P155.xs (fun hA hx hy t k => XS.aload hA hx rfl (hb hy at_215) rfl rfl  k) ?_
            show Go p e below _ (T155.setTop (mkF m 217 #[.val (.int p0), .val (.int p1), .val (.int p2), .val (.int p3), .val (.int la), .val (.int pc5), .val (.int lb), .val (.int shf), .val (.ref o108), .val (.ref o109), .val (.ref o111), .val (.int sel), .val (.ref o147), .val (.int (1 : Int32))] [(.ref o147), (.ref o111)]))
            refine P155.callV (hw _ (List.mem_of_getElem? (i := 56) rfl)) (hw _ (List.mem_of_getElem? (i := 57) rfl)) (hw _ (List.mem_of_getElem? (i := 59) rfl)) (nfOf (hw _ (List.mem_of_getElem? (i := 59) rfl))) (hw _ (List.mem_of_getElem? (i := 58) rfl)) (hw _ (List.mem_of_getElem? (i := 40) rfl)) (hw _ (List.mem_of_getElem? (i := 60) rfl)) (by decide) Ec158 (eqC l Z a0 hw hEL zc S0 Pz o111 o147 o108 o109 (cs3 la ((p0 &&& (255 : Int32)).toUInt32.toUInt16.toUInt32.toInt32) ((((p0.toUInt32 >>> ((8 : Int32) &&& 31).toUInt32).toInt32) &&& (255 : Int32)).toUInt32.toUInt16.toUInt32.toInt32) ((((p0.toUInt32 >>> ((16 : Int32) &&& 31).toUInt32).toInt32) &&& (255 : Int32)).toUInt32.toUInt16.toUInt32.toInt32)) (cs3 lb ((pc5 &&& (255 : Int32)).toUInt32.toUInt16.toUInt32.toInt32) ((((pc5.toUInt32 >>> ((8 : Int32) &&& 31).toUInt32).toInt32) &&& (255 : Int32)).toUInt32.toUInt16.toUInt32.toInt32) ((((pc5.toUInt32 >>> ((16 : Int32) &&& 31).toUInt32).toInt32) &&& (255 : Int32)).toUInt32.toUInt16.toUInt32.toInt32)) h148 P155.old E148 Fc159 F148 Sc160 Sc161) (W := 0) (by decide) (by decide) (by decide) (by decide) all0 pd_3 (argsL := [(.ref o147)]) rfl rfl rfl (Nat.le_of_eq rfl) at_217 fun v162 T162 h162 P162 K162 Q162 => ?_
            obtain ⟨hd162, hh162⟩ := Q162
            rw [hh162] at P162
            rcases hd162 with ⟨rfl, hc⟩ | ⟨rfl, hc⟩
            · have hc1 := hc
              show Go p e below _ (T162.setTop (mkF m 220 #[.val (.int p0), .val (.int p1), .val (.int p2), .val (.int p3), .val (.int la), .val (.int pc5), .val (.int lb), .val (.int shf), .val (.ref o108), .val (.ref o109), .val (.ref o111), .val (.int sel), .val (.ref o147), .val (.int (1 : Int32))] [(.int (1 : Int32))]))
              refine P162.xs (fun hA hx hy t k => XS.iload hA hx rfl (hb hy at_220) rfl  k) ?_
              show Go p e below _ (T162.setTop (mkF m 222 #[.val (.int p0), .val (.int p1), .val (.int p2), .val (.int p3), .val (.int la), .val (.int pc5), .val (.int lb), .val (.int shf), .val (.ref o108), .val (.ref o109), .val (.ref o111), .val (.int sel), .val (.ref o147), .val (.int (1 : Int32))] [(.int (1 : Int32)), (.int (1 : Int32))]))
              refine P162.xs (fun hA hx hy t k => XS.icmpNo hA hx rfl (hb hy at_222) rfl (teq rfl).2 k) ?_
              show Go p e below _ (T162.setTop (mkF m 225 #[.val (.int p0), .val (.int p1), .val (.int p2), .val (.int p3), .val (.int la), .val (.int pc5), .val (.int lb), .val (.int shf), .val (.ref o108), .val (.ref o109), .val (.ref o111), .val (.int sel), .val (.ref o147), .val (.int (1 : Int32))] []))
              refine P162.xs (fun hA hx hy t k => XS.aload hA hx rfl (hb hy at_225) rfl rfl  k) ?_
              show Go p e below _ (T162.setTop (mkF m 227 #[.val (.int p0), .val (.int p1), .val (.int p2), .val (.int p3), .val (.int la), .val (.int pc5), .val (.int lb), .val (.int shf), .val (.ref o108), .val (.ref o109), .val (.ref o111), .val (.int sel), .val (.ref o147), .val (.int (1 : Int32))] [(.ref o147)]))
              refine P162.xs (fun hA hx hy t k => XS.aload hA hx rfl (hb hy at_227) rfl rfl  k) ?_
              show Go p e below _ (T162.setTop (mkF m 229 #[.val (.int p0), .val (.int p1), .val (.int p2), .val (.int p3), .val (.int la), .val (.int pc5), .val (.int lb), .val (.int shf), .val (.ref o108), .val (.ref o109), .val (.ref o111), .val (.int sel), .val (.ref o147), .val (.int (1 : Int32))] [(.ref o111), (.ref o147)]))
              refine P162.callV (hw _ (List.mem_of_getElem? (i := 56) rfl)) (hw _ (List.mem_of_getElem? (i := 57) rfl)) (hw _ (List.mem_of_getElem? (i := 59) rfl)) (nfOf (hw _ (List.mem_of_getElem? (i := 59) rfl))) (hw _ (List.mem_of_getElem? (i := 58) rfl)) (hw _ (List.mem_of_getElem? (i := 40) rfl)) (hw _ (List.mem_of_getElem? (i := 60) rfl)) (by decide) E148 (eqC l Z a0 hw hEL zc S0 Pz o147 o111 o109 o108 (cs3 lb ((pc5 &&& (255 : Int32)).toUInt32.toUInt16.toUInt32.toInt32) ((((pc5.toUInt32 >>> ((8 : Int32) &&& 31).toUInt32).toInt32) &&& (255 : Int32)).toUInt32.toUInt16.toUInt32.toInt32) ((((pc5.toUInt32 >>> ((16 : Int32) &&& 31).toUInt32).toInt32) &&& (255 : Int32)).toUInt32.toUInt16.toUInt32.toInt32)) (cs3 la ((p0 &&& (255 : Int32)).toUInt32.toUInt16.toUInt32.toInt32) ((((p0.toUInt32 >>> ((8 : Int32) &&& 31).toUInt32).toInt32) &&& (255 : Int32)).toUInt32.toUInt16.toUInt32.toInt32) ((((p0.toUInt32 >>> ((16 : Int32) &&& 31).toUInt32).toInt32) &&& (255 : Int32)).toUInt32.toUInt16.toUInt32.toInt32)) h148 P162.old Ec158 F148 Fc159 Sc161 Sc160) (W := 0) (by decide) (by decide) (by decide) (by decide) all0 pd_3 (argsL := [(.ref o111)]) rfl rfl rfl (Nat.le_of_eq rfl) at_229 fun v163 T163 h163 P163 K163 Q163 => ?_
              obtain ⟨hd163, hh163⟩ := Q163
              rw [hh163] at P163
              rcases hd163 with ⟨rfl, hc⟩ | ⟨rfl, hc⟩
              · show Go p e below _ (T163.setTop (mkF m 232 #[.val (.int p0), .val (.int p1), .val (.int p2), .val (.int p3), .val (.int la), .val (.int pc5), .val (.int lb), .val (.int shf), .val (.ref o108), .val (.ref o109), .val (.ref o111), .val (.int sel), .val (.ref o147), .val (.int (1 : Int32))] [(.int (1 : Int32))]))
                refine P163.xs (fun hA hx hy t k => XS.iload hA hx rfl (hb hy at_232) rfl  k) ?_
                show Go p e below _ (T163.setTop (mkF m 234 #[.val (.int p0), .val (.int p1), .val (.int p2), .val (.int p3), .val (.int la), .val (.int pc5), .val (.int lb), .val (.int shf), .val (.ref o108), .val (.ref o109), .val (.ref o111), .val (.int sel), .val (.ref o147), .val (.int (1 : Int32))] [(.int (1 : Int32)), (.int (1 : Int32))]))
                refine P163.xs (fun hA hx hy t k => XS.icmpNo hA hx rfl (hb hy at_234) rfl (teq rfl).2 k) ?_
                show Go p e below _ (T163.setTop (mkF m 237 #[.val (.int p0), .val (.int p1), .val (.int p2), .val (.int p3), .val (.int la), .val (.int pc5), .val (.int lb), .val (.int shf), .val (.ref o108), .val (.ref o109), .val (.ref o111), .val (.int sel), .val (.ref o147), .val (.int (1 : Int32))] []))
                refine P163.xs (fun hA hx hy t k => XS.iconst hA hx rfl (hb hy at_237) k) ?_
                show Go p e below _ (T163.setTop (mkF m 238 #[.val (.int p0), .val (.int p1), .val (.int p2), .val (.int p3), .val (.int la), .val (.int pc5), .val (.int lb), .val (.int shf), .val (.ref o108), .val (.ref o109), .val (.ref o111), .val (.int sel), .val (.ref o147), .val (.int (1 : Int32))] [(.int (1 : Int32))]))
                refine P163.xs (fun hA hx hy t k => XS.goto hA hx rfl (pc0 := 238) (pc' := 242) rfl (hb hy at_238) (by decide) (by decide) k) ?_
                show Go p e below _ (T163.setTop (mkF m 242 #[.val (.int p0), .val (.int p1), .val (.int p2), .val (.int p3), .val (.int la), .val (.int pc5), .val (.int lb), .val (.int shf), .val (.ref o108), .val (.ref o109), .val (.ref o111), .val (.int sel), .val (.ref o147), .val (.int (1 : Int32))] [(.int (1 : Int32))]))
                exact P163.retN (t := .boolean) rfl (by simp) at_242 (by decide) (by decide) rfl
              · exact absurd hsm.symm hc
            · exact absurd hsm hc
          · show Go p e below _ (T155.setTop (mkF m 211 #[.val (.int p0), .val (.int p1), .val (.int p2), .val (.int p3), .val (.int la), .val (.int pc5), .val (.int lb), .val (.int shf), .val (.ref o108), .val (.ref o109), .val (.ref o111), .val (.int sel), .val (.ref o147), .unset] [(.int (0 : Int32))]))
            refine P155.xs (fun hA hx hy t k => XS.istore hA hx rfl (hb hy at_211) rfl (l' := #[.val (.int p0), .val (.int p1), .val (.int p2), .val (.int p3), .val (.int la), .val (.int pc5), .val (.int lb), .val (.int shf), .val (.ref o108), .val (.ref o109), .val (.ref o111), .val (.int sel), .val (.ref o147), .val (.int (0 : Int32))]) rfl k) ?_
            show Go p e below _ (T155.setTop (mkF m 213 #[.val (.int p0), .val (.int p1), .val (.int p2), .val (.int p3), .val (.int la), .val (.int pc5), .val (.int lb), .val (.int shf), .val (.ref o108), .val (.ref o109), .val (.ref o111), .val (.int sel), .val (.ref o147), .val (.int (0 : Int32))] []))
            refine P155.xs (fun hA hx hy t k => XS.aload hA hx rfl (hb hy at_213) rfl rfl  k) ?_
            show Go p e below _ (T155.setTop (mkF m 215 #[.val (.int p0), .val (.int p1), .val (.int p2), .val (.int p3), .val (.int la), .val (.int pc5), .val (.int lb), .val (.int shf), .val (.ref o108), .val (.ref o109), .val (.ref o111), .val (.int sel), .val (.ref o147), .val (.int (0 : Int32))] [(.ref o111)]))
            refine P155.xs (fun hA hx hy t k => XS.aload hA hx rfl (hb hy at_215) rfl rfl  k) ?_
            show Go p e below _ (T155.setTop (mkF m 217 #[.val (.int p0), .val (.int p1), .val (.int p2), .val (.int p3), .val (.int la), .val (.int pc5), .val (.int lb), .val (.int shf), .val (.ref o108), .val (.ref o109), .val (.ref o111), .val (.int sel), .val (.ref o147), .val (.int (0 : Int32))] [(.ref o147), (.ref o111)]))
            refine P155.callV (hw _ (List.mem_of_getElem? (i := 56) rfl)) (hw _ (List.mem_of_getElem? (i := 57) rfl)) (hw _ (List.mem_of_getElem? (i := 59) rfl)) (nfOf (hw _ (List.mem_of_getElem? (i := 59) rfl))) (hw _ (List.mem_of_getElem? (i := 58) rfl)) (hw _ (List.mem_of_getElem? (i := 40) rfl)) (hw _ (List.mem_of_getElem? (i := 60) rfl)) (by decide) Ec158 (eqC l Z a0 hw hEL zc S0 Pz o111 o147 o108 o109 (cs3 la ((p0 &&& (255 : Int32)).toUInt32.toUInt16.toUInt32.toInt32) ((((p0.toUInt32 >>> ((8 : Int32) &&& 31).toUInt32).toInt32) &&& (255 : Int32)).toUInt32.toUInt16.toUInt32.toInt32) ((((p0.toUInt32 >>> ((16 : Int32) &&& 31).toUInt32).toInt32) &&& (255 : Int32)).toUInt32.toUInt16.toUInt32.toInt32)) (cs3 lb ((pc5 &&& (255 : Int32)).toUInt32.toUInt16.toUInt32.toInt32) ((((pc5.toUInt32 >>> ((8 : Int32) &&& 31).toUInt32).toInt32) &&& (255 : Int32)).toUInt32.toUInt16.toUInt32.toInt32) ((((pc5.toUInt32 >>> ((16 : Int32) &&& 31).toUInt32).toInt32) &&& (255 : Int32)).toUInt32.toUInt16.toUInt32.toInt32)) h148 P155.old E148 Fc159 F148 Sc160 Sc161) (W := 0) (by decide) (by decide) (by decide) (by decide) all0 pd_3 (argsL := [(.ref o147)]) rfl rfl rfl (Nat.le_of_eq rfl) at_217 fun v164 T164 h164 P164 K164 Q164 => ?_
            obtain ⟨hd164, hh164⟩ := Q164
            rw [hh164] at P164
            rcases hd164 with ⟨rfl, hc⟩ | ⟨rfl, hc⟩
            · exact absurd hc hsm
            · have hc1 := hc
              show Go p e below _ (T164.setTop (mkF m 220 #[.val (.int p0), .val (.int p1), .val (.int p2), .val (.int p3), .val (.int la), .val (.int pc5), .val (.int lb), .val (.int shf), .val (.ref o108), .val (.ref o109), .val (.ref o111), .val (.int sel), .val (.ref o147), .val (.int (0 : Int32))] [(.int (0 : Int32))]))
              refine P164.xs (fun hA hx hy t k => XS.iload hA hx rfl (hb hy at_220) rfl  k) ?_
              show Go p e below _ (T164.setTop (mkF m 222 #[.val (.int p0), .val (.int p1), .val (.int p2), .val (.int p3), .val (.int la), .val (.int pc5), .val (.int lb), .val (.int shf), .val (.ref o108), .val (.ref o109), .val (.ref o111), .val (.int sel), .val (.ref o147), .val (.int (0 : Int32))] [(.int (0 : Int32)), (.int (0 : Int32))]))
              refine P164.xs (fun hA hx hy t k => XS.icmpNo hA hx rfl (hb hy at_222) rfl (teq rfl).2 k) ?_
              show Go p e below _ (T164.setTop (mkF m 225 #[.val (.int p0), .val (.int p1), .val (.int p2), .val (.int p3), .val (.int la), .val (.int pc5), .val (.int lb), .val (.int shf), .val (.ref o108), .val (.ref o109), .val (.ref o111), .val (.int sel), .val (.ref o147), .val (.int (0 : Int32))] []))
              refine P164.xs (fun hA hx hy t k => XS.aload hA hx rfl (hb hy at_225) rfl rfl  k) ?_
              show Go p e below _ (T164.setTop (mkF m 227 #[.val (.int p0), .val (.int p1), .val (.int p2), .val (.int p3), .val (.int la), .val (.int pc5), .val (.int lb), .val (.int shf), .val (.ref o108), .val (.ref o109), .val (.ref o111), .val (.int sel), .val (.ref o147), .val (.int (0 : Int32))] [(.ref o147)]))
              refine P164.xs (fun hA hx hy t k => XS.aload hA hx rfl (hb hy at_227) rfl rfl  k) ?_
              show Go p e below _ (T164.setTop (mkF m 229 #[.val (.int p0), .val (.int p1), .val (.int p2), .val (.int p3), .val (.int la), .val (.int pc5), .val (.int lb), .val (.int shf), .val (.ref o108), .val (.ref o109), .val (.ref o111), .val (.int sel), .val (.ref o147), .val (.int (0 : Int32))] [(.ref o111), (.ref o147)]))
              refine P164.callV (hw _ (List.mem_of_getElem? (i := 56) rfl)) (hw _ (List.mem_of_getElem? (i := 57) rfl)) (hw _ (List.mem_of_getElem? (i := 59) rfl)) (nfOf (hw _ (List.mem_of_getElem? (i := 59) rfl))) (hw _ (List.mem_of_getElem? (i := 58) rfl)) (hw _ (List.mem_of_getElem? (i := 40) rfl)) (hw _ (List.mem_of_getElem? (i := 60) rfl)) (by decide) E148 (eqC l Z a0 hw hEL zc S0 Pz o147 o111 o109 o108 (cs3 lb ((pc5 &&& (255 : Int32)).toUInt32.toUInt16.toUInt32.toInt32) ((((pc5.toUInt32 >>> ((8 : Int32) &&& 31).toUInt32).toInt32) &&& (255 : Int32)).toUInt32.toUInt16.toUInt32.toInt32) ((((pc5.toUInt32 >>> ((16 : Int32) &&& 31).toUInt32).toInt32) &&& (255 : Int32)).toUInt32.toUInt16.toUInt32.toInt32)) (cs3 la ((p0 &&& (255 : Int32)).toUInt32.toUInt16.toUInt32.toInt32) ((((p0.toUInt32 >>> ((8 : Int32) &&& 31).toUInt32).toInt32) &&& (255 : Int32)).toUInt32.toUInt16.toUInt32.toInt32) ((((p0.toUInt32 >>> ((16 : Int32) &&& 31).toUInt32).toInt32) &&& (255 : Int32)).toUInt32.toUInt16.toUInt32.toInt32)) h148 P164.old Ec158 F148 Fc159 Sc161 Sc160) (W := 0) (by decide) (by decide) (by decide) (by decide) all0 pd_3 (argsL := [(.ref o111)]) rfl rfl rfl (Nat.le_of_eq rfl) at_229 fun v165 T165 h165 P165 K165 Q165 => ?_
              obtain ⟨hd165, hh165⟩ := Q165
              rw [hh165] at P165
              rcases hd165 with ⟨rfl, hc⟩ | ⟨rfl, hc⟩
              · exact absurd hc.symm hsm
              · show Go p e below _ (T165.setTop (mkF m 232 #[.val (.int p0), .val (.int p1), .val (.int p2), .val (.int p3), .val (.int la), .val (.int pc5), .val (.int lb), .val (.int shf), .val (.ref o108), .val (.ref o109), .val (.ref o111), .val (.int sel), .val (.ref o147), .val (.int (0 : Int32))] [(.int (0 : Int32))]))
                refine P165.xs (fun hA hx hy t k => XS.iload hA hx rfl (hb hy at_232) rfl  k) ?_
                show Go p e below _ (T165.setTop (mkF m 234 #[.val (.int p0), .val (.int p1), .val (.int p2), .val (.int p3), .val (.int la), .val (.int pc5), .val (.int lb), .val (.int shf), .val (.ref o108), .val (.ref o109), .val (.ref o111), .val (.int sel), .val (.ref o147), .val (.int (0 : Int32))] [(.int (0 : Int32)), (.int (0 : Int32))]))
                refine P165.xs (fun hA hx hy t k => XS.icmpNo hA hx rfl (hb hy at_234) rfl (teq rfl).2 k) ?_
                show Go p e below _ (T165.setTop (mkF m 237 #[.val (.int p0), .val (.int p1), .val (.int p2), .val (.int p3), .val (.int la), .val (.int pc5), .val (.int lb), .val (.int shf), .val (.ref o108), .val (.ref o109), .val (.ref o111), .val (.int sel), .val (.ref o147), .val (.int (0 : Int32))] []))
                refine P165.xs (fun hA hx hy t k => XS.iconst hA hx rfl (hb hy at_237) k) ?_
                show Go p e below _ (T165.setTop (mkF m 238 #[.val (.int p0), .val (.int p1), .val (.int p2), .val (.int p3), .val (.int la), .val (.int pc5), .val (.int lb), .val (.int shf), .val (.ref o108), .val (.ref o109), .val (.ref o111), .val (.int sel), .val (.ref o147), .val (.int (0 : Int32))] [(.int (1 : Int32))]))
                refine P165.xs (fun hA hx hy t k => XS.goto hA hx rfl (pc0 := 238) (pc' := 242) rfl (hb hy at_238) (by decide) (by decide) k) ?_
                show Go p e below _ (T165.setTop (mkF m 242 #[.val (.int p0), .val (.int p1), .val (.int p2), .val (.int p3), .val (.int la), .val (.int pc5), .val (.int lb), .val (.int shf), .val (.ref o108), .val (.ref o109), .val (.ref o111), .val (.int sel), .val (.ref o147), .val (.int (0 : Int32))] [(.int (1 : Int32))]))
                exact P165.retN (t := .boolean) rfl (by simp) at_242 (by decide) (by decide) rfl

theorem hELof {Z : State} {a0 : Array Value} (hw : ∀ d ∈ tables_1, d.before a0 Z = true) : EW Z a0 EL0 := (EW.cons (hw _ (List.mem_of_getElem? (i := 45) rfl)) (by decide) (EW.cons (hw _ (List.mem_of_getElem? (i := 80) rfl)) (by decide) (EW.cons (hw _ (List.mem_of_getElem? (i := 35) rfl)) (by decide) EW.nil)))
set_option maxRecDepth 65536 in
set_option maxHeartbeats 40000000 in
theorem comes_1 {Post : Tables → Env → Array Value → State → Outcome → State → Prop} (hpost : ∀ tb e args s v u, (limb_1_1.after args s (.returned v) u = true ∧ limb_1_2.after args s (.returned v) u = true ∧ True) → ReturnedEndW s (.returned v) u (Jvm.fieldLocs frame_1_writes args s ++ Jvm.arrayLocs frame_1_arrays args s ++ Jvm.staticLocs frame_1_statics s) 32 3200 → Post tb e args s (.returned v) u) :
    ArmFor flags0 classFile x code maxLocals ret World_1 tables_1 room_1 Calls_1 rest_1 Pre_1 Post := by
  intro l hfl _ _ p e ha hc hk s m args below hf hA hF happ hP
  obtain ⟨hcalls, hrest, hpre⟩ := hP
  obtain ⟨-, -, -, hnamed, -, -, -, hat⟩ := (Spec.applies_iff hf).mp happ
  obtain ⟨hg, hn⟩ := and_e (Cond.before_iff.mp (show (Jvm.Cond.and given_1 narrow_1).before args s = true from hpre))
  obtain ⟨hcount, a0_⟩ := and_e hg
  obtain ⟨q0, a1_⟩ := and_e a0_
  obtain ⟨q1, a2_⟩ := and_e a1_
  obtain ⟨q2, a3_⟩ := and_e a2_
  have q3 := a3_
  obtain ⟨w0, w1, w2, w3, rfl⟩ : ∃ w0 w1 w2 w3 : Value, args = #[w0, w1, w2, w3] := by
    have hs : args.size = 4 := by simpa [Cond.value, given_1] using hcount
    obtain ⟨L⟩ := args
    match L, hs with
    | [w0, w1, w2, w3], _ => exact ⟨w0, w1, w2, w3, rfl⟩
  have hw := fun d (hd : d ∈ tables_1) => atoms_spec (ws := Jvm.Cond.code x code maxLocals ret :: tables_1) hat d (List.mem_cons_of_mem _ hd)
  obtain ⟨hsets, hown0⟩ := atoms_of _ (rest_1_c_eq ▸ (show rest_1_c.before _ s = true from hrest))
  have hfit : Fit s := fun {y c} hc i hi => by
    obtain ⟨ha, rfl⟩ := Array.getElem?_eq_some_iff.mp hc
    have q := List.all_eq_true.mp ((Array.all_eq_true_iff_forall_mem.mp hF) _ (Array.getElem_mem ha)) i (List.mem_range.mpr hi)
    simpa [Array.getElem?_eq_getElem hi] using q
  have n5 := not_v (Cond.before_iff.mp (hsets _ (List.mem_of_getElem? (i := 2) rfl)))
  obtain ⟨i0, e0⟩ := is_v q0
  obtain rfl : w0 = (.int i0) := Option.some.inj e0
  obtain ⟨i1, e1⟩ := is_v q1
  obtain rfl : w1 = (.int i1) := Option.some.inj e1
  obtain ⟨i2, e2⟩ := is_v q2
  obtain rfl : w2 = (.int i2) := Option.some.inj e2
  obtain ⟨i3, e3⟩ := is_v q3
  obtain rfl : w3 = (.int i3) := Option.some.inj e3
  obtain ⟨zc, ez⟩ := is_v (Cond.before_iff.mp (hsets _ (List.mem_of_getElem? (i := 1) rfl)))
  have S0 : Sta s s.heap "java/lang/String" "COMPACT_STRINGS" "Z" (.int zc) := Sta.start ez (Or.inl (hsets _ (List.mem_of_getElem? (i := 0) rfl)))
  have Pz : ¬ (zc = (0 : Int32)) := gotF (Cond.eq_ints ez (Term.int_eval (0))) n5
  obtain ⟨n, o, h1, h2, h3, _, L, rfl, ⟨N, K, O, hv⟩, -, hq⟩ := mLaw l s _ hw (hELof hw) zc S0 Pz i0 i1 i2 i3 s.heap ⟨Nat.le_refl _, fun _ _ q => q⟩  p e ha hc hk s m _ below hf ((Spec.applies_iff_loose hf).mp happ).1 ⟨rfl, State.Warmed39.refl s, rfl, (CHv.start (hELof hw) (fun p hp => hcalls.1 p hp) (hsets _ (List.mem_of_getElem? (i := 2) rfl)) (hw _ (List.mem_of_getElem? (i := 24) rfl)) (hw _ (List.mem_of_getElem? (i := 6) rfl)))⟩ trivial
  cases hv
  refine ⟨n, _, h1, h2, h3, hpost _ _ _ _ _ _ ⟨Cond.after_iff.mpr rfl, Cond.after_iff.mpr (eq_i res_at (Term.int_eval (1)) rfl), trivial⟩ ⟨hq.1, hq.2.1, hq.2.2.1, (hq.2.2.2.sift fun y hy => Or.inr (N y hy)).mono (by decide) (by decide)⟩⟩
theorem main_1_1 : Claimed_1_1 := comes_1 fun _ _ _ _ _ _ h hF => ⟨h.1, hF⟩
theorem main_1_2 : Claimed_1_2 := comes_1 fun _ _ _ _ _ _ h hF => ⟨h.2.1, hF⟩
end Jvm.Pilot.@@N@@
namespace Jvm.Pilot.@@N@@
open Jvm Jvm.ClassFile Sem Op Lib Jvm.Free Jvm.Stand Jvm.Pilot.@@N@@.Jvm.D
/-! MADE BY PROGRAM (witnessworld.py) out of the Statement's table words and the real class files: 23 classes; the members and pool entries that the words name. The judged class is class 1, her method 3. -/
namespace start1
open Jvm.ClassFile
def u (s : String) : CpInfo := .utf8 (stringToUtf16 s)
/-- a pool by its gaps: so many unusable entries, then the entry; so many at the end -/
def gap : Nat → List CpInfo → List CpInfo
  | 0, r => r
  | n + 1, r => .unusable :: gap n r
def poolList (es : List (Nat × CpInfo)) (last : Nat) : List CpInfo := es.foldr (fun e r => gap e.1 (e.2 :: r)) (gap last [])
def pool (es : List (Nat × CpInfo)) (last : Nat) : Array CpInfo := ⟨poolList es last⟩
def fileOf (pool : Array CpInfo) (this : Nat) (attrs : Array Attribute := #[]) (ms : Array MethodInfo := #[]) (fl : Nat := 33) (sup : Nat := 0) (ifs : Array Nat := #[]) (fds : Array FieldInfo := #[]) : ClassFile where
  minorVersion := 0
  majorVersion := 65
  constantPool := pool
  accessFlags := fl
  thisClass := this
  superClass := sup
  interfaces := ifs
  fields := fds
  methods := ms
  attributes := attrs
def plain (name : String) (sup : Option ClassId) : Class where
  name := name
  kind := .ordinary
  loader := none
  accessFlags := 33
  super := sup
  interfaces := #[]
  cf := none
  fields := #[]
  methods := #[]
  instanceTypes := #[]
  staticTypes := #[]
  resolved := #[]
  callSites := []
  init := .initialized
  statics := none
  mirror := none

def pool0 : Array CpInfo := pool [(5, u "<init>"), (0, u "()V"), (1, .class_ 10), (1, u "java/lang/Object")] 113

def k0c0 : Code := { maxStack := 0, maxLocals := 1, code := object_method_1_code, exceptionTable := #[], attributes := #[] }
def k0m0 : Method := { name := "<init>", desc := "()V", sig := { parameters := [], returnType := none }, accessFlags := 1, code := some k0c0 }
/-- java/lang/Object -/
def k0 : Class := { plain "java/lang/Object" none with
  accessFlags := 33
  interfaces := #[]
  cf := some (fileOf pool0 8 #[] #[{ accessFlags := 1, nameIndex := 5, descriptorIndex := 6, attributes := #[] }] 33 0 #[] #[])
  fields := #[]
  methods := #[k0m0]
  instanceTypes := #[]
  staticTypes := #[]
  resolved := Array.replicate 124 none
  statics := none }

def pool1 : Array CpInfo := pool [(2, .class_ 4), (1, u "java/lang/Object"), (0, u "<init>"), (0, u "()V"), (0, .class_ 8), (0, u "java/lang/String"), (0, .methodref 7 10), (0, .nameAndType 5 11), (0, u "([C)V"), (0, .integer 2147483647), (0, .methodref 14 15), (0, .class_ 16), (0, .nameAndType 17 18), (0, u "com/example/qrew/qrew/logic/ConstantEqualsPinLaw"), (0, u "str"), (0, u "(II)Ljava/lang/String;"), (0, .class_ 20), (0, u "com/example/qrew/qrew/logic/Constant"), (0, .methodref 19 22), (0, .nameAndType 5 23), (0, u "(Ljava/lang/String;)V"), (0, .class_ 25), (0, u "com/example/qrew/qrew/logic/Variable"), (0, .methodref 24 22), (0, .methodref 19 28), (0, .nameAndType 29 30), (0, u "equals"), (0, u "(Ljava/lang/Object;)Z"), (0, .methodref 14 32), (0, .nameAndType 33 34), (0, u "sameText"), (0, u "(IIII)Z"), (3, u "law")] 2

def k1m0 : Method := { name := "<init>", desc := "()V", sig := { parameters := [], returnType := none }, accessFlags := 1, code := none }
def k1c1 : Code := { maxStack := 6, maxLocals := 5, code := method_2_code, exceptionTable := #[], attributes := #[] }
def k1m1 : Method := { name := "str", desc := "(II)Ljava/lang/String;", sig := { parameters := [.int, .int], returnType := some (.object "java/lang/String") }, accessFlags := 10, code := some k1c1 }
def k1c2 : Code := { maxStack := 3, maxLocals := 4, code := method_3_code, exceptionTable := #[], attributes := #[] }
def k1m2 : Method := { name := "sameText", desc := "(IIII)Z", sig := { parameters := [.int, .int, .int, .int], returnType := some .boolean }, accessFlags := 10, code := some k1c2 }
def k1c3 : Code := { maxStack := 4, maxLocals := 14, code := code, exceptionTable := #[], attributes := #[] }
def k1m3 : Method := { name := "law", desc := "(IIII)Z", sig := { parameters := [.int, .int, .int, .int], returnType := some .boolean }, accessFlags := 9, code := some k1c3 }
/-- com/example/qrew/qrew/logic/ConstantEqualsPinLaw -/
def k1 : Class := { plain "com/example/qrew/qrew/logic/ConstantEqualsPinLaw" (some 0) with
  accessFlags := 49
  interfaces := #[]
  cf := some (fileOf pool1 14 #[] #[{ accessFlags := 1, nameIndex := 5, descriptorIndex := 6, attributes := #[] }, { accessFlags := 10, nameIndex := 17, descriptorIndex := 18, attributes := #[] }, { accessFlags := 10, nameIndex := 33, descriptorIndex := 34, attributes := #[] }, { accessFlags := 9, nameIndex := 38, descriptorIndex := 34, attributes := #[] }] 49 2 #[] #[])
  fields := #[]
  methods := #[k1m0, k1m1, k1m2, k1m3]
  instanceTypes := #[]
  staticTypes := #[]
  resolved := Array.replicate 41 none
  statics := none }

def pool2 : Array CpInfo := pool [(1, .class_ 2), (0, u "java/io/Serializable"), (0, .class_ 4), (0, u "java/lang/Object")] 2

/-- java/io/Serializable -/
def k2 : Class := { plain "java/io/Serializable" (some 0) with
  accessFlags := 1537
  interfaces := #[]
  cf := some (fileOf pool2 1 #[] #[] 1537 3 #[] #[])
  fields := #[]
  methods := #[]
  instanceTypes := #[]
  staticTypes := #[]
  resolved := Array.replicate 7 none
  statics := none }

def pool3 : Array CpInfo := pool [(1, .class_ 2), (0, u "java/lang/Comparable"), (0, .class_ 4), (0, u "java/lang/Object")] 7

/-- java/lang/Comparable -/
def k3 : Class := { plain "java/lang/Comparable" (some 0) with
  accessFlags := 1537
  interfaces := #[]
  cf := some (fileOf pool3 1 #[] #[] 1537 3 #[] #[])
  fields := #[]
  methods := #[]
  instanceTypes := #[]
  staticTypes := #[]
  resolved := Array.replicate 12 none
  statics := none }

def pool4 : Array CpInfo := pool [(2, .class_ 4), (1, u "java/lang/CharSequence"), (42, .class_ 48), (0, u "java/lang/CharSequence$1CodePointIterator"), (10, .class_ 60), (0, u "java/lang/CharSequence$1CharIterator"), (5, .class_ 67), (0, u "java/lang/Object")] 63

/-- java/lang/CharSequence -/
def k4 : Class := { plain "java/lang/CharSequence" (some 0) with
  accessFlags := 1537
  interfaces := #[]
  cf := some (fileOf pool4 2 #[.nestMembers #[47, 59]] #[] 1537 66 #[] #[])
  fields := #[]
  methods := #[]
  instanceTypes := #[]
  staticTypes := #[]
  resolved := Array.replicate 131 none
  statics := none }

def pool5 : Array CpInfo := pool [(1, .class_ 2), (0, u "java/lang/constant/Constable"), (0, .class_ 4), (0, u "java/lang/Object")] 6

/-- java/lang/constant/Constable -/
def k5 : Class := { plain "java/lang/constant/Constable" (some 0) with
  accessFlags := 1537
  interfaces := #[]
  cf := some (fileOf pool5 1 #[] #[] 1537 3 #[] #[])
  fields := #[]
  methods := #[]
  instanceTypes := #[]
  staticTypes := #[]
  resolved := Array.replicate 11 none
  statics := none }

def pool6 : Array CpInfo := pool [(1, .class_ 2), (0, u "java/lang/constant/ConstantDesc"), (0, .class_ 4), (0, u "java/lang/Object")] 32

/-- java/lang/constant/ConstantDesc -/
def k6 : Class := { plain "java/lang/constant/ConstantDesc" (some 0) with
  accessFlags := 1537
  interfaces := #[]
  cf := some (fileOf pool6 1 #[] #[] 1537 3 #[] #[])
  fields := #[]
  methods := #[]
  instanceTypes := #[]
  staticTypes := #[]
  resolved := Array.replicate 37 none
  statics := none }

def pool7 : Array CpInfo := pool [(1, .methodref 2 3), (0, .class_ 4), (0, .nameAndType 5 6), (0, u "java/lang/Object"), (0, u "<init>"), (0, u "()V"), (0, .string 8), (0, u ""), (0, .fieldref 10 11), (0, .class_ 12), (0, .nameAndType 13 14), (0, u "java/lang/String"), (0, u "value"), (0, u "[B"), (0, .fieldref 10 16), (0, .nameAndType 17 18), (0, u "coder"), (0, u "B"), (2, u "hash"), (0, u "I"), (2, u "hashIsZero"), (0, u "Z"), (0, .methodref 10 28), (0, .nameAndType 5 29), (0, u "([CIILjava/lang/Void;)V"), (8, .fieldref 10 39), (0, .nameAndType 40 26), (0, u "COMPACT_STRINGS"), (1, .class_ 44), (1, u "java/lang/StringUTF16"), (0, u "compress"), (1, .methodref 42 48), (0, .nameAndType 49 50), (0, u "coderFromArrayLen"), (0, u "([BI)B"), (56, .class_ 109), (1, u "java/lang/StringLatin1"), (67, .methodref 42 178), (0, .nameAndType 45 179), (0, u "([CII)[B"), (361, .methodref 107 542), (0, .nameAndType 543 544), (0, u "equals"), (0, u "([B[B)Z"), (28, u "(Ljava/lang/Object;)Z"), (1, .class_ 576), (0, u "java/lang/CharSequence"), (22, u "CASE_INSENSITIVE_ORDER"), (0, u "Ljava/util/Comparator;"), (409, u "([C)V"), (90, u "serialPersistentFields"), (0, u "[Ljava/io/ObjectStreamField;"), (0, .class_ 1104), (0, u "java/lang/String$CaseInsensitiveComparator"), (1, .class_ 1107), (0, u "java/io/Serializable"), (0, .class_ 1109), (0, u "java/lang/Comparable"), (0, .class_ 1111), (0, u "java/lang/constant/Constable"), (0, .class_ 1113), (0, u "java/lang/constant/ConstantDesc"), (2, u "serialVersionUID"), (0, u "J"), (3, u "REPL"), (0, u "C"), (2, u "LATIN1"), (1, u "UTF16")] 323

def k7m0 : Method := { name := "<init>", desc := "()V", sig := { parameters := [], returnType := none }, accessFlags := 1, code := none }
def k7c1 : Code := { maxStack := 5, maxLocals := 2, code := jdk_42_method_3_code, exceptionTable := #[], attributes := #[] }
def k7m1 : Method := { name := "<init>", desc := "([C)V", sig := { parameters := [(.array .char)], returnType := none }, accessFlags := 1, code := some k7c1 }
def k7c2 : Code := { maxStack := 2, maxLocals := 3, code := jdk_42_method_66_code, exceptionTable := #[], attributes := #[] }
def k7m2 : Method := { name := "equals", desc := "(Ljava/lang/Object;)Z", sig := { parameters := [(.object "java/lang/Object")], returnType := some .boolean }, accessFlags := 1, code := some k7c2 }
def k7c3 : Code := { maxStack := 4, maxLocals := 6, code := jdk_42_method_149_code, exceptionTable := #[], attributes := #[] }
def k7m3 : Method := { name := "<init>", desc := "([CIILjava/lang/Void;)V", sig := { parameters := [(.array .char), .int, .int, (.object "java/lang/Void")], returnType := none }, accessFlags := 2, code := some k7c3 }
/-- java/lang/String -/
def k7 : Class := { plain "java/lang/String" (some 0) with
  accessFlags := 49
  interfaces := #[2, 3, 4, 5, 6]
  cf := some (fileOf pool7 10 #[.nestMembers #[1103]] #[{ accessFlags := 1, nameIndex := 5, descriptorIndex := 6, attributes := #[] }, { accessFlags := 1, nameIndex := 5, descriptorIndex := 1010, attributes := #[] }, { accessFlags := 1, nameIndex := 543, descriptorIndex := 573, attributes := #[] }, { accessFlags := 2, nameIndex := 5, descriptorIndex := 29, attributes := #[] }] 49 2 #[1106, 1108, 575, 1110, 1112] #[{ accessFlags := 18, nameIndex := 13, descriptorIndex := 14, attributes := #[] }, { accessFlags := 18, nameIndex := 17, descriptorIndex := 18, attributes := #[] }, { accessFlags := 2, nameIndex := 21, descriptorIndex := 22, attributes := #[] }, { accessFlags := 2, nameIndex := 25, descriptorIndex := 26, attributes := #[] }, { accessFlags := 26, nameIndex := 1116, descriptorIndex := 1117, attributes := #[] }, { accessFlags := 24, nameIndex := 40, descriptorIndex := 26, attributes := #[] }, { accessFlags := 26, nameIndex := 1101, descriptorIndex := 1102, attributes := #[] }, { accessFlags := 26, nameIndex := 1121, descriptorIndex := 1122, attributes := #[] }, { accessFlags := 25, nameIndex := 599, descriptorIndex := 600, attributes := #[] }, { accessFlags := 24, nameIndex := 1125, descriptorIndex := 18, attributes := #[] }, { accessFlags := 24, nameIndex := 1127, descriptorIndex := 18, attributes := #[] }])
  fields := #[{ name := "value", type := (.array .byte), accessFlags := 18, slot := 0, constantValue := 0 }, { name := "coder", type := .byte, accessFlags := 18, slot := 1, constantValue := 0 }, { name := "hash", type := .int, accessFlags := 2, slot := 2, constantValue := 0 }, { name := "hashIsZero", type := .boolean, accessFlags := 2, slot := 3, constantValue := 0 }, { name := "serialVersionUID", type := .long, accessFlags := 26, slot := 0, constantValue := 0 }, { name := "COMPACT_STRINGS", type := .boolean, accessFlags := 24, slot := 1, constantValue := 0 }, { name := "serialPersistentFields", type := (.array (.object "java/io/ObjectStreamField")), accessFlags := 26, slot := 2, constantValue := 0 }, { name := "REPL", type := .char, accessFlags := 26, slot := 3, constantValue := 0 }, { name := "CASE_INSENSITIVE_ORDER", type := (.object "java/util/Comparator"), accessFlags := 25, slot := 4, constantValue := 0 }, { name := "LATIN1", type := .byte, accessFlags := 24, slot := 5, constantValue := 0 }, { name := "UTF16", type := .byte, accessFlags := 24, slot := 6, constantValue := 0 }]
  methods := #[k7m0, k7m1, k7m2, k7m3]
  instanceTypes := #[(.array .byte), .byte, .int, .boolean]
  staticTypes := #[.long, .boolean, (.array (.object "java/io/ObjectStreamField")), .char, (.object "java/util/Comparator"), .byte, .byte]
  resolved := Array.replicate 1451 none
  statics := some 0 }

def pool8 : Array CpInfo := pool [(6, .class_ 8), (1, u "java/lang/Object"), (0, u "<init>"), (0, u "()V"), (1, .class_ 14), (1, u "java/lang/StringUTF16"), (31, u "$assertionsDisabled"), (0, u "Z"), (13, u "HI_BYTE_SHIFT"), (0, u "I"), (2, u "LO_BYTE_SHIFT"), (49, .methodref 12 116), (0, .nameAndType 117 118), (0, u "compress"), (0, u "([CI[BII)I"), (3, u "([CII)[B"), (138, u "coderFromArrayLen"), (0, u "([BI)B"), (106, .class_ 371), (1, u "java/lang/StringUTF16$LinesSpliterator"), (58, u "MAX_LENGTH"), (196, .class_ 628), (0, u "java/lang/StringUTF16$CodePointsSpliterator"), (0, .class_ 630), (0, u "java/lang/StringUTF16$CharsSpliterator")] 4

def k8m0 : Method := { name := "<init>", desc := "()V", sig := { parameters := [], returnType := none }, accessFlags := 0, code := none }
def k8c1 : Code := { maxStack := 2, maxLocals := 2, code := jdk_52_method_15_code, exceptionTable := #[], attributes := #[] }
def k8m1 : Method := { name := "coderFromArrayLen", desc := "([BI)B", sig := { parameters := [(.array .byte), .int], returnType := some .byte }, accessFlags := 8, code := some k8c1 }
def k8c2 : Code := { maxStack := 5, maxLocals := 6, code := jdk_52_method_16_code, exceptionTable := #[], attributes := #[] }
def k8m2 : Method := { name := "compress", desc := "([CII)[B", sig := { parameters := [(.array .char), .int, .int], returnType := some (.array .byte) }, accessFlags := 9, code := some k8c2 }
def k8c3 : Code := { maxStack := 3, maxLocals := 7, code := jdk_52_method_21_code, exceptionTable := #[], attributes := #[] }
def k8m3 : Method := { name := "compress", desc := "([CI[BII)I", sig := { parameters := [(.array .char), .int, (.array .byte), .int, .int], returnType := some .int }, accessFlags := 9, code := some k8c3 }
/-- java/lang/StringUTF16 -/
def k8 : Class := { plain "java/lang/StringUTF16" (some 0) with
  accessFlags := 48
  interfaces := #[]
  cf := some (fileOf pool8 12 #[.nestMembers #[627, 629, 369]] #[{ accessFlags := 0, nameIndex := 9, descriptorIndex := 10, attributes := #[] }, { accessFlags := 8, nameIndex := 261, descriptorIndex := 262, attributes := #[] }, { accessFlags := 9, nameIndex := 117, descriptorIndex := 122, attributes := #[] }, { accessFlags := 9, nameIndex := 117, descriptorIndex := 118, attributes := #[] }] 48 6 #[] #[{ accessFlags := 26, nameIndex := 61, descriptorIndex := 62, attributes := #[] }, { accessFlags := 26, nameIndex := 65, descriptorIndex := 62, attributes := #[] }, { accessFlags := 24, nameIndex := 430, descriptorIndex := 62, attributes := #[] }, { accessFlags := 4120, nameIndex := 46, descriptorIndex := 47, attributes := #[] }])
  fields := #[{ name := "HI_BYTE_SHIFT", type := .int, accessFlags := 26, slot := 0, constantValue := 0 }, { name := "LO_BYTE_SHIFT", type := .int, accessFlags := 26, slot := 1, constantValue := 0 }, { name := "MAX_LENGTH", type := .int, accessFlags := 24, slot := 2, constantValue := 0 }, { name := "$assertionsDisabled", type := .boolean, accessFlags := 4120, slot := 3, constantValue := 0 }]
  methods := #[k8m0, k8m1, k8m2, k8m3]
  instanceTypes := #[]
  staticTypes := #[.int, .int, .int, .boolean]
  resolved := Array.replicate 635 none
  statics := none }

def pool9 : Array CpInfo := pool [(1, .class_ 2), (0, u "com/example/qrew/qrew/logic/Term"), (0, .class_ 4), (0, u "java/lang/Object")] 7

/-- com/example/qrew/qrew/logic/Term -/
def k9 : Class := { plain "com/example/qrew/qrew/logic/Term" (some 0) with
  accessFlags := 1537
  interfaces := #[]
  cf := some (fileOf pool9 1 #[] #[] 1537 3 #[] #[])
  fields := #[]
  methods := #[]
  instanceTypes := #[]
  staticTypes := #[]
  resolved := Array.replicate 12 none
  statics := none }

def pool10 : Array CpInfo := pool [(1, .methodref 2 3), (0, .class_ 4), (0, .nameAndType 5 6), (0, u "java/lang/Object"), (0, u "<init>"), (0, u "()V"), (0, .string 8), (0, u "text"), (0, .methodref 10 11), (0, .class_ 12), (0, .nameAndType 13 14), (0, u "java/util/Objects"), (0, u "requireNonNull"), (0, u "(Ljava/lang/Object;Ljava/lang/String;)Ljava/lang/Object;"), (0, .class_ 16), (0, u "java/lang/String"), (0, .fieldref 18 19), (0, .class_ 20), (0, .nameAndType 8 21), (0, u "com/example/qrew/qrew/logic/Constant"), (0, u "Ljava/lang/String;"), (0, .methodref 15 23), (0, .nameAndType 24 25), (0, u "equals"), (0, u "(Ljava/lang/Object;)Z"), (20, .class_ 47), (0, u "com/example/qrew/qrew/logic/Term"), (0, u "(Ljava/lang/String;)V")] 8

def k10c0 : Code := { maxStack := 3, maxLocals := 2, code := prog_13_method_1_code, exceptionTable := #[], attributes := #[] }
def k10m0 : Method := { name := "<init>", desc := "(Ljava/lang/String;)V", sig := { parameters := [(.object "java/lang/String")], returnType := none }, accessFlags := 1, code := some k10c0 }
def k10c1 : Code := { maxStack := 2, maxLocals := 3, code := prog_13_method_3_code, exceptionTable := #[], attributes := #[] }
def k10m1 : Method := { name := "equals", desc := "(Ljava/lang/Object;)Z", sig := { parameters := [(.object "java/lang/Object")], returnType := some .boolean }, accessFlags := 1, code := some k10c1 }
/-- com/example/qrew/qrew/logic/Constant -/
def k10 : Class := { plain "com/example/qrew/qrew/logic/Constant" (some 0) with
  accessFlags := 49
  interfaces := #[9]
  cf := some (fileOf pool10 18 #[] #[{ accessFlags := 1, nameIndex := 5, descriptorIndex := 48, attributes := #[] }, { accessFlags := 1, nameIndex := 24, descriptorIndex := 25, attributes := #[] }] 49 2 #[46] #[{ accessFlags := 18, nameIndex := 8, descriptorIndex := 21, attributes := #[] }])
  fields := #[{ name := "text", type := (.object "java/lang/String"), accessFlags := 18, slot := 0, constantValue := 0 }]
  methods := #[k10m0, k10m1]
  instanceTypes := #[(.object "java/lang/String")]
  staticTypes := #[]
  resolved := Array.replicate 57 none
  statics := none }

def pool11 : Array CpInfo := pool [(2, .class_ 4), (1, u "java/lang/Object"), (0, u "<init>"), (0, u "()V"), (35, .class_ 44), (1, u "java/util/Objects"), (0, u "requireNonNull"), (48, u "(Ljava/lang/Object;Ljava/lang/String;)Ljava/lang/Object;")] 89

def k11m0 : Method := { name := "<init>", desc := "()V", sig := { parameters := [], returnType := none }, accessFlags := 2, code := none }
def k11c1 : Code := { maxStack := 3, maxLocals := 2, code := jdk_31_method_11_code, exceptionTable := #[], attributes := #[] }
def k11m1 : Method := { name := "requireNonNull", desc := "(Ljava/lang/Object;Ljava/lang/String;)Ljava/lang/Object;", sig := { parameters := [(.object "java/lang/Object"), (.object "java/lang/String")], returnType := some (.object "java/lang/Object") }, accessFlags := 9, code := some k11c1 }
/-- java/util/Objects -/
def k11 : Class := { plain "java/util/Objects" (some 0) with
  accessFlags := 49
  interfaces := #[]
  cf := some (fileOf pool11 42 #[] #[{ accessFlags := 2, nameIndex := 5, descriptorIndex := 6, attributes := #[] }, { accessFlags := 9, nameIndex := 45, descriptorIndex := 94, attributes := #[] }] 49 2 #[] #[])
  fields := #[]
  methods := #[k11m0, k11m1]
  instanceTypes := #[]
  staticTypes := #[]
  resolved := Array.replicate 184 none
  statics := none }

def pool12 : Array CpInfo := pool [(4, .class_ 6), (1, u "java/lang/Object"), (0, u "<init>"), (0, u "()V"), (5, .class_ 16), (1, u "java/lang/StringLatin1"), (104, u "$assertionsDisabled"), (0, u "Z"), (98, .class_ 223), (1, u "java/lang/StringLatin1$LinesSpliterator"), (57, u "equals"), (0, u "([B[B)Z"), (107, .class_ 391), (0, u "java/lang/StringLatin1$CharsSpliterator")] 3

def k12m0 : Method := { name := "<init>", desc := "()V", sig := { parameters := [], returnType := none }, accessFlags := 0, code := none }
def k12c1 : Code := { maxStack := 3, maxLocals := 3, code := jdk_43_method_13_code, exceptionTable := #[], attributes := #[] }
def k12m1 : Method := { name := "equals", desc := "([B[B)Z", sig := { parameters := [(.array .byte), (.array .byte)], returnType := some .boolean }, accessFlags := 9, code := some k12c1 }
/-- java/lang/StringLatin1 -/
def k12 : Class := { plain "java/lang/StringLatin1" (some 0) with
  accessFlags := 48
  interfaces := #[]
  cf := some (fileOf pool12 14 #[.nestMembers #[390, 221]] #[{ accessFlags := 0, nameIndex := 7, descriptorIndex := 8, attributes := #[] }, { accessFlags := 9, nameIndex := 281, descriptorIndex := 282, attributes := #[] }] 48 4 #[] #[{ accessFlags := 4120, nameIndex := 121, descriptorIndex := 122, attributes := #[] }])
  fields := #[{ name := "$assertionsDisabled", type := .boolean, accessFlags := 4120, slot := 0, constantValue := 0 }]
  methods := #[k12m0, k12m1]
  instanceTypes := #[]
  staticTypes := #[.boolean]
  resolved := Array.replicate 395 none
  statics := none }

def pool13 : Array CpInfo := pool [(1, .methodref 2 3), (0, .class_ 4), (0, .nameAndType 5 6), (0, u "java/lang/Object"), (0, u "<init>"), (0, u "()V"), (0, .string 8), (0, u "name"), (0, .methodref 10 11), (0, .class_ 12), (0, .nameAndType 13 14), (0, u "java/util/Objects"), (0, u "requireNonNull"), (0, u "(Ljava/lang/Object;Ljava/lang/String;)Ljava/lang/Object;"), (0, .class_ 16), (0, u "java/lang/String"), (0, .fieldref 18 19), (0, .class_ 20), (0, .nameAndType 8 21), (0, u "com/example/qrew/qrew/logic/Variable"), (0, u "Ljava/lang/String;"), (0, .class_ 23), (0, u "com/example/qrew/qrew/logic/Term"), (0, u "(Ljava/lang/String;)V")] 7

def k13c0 : Code := { maxStack := 3, maxLocals := 2, code := prog_26_method_1_code, exceptionTable := #[], attributes := #[] }
def k13m0 : Method := { name := "<init>", desc := "(Ljava/lang/String;)V", sig := { parameters := [(.object "java/lang/String")], returnType := none }, accessFlags := 1, code := some k13c0 }
/-- com/example/qrew/qrew/logic/Variable -/
def k13 : Class := { plain "com/example/qrew/qrew/logic/Variable" (some 0) with
  accessFlags := 49
  interfaces := #[9]
  cf := some (fileOf pool13 18 #[] #[{ accessFlags := 1, nameIndex := 5, descriptorIndex := 24, attributes := #[] }] 49 2 #[22] #[{ accessFlags := 18, nameIndex := 8, descriptorIndex := 21, attributes := #[] }])
  fields := #[{ name := "name", type := (.object "java/lang/String"), accessFlags := 18, slot := 0, constantValue := 0 }]
  methods := #[k13m0]
  instanceTypes := #[(.object "java/lang/String")]
  staticTypes := #[]
  resolved := Array.replicate 32 none
  statics := none }

def pool14 : Array CpInfo := pool [(2, .class_ 4), (1, u "java/lang/Object"), (0, u "<init>"), (0, u "()V"), (17, .class_ 26), (1, u "jdk/internal/util/Preconditions"), (28, .class_ 56), (0, u "jdk/internal/util/Preconditions$4"), (57, .class_ 115), (0, u "jdk/internal/util/Preconditions$1"), (7, u "SIOOBE_FORMATTER"), (0, u "Ljava/util/function/BiFunction;"), (0, .class_ 126), (0, u "jdk/internal/util/Preconditions$2"), (3, u "AIOOBE_FORMATTER"), (0, .class_ 132), (0, u "jdk/internal/util/Preconditions$3"), (3, u "IOOBE_FORMATTER")] 57

def k14m0 : Method := { name := "<init>", desc := "()V", sig := { parameters := [], returnType := none }, accessFlags := 1, code := none }
/-- jdk/internal/util/Preconditions -/
def k14 : Class := { plain "jdk/internal/util/Preconditions" (some 0) with
  accessFlags := 33
  interfaces := #[]
  cf := some (fileOf pool14 24 #[.nestMembers #[55, 131, 125, 114]] #[{ accessFlags := 1, nameIndex := 5, descriptorIndex := 6, attributes := #[] }] 33 2 #[] #[{ accessFlags := 25, nameIndex := 123, descriptorIndex := 124, attributes := #[] }, { accessFlags := 25, nameIndex := 130, descriptorIndex := 124, attributes := #[] }, { accessFlags := 25, nameIndex := 136, descriptorIndex := 124, attributes := #[] }])
  fields := #[{ name := "SIOOBE_FORMATTER", type := (.object "java/util/function/BiFunction"), accessFlags := 25, slot := 0, constantValue := 0 }, { name := "AIOOBE_FORMATTER", type := (.object "java/util/function/BiFunction"), accessFlags := 25, slot := 1, constantValue := 0 }, { name := "IOOBE_FORMATTER", type := (.object "java/util/function/BiFunction"), accessFlags := 25, slot := 2, constantValue := 0 }]
  methods := #[k14m0]
  instanceTypes := #[]
  staticTypes := #[(.object "java/util/function/BiFunction"), (.object "java/util/function/BiFunction"), (.object "java/util/function/BiFunction")]
  resolved := Array.replicate 194 none
  statics := some 1 }

def pool15 : Array CpInfo := pool [(9, u "<init>"), (6, .class_ 18), (1, u "java/lang/Object"), (0, u "()V"), (1, .class_ 23), (1, u "jdk/internal/util/ArraysSupport"), (0, u "LOG2_ARRAY_LONG_INDEX_SCALE"), (0, u "I"), (2, u "U"), (0, u "Ljdk/internal/misc/Unsafe;"), (8, u "BIG_ENDIAN"), (0, u "Z"), (8, u "LOG2_BYTE_BIT_SIZE"), (4, u "LOG2_ARRAY_INT_INDEX_SCALE"), (54, u "JLA"), (0, u "Ljdk/internal/access/JavaLangAccess;"), (11, u "LOG2_ARRAY_BOOLEAN_INDEX_SCALE"), (9, u "LOG2_ARRAY_BYTE_INDEX_SCALE"), (5, u "LOG2_ARRAY_CHAR_INDEX_SCALE"), (5, u "LOG2_ARRAY_SHORT_INDEX_SCALE"), (18, u "LOG2_ARRAY_FLOAT_INDEX_SCALE"), (24, u "LOG2_ARRAY_DOUBLE_INDEX_SCALE"), (89, u "T_BOOLEAN"), (2, u "T_CHAR"), (1, u "T_FLOAT"), (1, u "T_DOUBLE"), (1, u "T_BYTE"), (1, u "T_SHORT"), (1, u "T_INT"), (1, u "T_LONG"), (1, u "SOFT_MAX_ARRAY_LENGTH")] 83

def k15m0 : Method := { name := "<init>", desc := "()V", sig := { parameters := [], returnType := none }, accessFlags := 2, code := none }
/-- jdk/internal/util/ArraysSupport -/
def k15 : Class := { plain "jdk/internal/util/ArraysSupport" (some 0) with
  accessFlags := 33
  interfaces := #[]
  cf := some (fileOf pool15 21 #[] #[{ accessFlags := 2, nameIndex := 9, descriptorIndex := 19, attributes := #[] }] 33 16 #[] #[{ accessFlags := 24, nameIndex := 28, descriptorIndex := 29, attributes := #[] }, { accessFlags := 26, nameIndex := 38, descriptorIndex := 39, attributes := #[] }, { accessFlags := 25, nameIndex := 121, descriptorIndex := 25, attributes := #[] }, { accessFlags := 25, nameIndex := 131, descriptorIndex := 25, attributes := #[] }, { accessFlags := 25, nameIndex := 137, descriptorIndex := 25, attributes := #[] }, { accessFlags := 25, nameIndex := 143, descriptorIndex := 25, attributes := #[] }, { accessFlags := 25, nameIndex := 53, descriptorIndex := 25, attributes := #[] }, { accessFlags := 25, nameIndex := 24, descriptorIndex := 25, attributes := #[] }, { accessFlags := 25, nameIndex := 162, descriptorIndex := 25, attributes := #[] }, { accessFlags := 25, nameIndex := 187, descriptorIndex := 25, attributes := #[] }, { accessFlags := 26, nameIndex := 48, descriptorIndex := 25, attributes := #[] }, { accessFlags := 25, nameIndex := 277, descriptorIndex := 25, attributes := #[] }, { accessFlags := 25, nameIndex := 280, descriptorIndex := 25, attributes := #[] }, { accessFlags := 25, nameIndex := 282, descriptorIndex := 25, attributes := #[] }, { accessFlags := 25, nameIndex := 284, descriptorIndex := 25, attributes := #[] }, { accessFlags := 25, nameIndex := 286, descriptorIndex := 25, attributes := #[] }, { accessFlags := 25, nameIndex := 288, descriptorIndex := 25, attributes := #[] }, { accessFlags := 25, nameIndex := 290, descriptorIndex := 25, attributes := #[] }, { accessFlags := 25, nameIndex := 292, descriptorIndex := 25, attributes := #[] }, { accessFlags := 26, nameIndex := 108, descriptorIndex := 109, attributes := #[] }, { accessFlags := 25, nameIndex := 294, descriptorIndex := 25, attributes := #[] }])
  fields := #[{ name := "U", type := (.object "jdk/internal/misc/Unsafe"), accessFlags := 24, slot := 0, constantValue := 0 }, { name := "BIG_ENDIAN", type := .boolean, accessFlags := 26, slot := 1, constantValue := 0 }, { name := "LOG2_ARRAY_BOOLEAN_INDEX_SCALE", type := .int, accessFlags := 25, slot := 2, constantValue := 0 }, { name := "LOG2_ARRAY_BYTE_INDEX_SCALE", type := .int, accessFlags := 25, slot := 3, constantValue := 0 }, { name := "LOG2_ARRAY_CHAR_INDEX_SCALE", type := .int, accessFlags := 25, slot := 4, constantValue := 0 }, { name := "LOG2_ARRAY_SHORT_INDEX_SCALE", type := .int, accessFlags := 25, slot := 5, constantValue := 0 }, { name := "LOG2_ARRAY_INT_INDEX_SCALE", type := .int, accessFlags := 25, slot := 6, constantValue := 0 }, { name := "LOG2_ARRAY_LONG_INDEX_SCALE", type := .int, accessFlags := 25, slot := 7, constantValue := 0 }, { name := "LOG2_ARRAY_FLOAT_INDEX_SCALE", type := .int, accessFlags := 25, slot := 8, constantValue := 0 }, { name := "LOG2_ARRAY_DOUBLE_INDEX_SCALE", type := .int, accessFlags := 25, slot := 9, constantValue := 0 }, { name := "LOG2_BYTE_BIT_SIZE", type := .int, accessFlags := 26, slot := 10, constantValue := 0 }, { name := "T_BOOLEAN", type := .int, accessFlags := 25, slot := 11, constantValue := 0 }, { name := "T_CHAR", type := .int, accessFlags := 25, slot := 12, constantValue := 0 }, { name := "T_FLOAT", type := .int, accessFlags := 25, slot := 13, constantValue := 0 }, { name := "T_DOUBLE", type := .int, accessFlags := 25, slot := 14, constantValue := 0 }, { name := "T_BYTE", type := .int, accessFlags := 25, slot := 15, constantValue := 0 }, { name := "T_SHORT", type := .int, accessFlags := 25, slot := 16, constantValue := 0 }, { name := "T_INT", type := .int, accessFlags := 25, slot := 17, constantValue := 0 }, { name := "T_LONG", type := .int, accessFlags := 25, slot := 18, constantValue := 0 }, { name := "JLA", type := (.object "jdk/internal/access/JavaLangAccess"), accessFlags := 26, slot := 19, constantValue := 0 }, { name := "SOFT_MAX_ARRAY_LENGTH", type := .int, accessFlags := 25, slot := 20, constantValue := 0 }]
  methods := #[k15m0]
  instanceTypes := #[]
  staticTypes := #[(.object "jdk/internal/misc/Unsafe"), .boolean, .int, .int, .int, .int, .int, .int, .int, .int, .int, .int, .int, .int, .int, .int, .int, .int, .int, (.object "jdk/internal/access/JavaLangAccess"), .int]
  resolved := Array.replicate 378 none
  statics := none }

def pool16 : Array CpInfo := pool [(1, u "java/lang/Cloneable"), (0, .class_ 1), (0, u "java/lang/Object"), (0, .class_ 3)] 3

/-- java/lang/Cloneable -/
def k16 : Class := { plain "java/lang/Cloneable" (some 0) with
  accessFlags := 1537
  interfaces := #[]
  cf := some (fileOf pool16 2 #[] #[] 1537 4 #[] #[])
  fields := #[]
  methods := #[]
  instanceTypes := #[]
  staticTypes := #[]
  resolved := Array.replicate 8 none
  statics := none }

/-- the primitive byte -/
def k17 : Class := { plain "byte" none with kind := .primitive 'B', accessFlags := 0x411 }
/-- [B -/
def k18 : Class := { plain "[B" (some 0) with kind := .array 17 .byte, interfaces := #[16, 2], accessFlags := 1041 }

/-- the primitive char -/
def k19 : Class := { plain "char" none with kind := .primitive 'C', accessFlags := 0x411 }
/-- [C -/
def k20 : Class := { plain "[C" (some 0) with kind := .array 19 .char, interfaces := #[16, 2], accessFlags := 1041 }

/-- the primitive int -/
def k21 : Class := { plain "int" none with kind := .primitive 'I', accessFlags := 0x411 }
/-- [I -/
def k22 : Class := { plain "[I" (some 0) with kind := .array 21 .int, interfaces := #[16, 2], accessFlags := 1041 }

def heap : Heap := #[{ cls := 7, slots := #[.long 0, .int 1, .null, .int 0, .null, .int 0, .int 0], vm := .statics 7 },
  { cls := 14, slots := #[.null, .null, .null], vm := .statics 14 }]
def classes : Array Class := #[k0, k1, k2, k3, k4, k5, k6, k7, k8, k9, k10, k11, k12, k13, k14, k15, k16, k17, k18, k19, k20, k21, k22]
def interned : List (Array UInt16 × Addr) := []
def slotsUsed : Nat := 10
def theMethod : MethodId := ⟨1, 3⟩
def args0 : Array Value := #[.int 5, .int 6, .int 7, .int 8]
def aboutOver (below : List Frame) : State where
  vm := { classes := classes, interned := interned.toArray }
  heap := heap
  slotsUsed := slotsUsed
  threads := #[{ frames := .invoking theMethod args0 :: below }]
def below0 : List Frame := [.native { method := ⟨0, 0⟩, args := #[] }]
def about1 : State := aboutOver below0
def p0 : Program := .bare "" "" ""
def e0 : Env := launch0.env 0 0 0
theorem w_frames : about1.frames = Frame.invoking theMethod args0 :: below0 := rfl
set_option maxRecDepth 65536 in
theorem w_args : argsFit about1.vm theMethod args0 = true := by decide +kernel
set_option maxRecDepth 65536 in
theorem w_heap : heapFits about1 = true := by decide +kernel
set_option maxRecDepth 65536 in
theorem w_runnable : about1.curStatus? = some .runnable := by decide +kernel
set_option maxRecDepth 65536 in
theorem w_alone : about1.alone = true := by decide +kernel
set_option maxRecDepth 65536 in
theorem w_named : about1.methodNamed? x = some theMethod := by decide +kernel
set_option maxRecDepth 65536 in
theorem w_hears : about1.hears theMethod below0 = true := by decide +kernel
set_option maxRecDepth 65536 in
theorem w_ripe : about1.ripe theMethod args0 below0 = true := by decide +kernel
theorem w_running : about1.status = .running := rfl
set_option maxRecDepth 65536 in
theorem w_room : about1.hasRoom e0.platform room_1 = true :=
  launch0.hasRoom_least _ room_1 (by decide +kernel) (by decide +kernel) (by decide +kernel) (by decide +kernel) (by decide +kernel) (by decide +kernel)
theorem allAtoms_all (ts : List Jvm.Cond) (a : Array Jvm.Value) (st : Jvm.State) : (allAtoms ts).before a st = ts.all (fun c => c.before a st) := by
  induction ts with
  | nil => rfl
  | cons c t ih =>
    show (Jvm.Cond.and c (allAtoms t)).before a st = _
    rw [Jvm.Cond.before_and, ih, List.all_cons]
def words1 : List Jvm.Cond := Jvm.Cond.code x code maxLocals ret :: tables_1
/-- a 'code' word, met by the world's own term for the bytes: nothing is compared byte by byte -/
theorem code_word {y : MethodName} {bytes : ByteArray} {mx : Nat} {rt : Option FieldType} {a : Array Value} {s : State} {m : MethodId} {meth : Method} {c : Code} (h1 : s.methodNamed? y = some m) (h2 : s.vm.method? m = some meth) (h3 : meth.code = some c) (h4 : c.code = bytes)
    (h5 : (c.maxLocals == mx && c.exceptionTable.isEmpty && decide (c.maxStack ≤ mostOperands) && decide (meth.sig.returnType = rt) && !meth.locks && decide (parseMethodDescriptor y.desc = some meth.sig)) = true) : (Jvm.Cond.code y bytes mx rt).before a s = true := by
  simp only [Bool.and_eq_true, beq_iff_eq, Bool.not_eq_true', decide_eq_true_eq] at h5
  obtain ⟨⟨⟨⟨⟨g1, g2⟩, g3⟩, g4⟩, g5⟩, g6⟩ := h5
  simp [Cond.before, Cond.holds, Cond.value, h1, h2, h3, h4, g1, g2, g3, g4, g5, g6]
def isCode : Jvm.Cond → Bool
  | .code _ _ _ _ => true
  | _ => false
theorem all_split {L : List Jvm.Cond} {P : Jvm.Cond → Bool} (h1 : L.all (fun c => isCode c || P c) = true) (h2 : ∀ c ∈ L.filter isCode, P c = true) : L.all P = true := by
  refine List.all_eq_true.mpr fun c hc => ?_
  have h := List.all_eq_true.mp h1 c hc
  rcases Bool.eq_false_or_eq_true (isCode c) with hi | hi
  · exact h2 c (List.mem_filter.mpr ⟨hc, hi⟩)
  · simpa [hi] using h
set_option maxRecDepth 65536 in
theorem w_c0 : (Jvm.Cond.code x code maxLocals ret).before args0 about1 = true := code_word (m := ⟨1, 3⟩) (meth := k1m3) (c := k1c3) (by decide +kernel) rfl rfl rfl (by decide +kernel)
set_option maxRecDepth 65536 in
theorem w_c1 : (Jvm.Cond.code ({ cls := "com/example/qrew/qrew/logic/ConstantEqualsPinLaw", name := "str", desc := "(II)Ljava/lang/String;" } : Jvm.MethodName) method_2_code (5 : Nat) (Option.some (Jvm.ClassFile.FieldType.object "java/lang/String"))).before args0 about1 = true := code_word (m := ⟨1, 1⟩) (meth := k1m1) (c := k1c1) (by decide +kernel) rfl rfl rfl (by decide +kernel)
set_option maxRecDepth 65536 in
theorem w_c2 : (Jvm.Cond.code ({ cls := "java/lang/String", name := "<init>", desc := "([C)V" } : Jvm.MethodName) jdk_42_method_3_code (2 : Nat) (Option.none : Option Jvm.ClassFile.FieldType)).before args0 about1 = true := code_word (m := ⟨7, 1⟩) (meth := k7m1) (c := k7c1) (by decide +kernel) rfl rfl rfl (by decide +kernel)
set_option maxRecDepth 65536 in
theorem w_c3 : (Jvm.Cond.code ({ cls := "java/lang/String", name := "<init>", desc := "([CIILjava/lang/Void;)V" } : Jvm.MethodName) jdk_42_method_149_code (6 : Nat) (Option.none : Option Jvm.ClassFile.FieldType)).before args0 about1 = true := code_word (m := ⟨7, 3⟩) (meth := k7m3) (c := k7c3) (by decide +kernel) rfl rfl rfl (by decide +kernel)
set_option maxRecDepth 65536 in
theorem w_c4 : (Jvm.Cond.code ({ cls := "java/lang/Object", name := "<init>", desc := "()V" } : Jvm.MethodName) object_method_1_code (1 : Nat) (Option.none : Option Jvm.ClassFile.FieldType)).before args0 about1 = true := code_word (m := ⟨0, 0⟩) (meth := k0m0) (c := k0c0) (by decide +kernel) rfl rfl rfl (by decide +kernel)
set_option maxRecDepth 65536 in
theorem w_c5 : (Jvm.Cond.code ({ cls := "java/lang/StringUTF16", name := "compress", desc := "([CII)[B" } : Jvm.MethodName) jdk_52_method_16_code (6 : Nat) (Option.some (Jvm.ClassFile.FieldType.array Jvm.ClassFile.FieldType.byte))).before args0 about1 = true := code_word (m := ⟨8, 2⟩) (meth := k8m2) (c := k8c2) (by decide +kernel) rfl rfl rfl (by decide +kernel)
set_option maxRecDepth 65536 in
theorem w_c6 : (Jvm.Cond.code ({ cls := "java/lang/StringUTF16", name := "compress", desc := "([CI[BII)I" } : Jvm.MethodName) jdk_52_method_21_code (7 : Nat) (Option.some Jvm.ClassFile.FieldType.int)).before args0 about1 = true := code_word (m := ⟨8, 3⟩) (meth := k8m3) (c := k8c3) (by decide +kernel) rfl rfl rfl (by decide +kernel)
set_option maxRecDepth 65536 in
theorem w_c7 : (Jvm.Cond.code ({ cls := "java/lang/StringUTF16", name := "coderFromArrayLen", desc := "([BI)B" } : Jvm.MethodName) jdk_52_method_15_code (2 : Nat) (Option.some Jvm.ClassFile.FieldType.byte)).before args0 about1 = true := code_word (m := ⟨8, 1⟩) (meth := k8m1) (c := k8c1) (by decide +kernel) rfl rfl rfl (by decide +kernel)
set_option maxRecDepth 65536 in
theorem w_c8 : (Jvm.Cond.code ({ cls := "com/example/qrew/qrew/logic/Constant", name := "<init>", desc := "(Ljava/lang/String;)V" } : Jvm.MethodName) prog_13_method_1_code (2 : Nat) (Option.none : Option Jvm.ClassFile.FieldType)).before args0 about1 = true := code_word (m := ⟨10, 0⟩) (meth := k10m0) (c := k10c0) (by decide +kernel) rfl rfl rfl (by decide +kernel)
set_option maxRecDepth 65536 in
theorem w_c9 : (Jvm.Cond.code ({ cls := "java/util/Objects", name := "requireNonNull", desc := "(Ljava/lang/Object;Ljava/lang/String;)Ljava/lang/Object;" } : Jvm.MethodName) jdk_31_method_11_code (2 : Nat) (Option.some (Jvm.ClassFile.FieldType.object "java/lang/Object"))).before args0 about1 = true := code_word (m := ⟨11, 1⟩) (meth := k11m1) (c := k11c1) (by decide +kernel) rfl rfl rfl (by decide +kernel)
set_option maxRecDepth 65536 in
theorem w_c10 : (Jvm.Cond.code ({ cls := "com/example/qrew/qrew/logic/ConstantEqualsPinLaw", name := "sameText", desc := "(IIII)Z" } : Jvm.MethodName) method_3_code (4 : Nat) (Option.some Jvm.ClassFile.FieldType.boolean)).before args0 about1 = true := code_word (m := ⟨1, 2⟩) (meth := k1m2) (c := k1c2) (by decide +kernel) rfl rfl rfl (by decide +kernel)
set_option maxRecDepth 65536 in
theorem w_c11 : (Jvm.Cond.code ({ cls := "com/example/qrew/qrew/logic/Constant", name := "equals", desc := "(Ljava/lang/Object;)Z" } : Jvm.MethodName) prog_13_method_3_code (3 : Nat) (Option.some Jvm.ClassFile.FieldType.boolean)).before args0 about1 = true := code_word (m := ⟨10, 1⟩) (meth := k10m1) (c := k10c1) (by decide +kernel) rfl rfl rfl (by decide +kernel)
set_option maxRecDepth 65536 in
theorem w_c12 : (Jvm.Cond.code ({ cls := "java/lang/String", name := "equals", desc := "(Ljava/lang/Object;)Z" } : Jvm.MethodName) jdk_42_method_66_code (3 : Nat) (Option.some Jvm.ClassFile.FieldType.boolean)).before args0 about1 = true := code_word (m := ⟨7, 2⟩) (meth := k7m2) (c := k7c2) (by decide +kernel) rfl rfl rfl (by decide +kernel)
set_option maxRecDepth 65536 in
theorem w_c13 : (Jvm.Cond.code ({ cls := "java/lang/StringLatin1", name := "equals", desc := "([B[B)Z" } : Jvm.MethodName) jdk_43_method_13_code (3 : Nat) (Option.some Jvm.ClassFile.FieldType.boolean)).before args0 about1 = true := code_word (m := ⟨12, 1⟩) (meth := k12m1) (c := k12c1) (by decide +kernel) rfl rfl rfl (by decide +kernel)
set_option maxRecDepth 65536 in
theorem w_c14 : (Jvm.Cond.code ({ cls := "com/example/qrew/qrew/logic/Variable", name := "<init>", desc := "(Ljava/lang/String;)V" } : Jvm.MethodName) prog_26_method_1_code (2 : Nat) (Option.none : Option Jvm.ClassFile.FieldType)).before args0 about1 = true := code_word (m := ⟨13, 0⟩) (meth := k13m0) (c := k13c0) (by decide +kernel) rfl rfl rfl (by decide +kernel)
def codes1 : List Jvm.Cond := [Jvm.Cond.code x code maxLocals ret, Jvm.Cond.code ({ cls := "com/example/qrew/qrew/logic/ConstantEqualsPinLaw", name := "str", desc := "(II)Ljava/lang/String;" } : Jvm.MethodName) method_2_code (5 : Nat) (Option.some (Jvm.ClassFile.FieldType.object "java/lang/String")), Jvm.Cond.code ({ cls := "java/lang/String", name := "<init>", desc := "([C)V" } : Jvm.MethodName) jdk_42_method_3_code (2 : Nat) (Option.none : Option Jvm.ClassFile.FieldType), Jvm.Cond.code ({ cls := "java/lang/String", name := "<init>", desc := "([CIILjava/lang/Void;)V" } : Jvm.MethodName) jdk_42_method_149_code (6 : Nat) (Option.none : Option Jvm.ClassFile.FieldType), Jvm.Cond.code ({ cls := "java/lang/Object", name := "<init>", desc := "()V" } : Jvm.MethodName) object_method_1_code (1 : Nat) (Option.none : Option Jvm.ClassFile.FieldType), Jvm.Cond.code ({ cls := "java/lang/StringUTF16", name := "compress", desc := "([CII)[B" } : Jvm.MethodName) jdk_52_method_16_code (6 : Nat) (Option.some (Jvm.ClassFile.FieldType.array Jvm.ClassFile.FieldType.byte)), Jvm.Cond.code ({ cls := "java/lang/StringUTF16", name := "compress", desc := "([CI[BII)I" } : Jvm.MethodName) jdk_52_method_21_code (7 : Nat) (Option.some Jvm.ClassFile.FieldType.int), Jvm.Cond.code ({ cls := "java/lang/StringUTF16", name := "coderFromArrayLen", desc := "([BI)B" } : Jvm.MethodName) jdk_52_method_15_code (2 : Nat) (Option.some Jvm.ClassFile.FieldType.byte), Jvm.Cond.code ({ cls := "com/example/qrew/qrew/logic/Constant", name := "<init>", desc := "(Ljava/lang/String;)V" } : Jvm.MethodName) prog_13_method_1_code (2 : Nat) (Option.none : Option Jvm.ClassFile.FieldType), Jvm.Cond.code ({ cls := "java/util/Objects", name := "requireNonNull", desc := "(Ljava/lang/Object;Ljava/lang/String;)Ljava/lang/Object;" } : Jvm.MethodName) jdk_31_method_11_code (2 : Nat) (Option.some (Jvm.ClassFile.FieldType.object "java/lang/Object")), Jvm.Cond.code ({ cls := "com/example/qrew/qrew/logic/ConstantEqualsPinLaw", name := "sameText", desc := "(IIII)Z" } : Jvm.MethodName) method_3_code (4 : Nat) (Option.some Jvm.ClassFile.FieldType.boolean), Jvm.Cond.code ({ cls := "com/example/qrew/qrew/logic/Constant", name := "equals", desc := "(Ljava/lang/Object;)Z" } : Jvm.MethodName) prog_13_method_3_code (3 : Nat) (Option.some Jvm.ClassFile.FieldType.boolean), Jvm.Cond.code ({ cls := "java/lang/String", name := "equals", desc := "(Ljava/lang/Object;)Z" } : Jvm.MethodName) jdk_42_method_66_code (3 : Nat) (Option.some Jvm.ClassFile.FieldType.boolean), Jvm.Cond.code ({ cls := "java/lang/StringLatin1", name := "equals", desc := "([B[B)Z" } : Jvm.MethodName) jdk_43_method_13_code (3 : Nat) (Option.some Jvm.ClassFile.FieldType.boolean), Jvm.Cond.code ({ cls := "com/example/qrew/qrew/logic/Variable", name := "<init>", desc := "(Ljava/lang/String;)V" } : Jvm.MethodName) prog_26_method_1_code (2 : Nat) (Option.none : Option Jvm.ClassFile.FieldType)]
set_option maxRecDepth 65536 in
theorem codes_eq : words1.filter isCode = codes1 := rfl
theorem w_codes : ∀ c ∈ words1.filter isCode, c.before args0 about1 = true := by
  rw [codes_eq]
  intro c hc
  simp only [codes1, List.mem_cons, List.not_mem_nil, or_false] at hc
  rcases hc with rfl | rfl | rfl | rfl | rfl | rfl | rfl | rfl | rfl | rfl | rfl | rfl | rfl | rfl | rfl
  · exact w_c0
  · exact w_c1
  · exact w_c2
  · exact w_c3
  · exact w_c4
  · exact w_c5
  · exact w_c6
  · exact w_c7
  · exact w_c8
  · exact w_c9
  · exact w_c10
  · exact w_c11
  · exact w_c12
  · exact w_c13
  · exact w_c14
set_option maxRecDepth 65536 in
theorem w_t1 : (words1.take 24).all (fun c => isCode c || c.before args0 about1) = true := by decide +kernel
set_option maxRecDepth 65536 in
theorem w_t2 : ((words1.drop 24).take 24).all (fun c => isCode c || c.before args0 about1) = true := by decide +kernel
set_option maxRecDepth 65536 in
theorem w_t3 : (((words1.drop 24).drop 24).take 24).all (fun c => isCode c || c.before args0 about1) = true := by decide +kernel
set_option maxRecDepth 65536 in
theorem w_t4 : (((words1.drop 24).drop 24).drop 24).all (fun c => isCode c || c.before args0 about1) = true := by decide +kernel
theorem w_tables : (allAtoms (Jvm.Cond.code x code maxLocals ret :: tables_1)).before args0 about1 = true := by
  rw [allAtoms_all]
  show words1.all (fun c => c.before args0 about1) = true
  refine all_split ?_ w_codes
  rw [← List.take_append_drop 24 words1, List.all_append, w_t1, ← List.take_append_drop 24 (words1.drop 24), List.all_append, w_t2, ← List.take_append_drop 24 ((words1.drop 24).drop 24), List.all_append, w_t3, w_t4]
  rfl
set_option maxRecDepth 65536 in
theorem w_rest : rest_1_c.before args0 about1 = true := by decide +kernel
set_option maxRecDepth 65536 in
theorem w_case : (Jvm.Cond.and given_1 narrow_1).before args0 about1 = true := by decide +kernel
set_option maxRecDepth 65536 in
theorem w_consts : constsHeld consts_1 about1 := Jvm.Lit.constsHeldB_iff.mp (by decide +kernel)
theorem w_applies : (headSpec (Jvm.Cond.code x code maxLocals ret :: tables_1) room_1).applies x e0.platform about1 = true :=
  (Spec.applies_iff w_frames).mpr ⟨w_running, w_runnable, w_alone, w_named, w_hears, w_ripe, w_room, w_tables⟩
theorem atStart : AtStart classFile x code maxLocals ret World_1 tables_1 room_1 Calls_1 rest_1 Pre_1 launch0 p0 e0 about1 theMethod args0 below0 :=
  ⟨lists_1, trivial, launch0.admits_env _ _ _, launch0.least_env, fairChoices_fair.cas, fairChoices_fair.clock, w_frames, w_args, w_heap, w_applies, ⟨w_consts, trivial⟩, w_rest, w_case⟩
end start1
theorem witness_1 : WitnessClaimed_1 := ⟨start1.p0, start1.e0, start1.about1, start1.theMethod, start1.args0, start1.below0, start1.atStart⟩
end Jvm.Pilot.@@N@@
