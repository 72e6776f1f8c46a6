import JvmDerived
import JvmDerived.Pilot.@@N@@Statement
import JvmDerived.Pilot.@@N@@Code
set_option linter.unusedVariables false
set_option linter.unusedSimpArgs false
/- laws to paste: Road.backV, Road.eqW, Road.codOf (cut by pick.py; bodies as the Statement names them) -/
namespace Jvm.Pilot.@@N@@
namespace StrChars
open Jvm Sem ClassFile Op Lib Jvm.Stand Jvm.Free.XT Jvm.Free.ALB Jvm.Free.JM Jvm.Free
open Jvm.Lib.Cold (StaticIs)
/-- a char array whose places are chars -/
def Ch (a : Addr) (A : Cell) (U : State) : Prop := Arr .char a A U ∧ Typed .char A
theorem Ch.mv {a : Addr} {A : Cell} {U U' : State} (h : Ch a A U) (hal : U.vm.Alike U'.vm) (hh : U'.heap = U.heap) : Ch a A U' := ⟨h.1.mv hal hh, h.2⟩
theorem Ch.keep {a : Addr} {A : Cell} {U U' : State} (h : Ch a A U) (hal : U.vm.Alike U'.vm) (hk : U'.heap[a]? = some A) : Ch a A U' := ⟨h.1.keep hal hk, h.2⟩
/-- what place i of a char[]'s cell holds -/
def cv (A : Cell) (i : Nat) : Int32 := match A.slots[i]? with | some (.int x) => x | _ => 0
theorem Ch.get {a : Addr} {A : Cell} {U : State} (h : Ch a A U) {i : Nat} (hi : i < A.slots.size) : A.slots[i]? = some (.int (cv A i)) := by
  have e := Array.getElem?_eq_getElem hi
  have f := h.2 i _ e
  unfold cv; rw [e]
  generalize A.slots[i] = v at f
  cases v <;> simp [fits] at f ⊢
/-- the byte that i2b leaves of a char -/
def lo8 (x : Int32) : Int32 := x.toInt8.toInt32
theorem fits_lo8 (y : Int32) : fits .byte (.int (lo8 y)) = true := by
  have h1 := y.toInt8.le_toInt
  have h2 := y.toInt8.toInt_lt
  simp only [lo8, fits, Bool.and_eq_true, decide_eq_true_eq, Int32.le_iff_toInt_le, Int8.toInt_toInt32, show (-128 : Int32).toInt = -128 from by decide, show (127 : Int32).toInt = 127 from by decide]
  omega
/-- A' is A but that each place j of lo .. hi - 1 holds f j -/
def Laid (A A' : Cell) (lo hi : Nat) (f : Nat → Value) : Prop := A'.cls = A.cls ∧ A'.vm = A.vm ∧ A'.slots.size = A.slots.size ∧ ∀ i, A'.slots[i]? = if lo ≤ i ∧ i < hi then some (f i) else A.slots[i]?
theorem Laid.zero (A : Cell) (lo : Nat) (f : Nat → Value) : Laid A A lo (lo + 0) f := ⟨rfl, rfl, rfl, fun i => by rw [if_neg (by omega)]⟩
theorem Laid.step {A Ak : Cell} {lo k : Nat} {f : Nat → Value} {v : Value} (h : Laid A Ak lo k f) (hlo : lo ≤ k) (hk : k < Ak.slots.size) (hv : v = f k) : Laid A (Ak.setSlot k v) lo (k + 1) f := by
  refine ⟨h.1, h.2.1, by simpa [Cell.setSlot] using h.2.2.1, fun i => ?_⟩
  by_cases e : k = i
  · subst e; rw [Cell.slots_setSlot_self v hk, if_pos (by omega), hv]
  · rw [Cell.slots_setSlot_ne v e, h.2.2.2 i]
    by_cases q : lo ≤ i ∧ i < k
    · rw [if_pos q, if_pos (by omega)]
    · rw [if_neg q, if_neg (by omega)]
def U16 : String := "java/lang/StringUTF16"
namespace Cmp5
def yN : MethodName := ⟨"java/lang/StringUTF16", "compress", "([CI[BII)I"⟩
abbrev yB : ByteArray := jdk_52_method_21_code
theorem d0 : decode yB 0 = .ok (.iconst 0, 1) := by decide +kernel
theorem d1 : decode yB 1 = .ok (.istore 5, 2) := by decide +kernel
theorem d3 : decode yB 3 = .ok (.iload 5, 2) := by decide +kernel
theorem d5 : decode yB 5 = .ok (.iload 4, 2) := by decide +kernel
theorem d7 : decode yB 7 = .ok (.if_icmp (.ge) 37, 3) := by decide +kernel
theorem d10 : decode yB 10 = .ok (.aload_n 0, 1) := by decide +kernel
theorem d11 : decode yB 11 = .ok (.iload_n 1, 1) := by decide +kernel
theorem d12 : decode yB 12 = .ok (.caload, 1) := by decide +kernel
theorem d13 : decode yB 13 = .ok (.istore 6, 2) := by decide +kernel
theorem d15 : decode yB 15 = .ok (.iload 6, 2) := by decide +kernel
theorem d17 : decode yB 17 = .ok (.sipush 255, 3) := by decide +kernel
theorem d20 : decode yB 20 = .ok (.if_icmp (.le) 6, 3) := by decide +kernel
theorem d26 : decode yB 26 = .ok (.aload_n 2, 1) := by decide +kernel
theorem d27 : decode yB 27 = .ok (.iload_n 3, 1) := by decide +kernel
theorem d28 : decode yB 28 = .ok (.iload 6, 2) := by decide +kernel
theorem d30 : decode yB 30 = .ok (.i2b, 1) := by decide +kernel
theorem d31 : decode yB 31 = .ok (.bastore, 1) := by decide +kernel
theorem d32 : decode yB 32 = .ok (.iinc 1 1, 3) := by decide +kernel
theorem d35 : decode yB 35 = .ok (.iinc 3 1, 3) := by decide +kernel
theorem d38 : decode yB 38 = .ok (.iinc 5 1, 3) := by decide +kernel
theorem d41 : decode yB 41 = .ok (.goto (-38), 3) := by decide +kernel
theorem d44 : decode yB 44 = .ok (.iload 4, 2) := by decide +kernel
theorem d46 : decode yB 46 = .ok (.ireturn, 1) := by decide +kernel
def site : List Cond := []
def tab : Cond := tabOf yN yB 7 (some .int) site
def P (b : Addr) (A : Cell) (d : Addr) (B : Cell) (o q len : Nat) (args : Array Value) (s : State) : Prop := args = #[.ref b, .int (Int32.ofNat o), .ref d, .int (Int32.ofNat q), .int (Int32.ofNat len)] ∧ Ch b A s ∧ Arr .byte d B s ∧ b ≠ d ∧ o + len ≤ A.slots.size ∧ q + len ≤ B.slots.size ∧ ∀ i, i < len → ¬ 255 < cv A (o + i)
def E (b : Addr) (A : Cell) (d : Addr) (B : Cell) (o q len : Nat) (r : Option Value) (s u : State) : Prop := r = some (.int (Int32.ofNat len)) ∧ ∃ B', Put d B' s u ∧ Laid B B' q (q + len) (fun j => Value.int (lo8 (cv A (o + (j - q)))))
/-- no char of the range above 255: len; the places written hold each char's low byte -/
theorem law (l : Launch) (b : Addr) (A : Cell) (d : Addr) (B : Cell) (o q len : Nat) : Law l yN 5 5 0 0 yB 7 (some .int) site (P b A d B o q len) (E b A d B o q len) (copyLocs d q len) 0 0 := by
  refine Law.of_walk (plainFor_of_name (by decide +kernel)) (by decide +kernel) (by decide +kernel) (by decide) (fun _ _ h => by rw [h.1]; rfl) (fun _ U U' hal hh h => ⟨h.1, h.2.1.mv hal hh, h.2.2.1.mv hal hh, h.2.2.2⟩) (fun r U U' V V' h1 hal h2 h => ⟨h.1, h.2.elim fun B' q => ⟨B', q.1.mv h1 h2, q.2⟩⟩) ?_
  intro p e s m args below meth c s₁ X0 hexec hbytes hml hret hlk hnm hown hh0 W hP
  obtain ⟨rfl, hA, hB, hne, l1, l2, hp⟩ := hP
  have c1 : Steps p.tables e below (s₁.setTop (entryFrame m #[.ref b, .int (Int32.ofNat o), .ref d, .int (Int32.ofNat q), .int (Int32.ofNat len)] 7)) (s₁.setTop (mkF m 0 #[.val (.ref b), .val (.int (Int32.ofNat o)), .val (.ref d), .val (.int (Int32.ofNat q)), .val (.int (Int32.ofNat len)), .unset, .unset] [])) := entry rfl
  have hA0 := hA.1.mv X0.warmed.alike hh0
  have hB0 := hB.mv X0.warmed.alike hh0
  have a31 := hA.1.2.2.2
  have c2 : Steps p.tables e below (s₁.setTop (entryFrame m #[.ref b, .int (Int32.ofNat o), .ref d, .int (Int32.ofNat q), .int (Int32.ofNat len)] 7)) (s₁.setTop (mkF m 3 #[.val (.ref b), .val (.int (Int32.ofNat o)), .val (.ref d), .val (.int (Int32.ofNat q)), .val (.int (Int32.ofNat len)), .val (.int 0), .unset] [])) := c1.trans (by
    refine iconstV X0.here hexec rfl 0 (hb hbytes d0) (by decide) ?_
    refine XS.istore X0.here hexec rfl (hb hbytes d1) rfl rfl ?_
    exact Steps.refl _)
  have loop : ∀ (r i : Nat), i + r = len → ∀ (z : Slot), (z = .unset ∨ ∃ w, z = .val w ∧ w.category = 1) → ∀ (Tl : State) (Bk : Cell), Stand p l e { frames := 0, locals := 0, cells := 0, slots := 0 } s m #[.ref b, .int (Int32.ofNat o), .ref d, .int (Int32.ofNat q), .int (Int32.ofNat len)] below meth c Tl ([] ++ copyLocs d q i) 0 0 → Put d Bk s₁ Tl → Laid B Bk q (q + i) (fun j => Value.int (lo8 (cv A (o + (j - q))))) →
      Steps p.tables e below (s₁.setTop (entryFrame m #[.ref b, .int (Int32.ofNat o), .ref d, .int (Int32.ofNat q), .int (Int32.ofNat len)] 7)) (Tl.setTop (mkF m 3 #[.val (.ref b), .val (.int (Int32.ofNat (o + i))), .val (.ref d), .val (.int (Int32.ofNat (q + i))), .val (.int (Int32.ofNat len)), .val (.int (Int32.ofNat i)), z] [])) → ∃ (T' : State) (B' : Cell) (z' : Slot), Stand p l e { frames := 0, locals := 0, cells := 0, slots := 0 } s m #[.ref b, .int (Int32.ofNat o), .ref d, .int (Int32.ofNat q), .int (Int32.ofNat len)] below meth c T' ([] ++ copyLocs d q len) 0 0 ∧ Put d B' s₁ T' ∧ Laid B B' q (q + len) (fun j => Value.int (lo8 (cv A (o + (j - q))))) ∧
      Steps p.tables e below (s₁.setTop (entryFrame m #[.ref b, .int (Int32.ofNat o), .ref d, .int (Int32.ofNat q), .int (Int32.ofNat len)] 7)) (T'.setTop (mkF m 3 #[.val (.ref b), .val (.int (Int32.ofNat (o + len))), .val (.ref d), .val (.int (Int32.ofNat (q + len))), .val (.int (Int32.ofNat len)), .val (.int (Int32.ofNat len)), z'] [])) := by
    intro r
    induction r with
    | zero =>
      intro i hi z hz Tl Bk Xl pl fl cl
      have hil : i = len := by omega
      rw [hil] at Xl fl cl
      exact ⟨Tl, Bk, z, Xl, pl, fl, cl⟩
    | succ r ih =>
      intro i hi z hz Tl Bk Xl pl fl cl
      have all := X0.warmed.alike.symm.trans Xl.warmed.alike
      have hAl := hA0.keep all (pl.other hne hA0.1)
      have hBk := hB0.like all pl.1 fl.1 fl.2.1 fl.2.2.1
      have hlt : q + i < Bk.slots.size := by rw [fl.2.2.1]; omega
      have c3 : Steps p.tables e below (s₁.setTop (entryFrame m #[.ref b, .int (Int32.ofNat o), .ref d, .int (Int32.ofNat q), .int (Int32.ofNat len)] 7)) (Tl.setTop (mkF m 12 #[.val (.ref b), .val (.int (Int32.ofNat (o + i))), .val (.ref d), .val (.int (Int32.ofNat (q + i))), .val (.int (Int32.ofNat len)), .val (.int (Int32.ofNat i)), z] [.int (Int32.ofNat (o + i)), .ref b])) := cl.trans (by
        refine XS.iload Xl.here hexec rfl (hb hbytes d3) rfl ?_
        refine XS.iload Xl.here hexec rfl (hb hbytes d5) rfl ?_
        refine XS.icmpNo Xl.here hexec rfl (hb hbytes d7) rfl (ii_ge_f (lt32 (by omega) (by omega))) ?_
        refine XS.aloadN Xl.here hexec rfl (hb hbytes d10) rfl rfl ?_
        refine XS.iloadN Xl.here hexec rfl (hb hbytes d11) rfl ?_
        exact Steps.refl _)
      have c4 : Steps p.tables e below (s₁.setTop (entryFrame m #[.ref b, .int (Int32.ofNat o), .ref d, .int (Int32.ofNat q), .int (Int32.ofNat len)] 7)) (Tl.setTop (mkF m 13 #[.val (.ref b), .val (.int (Int32.ofNat (o + i))), .val (.ref d), .val (.int (Int32.ofNat (q + i))), .val (.int (Int32.ofNat len)), .val (.int (Int32.ofNat i)), z] [.int (cv A (o + i))])) := c3.trans (by
        refine Xl.aget hexec hAl rfl (hA.get (i := o + i) (by omega)) rfl rfl (hb hbytes d12) ?_
        exact Steps.refl _)
      have c5 : Steps p.tables e below (s₁.setTop (entryFrame m #[.ref b, .int (Int32.ofNat o), .ref d, .int (Int32.ofNat q), .int (Int32.ofNat len)] 7)) (Tl.setTop (mkF m 15 #[.val (.ref b), .val (.int (Int32.ofNat (o + i))), .val (.ref d), .val (.int (Int32.ofNat (q + i))), .val (.int (Int32.ofNat len)), .val (.int (Int32.ofNat i)), .val (.int (cv A (o + i)))] [])) := c4.trans (by
        refine XS.istoreS Xl.here hexec rfl (hb hbytes d13) rfl rfl hz ?_
        exact Steps.refl _)
      have c6 : Steps p.tables e below (s₁.setTop (entryFrame m #[.ref b, .int (Int32.ofNat o), .ref d, .int (Int32.ofNat q), .int (Int32.ofNat len)] 7)) (Tl.setTop (mkF m 31 #[.val (.ref b), .val (.int (Int32.ofNat (o + i))), .val (.ref d), .val (.int (Int32.ofNat (q + i))), .val (.int (Int32.ofNat len)), .val (.int (Int32.ofNat i)), .val (.int (cv A (o + i)))] [.int (lo8 (cv A (o + i))), .int (Int32.ofNat (q + i)), .ref d])) := c5.trans (by
        refine XS.iload Xl.here hexec rfl (hb hbytes d15) rfl ?_
        refine sipushV Xl.here hexec rfl 255 (hb hbytes d17) (by decide) ?_
        refine XS.icmpYes Xl.here hexec rfl (pc0 := 20) rfl (hb hbytes d20) rfl (ii_le_t (hp i (by omega))) (by decide) rfl ?_
        refine XS.aloadN Xl.here hexec rfl (hb hbytes d26) rfl rfl ?_
        refine XS.iloadN Xl.here hexec rfl (hb hbytes d27) rfl ?_
        refine XS.iload Xl.here hexec rfl (hb hbytes d28) rfl ?_
        refine i2b Xl.here hexec rfl (hb hbytes d30) rfl ?_
        exact Steps.refl _)
      obtain ⟨T7, X7, p7, st7⟩ := Xl.aput hexec hBk rfl hlt rfl (fits_lo8 (cv A (o + i))) (g := (mkF m 31 #[.val (.ref b), .val (.int (Int32.ofNat (o + i))), .val (.ref d), .val (.int (Int32.ofNat (q + i))), .val (.int (Int32.ofNat len)), .val (.int (Int32.ofNat i)), .val (.int (cv A (o + i)))] [.int (lo8 (cv A (o + i))), .int (Int32.ofNat (q + i)), .ref d])) rfl (rest := []) rfl (hb hbytes d31)
      have c8 : Steps p.tables e below (s₁.setTop (entryFrame m #[.ref b, .int (Int32.ofNat o), .ref d, .int (Int32.ofNat q), .int (Int32.ofNat len)] 7)) (T7.setTop (mkF m 32 #[.val (.ref b), .val (.int (Int32.ofNat (o + i))), .val (.ref d), .val (.int (Int32.ofNat (q + i))), .val (.int (Int32.ofNat len)), .val (.int (Int32.ofNat i)), .val (.int (cv A (o + i)))] [])) := c6.trans (st7 _ (Steps.refl _))
      have c9 : Steps p.tables e below (s₁.setTop (entryFrame m #[.ref b, .int (Int32.ofNat o), .ref d, .int (Int32.ofNat q), .int (Int32.ofNat len)] 7)) (T7.setTop (mkF m 3 #[.val (.ref b), .val (.int (Int32.ofNat (o + i) + 1)), .val (.ref d), .val (.int (Int32.ofNat (q + i) + 1)), .val (.int (Int32.ofNat len)), .val (.int (Int32.ofNat i + 1)), .val (.int (cv A (o + i)))] [])) := c8.trans (by
        refine iincV X7.here hexec rfl 1 (hb hbytes d32) (by decide) rfl rfl ?_
        refine iincV X7.here hexec rfl 1 (hb hbytes d35) (by decide) rfl rfl ?_
        refine iincV X7.here hexec rfl 1 (hb hbytes d38) (by decide) rfl rfl ?_
        refine XS.goto X7.here hexec rfl (pc0 := 41) rfl (hb hbytes d41) (by decide) rfl ?_
        exact Steps.refl _)
      have c10 : Steps p.tables e below (s₁.setTop (entryFrame m #[.ref b, .int (Int32.ofNat o), .ref d, .int (Int32.ofNat q), .int (Int32.ofNat len)] 7)) (T7.setTop (mkF m 3 #[.val (.ref b), .val (.int (Int32.ofNat (o + (i + 1)))), .val (.ref d), .val (.int (Int32.ofNat (q + (i + 1)))), .val (.int (Int32.ofNat len)), .val (.int (Int32.ofNat (i + 1))), .val (.int (cv A (o + i)))] [])) := by
        have := c9
        rw [succ32, succ32, succ32] at this
        exact this
      exact ih (i + 1) (by omega) _ (Or.inr ⟨_, rfl, rfl⟩) T7 _ (by rw [copyLocs_step, ← List.append_assoc]; exact X7) (pl.trans p7) (fl.step (by omega) hlt (by simp)) c10
  obtain ⟨T9, B9, z9, X9, p9, f9, g9⟩ := loop len 0 (by omega) .unset (Or.inl rfl) s₁ B (by simpa [copyLocs] using X0) ⟨hB0.1, fun _ _ => rfl, rfl⟩ (Laid.zero _ _ _) c2
  have c11 : Steps p.tables e below (s₁.setTop (entryFrame m #[.ref b, .int (Int32.ofNat o), .ref d, .int (Int32.ofNat q), .int (Int32.ofNat len)] 7)) (T9.setTop (mkF m 46 #[.val (.ref b), .val (.int (Int32.ofNat (o + len))), .val (.ref d), .val (.int (Int32.ofNat (q + len))), .val (.int (Int32.ofNat len)), .val (.int (Int32.ofNat len)), z9] [.int (Int32.ofNat len)])) := g9.trans (by
    refine XS.iload X9.here hexec rfl (hb hbytes d3) rfl ?_
    refine XS.iload X9.here hexec rfl (hb hbytes d5) rfl ?_
    refine XS.icmpYes X9.here hexec rfl (pc0 := 7) rfl (hb hbytes d7) rfl (ii_ge_t (nlt32 (by omega) (Nat.le_refl _))) (by decide) rfl ?_
    refine XS.iload X9.here hexec rfl (hb hbytes d44) rfl ?_
    exact Steps.refl _)
  exact ⟨T9, some (.int (Int32.ofNat len)), _, _, _, X9, by simp, rfl, rfl, (fun h => by cases h), ⟨rfl, B9, p9.from hh0, f9⟩, fun fs hl => c11.trans (X9.ireturnOut hexec hret rfl (Or.inl rfl) (hb hbytes d46) hl)⟩
end Cmp5
namespace Cmp3
def yN : MethodName := ⟨"java/lang/StringUTF16", "compress", "([CII)[B"⟩
abbrev yB : ByteArray := jdk_52_method_16_code
theorem d0 : decode yB 0 = .ok (.iload_n 2, 1) := by decide +kernel
theorem d1 : decode yB 1 = .ok (.newarray .byte, 2) := by decide +kernel
theorem d3 : decode yB 3 = .ok (.astore_n 3, 1) := by decide +kernel
theorem d4 : decode yB 4 = .ok (.aload_n 0, 1) := by decide +kernel
theorem d5 : decode yB 5 = .ok (.iload_n 1, 1) := by decide +kernel
theorem d6 : decode yB 6 = .ok (.aload_n 3, 1) := by decide +kernel
theorem d7 : decode yB 7 = .ok (.iconst 0, 1) := by decide +kernel
theorem d8 : decode yB 8 = .ok (.iload_n 2, 1) := by decide +kernel
theorem d9 : decode yB 9 = .ok (.invokestatic 115, 3) := by decide +kernel
theorem d12 : decode yB 12 = .ok (.istore 4, 2) := by decide +kernel
theorem d14 : decode yB 14 = .ok (.iload 4, 2) := by decide +kernel
theorem d16 : decode yB 16 = .ok (.iload_n 2, 1) := by decide +kernel
theorem d17 : decode yB 17 = .ok (.if_icmp (.eq) 40, 3) := by decide +kernel
theorem d57 : decode yB 57 = .ok (.aload_n 3, 1) := by decide +kernel
theorem d58 : decode yB 58 = .ok (.areturn, 1) := by decide +kernel
def site : List Cond := [.arrayClass .byte, Cmp5.tab] ++ staticW U16 115 Cmp5.yN
def tab : Cond := tabOf yN yB 6 (some (.array .byte)) site
def P (b : Addr) (A : Cell) (o len : Nat) (args : Array Value) (s : State) : Prop := args = #[.ref b, .int (Int32.ofNat o), .int (Int32.ofNat len)] ∧ Ch b A s ∧ o + len ≤ A.slots.size ∧ len ≤ 536870912 ∧ ∀ i, i < len → ¬ 255 < cv A (o + i)
def E (b : Addr) (A : Cell) (o len : Nat) (r : Option Value) (s u : State) : Prop := NewArr .byte "[B" len (fun j => .int (lo8 (cv A (o + j)))) r s u ∧ u.heap.size = s.heap.size + 1
/-- no char of the range above 255: a new byte[] of their low bytes -/
theorem law (l : Launch) (b : Addr) (A : Cell) (o len : Nat) : Law l yN 3 3 1 18 yB 6 (some (.array .byte)) site (P b A o len) (E b A o len) [] 1 len := by
  refine Law.of_walk (plainFor_of_name (by decide +kernel)) (by decide +kernel) (by decide +kernel) (by decide) (fun _ _ h => by rw [h.1]; rfl) (fun _ U U' hal hh h => ⟨h.1, h.2.1.mv hal hh, h.2.2⟩) (fun r U U' V V' h1 hal h2 h => ⟨NewArr.mv r U U' V V' h1 hal h2 h.1, by rw [h1, h2]; exact h.2⟩) ?_
  intro p e s m args below meth c s₁ X0 hexec hbytes hml hret hlk hnm hown hh0 W hP
  obtain ⟨rfl, hA, l1, l2, hp⟩ := hP
  have a31 := hA.1.2.2.2
  have c1 : Steps p.tables e below (s₁.setTop (entryFrame m #[.ref b, .int (Int32.ofNat o), .int (Int32.ofNat len)] 6)) (s₁.setTop (mkF m 0 #[.val (.ref b), .val (.int (Int32.ofNat o)), .val (.int (Int32.ofNat len)), .unset, .unset, .unset] [])) := entry rfl
  have c2 : Steps p.tables e below (s₁.setTop (entryFrame m #[.ref b, .int (Int32.ofNat o), .int (Int32.ofNat len)] 6)) (s₁.setTop (mkF m 1 #[.val (.ref b), .val (.int (Int32.ofNat o)), .val (.int (Int32.ofNat len)), .unset, .unset, .unset] [.int (Int32.ofNat len)])) := c1.trans (by
    refine XS.iloadN X0.here hexec rfl (hb hbytes d0) rfl ?_
    exact Steps.refl _)
  obtain ⟨T3, B3, X3, ba3, bs3, bv3, bh3, bf3, st3⟩ := X0.anew hexec (atype := .byte) (wk W (.arrayClass .byte)) rfl (by show len * 1 ≤ _; omega) (by omega) (g := (mkF m 1 #[.val (.ref b), .val (.int (Int32.ofNat o)), .val (.int (Int32.ofNat len)), .unset, .unset, .unset] [.int (Int32.ofNat len)])) rfl (hb hbytes d1) (rest := []) rfl (Nat.le_refl _) (by show 0 + len ≤ len; omega)
  rw [hh0] at ba3 st3
  have kp3 : XT.Kept s T3 := (XT.Kept.of_eq hh0).push bh3
  have hA3 := hA.keep X3.warmed.alike (kp3 _ _ hA.1.1)
  have hne : b ≠ s.heap.size := hA.1.ne
  have c4 : Steps p.tables e below (s₁.setTop (entryFrame m #[.ref b, .int (Int32.ofNat o), .int (Int32.ofNat len)] 6)) (T3.setTop (mkF m 3 #[.val (.ref b), .val (.int (Int32.ofNat o)), .val (.int (Int32.ofNat len)), .unset, .unset, .unset] [.ref s.heap.size])) := c2.trans (st3 _ (Steps.refl _))
  have c5 : Steps p.tables e below (s₁.setTop (entryFrame m #[.ref b, .int (Int32.ofNat o), .int (Int32.ofNat len)] 6)) (T3.setTop (mkF m 9 #[.val (.ref b), .val (.int (Int32.ofNat o)), .val (.int (Int32.ofNat len)), .val (.ref s.heap.size), .unset, .unset] [.int (Int32.ofNat len), .int 0, .ref s.heap.size, .int (Int32.ofNat o), .ref b])) := c4.trans (by
    refine XS.astoreN X3.here hexec rfl (hb hbytes d3) rfl rfl rfl ?_
    refine XS.aloadN X3.here hexec rfl (hb hbytes d4) rfl rfl ?_
    refine XS.iloadN X3.here hexec rfl (hb hbytes d5) rfl ?_
    refine XS.aloadN X3.here hexec rfl (hb hbytes d6) rfl rfl ?_
    refine iconstV X3.here hexec rfl 0 (hb hbytes d7) (by decide) ?_
    refine XS.iloadN X3.here hexec rfl (hb hbytes d8) rfl ?_
    exact Steps.refl _)
  obtain ⟨v6, T6, X6, E6, g6⟩ := X3.callS hexec (Cmp5.law l b A s.heap.size B3 o 0 len) hown (wks W (staticW U16 115 Cmp5.yN)) (wk W Cmp5.tab) (W := 0) (Nat.le_of_ble_eq_true rfl) (Nat.le_of_ble_eq_true rfl) (Nat.le_refl _) (by show 0 + len + 0 ≤ len; omega) (g := (mkF m 9 #[.val (.ref b), .val (.int (Int32.ofNat o)), .val (.int (Int32.ofNat len)), .val (.ref s.heap.size), .unset, .unset] [.int (Int32.ofNat len), .int (Int32.ofNat 0), .ref s.heap.size, .int (Int32.ofNat o), .ref b])) rfl (by rw [hml]; rfl) c5 (argsL := [.ref b, .int (Int32.ofNat o), .ref s.heap.size, .int (Int32.ofNat 0), .int (Int32.ofNat len)]) (rest := []) rfl rfl (by show 2 * 0 + 0 ≤ _; decide) (hb hbytes d9) (⟨rfl, hA3, ba3, hne, l1, by rw [bs3]; simp, hp⟩)
  obtain ⟨rfl, B6, p6, f6⟩ := E6
  have c7 : Steps p.tables e below (s₁.setTop (entryFrame m #[.ref b, .int (Int32.ofNat o), .int (Int32.ofNat len)] 6)) (T6.setTop (mkF m 12 #[.val (.ref b), .val (.int (Int32.ofNat o)), .val (.int (Int32.ofNat len)), .val (.ref s.heap.size), .unset, .unset] [.int (Int32.ofNat len)])) := g6
  have c8 : Steps p.tables e below (s₁.setTop (entryFrame m #[.ref b, .int (Int32.ofNat o), .int (Int32.ofNat len)] 6)) (T6.setTop (mkF m 58 #[.val (.ref b), .val (.int (Int32.ofNat o)), .val (.int (Int32.ofNat len)), .val (.ref s.heap.size), .val (.int (Int32.ofNat len)), .unset] [.ref s.heap.size])) := c7.trans (by
    refine XS.istore X6.here hexec rfl (hb hbytes d12) rfl rfl ?_
    refine XS.iload X6.here hexec rfl (hb hbytes d14) rfl ?_
    refine XS.iloadN X6.here hexec rfl (hb hbytes d16) rfl ?_
    refine XS.icmpYes X6.here hexec rfl (pc0 := 17) rfl (hb hbytes d17) rfl (ii_eq_t rfl) (by decide) rfl ?_
    refine XS.aloadN X6.here hexec rfl (hb hbytes d57) rfl rfl ?_
    exact Steps.refl _)
  have X8 := X6.wide (L' := []) (cells' := 1) (slots' := len) (fun x hx hlt => by
    simp only [List.nil_append, copyLocs, List.mem_map, List.mem_range] at hx
    obtain ⟨i, -, rfl⟩ := hx
    exact absurd hlt (Nat.lt_irrefl _)) (Nat.le_refl _) (by omega)
  exact ⟨T6, some (.ref s.heap.size), _, _, _, X8, rfl, rfl, rfl, (fun h => by cases h), ⟨⟨rfl, B6, ba3.like (X3.warmed.alike.symm.trans X6.warmed.alike) p6.1 f6.1 f6.2.1 f6.2.2.1, f6.2.1.trans bv3, by rw [X6.warmed.alike.findClass, f6.1]; exact bf3, by rw [f6.2.2.1, bs3]; simp, fun j hj => by rw [f6.2.2.2 j, if_pos (by omega)]; rfl, kp3.put p6 (Nat.le_refl _)⟩, by rw [p6.2.2, bh3, hh0]; simp⟩, fun fs hl => c8.trans (X8.areturnOut hexec rfl hret rfl (hb hbytes d58) hl)⟩
end Cmp3
namespace CodL
def yN : MethodName := ⟨"java/lang/StringUTF16", "coderFromArrayLen", "([BI)B"⟩
abbrev yB : ByteArray := jdk_52_method_15_code
theorem d0 : decode yB 0 = .ok (.iload_n 1, 1) := by decide +kernel
theorem d1 : decode yB 1 = .ok (.aload_n 0, 1) := by decide +kernel
theorem d2 : decode yB 2 = .ok (.arraylength, 1) := by decide +kernel
theorem d3 : decode yB 3 = .ok (.isub, 1) := by decide +kernel
theorem d4 : decode yB 4 = .ok (.bipush 31, 2) := by decide +kernel
theorem d6 : decode yB 6 = .ok (.iushr, 1) := by decide +kernel
theorem d7 : decode yB 7 = .ok (.i2b, 1) := by decide +kernel
theorem d8 : decode yB 8 = .ok (.ireturn, 1) := by decide +kernel
def site : List Cond := []
def tab : Cond := tabOf yN yB 2 (some .byte) site
def P (d : Addr) (B : Cell) (args : Array Value) (s : State) : Prop := args = #[.ref d, .int (Int32.ofNat B.slots.size)] ∧ Arr .byte d B s
def E (r : Option Value) (s u : State) : Prop := XT.PureE (some (.int 0)) r s u
/-- an array as long as the number of chars: LATIN1 -/
theorem law (l : Launch) (d : Addr) (B : Cell) : Law l yN 2 2 0 0 yB 2 (some .byte) site (P d B) E [] 0 0 := by
  refine Law.of_walk (plainFor_of_name (by decide +kernel)) (by decide +kernel) (by decide +kernel) (by decide) (fun _ _ h => by rw [h.1]; rfl) (fun _ U U' hal hh h => ⟨h.1, h.2.mv hal hh⟩) (fun r U U' V V' h1 hal h2 h => XT.PureE.mv r U U' V V' h1 hal h2 h) ?_
  intro p e s m args below meth c s₁ X0 hexec hbytes hml hret hlk hnm hown hh0 W hP
  obtain ⟨rfl, hB⟩ := hP
  have hB0 := hB.mv X0.warmed.alike hh0
  have c1 : Steps p.tables e below (s₁.setTop (entryFrame m #[.ref d, .int (Int32.ofNat B.slots.size)] 2)) (s₁.setTop (mkF m 0 #[.val (.ref d), .val (.int (Int32.ofNat B.slots.size))] [])) := entry rfl
  have c2 : Steps p.tables e below (s₁.setTop (entryFrame m #[.ref d, .int (Int32.ofNat B.slots.size)] 2)) (s₁.setTop (mkF m 2 #[.val (.ref d), .val (.int (Int32.ofNat B.slots.size))] [.ref d, .int (Int32.ofNat B.slots.size)])) := c1.trans (by
    refine XS.iloadN X0.here hexec rfl (hb hbytes d0) rfl ?_
    refine XS.aloadN X0.here hexec rfl (hb hbytes d1) rfl rfl ?_
    exact Steps.refl _)
  have c3 : Steps p.tables e below (s₁.setTop (entryFrame m #[.ref d, .int (Int32.ofNat B.slots.size)] 2)) (s₁.setTop (mkF m 8 #[.val (.ref d), .val (.int (Int32.ofNat B.slots.size))] [.int (lo8 (ushr (Int32.ofNat B.slots.size - Int32.ofNat B.slots.size) 31))])) := c2.trans (by
    refine X0.alen hexec hB0 rfl rfl (hb hbytes d2) ?_
    refine XS.isub X0.here hexec rfl (hb hbytes d3) rfl ?_
    refine bipushV X0.here hexec rfl 31 (hb hbytes d4) (by decide) ?_
    refine iushr X0.here hexec rfl (hb hbytes d6) rfl ?_
    refine i2b X0.here hexec rfl (hb hbytes d7) rfl ?_
    exact Steps.refl _)
  have e0 : lo8 (ushr (Int32.ofNat B.slots.size - Int32.ofNat B.slots.size) 31) = 0 := by rw [Int32.sub_self]; decide
  rw [e0] at c3
  exact ⟨s₁, some (.int 0), _, _, _, X0, rfl, rfl, rfl, (fun h => by cases h), ⟨rfl, hh0⟩, fun fs hl => c3.trans (X0.ireturnOut hexec hret rfl (Or.inr (Or.inr (Or.inl rfl))) (hb hbytes d8) hl)⟩
end CodL
/-- the String at a is Latin-1 over a new byte[] (the heap's one new cell): the low bytes of the len chars of A from o on; every cell but a is kept -/
def Got (a : Addr) (D : Cell) (fV fC : Field) (A : Cell) (o len : Nat) (r : Option Value) (s u : State) : Prop := r = none ∧ ∃ D' V : Cell, Blank "java/lang/String" a D' u ∧ Same D D' [fV.slot, fC.slot] ∧ D'.slots[fV.slot]? = some (.ref s.heap.size) ∧ D'.slots[fC.slot]? = some (.int 0) ∧ Arr .byte s.heap.size V u ∧ V.vm = .none ∧ u.vm.findClass "[B" = some V.cls ∧ V.slots.size = len ∧ (∀ j, j < len → V.slots[j]? = some (.int (lo8 (cv A (o + j))))) ∧ (∀ (y : Addr) (c : Cell), y ≠ a → s.heap[y]? = some c → u.heap[y]? = some c) ∧ u.heap.size = s.heap.size + 1
theorem Got.mv {a : Addr} {D A : Cell} {fV fC : Field} {o len : Nat} : ∀ r (U U' V V' : State), U'.heap = U.heap → V.vm.Alike V'.vm → V'.heap = V.heap → Got a D fV fC A o len r U V → Got a D fV fC A o len r U' V' :=
  fun r U U' V V' h1 hal h2 ⟨e0, D', X, a1, a2, a3, a4, a5, a6, a7, a8, a9, a10, a11⟩ => ⟨e0, D', X, a1.mv hal h2, a2, by rw [h1]; exact a3, a4, by rw [h1]; exact a5.mv hal h2, a6, by rw [hal.findClass]; exact a7, a8, a9, by rw [h1, h2]; exact a10, by rw [h1, h2]; exact a11⟩
namespace New4
def yN : MethodName := ⟨"java/lang/String", "<init>", "([CIILjava/lang/Void;)V"⟩
abbrev yB : ByteArray := jdk_42_method_149_code
theorem d0 : decode yB 0 = .ok (.aload_n 0, 1) := by decide +kernel
theorem d1 : decode yB 1 = .ok (.invokespecial 1, 3) := by decide +kernel
theorem d4 : decode yB 4 = .ok (.iload_n 3, 1) := by decide +kernel
theorem d5 : decode yB 5 = .ok (.ifCond (.ne) 22, 3) := by decide +kernel
theorem d27 : decode yB 27 = .ok (.getstatic 38, 3) := by decide +kernel
theorem d30 : decode yB 30 = .ok (.ifCond (.eq) 28, 3) := by decide +kernel
theorem d33 : decode yB 33 = .ok (.aload_n 1, 1) := by decide +kernel
theorem d34 : decode yB 34 = .ok (.iload_n 2, 1) := by decide +kernel
theorem d35 : decode yB 35 = .ok (.iload_n 3, 1) := by decide +kernel
theorem d36 : decode yB 36 = .ok (.invokestatic 177, 3) := by decide +kernel
theorem d39 : decode yB 39 = .ok (.astore 5, 2) := by decide +kernel
theorem d41 : decode yB 41 = .ok (.aload_n 0, 1) := by decide +kernel
theorem d42 : decode yB 42 = .ok (.aload 5, 2) := by decide +kernel
theorem d44 : decode yB 44 = .ok (.iload_n 3, 1) := by decide +kernel
theorem d45 : decode yB 45 = .ok (.invokestatic 47, 3) := by decide +kernel
theorem d48 : decode yB 48 = .ok (.putfield 15, 3) := by decide +kernel
theorem d51 : decode yB 51 = .ok (.aload_n 0, 1) := by decide +kernel
theorem d52 : decode yB 52 = .ok (.aload 5, 2) := by decide +kernel
theorem d54 : decode yB 54 = .ok (.putfield 9, 3) := by decide +kernel
theorem d57 : decode yB 57 = .ok (.return_, 1) := by decide +kernel
def site : List Cond := [.fieldLink "java/lang/String" 38 "java/lang/String" "COMPACT_STRINGS" "Z", Cmp3.tab, CodL.tab, .laysFinal "java/lang/String" "java/lang/String" "value" "[B", .fieldLink "java/lang/String" 9 "java/lang/String" "value" "[B", .laysFinal "java/lang/String" "java/lang/String" "coder" "B", .fieldLink "java/lang/String" 15 "java/lang/String" "coder" "B"] ++ objW "java/lang/String" 1 ++ staticW "java/lang/String" 177 Cmp3.yN ++ staticW "java/lang/String" 47 CodL.yN
def tab : Cond := tabOf yN yB 6 none site
def P (a : Addr) (D : Cell) (fV fC : Field) (b : Addr) (A : Cell) (z : Int32) (o len : Nat) (args : Array Value) (s : State) : Prop := args = #[.ref a, .ref b, .int (Int32.ofNat o), .int (Int32.ofNat len), .null] ∧ Blank "java/lang/String" a D s ∧ Found "java/lang/String" "value" "[B" fV s ∧ Found "java/lang/String" "coder" "B" fC s ∧ Ch b A s ∧ StaticIs s "java/lang/String" "COMPACT_STRINGS" "Z" (.int z) ∧ ¬ z = 0 ∧ 0 < len ∧ o + len ≤ A.slots.size ∧ len ≤ 536870912 ∧ ∀ i, i < len → ¬ 255 < cv A (o + i)
def E (a : Addr) (D : Cell) (fV fC : Field) (A : Cell) (o len : Nat) (r : Option Value) (s u : State) : Prop := Got a D fV fC A o len r s u
/-- len > 0, no char of the range above 255: a Latin-1 String of their low bytes -/
theorem law (l : Launch) (a : Addr) (D : Cell) (fV fC : Field) (b : Addr) (A : Cell) (z : Int32) (o len : Nat) : Law l yN 5 4 2 35 yB 6 none site (P a D fV fC b A z o len) (E a D fV fC A o len) [⟨a, fC.slot⟩, ⟨a, fV.slot⟩] 1 len := by
  refine Law.of_walk (plainFor_of_name (by decide +kernel)) (by decide +kernel) (by decide +kernel) (by decide) (fun _ _ h => by rw [h.1]; rfl) (fun _ U U' hal hh h => ⟨h.1, h.2.1.mv hal hh, h.2.2.1.al hal, h.2.2.2.1.al hal, h.2.2.2.2.1.mv hal hh, h.2.2.2.2.2.1.there hal hh, h.2.2.2.2.2.2⟩) (fun r U U' V V' h1 hal h2 h => Got.mv r U U' V V' h1 hal h2 h) ?_
  intro p e s m args below meth c s₁ X0 hexec hbytes hml hret hlk hnm hown hh0 W hP
  obtain ⟨rfl, hB, f1, f2, hA, s1, hz, l0, l1, l2, hp⟩ := hP
  have a31 := hA.1.2.2.2
  have c1 : Steps p.tables e below (s₁.setTop (entryFrame m #[.ref a, .ref b, .int (Int32.ofNat o), .int (Int32.ofNat len), .null] 6)) (s₁.setTop (mkF m 0 #[.val (.ref a), .val (.ref b), .val (.int (Int32.ofNat o)), .val (.int (Int32.ofNat len)), .val .null, .unset] [])) := entry rfl
  have c2 : Steps p.tables e below (s₁.setTop (entryFrame m #[.ref a, .ref b, .int (Int32.ofNat o), .int (Int32.ofNat len), .null] 6)) (s₁.setTop (mkF m 1 #[.val (.ref a), .val (.ref b), .val (.int (Int32.ofNat o)), .val (.int (Int32.ofNat len)), .val .null, .unset] [.ref a])) := c1.trans (by
    refine XS.aloadN X0.here hexec rfl (hb hbytes d0) rfl rfl ?_
    exact Steps.refl _)
  obtain ⟨T3, X3, q3, st3⟩ := X0.oinit hexec hown (wks W (objW "java/lang/String" 1)) (g := (mkF m 1 #[.val (.ref a), .val (.ref b), .val (.int (Int32.ofNat o)), .val (.int (Int32.ofNat len)), .val .null, .unset] [.ref a])) rfl (by rw [hml]; rfl) (rest := []) rfl (hb hbytes d1) (W := 0) (by show 2 * 0 + 0 ≤ _; decide) (Nat.le_of_ble_eq_true rfl) (Nat.le_of_ble_eq_true rfl)
  have hh3 := q3.trans hh0
  have c4 : Steps p.tables e below (s₁.setTop (entryFrame m #[.ref a, .ref b, .int (Int32.ofNat o), .int (Int32.ofNat len), .null] 6)) (T3.setTop (mkF m 27 #[.val (.ref a), .val (.ref b), .val (.int (Int32.ofNat o)), .val (.int (Int32.ofNat len)), .val .null, .unset] [])) := (c2.trans (st3 _ (Steps.refl _))).trans (by
    refine XS.iloadN X3.here hexec rfl (hb hbytes d4) rfl ?_
    refine XS.ifYes X3.here hexec rfl (pc0 := 5) rfl (hb hbytes d5) rfl (i0_ne_t (nz32 (by omega) l0)) (by decide) rfl ?_
    exact Steps.refl _)
  obtain ⟨T5, X5, q5, st5⟩ := X3.sget hexec hown (wk W (.fieldLink "java/lang/String" 38 "java/lang/String" "COMPACT_STRINGS" "Z")) s1 (fun _ _ h => by rw [hh3]; exact h) (g := (mkF m 27 #[.val (.ref a), .val (.ref b), .val (.int (Int32.ofNat o)), .val (.int (Int32.ofNat len)), .val .null, .unset] [])) rfl (hb hbytes d27)
  have hh5 := q5.trans hh3
  have c6 : Steps p.tables e below (s₁.setTop (entryFrame m #[.ref a, .ref b, .int (Int32.ofNat o), .int (Int32.ofNat len), .null] 6)) (T5.setTop (mkF m 30 #[.val (.ref a), .val (.ref b), .val (.int (Int32.ofNat o)), .val (.int (Int32.ofNat len)), .val .null, .unset] [.int z])) := c4.trans (st5 _ (Steps.refl _))
  have c7 : Steps p.tables e below (s₁.setTop (entryFrame m #[.ref a, .ref b, .int (Int32.ofNat o), .int (Int32.ofNat len), .null] 6)) (T5.setTop (mkF m 36 #[.val (.ref a), .val (.ref b), .val (.int (Int32.ofNat o)), .val (.int (Int32.ofNat len)), .val .null, .unset] [.int (Int32.ofNat len), .int (Int32.ofNat o), .ref b])) := c6.trans (by
    refine XS.ifNo X5.here hexec rfl (hb hbytes d30) rfl (i0_eq_f hz) ?_
    refine XS.aloadN X5.here hexec rfl (hb hbytes d33) rfl rfl ?_
    refine XS.iloadN X5.here hexec rfl (hb hbytes d34) rfl ?_
    refine XS.iloadN X5.here hexec rfl (hb hbytes d35) rfl ?_
    exact Steps.refl _)
  obtain ⟨v8, T8, X8, E8, g8⟩ := X5.callS hexec (Cmp3.law l b A o len) hown (wks W (staticW "java/lang/String" 177 Cmp3.yN)) (wk W Cmp3.tab) (W := 0) (Nat.le_of_ble_eq_true rfl) (Nat.le_of_ble_eq_true rfl) (Nat.le_refl _) (by show 0 + len ≤ len; omega) (g := (mkF m 36 #[.val (.ref a), .val (.ref b), .val (.int (Int32.ofNat o)), .val (.int (Int32.ofNat len)), .val .null, .unset] [.int (Int32.ofNat len), .int (Int32.ofNat o), .ref b])) rfl (by rw [hml]; rfl) c7 (argsL := [.ref b, .int (Int32.ofNat o), .int (Int32.ofNat len)]) (rest := []) rfl rfl (by show 2 * 0 + 0 ≤ _; decide) (hb hbytes d36) (⟨rfl, hA.mv X5.warmed.alike hh5, l1, l2, hp⟩)
  obtain ⟨e8, z8⟩ := E8
  obtain ⟨rfl, N, n1, n2, n3, n4, n5, n6⟩ := NewArr.mv _ T5 s _ _ hh5.symm (Vm.Alike.refl _) rfl e8
  rw [hh5] at z8
  have hB1 := hB.keep X8.warmed.alike (n6 _ _ hB.1)
  have hne : s.heap.size ≠ a := (Nat.ne_of_lt (Array.getElem?_eq_some_iff.mp hB.1).1).symm
  have c9 : Steps p.tables e below (s₁.setTop (entryFrame m #[.ref a, .ref b, .int (Int32.ofNat o), .int (Int32.ofNat len), .null] 6)) (T8.setTop (mkF m 39 #[.val (.ref a), .val (.ref b), .val (.int (Int32.ofNat o)), .val (.int (Int32.ofNat len)), .val .null, .unset] [.ref s.heap.size])) := g8
  have c10 : Steps p.tables e below (s₁.setTop (entryFrame m #[.ref a, .ref b, .int (Int32.ofNat o), .int (Int32.ofNat len), .null] 6)) (T8.setTop (mkF m 45 #[.val (.ref a), .val (.ref b), .val (.int (Int32.ofNat o)), .val (.int (Int32.ofNat len)), .val .null, .val (.ref s.heap.size)] [.int (Int32.ofNat N.slots.size), .ref s.heap.size, .ref a])) := by
    have hc : Steps p.tables e below (s₁.setTop (entryFrame m #[.ref a, .ref b, .int (Int32.ofNat o), .int (Int32.ofNat len), .null] 6)) (T8.setTop (mkF m 45 #[.val (.ref a), .val (.ref b), .val (.int (Int32.ofNat o)), .val (.int (Int32.ofNat len)), .val .null, .val (.ref s.heap.size)] [.int (Int32.ofNat len), .ref s.heap.size, .ref a])) := c9.trans (by
      refine XS.astore X8.here hexec rfl (hb hbytes d39) rfl rfl rfl ?_
      refine XS.aloadN X8.here hexec rfl (hb hbytes d41) rfl rfl ?_
      refine XS.aload X8.here hexec rfl (hb hbytes d42) rfl rfl ?_
      refine XS.iloadN X8.here hexec rfl (hb hbytes d44) rfl ?_
      exact Steps.refl _)
    rw [n4]; exact hc
  obtain ⟨v11, T11, X11, E11, g11⟩ := X8.callS hexec (CodL.law l s.heap.size N) hown (wks W (staticW "java/lang/String" 47 CodL.yN)) (wk W CodL.tab) (W := 1) (Nat.le_of_ble_eq_true rfl) (Nat.le_of_ble_eq_true rfl) (Nat.le_refl _) (by show 0 + len + 0 ≤ len; omega) (g := (mkF m 45 #[.val (.ref a), .val (.ref b), .val (.int (Int32.ofNat o)), .val (.int (Int32.ofNat len)), .val .null, .val (.ref s.heap.size)] [.int (Int32.ofNat N.slots.size), .ref s.heap.size, .ref a])) rfl (by rw [hml]; rfl) c10 (argsL := [.ref s.heap.size, .int (Int32.ofNat N.slots.size)]) (rest := [.ref a]) rfl rfl (by show 2 * 0 + (1 + 0) ≤ _; decide) (hb hbytes d45) (⟨rfl, n1⟩)
  obtain ⟨rfl, q11⟩ := E11
  have hB11 := hB1.mv (X8.warmed.alike.symm.trans X11.warmed.alike) q11
  have c12 : Steps p.tables e below (s₁.setTop (entryFrame m #[.ref a, .ref b, .int (Int32.ofNat o), .int (Int32.ofNat len), .null] 6)) (T11.setTop (mkF m 48 #[.val (.ref a), .val (.ref b), .val (.int (Int32.ofNat o)), .val (.int (Int32.ofNat len)), .val .null, .val (.ref s.heap.size)] [.int 0, .ref a])) := g11
  obtain ⟨T13, X13, p13, bl13, sl13, st13⟩ := X11.finit hexec hown (wk W (.fieldLink "java/lang/String" 15 "java/lang/String" "coder" "B")) (Or.inr ⟨_, (wk W (.laysFinal "java/lang/String" "java/lang/String" "coder" "B"))⟩) (Or.inl ⟨rfl, hnm⟩) f2 (Or.inl rfl) hB11 (t := .byte) (by decide +kernel) rfl (g := (mkF m 48 #[.val (.ref a), .val (.ref b), .val (.int (Int32.ofNat o)), .val (.int (Int32.ofNat len)), .val .null, .val (.ref s.heap.size)] [.int 0, .ref a])) rfl (rest := []) rfl (hb hbytes d48)
  have c14 : Steps p.tables e below (s₁.setTop (entryFrame m #[.ref a, .ref b, .int (Int32.ofNat o), .int (Int32.ofNat len), .null] 6)) (T13.setTop (mkF m 54 #[.val (.ref a), .val (.ref b), .val (.int (Int32.ofNat o)), .val (.int (Int32.ofNat len)), .val .null, .val (.ref s.heap.size)] [.ref s.heap.size, .ref a])) := (c12.trans (st13 _ (Steps.refl _))).trans (by
    refine XS.aloadN X13.here hexec rfl (hb hbytes d51) rfl rfl ?_
    refine XS.aload X13.here hexec rfl (hb hbytes d52) rfl rfl ?_
    exact Steps.refl _)
  obtain ⟨T15, X15, p15, bl15, sl15, st15⟩ := X13.finit hexec hown (wk W (.fieldLink "java/lang/String" 9 "java/lang/String" "value" "[B")) (Or.inr ⟨_, (wk W (.laysFinal "java/lang/String" "java/lang/String" "value" "[B"))⟩) (Or.inl ⟨rfl, hnm⟩) f1 (Or.inl rfl) bl13 (t := (.array .byte)) (by decide +kernel) rfl (g := (mkF m 54 #[.val (.ref a), .val (.ref b), .val (.int (Int32.ofNat o)), .val (.int (Int32.ofNat len)), .val .null, .val (.ref s.heap.size)] [.ref s.heap.size, .ref a])) rfl (rest := []) rfl (hb hbytes d54)
  have c16 : Steps p.tables e below (s₁.setTop (entryFrame m #[.ref a, .ref b, .int (Int32.ofNat o), .int (Int32.ofNat len), .null] 6)) (T15.setTop (mkF m 57 #[.val (.ref a), .val (.ref b), .val (.int (Int32.ofNat o)), .val (.int (Int32.ofNat len)), .val .null, .val (.ref s.heap.size)] [])) := c14.trans (st15 _ (Steps.refl _))
  have ap := apart (Or.inr ⟨_, (wk W (.laysFinal "java/lang/String" "java/lang/String" "value" "[B"))⟩) (Or.inr ⟨_, (wk W (.laysFinal "java/lang/String" "java/lang/String" "coder" "B"))⟩) f1 f2 (t₁ := .array .byte) (t₂ := .byte) (by decide +kernel) (by decide +kernel) (by decide)
  have al := X8.warmed.alike.symm.trans X15.warmed.alike
  have n7 : T11.heap[s.heap.size]? = some N := by rw [q11]; exact n1.1
  exact ⟨T15, none, _, _, _, X15, by simp, rfl, by omega, (fun _ => rfl), ⟨rfl, _, N, bl15, ((Same.refl D _).set _ (by simp)).set _ (by simp), sl15, (Cell.slots_setSlot_ne _ ap).trans sl13, n1.keep al (p15.other hne (p13.other hne n7)), n2, by rw [al.findClass]; exact n3, n4, n5, fun y c h1 h2 => p15.other h1 (p13.other h1 (by rw [q11]; exact n6 y c h2)), by rw [p15.2.2, p13.2.2, q11]; exact z8⟩, fun fs hl => c16.trans (X15.returnOut hexec hret (hb hbytes d57) hl)⟩
end New4
namespace New1
def yN : MethodName := ⟨"java/lang/String", "<init>", "([C)V"⟩
abbrev yB : ByteArray := jdk_42_method_3_code
theorem d0 : decode yB 0 = .ok (.aload_n 0, 1) := by decide +kernel
theorem d1 : decode yB 1 = .ok (.aload_n 1, 1) := by decide +kernel
theorem d2 : decode yB 2 = .ok (.iconst 0, 1) := by decide +kernel
theorem d3 : decode yB 3 = .ok (.aload_n 1, 1) := by decide +kernel
theorem d4 : decode yB 4 = .ok (.arraylength, 1) := by decide +kernel
theorem d5 : decode yB 5 = .ok (.aconst_null, 1) := by decide +kernel
theorem d6 : decode yB 6 = .ok (.invokespecial 27, 3) := by decide +kernel
theorem d9 : decode yB 9 = .ok (.return_, 1) := by decide +kernel
def site : List Cond := [New4.tab] ++ initW "java/lang/String" 27 New4.yN
def tab : Cond := tabOf yN yB 2 none site
def P (a : Addr) (D : Cell) (fV fC : Field) (b : Addr) (A : Cell) (z : Int32) (args : Array Value) (s : State) : Prop := args = #[.ref a, .ref b] ∧ Blank "java/lang/String" a D s ∧ Found "java/lang/String" "value" "[B" fV s ∧ Found "java/lang/String" "coder" "B" fC s ∧ Ch b A s ∧ StaticIs s "java/lang/String" "COMPACT_STRINGS" "Z" (.int z) ∧ ¬ z = 0 ∧ 0 < A.slots.size ∧ A.slots.size ≤ 536870912 ∧ ∀ i, i < A.slots.size → ¬ 255 < cv A i
def E (a : Addr) (D : Cell) (fV fC : Field) (A : Cell) (r : Option Value) (s u : State) : Prop := Got a D fV fC A 0 A.slots.size r s u
/-- new String(chars), not empty, no char above 255: a Latin-1 String of their low bytes -/
theorem law (l : Launch) (a : Addr) (D : Cell) (fV fC : Field) (b : Addr) (A : Cell) (z : Int32) : Law l yN 2 1 3 52 yB 2 none site (P a D fV fC b A z) (E a D fV fC A) [⟨a, fC.slot⟩, ⟨a, fV.slot⟩] 1 A.slots.size := by
  refine Law.of_walk (plainFor_of_name (by decide +kernel)) (by decide +kernel) (by decide +kernel) (by decide) (fun _ _ h => by rw [h.1]; rfl) (fun _ U U' hal hh h => ⟨h.1, h.2.1.mv hal hh, h.2.2.1.al hal, h.2.2.2.1.al hal, h.2.2.2.2.1.mv hal hh, h.2.2.2.2.2.1.there hal hh, h.2.2.2.2.2.2⟩) (fun r U U' V V' h1 hal h2 h => Got.mv r U U' V V' h1 hal h2 h) ?_
  intro p e s m args below meth c s₁ X0 hexec hbytes hml hret hlk hnm hown hh0 W hP
  obtain ⟨rfl, hB, f1, f2, hA, s1, hz, l0, l2, hp⟩ := hP
  have c1 : Steps p.tables e below (s₁.setTop (entryFrame m #[.ref a, .ref b] 2)) (s₁.setTop (mkF m 0 #[.val (.ref a), .val (.ref b)] [])) := entry rfl
  have c2 : Steps p.tables e below (s₁.setTop (entryFrame m #[.ref a, .ref b] 2)) (s₁.setTop (mkF m 6 #[.val (.ref a), .val (.ref b)] [.null, .int (Int32.ofNat A.slots.size), .int 0, .ref b, .ref a])) := c1.trans (by
    refine XS.aloadN X0.here hexec rfl (hb hbytes d0) rfl rfl ?_
    refine XS.aloadN X0.here hexec rfl (hb hbytes d1) rfl rfl ?_
    refine iconstV X0.here hexec rfl 0 (hb hbytes d2) (by decide) ?_
    refine XS.aloadN X0.here hexec rfl (hb hbytes d3) rfl rfl ?_
    refine X0.alen hexec (hA.1.mv X0.warmed.alike hh0) rfl rfl (hb hbytes d4) ?_
    refine XS.aconstNull X0.here hexec rfl (hb hbytes d5) ?_
    exact Steps.refl _)
  obtain ⟨v3, T3, X3, E3, g3⟩ := X0.callN hexec (New4.law l a D fV fC b A z 0 A.slots.size) rfl hown (wks W (initW "java/lang/String" 27 New4.yN)) (W New4.tab (by simp only [site, List.mem_cons, List.mem_append, true_or, or_true])) (W := 0) (Nat.le_of_ble_eq_true rfl) (Nat.le_of_ble_eq_true rfl) (Nat.le_refl _) (by show 0 + A.slots.size ≤ A.slots.size; omega) (g := (mkF m 6 #[.val (.ref a), .val (.ref b)] [.null, .int (Int32.ofNat A.slots.size), .int (Int32.ofNat 0), .ref b, .ref a])) rfl (by rw [hml]; rfl) c2 (argsL := [.ref b, .int (Int32.ofNat 0), .int (Int32.ofNat A.slots.size), .null]) (rest := []) rfl rfl (by show 2 * 0 + 0 ≤ _; decide) (hb hbytes d6) (⟨rfl, hB.mv X0.warmed.alike hh0, f1.al X0.warmed.alike, f2.al X0.warmed.alike, hA.mv X0.warmed.alike hh0, s1.there X0.warmed.alike hh0, hz, l0, by omega, l2, fun i hi => by rw [Nat.zero_add]; exact hp i hi⟩)
  have e0 := Got.mv _ s₁ s _ _ hh0.symm (Vm.Alike.refl _) rfl E3
  obtain rfl := e0.1
  have c4 : Steps p.tables e below (s₁.setTop (entryFrame m #[.ref a, .ref b] 2)) (T3.setTop (mkF m 9 #[.val (.ref a), .val (.ref b)] [])) := g3
  exact ⟨T3, none, _, _, _, X3, by simp, rfl, by omega, (fun _ => rfl), e0, fun fs hl => c4.trans (X3.returnOut hexec hret (hb hbytes d9) hl)⟩
theorem pays {l : Launch} {R : Room} {p : Program} {e : Env} {below : List Frame} {s : State} {sargs : Array Value} {len W : Nat} (a : Addr) (D : Cell) (fV fC : Field) (b : Addr) (A : Cell) (z : Int32) (htab : tab.before sargs s = true) (hfr : 4 ≤ R.frames) (hlo : W + 65 ≤ R.locals) :
    Back l R p e below s sargs yN len W (fun A₁ a₁ => A₁.cells + 1 ≤ R.cells ∧ A₁.slots + A.slots.size ≤ R.slots ∧ P a D fV fC b A z a₁ A₁.U) (fun A₁ _ v₁ B₁ => E a D fV fC A v₁ A₁.U B₁.U ∧ B₁.locs = A₁.locs ++ [⟨a, fC.slot⟩, ⟨a, fV.slot⟩] ∧ B₁.cells = A₁.cells + 1 ∧ B₁.slots = A₁.slots + A.slots.size) :=
  (law l a D fV fC b A z).pays htab hfr (by omega)
end New1
/-- the byte, read back as charAt reads it, is the char -/
theorem lo8_mask {x : Int32} (h0 : ¬ x < 0) (h1 : ¬ 255 < x) : lo8 x &&& 255 = x := by
  have t : ∀ k : Fin 256, lo8 (Int32.ofNat k.val) &&& 255 = Int32.ofNat k.val := by decide +kernel
  rw [Int32.lt_iff_toInt_lt] at h0 h1
  have e0 : (0 : Int32).toInt = 0 := rfl
  have e1 : (255 : Int32).toInt = 255 := rfl
  obtain ⟨k, hk⟩ : ∃ k : Nat, x.toInt = k := ⟨x.toInt.toNat, by omega⟩
  have hx : x = Int32.ofNat k := Int32.toInt_inj.mp (by rw [hk, Int32.toInt_ofNat_small (by omega)])
  rw [hx]
  exact t ⟨k, by omega⟩
end StrChars
namespace StrChars.Road
open Jvm Sem ClassFile Op Lib Jvm.Stand Jvm.Free Jvm.Free.XT
open Jvm.Lib.Cold (StaticIs)
abbrev ST : String := "java/lang/String"
/-- every table word that New1's law asks, flat -/
abbrev words : List Jvm.Cond := [.code New1.yN New1.yB 2 none, .initialized ST, .methodLink ST 27 New4.yN, .instanceMethod New4.yN,
  .code New4.yN New4.yB 6 none, .fieldLink ST 38 ST "COMPACT_STRINGS" "Z", .laysFinal ST ST "value" "[B", .fieldLink ST 9 ST "value" "[B", .laysFinal ST ST "coder" "B", .fieldLink ST 15 ST "coder" "B",
  .methodLink ST 1 Lib.objectInit, .instanceMethod Lib.objectInit, .code Lib.objectInit ⟨#[0xb1]⟩ 1 none, .methodLink ST 177 Cmp3.yN, .static Cmp3.yN, .methodLink ST 47 CodL.yN, .static CodL.yN,
  .code Cmp3.yN Cmp3.yB 6 (some (.array .byte)), .initialized U16, .arrayClass .byte, .methodLink U16 115 Cmp5.yN, .static Cmp5.yN, .code Cmp5.yN Cmp5.yB 7 (some .int), .code CodL.yN CodL.yB 2 (some .byte)]
theorem tab_of {a : Array Value} {s : State} (h : ∀ w ∈ words, w.before a s = true) : New1.tab.before a s = true := by
  have h5 : Cmp5.tab.before a s = true := unparts (wk h (.code Cmp5.yN Cmp5.yB 7 (some .int))) (wks h (.initialized Cmp5.yN.cls :: Cmp5.site))
  have hc : CodL.tab.before a s = true := unparts (wk h (.code CodL.yN CodL.yB 2 (some .byte))) (wks h (.initialized CodL.yN.cls :: CodL.site))
  have q5 : ∀ w ∈ Cmp5.tab :: words, w.before a s = true := fun w hw => (List.mem_cons.mp hw).elim (fun e => e ▸ h5) (h w)
  have h3 : Cmp3.tab.before a s = true := unparts (wk q5 (.code Cmp3.yN Cmp3.yB 6 (some (.array .byte)))) (wks q5 (.initialized Cmp3.yN.cls :: Cmp3.site))
  have q3 : ∀ w ∈ Cmp3.tab :: CodL.tab :: words, w.before a s = true := fun w hw => (List.mem_cons.mp hw).elim (fun e => e ▸ h3) fun hw => (List.mem_cons.mp hw).elim (fun e => e ▸ hc) (h w)
  have h4 : New4.tab.before a s = true := unparts (wk q3 (.code New4.yN New4.yB 6 none)) (wks q3 (.initialized New4.yN.cls :: New4.site))
  have q4 : ∀ w ∈ New4.tab :: words, w.before a s = true := fun w hw => (List.mem_cons.mp hw).elim (fun e => e ▸ h4) (h w)
  exact unparts (wk q4 (.code New1.yN New1.yB 2 none)) (wks q4 (.initialized New1.yN.cls :: New1.site))
/-- the words ride from the start Z to the walk's own state -/
theorem moved {Z s : State} {a0 args : Array Value} (hZ : Z.Warmed39 s.vm) (hw : ∀ d ∈ words, d.before a0 Z = true) : ∀ d ∈ words, d.before args s = true := fun d hd => by
  have q := hw d hd
  have t : ∀ d ∈ words, d = .arrayClass .byte ∨ (d.onTables && d.keepsFace) = true := by decide +kernel
  rcases t d hd with rfl | t
  · exact RoadKit.mvA hZ q
  · exact RoadKit.mv hZ q t
/-- WHAT COMES BACK, over the tables of the start Z: h the heap at the call, h' behind it -/
def Q (Z : State) (x : Addr) (A : Cell) (h : Heap) (v : Option Value) (h' : Heap) (L : List Loc) : Prop := v = none ∧ (∀ y ∈ L, y.base = x) ∧ RoadKit.Keep h h' [x] ∧ h'.size = h.size + 1 ∧ RoadKit.Exa Z h' x ST ∧ RoadKit.Fld Z h' x ST "value" "[B" (.ref h.size) ∧ RoadKit.Fld Z h' x ST "coder" "B" (.int 0) ∧
  (∃ V : Cell, RoadKit.Arr Z h' h.size V .byte ∧ V.vm = .none ∧ Z.vm.findClass "[B" = some V.cls ∧ V.slots.size = A.slots.size ∧ ∀ j, j < A.slots.size → V.slots[j]? = some (.int (lo8 (cv A j)))) ∧
  ∀ (O n d : String) (w : Value), RoadKit.Fld Z h x O n d w → RoadKit.slotOf Z O n d ≠ RoadKit.slotOf Z ST "value" "[B" → RoadKit.slotOf Z O n d ≠ RoadKit.slotOf Z ST "coder" "B" → RoadKit.Fld Z h' x O n d w
/-- **new String(chars) AT A CALL, IN THE ROAD'S FORM**: for specialBack behind newO: x the fresh String, b the char[] with the cell A -/
theorem back {p : Program} {l : Launch} {e : Env} {R : Room} {s : State} {args : Array Value} {below : List Frame} {len W : Nat} {Z : State} {a0 : Array Value} {h : Heap} (hZ : Z.Warmed39 s.vm) (hw : ∀ d ∈ words, d.before a0 Z = true) {kI : Nat} (wi : (Jvm.Cond.instantiable ST kI).before a0 Z = true)
    {x b : Addr} {A : Cell} {z : Int32} {v0 c0 : Value} (E : RoadKit.Exa Z h x ST) (V : RoadKit.Fld Z h x ST "value" "[B" v0) (C : RoadKit.Fld Z h x ST "coder" "B" c0) (K : RoadKit.Arr Z h b A .char) (hty : Typed .char A) (S : RoadKit.Sta Z h ST "COMPACT_STRINGS" "Z" (.int z)) (hz : ¬ z = 0)
    (l0 : 0 < A.slots.size) (l2 : A.slots.size ≤ 536870912) (hp : ∀ i, i < A.slots.size → ¬ 255 < cv A i) (hfr : 4 ≤ R.frames) (hlo : W + 65 ≤ R.locals) :
    Back l R p e below s args New1.yN len W (fun P a => a = #[.ref x, .ref b] ∧ P.U.heap = h ∧ P.cells + 1 ≤ R.cells ∧ P.slots + A.slots.size ≤ R.slots)
      (fun P _ v B => ∃ L, Q Z x A h v B.U.heap L ∧ B.locs = P.locs ++ L ∧ B.cells = P.cells + 1 ∧ B.slots = P.slots + A.slots.size) := by
  intro m meth c P g ig mk a X hg hsize hdg hW hn hp'
  obtain ⟨rfl, rfl, r1, r2⟩ := hp'
  have al : Z.vm.Alike P.U.vm := hZ.alike.trans X.warmed.alike
  obtain ⟨D, cfV, kV, iV, fV, hD, gV, stV, knV, obV, asV, slV⟩ := id V
  obtain ⟨D', cfC, kC, iC, fC, hD', gC, stC, -, -, asC, slC⟩ := id C
  cases hD.symm.trans hD'
  obtain ⟨D2, kD, e1, e2, e3, e4, e5⟩ := id E
  cases hD.symm.trans e1
  obtain ⟨c2, k2, i1, i2, i3, -⟩ := Cond.instantiable_spec wi
  cases e2.symm.trans i1
  cases e3.symm.trans i2
  obtain ⟨kU, u1, u2⟩ := al.2.2 _ _ e3
  have hB : Blank ST x D P.U := ⟨hD, ⟨knV, fun q hq => by rw [hq] at obV; cases obV⟩, by rw [al.findClass]; exact e2, kU, u1, by rw [u2]; exact i3, by rw [u2]; exact e5 i3⟩
  have F1 : Found ST "value" "[B" fV P.U := ⟨SBG.found_only al ⟨cfV, kV, iV, gV⟩, stV⟩
  have F2 : Found ST "coder" "B" fC P.U := ⟨SBG.found_only al ⟨cfC, kC, iC, gC⟩, stC⟩
  have hA : Ch b A P.U := ⟨⟨K.1, State.isArrayOf_alike al K.2.1, K.2.2, by omega⟩, hty⟩
  have hS : StaticIs P.U ST "COMPACT_STRINGS" "Z" (.int z) := by
    obtain ⟨cfS, iS, kS, fS, st, cS, t1, t2, t3, t4, t5, t6, t7⟩ := S
    exact StaticIs.there (s := { Z with heap := P.U.heap }) ⟨cfS, iS, kS, fS, st, cS, t1, t2, t3, t4, t5, (fun q => by rw [q] at t6; cases t6), t7⟩ al rfl
  obtain ⟨v, B, X', ⟨⟨hv, E', V', q1, q2, q3, q4, q5, q6, q7, q8, q9, q10, q11⟩, hl, hc, hs⟩, st⟩ := New1.pays x D fV fC b A z (tab_of (moved hZ hw)) hfr hlo m meth c P g ig mk _ X hg hsize hdg hW hn ⟨r1, r2, rfl, hB, F1, F2, hA, hS, hz, l0, l2, hp⟩
  have al' : Z.vm.Alike B.U.vm := hZ.alike.trans X'.warmed.alike
  have hsz : E'.slots.size = D.slots.size := by
    obtain ⟨-, -, -, kB, w1, w2, w3⟩ := q1
    obtain ⟨kB', y1, y2⟩ := al'.2.2 _ _ e3
    rw [q2.2.1] at w1
    cases w1.symm.trans y1
    rw [w3, e5 i3, y2]
  refine ⟨v, B, X', ⟨_, ⟨hv, ?_, ⟨by omega, fun y cy hy hn' => q10 y cy (by simpa using hn') hy, fun y cy hy => ?_⟩, q11, ⟨E', _, q1.1, by rw [q2.2.1]; exact e2, by rw [q2.2.1]; exact e3, by rw [q2.1]; exact obV, fun _ => by rw [hsz]; exact e5 i3⟩,
    ⟨E', cfV, kV, iV, fV, q1.1, gV, stV, by rw [q2.1]; exact knV, by rw [q2.1]; exact obV, by rw [q2.2.1]; exact asV, q3⟩, ⟨E', cfC, kC, iC, fC, q1.1, gC, stC, by rw [q2.1]; exact knV, by rw [q2.1]; exact obV, by rw [q2.2.1]; exact asC, q4⟩,
    ⟨V', ⟨q5.1, State.isArrayOf_alike al'.symm q5.2.1, q5.2.2.1⟩, q6, by rw [← al'.findClass]; exact q7, q8, fun j hj => by have := q9 j hj; rwa [Nat.zero_add] at this⟩, fun O n d w F n1 n2 => ?_⟩, hl, hc, hs⟩, st⟩
  · intro y hy
    simp only [List.mem_cons, List.not_mem_nil, or_false] at hy
    rcases hy with rfl | rfl <;> rfl
  · by_cases q : y = x
    · subst q
      cases hD.symm.trans hy
      exact ⟨E', q1.1, q2.2.1, q2.1, hsz⟩
    · exact ⟨cy, q10 y cy q hy, rfl, rfl, rfl⟩
  · obtain ⟨D3, cf, k, i, f, g1, g2, g3, g4, g5, g6, g7⟩ := F
    cases hD.symm.trans g1
    simp only [RoadKit.slotOf, g2, gV, gC, Option.map_some, Option.getD_some] at n1 n2
    exact ⟨E', cf, k, i, f, q1.1, g2, g3, by rw [q2.1]; exact g4, by rw [q2.1]; exact g5, by rw [q2.2.1]; exact g6, by rw [q2.2.2 f.slot (by simp [n1, n2])]; exact g7⟩
end StrChars.Road
namespace StrChars.Road
open Jvm Sem ClassFile Op Lib Jvm.Stand Jvm.Free Jvm.Free.XT
/-- WHAT COMES BACK, the byte[] as a list of values -/
def QA (Z : State) (x : Addr) (zn : Int32) (cs : List Int32) (h : Heap) (v : Option Value) (h' : Heap) (L : List Loc) : Prop := v = none ∧ (∀ y ∈ L, y.base = x) ∧ RoadKit.Keep h h' [x] ∧ h'.size = h.size + 1 ∧ RoadKit.Exa Z h' x ST ∧ RoadKit.Fld Z h' x ST "value" "[B" (.ref h.size) ∧ RoadKit.Fld Z h' x ST "coder" "B" (.int 0) ∧
  (∃ kb, Z.vm.findClass "[B" = some kb ∧ RoadKit.Arv Z h' h.size kb .byte zn (cs.map fun c => .int (lo8 c)) (.int 0)) ∧
  ∀ (O n d : String) (w : Value), RoadKit.Fld Z h x O n d w → RoadKit.slotOf Z O n d ≠ RoadKit.slotOf Z ST "value" "[B" → RoadKit.slotOf Z O n d ≠ RoadKit.slotOf Z ST "coder" "B" → RoadKit.Fld Z h' x O n d w
/-- **new String(chars) AT A CALL, THE ARRAYS AS LISTS**: the char[] at b holds cs, not empty, no char above 255 -/
theorem backArv {p : Program} {l : Launch} {e : Env} {R : Room} {s : State} {args : Array Value} {below : List Frame} {len W : Nat} {Z : State} {a0 : Array Value} {h : Heap} (hZ : Z.Warmed39 s.vm) (hw : ∀ d ∈ words, d.before a0 Z = true) {kI : Nat} (wi : (Jvm.Cond.instantiable ST kI).before a0 Z = true)
    {x b : Addr} {k : ClassId} {zn z : Int32} {cs : List Int32} {dv v0 c0 : Value} (E : RoadKit.Exa Z h x ST) (V : RoadKit.Fld Z h x ST "value" "[B" v0) (C : RoadKit.Fld Z h x ST "coder" "B" c0) (K : RoadKit.Arv Z h b k .char zn (cs.map Value.int) dv) (S : RoadKit.Sta Z h ST "COMPACT_STRINGS" "Z" (.int z)) (hz : ¬ z = 0)
    (hlen : zn.toNatClampNeg = cs.length) (h0 : 0 < cs.length) (hbig : cs.length ≤ 536870912) (hall : ∀ c ∈ cs, ¬ 255 < c) (hfr : 4 ≤ R.frames) (hlo : W + 65 ≤ R.locals) :
    Back l R p e below s args New1.yN len W (fun P a => a = #[.ref x, .ref b] ∧ P.U.heap = h ∧ P.cells + 1 ≤ R.cells ∧ P.slots + cs.length ≤ R.slots)
      (fun P _ v B => ∃ L, QA Z x zn cs h v B.U.heap L ∧ B.locs = P.locs ++ L ∧ B.cells = P.cells + 1 ∧ B.slots = P.slots + cs.length) := by
  obtain ⟨A, K1, K2, K3, K4, K5, K6⟩ := K
  have e : A.slots.size = cs.length := K3.trans hlen
  have hat : ∀ (i : Nat) (hi : i < cs.length), A.slots[i]? = some (.int cs[i]) := fun i hi => by rw [K5 i (by omega)]; simp [List.getD_eq_getElem?_getD, hi]
  have hcv : ∀ (i : Nat) (hi : i < cs.length), cv A i = cs[i] := fun i hi => by unfold cv; rw [hat i hi]
  have hty : Typed .char A := fun i v hv => by
    have hi : i < A.slots.size := (Array.getElem?_eq_some_iff.mp hv).1
    have q := K5 i hi
    rw [hv] at q
    rw [Option.some.inj q]
    exact K6 i hi
  refine Back.mono (back hZ hw wi E V C K1 hty S hz (by omega) (by omega) (fun i hi => by rw [hcv i (by omega)]; exact hall _ (List.getElem_mem _)) hfr hlo) (fun P a hp => ⟨hp.1, hp.2.1, hp.2.2.1, by rw [e]; exact hp.2.2.2⟩) (fun P a v B hp hq => ?_)
  obtain ⟨L, ⟨q1, q2, q3, q4, q5, q6, q7, ⟨V', v1, v2, v3, v4, v5⟩, q9⟩, hl, hc, hs⟩ := hq
  refine ⟨L, ⟨q1, q2, q3, q4, q5, q6, q7, ⟨V'.cls, v3, V', v1, rfl, by rw [v4, e, hlen], K4, fun i hi => ?_, fun i hi => ?_⟩, q9⟩, hl, hc, by rw [hs, e]⟩
  · have hi' : i < cs.length := by omega
    rw [v5 i (by omega), hcv i hi']; simp [List.getD_eq_getElem?_getD, hi']
  · have hi' : i < cs.length := by omega
    simp only [List.getD_eq_getElem?_getD, List.getElem?_map, List.getElem?_eq_getElem hi', Option.map_some, Option.getD_some]
    exact fits_lo8 _
end StrChars.Road
namespace StrChars.Road
open Jvm Sem ClassFile Op Lib Jvm.Stand Jvm.Free Jvm.Free.XT
/-- WHAT COMES BACK, in the writer's own shape -/
def QV (Z : State) (x : Addr) (N : Int32) (bs : List Int32) (h : Heap) (n0 : Nat) (v : Option Value) (h' : Heap) (L : List Loc) : Prop := v = none ∧ RoadKit.Fr n0 L ∧ RoadKit.Keep h h' [x] ∧ RoadKit.Exa Z h' x ST ∧ RoadKit.Fld Z h' x ST "coder" "B" (.int 0) ∧
  ∃ (t : Addr) (kb : ClassId), n0 ≤ t ∧ h.size ≤ t ∧ ¬ t = x ∧ RoadKit.Fld Z h' x ST "value" "[B" (.ref t) ∧ RoadKit.Arv Z h' t kb .byte N (bs.map Value.int) (.int 0)
/-- **new String(chars) AT A CALL, FOR THE WRITER**: a char[] of n known ints, each 0 to 255 -/
theorem backV {p : Program} {l : Launch} {e : Env} {R : Room} {s : State} {args : Array Value} {below : List Frame} {len W : Nat} {Z : State} {a0 : Array Value} {h : Heap} (hZ : Z.Warmed39 s.vm) (hw : ∀ d ∈ words, d.before a0 Z = true) {kI : Nat} (wi : (Jvm.Cond.instantiable ST kI).before a0 Z = true)
    {x b : Addr} {kC : ClassId} {cs bs : List Int32} {d v0 c0 : Value} {z N : Int32} {n n0 : Nat} (hx0 : n0 ≤ x) (hh0 : n0 ≤ h.size) (E : RoadKit.Exa Z h x ST) (V : RoadKit.Fld Z h x ST "value" "[B" v0) (C : RoadKit.Fld Z h x ST "coder" "B" c0) (K : RoadKit.Arv Z h b kC .char N (cs.map Value.int) d) (S : RoadKit.Sta Z h ST "COMPACT_STRINGS" "Z" (.int z)) (hz : ¬ z = 0)
    (hn : cs.length = n) (hN : N = Int32.ofNat n) (l0 : 0 < n) (l2 : n ≤ 4000) (hp : ∀ c ∈ cs, ¬ c < 0 ∧ ¬ (255 : Int32) < c) (hb : bs = cs.map (fun c => c.toInt8.toInt32)) (hfr : 4 ≤ R.frames) (hlo : W + 65 ≤ R.locals) :
    Back l R p e below s args (⟨"java/lang/String", "<init>", "([C)V"⟩ : MethodName) len W (fun P a => a = #[.ref x, .ref b] ∧ P.U.heap = h ∧ P.cells + 1 ≤ R.cells ∧ P.slots + n ≤ R.slots)
      (fun P _ v B => ∃ L, QV Z x N bs h n0 v B.U.heap L ∧ B.locs = P.locs ++ L ∧ B.cells = P.cells + 1 ∧ B.slots = P.slots + n) := by
  subst hn hN hb
  refine Back.mono (backArv hZ hw wi E V C K S hz (n32 (by omega)) l0 (by omega) (fun c hc => (hp c hc).2) hfr hlo) (fun P a hp => hp) (fun P a v B hp hq => ?_)
  obtain ⟨L, ⟨q1, q2, q3, q4, q5, q6, q7, ⟨kb, v1, v2⟩, q9⟩, hl, hc, hs⟩ := hq
  exact ⟨L, ⟨q1, fun y hy => by rw [q2 y hy]; exact hx0, q3, q5, q7, h.size, kb, hh0, Nat.le_refl _, Nat.ne_of_gt E.lt, q6, by rw [List.map_map]; exact v2⟩, hl, hc, hs⟩
end StrChars.Road
namespace StrChars
open Jvm Sem ClassFile Op Lib Jvm.Stand Jvm.Free.XT Jvm.Free.ALB Jvm.Free.JM Jvm.Free
open Jvm.Lib.Cold (StaticIs)
def hi8 (x : Int32) : Int32 := lo8 (x >>> ((8 : Int32) &&& 31))
/-- what StringUTF16.getChar makes of two bytes -/
def pairCh (u v : Int32) : Int32 := (((u &&& 255) <<< ((0 : Int32) &&& 31)) ||| ((v &&& 255) <<< ((8 : Int32) &&& 31))).toUInt32.toUInt16.toUInt32.toInt32
theorem lo8_and (x : Int32) : (lo8 x &&& 255).toBitVec.toNat = x.toBitVec.toNat % 256 := by
  have h : (lo8 x).toBitVec = (x.toBitVec.signExtend 8).signExtend 32 := by rw [lo8, Int8.toBitVec_toInt32, Int32.toBitVec_toInt8]
  rw [Int32.toBitVec_and, BitVec.toNat_and, h]
  have e : ((x.toBitVec.signExtend 8).signExtend 32).toNat % 256 = x.toBitVec.toNat % 256 := by
    rw [BitVec.toNat_signExtend]
    have hlt := x.toBitVec.isLt
    simp only [BitVec.toNat_setWidth, BitVec.toNat_signExtend]
    split <;> split <;> omega
  rw [← e]
  exact Nat.and_two_pow_sub_one_eq_mod _ 8
theorem pair_says {c : Int32} (h0 : ¬ c < 0) (h1 : ¬ 65535 < c) : pairCh (lo8 c) (hi8 c) = c := by
  rw [Int32.lt_iff_toInt_lt] at h0 h1
  have e0 : (0 : Int32).toInt = 0 := rfl
  have e1 : (65535 : Int32).toInt = 65535 := rfl
  have hc : c.toInt = c.toBitVec.toNat := by
    have := c.toBitVec.isLt
    have e : c.toInt = c.toBitVec.toInt := rfl
    rw [e] at h0 h1
    rw [e]
    rw [BitVec.toInt_eq_toNat_cond] at h0 h1 ⊢
    split at h0 <;> split <;> omega
  have hn : c.toBitVec.toNat < 65536 := by omega
  have a1 := lo8_and c
  have a2 : (hi8 c &&& 255).toBitVec.toNat = c.toBitVec.toNat / 256 := by
    rw [hi8, lo8_and]
    have e : ((8 : Int32) &&& 31) = 8 := by decide
    rw [e, Int32.toBitVec_shiftRight]
    have e2 : ((8 : Int32).toBitVec.smod 32) = 8#32 := by decide
    rw [e2, BitVec.sshiftRight_eq', BitVec.toNat_sshiftRight_of_msb_false (by rw [BitVec.msb_eq_false_iff_two_mul_lt]; omega)]
    show c.toBitVec.toNat >>> 8 % 256 = _
    rw [Nat.shiftRight_eq_div_pow]
    omega
  unfold pairCh
  apply Int32.toBitVec_inj.mp
  apply BitVec.eq_of_toNat_eq
  have f0 : ((0 : Int32) &&& 31) = 0 := by decide
  have f8 : ((8 : Int32) &&& 31) = 8 := by decide
  rw [f0, f8]
  have g : (((lo8 c &&& 255) <<< (0 : Int32)) ||| ((hi8 c &&& 255) <<< (8 : Int32))).toBitVec.toNat = c.toBitVec.toNat := by
    rw [Int32.toBitVec_or, Int32.toBitVec_shiftLeft, Int32.toBitVec_shiftLeft]
    have s0 : ((0 : Int32).toBitVec.smod 32) = 0#32 := by decide
    have s8 : ((8 : Int32).toBitVec.smod 32) = 8#32 := by decide
    rw [s0, s8, BitVec.toNat_or]
    simp only [BitVec.shiftLeft_eq', BitVec.toNat_shiftLeft, a1, a2]
    show (c.toBitVec.toNat % 256) <<< 0 % 2 ^ 32 ||| (c.toBitVec.toNat / 256) <<< 8 % 2 ^ 32 = _
    rw [Nat.shiftLeft_zero, Nat.mod_eq_of_lt (show c.toBitVec.toNat % 256 < 2 ^ 32 by omega), Nat.mod_eq_of_lt (show (c.toBitVec.toNat / 256) <<< 8 < 2 ^ 32 by rw [Nat.shiftLeft_eq]; omega), Nat.or_comm, ← Nat.shiftLeft_add_eq_or_of_lt (by omega), Nat.shiftLeft_eq]
    omega
  show BitVec.toNat (((((lo8 c &&& 255) <<< (0 : Int32)) ||| ((hi8 c &&& 255) <<< (8 : Int32))).toBitVec.setWidth 16).setWidth 32) = _
  rw [BitVec.toNat_setWidth, BitVec.toNat_setWidth, g]
  omega
end StrChars
namespace StrChars
open Jvm Sem ClassFile Op Lib Jvm.Stand Jvm.Free.XT Jvm.Free.ALB Jvm.Free.JM Jvm.Free
open Jvm.Lib.Cold (StaticIs)
/-- the array's cell V codes the n chars f 0 .. f (n - 1) by the coder cd, as the JDK does: coder 1 just where some char is above 255 -/
def Cod (cd : Int32) (n : Nat) (f : Nat → Int32) (V : Cell) : Prop := (cd = 0 ∧ V.slots.size = n ∧ ∀ j, j < n → V.slots[j]? = some (.int (lo8 (f j))) ∧ ¬ 255 < f j) ∨ (cd = 1 ∧ V.slots.size = 2 * n ∧ (∀ j, j < n → V.slots[2 * j]? = some (.int (lo8 (f j))) ∧ V.slots[2 * j + 1]? = some (.int (hi8 (f j)))) ∧ ∃ j, j < n ∧ 255 < f j)
/-- **x is a String of the n chars f 0 .. f (n - 1)**, Latin-1 or UTF-16; its array at t has the cell V -/
def Txt (x t : Addr) (V : Cell) (cd : Int32) (n : Nat) (f : Nat → Int32) (U : State) : Prop := Exact "java/lang/String" x U ∧ Has x "java/lang/String" "value" "[B" (.ref t) U ∧ Has x "java/lang/String" "coder" "B" (.int cd) U ∧ XT.Arr .byte t V U ∧ Cod cd n f V ∧ ∀ j, j < n → ¬ f j < 0 ∧ ¬ 65535 < f j
theorem Txt.mv {x t : Addr} {V : Cell} {cd : Int32} {n : Nat} {f : Nat → Int32} {U U' : State} (h : Txt x t V cd n f U) (hal : U.vm.Alike U'.vm) (hh : U'.heap = U.heap) : Txt x t V cd n f U' := ⟨h.1.mv hal hh, h.2.1.mv hal hh, h.2.2.1.mv hal hh, h.2.2.2.1.mv hal hh, h.2.2.2.2⟩
end StrChars
namespace StrChars.Road
open Jvm Sem ClassFile Op Lib Jvm.Stand Jvm.Free Jvm.Free.XT
open Jvm.Lib.Cold (StaticIs)
theorem consq {a : Array Value} {s : State} {c : Jvm.Cond} {L : List Jvm.Cond} (h0 : c.before a s = true) (h : ∀ w ∈ L, w.before a s = true) : ∀ w ∈ c :: L, w.before a s = true := fun w hw => (List.mem_cons.mp hw).elim (fun e => e ▸ h0) (h w)
/-- the bytes of the chars cs, low before high -/
def wideBytes : List Int32 → List Value
  | [] => []
  | c :: cs => .int (lo8 c) :: .int (hi8 c) :: wideBytes cs
theorem wide_lo (d : Value) : ∀ (cs : List Int32) (j : Nat), j < cs.length → (wideBytes cs).getD (2 * j) d = .int (lo8 (cs.getD j 0))
  | [], j, h => absurd h (Nat.not_lt_zero j)
  | c :: cs, 0, _ => rfl
  | c :: cs, j + 1, h => by
    have q := wide_lo d cs j (by simpa using h)
    rw [show 2 * (j + 1) = 2 * j + 1 + 1 from by omega]
    simpa [wideBytes] using q
theorem wide_hi (d : Value) : ∀ (cs : List Int32) (j : Nat), j < cs.length → (wideBytes cs).getD (2 * j + 1) d = .int (hi8 (cs.getD j 0))
  | [], j, h => absurd h (Nat.not_lt_zero j)
  | c :: cs, 0, _ => rfl
  | c :: cs, j + 1, h => by
    have q := wide_hi d cs j (by simpa using h)
    rw [show 2 * (j + 1) + 1 = 2 * j + 1 + 1 + 1 from by omega]
    simpa [wideBytes] using q
theorem low_at (d : Value) (cs : List Int32) (j : Nat) (h : j < cs.length) : (cs.map fun c => Value.int (lo8 c)).getD j d = .int (lo8 (cs.getD j 0)) := by
  simp [List.getD_eq_getElem?_getD, h]
/-- an array of N2 bytes vs codes the chars cs by the coder cd -/
def CodA (cs : List Int32) (cd N2 : Int32) (vs : List Value) : Prop := (cd = 0 ∧ N2 = Int32.ofNat cs.length ∧ vs = (cs.map fun c => Value.int (lo8 c)) ∧ ∀ c ∈ cs, ¬ 255 < c) ∨ (cd = 1 ∧ N2 = Int32.ofNat (2 * cs.length) ∧ vs = wideBytes cs ∧ ∃ c ∈ cs, 255 < c)
theorem CodA.cod {cs : List Int32} {cd N2 : Int32} {vs : List Value} {V : Cell} (h : CodA cs cd N2 vs) (hn : 2 * cs.length < 2 ^ 31) (hs : V.slots.size = N2.toNatClampNeg) (hv : RoadKit.Has V vs (.int 0)) : Cod cd cs.length (fun j => cs.getD j 0) V := by
  rcases h with ⟨rfl, rfl, rfl, h⟩ | ⟨rfl, rfl, rfl, c, hc, hw⟩
  · rw [n32 (by omega)] at hs
    exact Or.inl ⟨rfl, hs, fun j hj => ⟨by rw [hv j (by omega), low_at _ _ _ hj], by
      have e : cs.getD j 0 = cs[j] := by simp [List.getD_eq_getElem?_getD, hj]
      show ¬ 255 < cs.getD j 0
      rw [e]; exact h _ (List.getElem_mem _)⟩⟩
  · rw [n32 (by omega)] at hs
    obtain ⟨j, hj, rfl⟩ := List.getElem_of_mem hc
    exact Or.inr ⟨rfl, hs, fun j hj => ⟨by rw [hv _ (by omega), wide_lo _ _ _ hj], by rw [hv _ (by omega), wide_hi _ _ _ hj]⟩, j, hj, by
      have e : cs.getD j 0 = cs[j] := by simp [List.getD_eq_getElem?_getD, hj]
      show 255 < cs.getD j 0
      rw [e]; exact hw⟩
/-- an object of exactly java/lang/String, its two fields found: as the laws ask it -/
theorem strObj {Z U : State} {a0 : Array Value} {kI : Nat} (wi : (Jvm.Cond.instantiable ST kI).before a0 Z = true) (al : Z.vm.Alike U.vm) {x : Addr} {v0 c0 : Value} (E : RoadKit.Exa Z U.heap x ST) (V : RoadKit.Fld Z U.heap x ST "value" "[B" v0) (C : RoadKit.Fld Z U.heap x ST "coder" "B" c0) :
    ∃ (D : Cell) (fV fC : Field), Blank ST x D U ∧ Found ST "value" "[B" fV U ∧ Found ST "coder" "B" fC U ∧ D.slots[fV.slot]? = some v0 ∧ D.slots[fC.slot]? = some c0 ∧ RoadKit.slotOf Z ST "value" "[B" = fV.slot ∧ RoadKit.slotOf Z ST "coder" "B" = fC.slot := by
  obtain ⟨D, cfV, kV, iV, fV, hD, gV, stV, knV, obV, asV, slV⟩ := V
  obtain ⟨D', cfC, kC, iC, fC, hD', gC, stC, -, -, asC, slC⟩ := C
  cases hD.symm.trans hD'
  obtain ⟨D2, kD, e1, e2, e3, e4, e5⟩ := E
  cases hD.symm.trans e1
  obtain ⟨c2, k2, i1, i2, i3, -⟩ := Cond.instantiable_spec wi
  cases e2.symm.trans i1
  cases e3.symm.trans i2
  obtain ⟨kU, u1, u2⟩ := al.2.2 _ _ e3
  exact ⟨D, fV, fC, ⟨hD, ⟨knV, fun q hq => by rw [hq] at obV; cases obV⟩, by rw [al.findClass]; exact e2, kU, u1, by rw [u2]; exact i3, by rw [u2]; exact e5 i3⟩, ⟨SBG.found_only al ⟨cfV, kV, iV, gV⟩, stV⟩, ⟨SBG.found_only al ⟨cfC, kC, iC, gC⟩, stC⟩, slV, slC, by simp [RoadKit.slotOf, gV], by simp [RoadKit.slotOf, gC]⟩
theorem sta_is {Z U : State} (al : Z.vm.Alike U.vm) {C n d : String} {v : Value} (S : RoadKit.Sta Z U.heap C n d v) : StaticIs U C n d v := by
  obtain ⟨cfS, iS, kS, fS, st, cS, t1, t2, t3, t4, t5, t6, t7⟩ := S
  exact StaticIs.there (s := { Z with heap := U.heap }) ⟨cfS, iS, kS, fS, st, cS, t1, t2, t3, t4, t5, (fun q => by rw [q] at t6; cases t6), t7⟩ al rfl
end StrChars.Road
namespace StrChars
open Jvm Sem ClassFile Op Lib Jvm.Stand Jvm.Free.XT Jvm.Free.ALB Jvm.Free.JM Jvm.Free
open Jvm.Lib.Cold (StaticIs)
/-- what place i of a byte[]'s cell holds -/
def yv (A : Cell) (i : Nat) : Int32 := match A.slots[i]? with | some (.int x) => x | _ => 0
theorem yv_get {a : Addr} {A : Cell} {U : State} (h : XT.Arr .byte a A U) (ht : Typed .byte A) {i : Nat} (hi : i < A.slots.size) : A.slots[i]? = some (.int (yv A i)) := by
  have e := Array.getElem?_eq_getElem hi
  have f := ht i _ e
  unfold yv; rw [e]
  generalize A.slots[i] = v at f
  cases v <;> simp [fits] at f ⊢
/-- the two arrays are equal, place for place -/
def EqC (A B : Cell) : Prop := A.slots.size = B.slots.size ∧ ∀ i, i < A.slots.size → yv A i = yv B i
/-- a boolean that says whether p -/
def Says01 (q : Prop) (r : Option Value) (s u : State) : Prop := ∃ v : Int32, r = some (.int v) ∧ u.heap = s.heap ∧ ((v = 1 ∧ q) ∨ (v = 0 ∧ ¬ q))
theorem Says01.mv {q : Prop} : ∀ r (U U' V V' : State), U'.heap = U.heap → V.vm.Alike V'.vm → V'.heap = V.heap → Says01 q r U V → Says01 q r U' V' :=
  fun r U U' V V' h1 _ h2 ⟨v, a, b, c⟩ => ⟨v, a, by rw [h1, h2]; exact b, c⟩
namespace LEq
def yN : MethodName := ⟨"java/lang/StringLatin1", "equals", "([B[B)Z"⟩
abbrev yB : ByteArray := jdk_43_method_13_code
theorem d0 : decode yB 0 = .ok (.aload_n 0, 1) := by decide +kernel
theorem d1 : decode yB 1 = .ok (.arraylength, 1) := by decide +kernel
theorem d2 : decode yB 2 = .ok (.aload_n 1, 1) := by decide +kernel
theorem d3 : decode yB 3 = .ok (.arraylength, 1) := by decide +kernel
theorem d4 : decode yB 4 = .ok (.if_icmp (.ne) 30, 3) := by decide +kernel
theorem d7 : decode yB 7 = .ok (.iconst 0, 1) := by decide +kernel
theorem d8 : decode yB 8 = .ok (.istore_n 2, 1) := by decide +kernel
theorem d9 : decode yB 9 = .ok (.iload_n 2, 1) := by decide +kernel
theorem d10 : decode yB 10 = .ok (.aload_n 0, 1) := by decide +kernel
theorem d11 : decode yB 11 = .ok (.arraylength, 1) := by decide +kernel
theorem d12 : decode yB 12 = .ok (.if_icmp (.ge) 20, 3) := by decide +kernel
theorem d15 : decode yB 15 = .ok (.aload_n 0, 1) := by decide +kernel
theorem d16 : decode yB 16 = .ok (.iload_n 2, 1) := by decide +kernel
theorem d17 : decode yB 17 = .ok (.baload, 1) := by decide +kernel
theorem d18 : decode yB 18 = .ok (.aload_n 1, 1) := by decide +kernel
theorem d19 : decode yB 19 = .ok (.iload_n 2, 1) := by decide +kernel
theorem d20 : decode yB 20 = .ok (.baload, 1) := by decide +kernel
theorem d21 : decode yB 21 = .ok (.if_icmp (.eq) 5, 3) := by decide +kernel
theorem d24 : decode yB 24 = .ok (.iconst 0, 1) := by decide +kernel
theorem d25 : decode yB 25 = .ok (.ireturn, 1) := by decide +kernel
theorem d26 : decode yB 26 = .ok (.iinc 2 1, 3) := by decide +kernel
theorem d29 : decode yB 29 = .ok (.goto (-20), 3) := by decide +kernel
theorem d32 : decode yB 32 = .ok (.iconst 1, 1) := by decide +kernel
theorem d33 : decode yB 33 = .ok (.ireturn, 1) := by decide +kernel
theorem d34 : decode yB 34 = .ok (.iconst 0, 1) := by decide +kernel
theorem d35 : decode yB 35 = .ok (.ireturn, 1) := by decide +kernel
def site : List Cond := []
def tab : Cond := tabOf yN yB 3 (some .boolean) site
def P (a : Addr) (A : Cell) (b : Addr) (B : Cell) (args : Array Value) (s : State) : Prop := args = #[.ref a, .ref b] ∧ XT.Arr .byte a A s ∧ Typed .byte A ∧ XT.Arr .byte b B s ∧ Typed .byte B
/-- whether two byte[] are equal, place for place -/
theorem law (l : Launch) (a : Addr) (A : Cell) (b : Addr) (B : Cell) : Law l yN 2 2 0 0 yB 3 (some .boolean) site (P a A b B) (Says01 (EqC A B)) [] 0 0 := by
  refine Law.of_walk (plainFor_of_name (by decide +kernel)) (by decide +kernel) (by decide +kernel) (by decide) (fun _ _ h => by rw [h.1]; rfl) (fun _ U U' hal hh h => ⟨h.1, h.2.1.mv hal hh, h.2.2.1, h.2.2.2.1.mv hal hh, h.2.2.2.2⟩) (fun r U U' V V' h1 hal h2 h => Says01.mv r U U' V V' h1 hal h2 h) ?_
  intro p e s m args below meth c s₁ X0 hexec hbytes hml hret hlk hnm hown hh0 W hP
  obtain ⟨rfl, hA, tA, hB, tB⟩ := hP
  have a31 := hA.2.2.2
  have b31 := hB.2.2.2
  have hA0 := hA.mv X0.warmed.alike hh0
  have hB0 := hB.mv X0.warmed.alike hh0
  have c1 : Steps p.tables e below (s₁.setTop (entryFrame m #[.ref a, .ref b] 3)) (s₁.setTop (mkF m 0 #[.val (.ref a), .val (.ref b), .unset] [])) := entry rfl
  have c2 : Steps p.tables e below (s₁.setTop (entryFrame m #[.ref a, .ref b] 3)) (s₁.setTop (mkF m 4 #[.val (.ref a), .val (.ref b), .unset] [.int (Int32.ofNat B.slots.size), .int (Int32.ofNat A.slots.size)])) := c1.trans (by
    refine XS.aloadN X0.here hexec rfl (hb hbytes d0) rfl rfl ?_
    refine X0.alen hexec hA0 rfl rfl (hb hbytes d1) ?_
    refine XS.aloadN X0.here hexec rfl (hb hbytes d2) rfl rfl ?_
    refine X0.alen hexec hB0 rfl rfl (hb hbytes d3) ?_
    exact Steps.refl _)
  by_cases hs : A.slots.size = B.slots.size
  · have c3 : Steps p.tables e below (s₁.setTop (entryFrame m #[.ref a, .ref b] 3)) (s₁.setTop (mkF m 9 #[.val (.ref a), .val (.ref b), .val (.int 0)] [])) := c2.trans (by
      refine XS.icmpNo X0.here hexec rfl (hb hbytes d4) rfl (ii_ne_f (by rw [hs])) ?_
      refine iconstV X0.here hexec rfl 0 (hb hbytes d7) (by decide) ?_
      refine XS.istoreN X0.here hexec rfl (hb hbytes d8) rfl rfl ?_
      exact Steps.refl _)
    have loop : ∀ (r i : Nat), i + r = A.slots.size → (∀ j, j < i → yv A j = yv B j) → Steps p.tables e below (s₁.setTop (entryFrame m #[.ref a, .ref b] 3)) (s₁.setTop (mkF m 9 #[.val (.ref a), .val (.ref b), .val (.int (Int32.ofNat i))] [])) → ∃ (pc : Nat) (Ls : Array Slot) (v : Int32), (pc = 25 ∨ pc = 33) ∧ ((v = 1 ∧ EqC A B) ∨ (v = 0 ∧ ¬ EqC A B)) ∧ Steps p.tables e below (s₁.setTop (entryFrame m #[.ref a, .ref b] 3)) (s₁.setTop (mkF m pc Ls [.int v])) := by
      intro r
      induction r with
      | zero =>
        intro i hi he cl
        exact ⟨33, _, 1, Or.inr rfl, Or.inl ⟨rfl, hs, fun j hj => he j (by omega)⟩, cl.trans (by
          refine XS.iloadN X0.here hexec rfl (hb hbytes d9) rfl ?_
          refine XS.aloadN X0.here hexec rfl (hb hbytes d10) rfl rfl ?_
          refine X0.alen hexec hA0 rfl rfl (hb hbytes d11) ?_
          refine XS.icmpYes X0.here hexec rfl (pc0 := 12) rfl (hb hbytes d12) rfl (ii_ge_t (nlt32 (by omega) (by omega))) (by decide) rfl ?_
          refine iconstV X0.here hexec rfl 1 (hb hbytes d32) (by decide) ?_
          exact Steps.refl _)⟩
      | succ r ih =>
        intro i hi he cl
        have c4 : Steps p.tables e below (s₁.setTop (entryFrame m #[.ref a, .ref b] 3)) (s₁.setTop (mkF m 21 #[.val (.ref a), .val (.ref b), .val (.int (Int32.ofNat i))] [.int (yv B i), .int (yv A i)])) := cl.trans (by
          refine XS.iloadN X0.here hexec rfl (hb hbytes d9) rfl ?_
          refine XS.aloadN X0.here hexec rfl (hb hbytes d10) rfl rfl ?_
          refine X0.alen hexec hA0 rfl rfl (hb hbytes d11) ?_
          refine XS.icmpNo X0.here hexec rfl (hb hbytes d12) rfl (ii_ge_f (lt32 (by omega) (by omega))) ?_
          refine XS.aloadN X0.here hexec rfl (hb hbytes d15) rfl rfl ?_
          refine XS.iloadN X0.here hexec rfl (hb hbytes d16) rfl ?_
          refine X0.aget hexec hA0 rfl (yv_get hA tA (i := i) (by omega)) rfl rfl (hb hbytes d17) ?_
          refine XS.aloadN X0.here hexec rfl (hb hbytes d18) rfl rfl ?_
          refine XS.iloadN X0.here hexec rfl (hb hbytes d19) rfl ?_
          refine X0.aget hexec hB0 rfl (yv_get hB tB (i := i) (by omega)) rfl rfl (hb hbytes d20) ?_
          exact Steps.refl _)
        by_cases hv : yv A i = yv B i
        · have c5 : Steps p.tables e below (s₁.setTop (entryFrame m #[.ref a, .ref b] 3)) (s₁.setTop (mkF m 9 #[.val (.ref a), .val (.ref b), .val (.int (Int32.ofNat i + 1))] [])) := c4.trans (by
            refine XS.icmpYes X0.here hexec rfl (pc0 := 21) rfl (hb hbytes d21) rfl (ii_eq_t hv) (by decide) rfl ?_
            refine iincV X0.here hexec rfl 1 (hb hbytes d26) (by decide) rfl rfl ?_
            refine XS.goto X0.here hexec rfl (pc0 := 29) rfl (hb hbytes d29) (by decide) rfl ?_
            exact Steps.refl _)
          rw [succ32] at c5
          exact ih (i + 1) (by omega) (fun j hj => by
            by_cases e : j = i
            · rw [e]; exact hv
            · exact he j (by omega)) c5
        · exact ⟨25, _, 0, Or.inl rfl, Or.inr ⟨rfl, fun q => hv (q.2 i (by omega))⟩, c4.trans (by
            refine XS.icmpNo X0.here hexec rfl (hb hbytes d21) rfl (ii_eq_f hv) ?_
            refine iconstV X0.here hexec rfl 0 (hb hbytes d24) (by decide) ?_
            exact Steps.refl _)⟩
    obtain ⟨pc, Ls, v, hpc, hv, cz⟩ := loop A.slots.size 0 (by omega) (fun j hj => absurd hj (Nat.not_lt_zero j)) c3
    have nv : narrow .boolean (.int v) = .int v := by rcases hv with ⟨rfl, -⟩ | ⟨rfl, -⟩ <;> rfl
    rcases hpc with rfl | rfl
    · exact ⟨s₁, some (.int v), _, _, _, X0, rfl, rfl, rfl, (fun h => by cases h), ⟨v, rfl, hh0, hv⟩, fun fs hl => cz.trans (X0.ireturnOut hexec hret nv (Or.inr (Or.inl rfl)) (hb hbytes d25) hl)⟩
    · exact ⟨s₁, some (.int v), _, _, _, X0, rfl, rfl, rfl, (fun h => by cases h), ⟨v, rfl, hh0, hv⟩, fun fs hl => cz.trans (X0.ireturnOut hexec hret nv (Or.inr (Or.inl rfl)) (hb hbytes d33) hl)⟩
  · have c3 : Steps p.tables e below (s₁.setTop (entryFrame m #[.ref a, .ref b] 3)) (s₁.setTop (mkF m 35 #[.val (.ref a), .val (.ref b), .unset] [.int 0])) := c2.trans (by
      refine XS.icmpYes X0.here hexec rfl (pc0 := 4) rfl (hb hbytes d4) rfl (ii_ne_t (ne32 a31 b31 hs)) (by decide) rfl ?_
      refine iconstV X0.here hexec rfl 0 (hb hbytes d34) (by decide) ?_
      exact Steps.refl _)
    exact ⟨s₁, some (.int 0), _, _, _, X0, rfl, rfl, rfl, (fun h => by cases h), ⟨0, rfl, hh0, Or.inr ⟨rfl, fun q => hs q.1⟩⟩, fun fs hl => c3.trans (X0.ireturnOut hexec hret rfl (Or.inr (Or.inl rfl)) (hb hbytes d35) hl)⟩
end LEq
theorem Cod.ty {cd : Int32} {n : Nat} {f : Nat → Int32} {V : Cell} (h : Cod cd n f V) : Typed .byte V := fun i v hv => by
  have hi : i < V.slots.size := (Array.getElem?_eq_some_iff.mp hv).1
  rcases h with ⟨-, k1, k2⟩ | ⟨-, k1, k2, -⟩
  · rw [(k2 i (by omega)).1] at hv; cases hv; exact fits_lo8 _
  · rcases Nat.mod_two_eq_zero_or_one i with e | e
    · obtain ⟨j, rfl⟩ : ∃ j, i = 2 * j := ⟨i / 2, by omega⟩
      rw [(k2 j (by omega)).1] at hv; cases hv; exact fits_lo8 _
    · obtain ⟨j, rfl⟩ : ∃ j, i = 2 * j + 1 := ⟨i / 2, by omega⟩
      rw [(k2 j (by omega)).2] at hv; cases hv; exact fits_lo8 _
/-- the same text -/
def SameT (n : Nat) (f : Nat → Int32) (k : Nat) (g : Nat → Int32) : Prop := n = k ∧ ∀ j, j < n → f j = g j
theorem lo8_inj {x y : Int32} (h0 : ¬ x < 0) (h1 : ¬ 255 < x) (k0 : ¬ y < 0) (k1 : ¬ 255 < y) (h : lo8 x = lo8 y) : x = y := by
  rw [← lo8_mask h0 h1, ← lo8_mask k0 k1, h]
/-- arrays coded by one coder are equal just where the texts are -/
theorem Cod.eqv {cd : Int32} {n k : Nat} {f g : Nat → Int32} {V V' : Cell} (h : Cod cd n f V) (h' : Cod cd k g V') (hf : ∀ j, j < n → ¬ f j < 0 ∧ ¬ 65535 < f j) (hg : ∀ j, j < k → ¬ g j < 0 ∧ ¬ 65535 < g j) : EqC V V' ↔ SameT n f k g := by
  have yvv : ∀ {W : Cell} {i : Nat} {x : Int32}, W.slots[i]? = some (.int x) → yv W i = x := fun q => by unfold yv; rw [q]
  rcases h with ⟨rfl, k1, k2⟩ | ⟨rfl, k1, k2, -⟩
  · rcases h' with ⟨-, m1, m2⟩ | ⟨e, -⟩
    · constructor
      · rintro ⟨e1, e2⟩
        refine ⟨by omega, fun j hj => ?_⟩
        have q := e2 j (by omega)
        rw [yvv (k2 j hj).1, yvv (m2 j (by omega)).1] at q
        exact lo8_inj (hf j hj).1 (k2 j hj).2 (hg j (by omega)).1 (m2 j (by omega)).2 q
      · rintro ⟨rfl, e2⟩
        refine ⟨by omega, fun j hj => ?_⟩
        rw [yvv (k2 j (by omega)).1, yvv (m2 j (by omega)).1, e2 j (by omega)]
    · exact absurd e (by decide)
  · rcases h' with ⟨e, -⟩ | ⟨-, m1, m2, -⟩
    · exact absurd e (by decide)
    · constructor
      · rintro ⟨e1, e2⟩
        refine ⟨by omega, fun j hj => ?_⟩
        have q1 := e2 (2 * j) (by omega)
        have q2 := e2 (2 * j + 1) (by omega)
        rw [yvv (k2 j hj).1, yvv (m2 j (by omega)).1] at q1
        rw [yvv (k2 j hj).2, yvv (m2 j (by omega)).2] at q2
        rw [← pair_says (hf j hj).1 (hf j hj).2, ← pair_says (hg j (by omega)).1 (hg j (by omega)).2, q1, q2]
      · rintro ⟨rfl, e2⟩
        refine ⟨by omega, fun i hi => ?_⟩
        rcases Nat.mod_two_eq_zero_or_one i with e | e
        · obtain ⟨j, rfl⟩ : ∃ j, i = 2 * j := ⟨i / 2, by omega⟩
          rw [yvv (k2 j (by omega)).1, yvv (m2 j (by omega)).1, e2 j (by omega)]
        · obtain ⟨j, rfl⟩ : ∃ j, i = 2 * j + 1 := ⟨i / 2, by omega⟩
          rw [yvv (k2 j (by omega)).2, yvv (m2 j (by omega)).2, e2 j (by omega)]
/-- two codings differ: so do the texts -/
theorem Cod.dif {cd cd' : Int32} {n k : Nat} {f g : Nat → Int32} {V V' : Cell} (h : Cod cd n f V) (h' : Cod cd' k g V') (hne : ¬ cd = cd') : ¬ SameT n f k g := by
  rintro ⟨rfl, e⟩
  rcases h with ⟨rfl, -, k2⟩ | ⟨rfl, -, -, j, hj, hw⟩
  · rcases h' with ⟨rfl, -⟩ | ⟨-, -, -, j, hj, hw⟩
    · exact hne rfl
    · exact (k2 j hj).2 (by rw [e j hj]; exact hw)
  · rcases h' with ⟨-, -, m2⟩ | ⟨rfl, -⟩
    · exact (m2 j hj).2 (by rw [← e j hj]; exact hw)
    · exact hne rfl
/-- an object of exactly C is an instance of C -/
theorem cinst {p : Program} {l : Launch} {e : Env} {R : Room} {s : State} {m : MethodId} {args : Array Value} {below : List Frame} {meth : Method} {c : Code} {T : State} {locs : List Loc} {cells slots : Nat} (X : Stand p l e R s m args below meth c T locs cells slots) (hexec : p.tables.exec = Jvm.exec) {own C : String} {index : Nat} (hown : s.vm.findClass own = some m.cls) (hlink : (Cond.classLink own index C).before args s = true) {a : Addr} (hE : Exact C a T)
    {g : JFrame} (hg : g.method = m) {rest : List Value} (hstack : g.stack = .ref a :: rest) (hdg : decode c.code g.pc = .ok (.instanceof index, 3)) :
    ∃ T', Stand p l e R s m args below meth c T' locs cells slots ∧ T'.heap = T.heap ∧ ∀ target, Steps p.tables e below (T'.setTop { g with pc := g.pc + 3, stack := .int 1 :: rest }) target → Steps p.tables e below (T.setTop g) target := by
  obtain ⟨cB, h1, D, h2, h3, h4⟩ := hE
  have h1' : s.vm.findClass C = some cB := by rw [← X.warmed.alike.findClass]; exact h1
  obtain ⟨vm', X', st⟩ := X.instanceofYes hexec hown hlink h2 h4 h1' (by rw [h3]; exact Jvm.Free.SB.assignable_self _ _) hg hstack hdg
  exact ⟨_, X', rfl, st⟩
theorem cself {p : Program} {l : Launch} {e : Env} {R : Room} {s : State} {m : MethodId} {args : Array Value} {below : List Frame} {meth : Method} {c : Code} {T : State} {locs : List Loc} {cells slots : Nat} (X : Stand p l e R s m args below meth c T locs cells slots) (hexec : p.tables.exec = Jvm.exec) {own C : String} {index : Nat} (hown : s.vm.findClass own = some m.cls) (hlink : (Cond.classLink own index C).before args s = true) {a : Addr} (hE : Exact C a T)
    {g : JFrame} (hg : g.method = m) {rest : List Value} (hstack : g.stack = .ref a :: rest) (hdg : decode c.code g.pc = .ok (.checkcast index, 3)) :
    ∃ T', Stand p l e R s m args below meth c T' locs cells slots ∧ T'.heap = T.heap ∧ ∀ target, Steps p.tables e below (T'.setTop { g with pc := g.pc + 3, stack := .ref a :: rest }) target → Steps p.tables e below (T.setTop g) target := by
  obtain ⟨cB, h1, D, h2, h3, h4⟩ := hE
  have h1' : s.vm.findClass C = some cB := by rw [← X.warmed.alike.findClass]; exact h1
  obtain ⟨vm', X', st⟩ := X.checkcastYes hexec hown hlink h2 h4 h1' (by rw [h3]; exact Jvm.Free.SB.assignable_self _ _) hg hstack hdg
  exact ⟨_, X', rfl, fun t h => st t (by rw [← hstack] at h; exact h)⟩
namespace SEq
def yN : MethodName := ⟨"java/lang/String", "equals", "(Ljava/lang/Object;)Z"⟩
abbrev yB : ByteArray := jdk_42_method_66_code
theorem d0 : decode yB 0 = .ok (.aload_n 0, 1) := by decide +kernel
theorem d1 : decode yB 1 = .ok (.aload_n 1, 1) := by decide +kernel
theorem d2 : decode yB 2 = .ok (.if_acmp (.ne) 5, 3) := by decide +kernel
theorem d5 : decode yB 5 = .ok (.iconst 1, 1) := by decide +kernel
theorem d6 : decode yB 6 = .ok (.ireturn, 1) := by decide +kernel
theorem d7 : decode yB 7 = .ok (.aload_n 1, 1) := by decide +kernel
theorem d8 : decode yB 8 = .ok (.instanceof 10, 3) := by decide +kernel
theorem d11 : decode yB 11 = .ok (.ifCond (.eq) 43, 3) := by decide +kernel
theorem d14 : decode yB 14 = .ok (.aload_n 1, 1) := by decide +kernel
theorem d15 : decode yB 15 = .ok (.checkcast 10, 3) := by decide +kernel
theorem d18 : decode yB 18 = .ok (.astore_n 2, 1) := by decide +kernel
theorem d19 : decode yB 19 = .ok (.getstatic 38, 3) := by decide +kernel
theorem d22 : decode yB 22 = .ok (.ifCond (.eq) 14, 3) := by decide +kernel
theorem d25 : decode yB 25 = .ok (.aload_n 0, 1) := by decide +kernel
theorem d26 : decode yB 26 = .ok (.getfield 15, 3) := by decide +kernel
theorem d29 : decode yB 29 = .ok (.aload_n 2, 1) := by decide +kernel
theorem d30 : decode yB 30 = .ok (.getfield 15, 3) := by decide +kernel
theorem d33 : decode yB 33 = .ok (.if_icmp (.ne) 21, 3) := by decide +kernel
theorem d36 : decode yB 36 = .ok (.aload_n 0, 1) := by decide +kernel
theorem d37 : decode yB 37 = .ok (.getfield 9, 3) := by decide +kernel
theorem d40 : decode yB 40 = .ok (.aload_n 2, 1) := by decide +kernel
theorem d41 : decode yB 41 = .ok (.getfield 9, 3) := by decide +kernel
theorem d44 : decode yB 44 = .ok (.invokestatic 541, 3) := by decide +kernel
theorem d47 : decode yB 47 = .ok (.ifCond (.eq) 7, 3) := by decide +kernel
theorem d50 : decode yB 50 = .ok (.iconst 1, 1) := by decide +kernel
theorem d51 : decode yB 51 = .ok (.goto 4, 3) := by decide +kernel
theorem d54 : decode yB 54 = .ok (.iconst 0, 1) := by decide +kernel
theorem d55 : decode yB 55 = .ok (.ireturn, 1) := by decide +kernel
def site : List Cond := [.classLink "java/lang/String" 10 "java/lang/String", .fieldLink "java/lang/String" 38 "java/lang/String" "COMPACT_STRINGS" "Z", .fieldLink "java/lang/String" 15 "java/lang/String" "coder" "B", .fieldLink "java/lang/String" 9 "java/lang/String" "value" "[B", LEq.tab] ++ staticW "java/lang/String" 541 LEq.yN
def tab : Cond := tabOf yN yB 3 (some .boolean) site
def P (x t : Addr) (V : Cell) (cd : Int32) (n : Nat) (f : Nat → Int32) (y t' : Addr) (V' : Cell) (cd' : Int32) (k : Nat) (g : Nat → Int32) (z : Int32) (args : Array Value) (s : State) : Prop := args = #[.ref x, .ref y] ∧ Txt x t V cd n f s ∧ Txt y t' V' cd' k g s ∧ StaticIs s "java/lang/String" "COMPACT_STRINGS" "Z" (.int z) ∧ ¬ z = 0
/-- equals(Object) of two Strings: whether the texts are the same -/
theorem law (l : Launch) (x t : Addr) (V : Cell) (cd : Int32) (n : Nat) (f : Nat → Int32) (y t' : Addr) (V' : Cell) (cd' : Int32) (k : Nat) (g : Nat → Int32) (z : Int32) : Law l yN 2 1 1 14 yB 3 (some .boolean) site (P x t V cd n f y t' V' cd' k g z) (Says01 (SameT n f k g)) [] 0 0 := by
  refine Law.of_walk (plainFor_of_name (by decide +kernel)) (by decide +kernel) (by decide +kernel) (by decide) (fun _ _ h => by rw [h.1]; rfl) (fun _ U U' hal hh h => ⟨h.1, h.2.1.mv hal hh, h.2.2.1.mv hal hh, h.2.2.2.1.there hal hh, h.2.2.2.2⟩) (fun r U U' V V' h1 hal h2 h => Says01.mv r U U' V V' h1 hal h2 h) ?_
  intro p e s m args below meth c s₁ X0 hexec hbytes hml hret hlk hnm hown hh0 W hP
  obtain ⟨rfl, hx, hy, s1, hz⟩ := hP
  have c1 : Steps p.tables e below (s₁.setTop (entryFrame m #[.ref x, .ref y] 3)) (s₁.setTop (mkF m 2 #[.val (.ref x), .val (.ref y), .unset] [.ref y, .ref x])) := Steps.trans (entry rfl) (by
    show Steps p.tables e below (s₁.setTop (mkF m 0 #[.val (.ref x), .val (.ref y), .unset] [])) _
    refine XS.aloadN X0.here hexec rfl (hb hbytes d0) rfl rfl ?_
    refine XS.aloadN X0.here hexec rfl (hb hbytes d1) rfl rfl ?_
    exact Steps.refl _)
  by_cases hxy : x = y
  · have c2 : Steps p.tables e below (s₁.setTop (entryFrame m #[.ref x, .ref y] 3)) (s₁.setTop (mkF m 6 #[.val (.ref x), .val (.ref y), .unset] [.int 1])) := c1.trans (by
      refine acmpNo X0.here hexec rfl (hb hbytes d2) rfl rfl rfl (by simp [acmp, hxy]) ?_
      refine iconstV X0.here hexec rfl 1 (hb hbytes d5) (by decide) ?_
      exact Steps.refl _)
    subst hxy
    have ec : cd = cd' := by
      obtain ⟨D, fd, a1, a2, a3⟩ := hx.2.2.1
      obtain ⟨D', fd', b1, b2, b3⟩ := hy.2.2.1
      cases a1.symm.trans b1
      obtain ⟨q1, q2, q3, q4⟩ := a2.1
      obtain ⟨r1, r2, r3, r4⟩ := b2.1
      cases q4.symm.trans r4
      cases a3.symm.trans b3; rfl
    have et : t = t' := by
      obtain ⟨D, fd, a1, a2, a3⟩ := hx.2.1
      obtain ⟨D', fd', b1, b2, b3⟩ := hy.2.1
      cases a1.symm.trans b1
      obtain ⟨q1, q2, q3, q4⟩ := a2.1
      obtain ⟨r1, r2, r3, r4⟩ := b2.1
      cases q4.symm.trans r4
      cases a3.symm.trans b3; rfl
    subst ec et
    have ev : V = V' := by cases hx.2.2.2.1.1.symm.trans hy.2.2.2.1.1; rfl
    subst ev
    have hs : SameT n f k g := (Cod.eqv hx.2.2.2.2.1 hy.2.2.2.2.1 hx.2.2.2.2.2 hy.2.2.2.2.2).mp ⟨rfl, fun _ _ => rfl⟩
    exact ⟨s₁, some (.int 1), _, _, _, X0, rfl, rfl, rfl, (fun h => by cases h), ⟨1, rfl, hh0, Or.inl ⟨rfl, hs⟩⟩, fun fs hl => c2.trans (X0.ireturnOut hexec hret rfl (Or.inr (Or.inl rfl)) (hb hbytes d6) hl)⟩
  · have c2 : Steps p.tables e below (s₁.setTop (entryFrame m #[.ref x, .ref y] 3)) (s₁.setTop (mkF m 8 #[.val (.ref x), .val (.ref y), .unset] [.ref y])) := c1.trans (by
      refine acmpYes X0.here hexec rfl (pc0 := 2) rfl (hb hbytes d2) rfl rfl rfl (by simp [acmp, hxy]) (by decide) rfl ?_
      refine XS.aloadN X0.here hexec rfl (hb hbytes d7) rfl rfl ?_
      exact Steps.refl _)
    obtain ⟨T3, X3, q3, st3⟩ := cinst X0 hexec hown (wk W (.classLink "java/lang/String" 10 "java/lang/String")) (hy.mv X0.warmed.alike hh0).1 (g := (mkF m 8 #[.val (.ref x), .val (.ref y), .unset] [.ref y])) rfl (rest := []) rfl (hb hbytes d8)
    have hh3 := q3.trans hh0
    have c4 : Steps p.tables e below (s₁.setTop (entryFrame m #[.ref x, .ref y] 3)) (T3.setTop (mkF m 15 #[.val (.ref x), .val (.ref y), .unset] [.ref y])) := (c2.trans (st3 _ (Steps.refl _))).trans (by
      refine XS.ifNo X3.here hexec rfl (hb hbytes d11) rfl (i0_eq_f (by decide)) ?_
      refine XS.aloadN X3.here hexec rfl (hb hbytes d14) rfl rfl ?_
      exact Steps.refl _)
    obtain ⟨T5, X5, q5, st5⟩ := cself X3 hexec hown (wk W (.classLink "java/lang/String" 10 "java/lang/String")) (hy.mv X3.warmed.alike hh3).1 (g := (mkF m 15 #[.val (.ref x), .val (.ref y), .unset] [.ref y])) rfl (rest := []) rfl (hb hbytes d15)
    have hh5 := q5.trans hh3
    have c6 : Steps p.tables e below (s₁.setTop (entryFrame m #[.ref x, .ref y] 3)) (T5.setTop (mkF m 19 #[.val (.ref x), .val (.ref y), .val (.ref y)] [])) := (c4.trans (st5 _ (Steps.refl _))).trans (by
      refine XS.astoreN X5.here hexec rfl (hb hbytes d18) rfl rfl rfl ?_
      exact Steps.refl _)
    obtain ⟨T7, X7, q7, st7⟩ := X5.sget hexec hown (wk W (.fieldLink "java/lang/String" 38 "java/lang/String" "COMPACT_STRINGS" "Z")) s1 (fun _ _ h => by rw [hh5]; exact h) (g := (mkF m 19 #[.val (.ref x), .val (.ref y), .val (.ref y)] [])) rfl (hb hbytes d19)
    have hh7 := q7.trans hh5
    have c8 : Steps p.tables e below (s₁.setTop (entryFrame m #[.ref x, .ref y] 3)) (T7.setTop (mkF m 26 #[.val (.ref x), .val (.ref y), .val (.ref y)] [.ref x])) := (c6.trans (st7 _ (Steps.refl _))).trans (by
      refine XS.ifNo X7.here hexec rfl (hb hbytes d22) rfl (i0_eq_f hz) ?_
      refine XS.aloadN X7.here hexec rfl (hb hbytes d25) rfl rfl ?_
      exact Steps.refl _)
    obtain ⟨T9, X9, q9, st9⟩ := X7.hget hexec hown (wk W (.fieldLink "java/lang/String" 15 "java/lang/String" "coder" "B")) (hx.mv X7.warmed.alike hh7).2.2.1 (g := (mkF m 26 #[.val (.ref x), .val (.ref y), .val (.ref y)] [.ref x])) rfl (rest := []) rfl (hb hbytes d26)
    have hh9 := q9.trans hh7
    have c10 : Steps p.tables e below (s₁.setTop (entryFrame m #[.ref x, .ref y] 3)) (T9.setTop (mkF m 30 #[.val (.ref x), .val (.ref y), .val (.ref y)] [.ref y, .int cd])) := (c8.trans (st9 _ (Steps.refl _))).trans (by
      refine XS.aloadN X9.here hexec rfl (hb hbytes d29) rfl rfl ?_
      exact Steps.refl _)
    obtain ⟨T11, X11, q11, st11⟩ := X9.hget hexec hown (wk W (.fieldLink "java/lang/String" 15 "java/lang/String" "coder" "B")) (hy.mv X9.warmed.alike hh9).2.2.1 (g := (mkF m 30 #[.val (.ref x), .val (.ref y), .val (.ref y)] [.ref y, .int cd])) rfl (rest := [.int cd]) rfl (hb hbytes d30)
    have hh11 := q11.trans hh9
    have c12 : Steps p.tables e below (s₁.setTop (entryFrame m #[.ref x, .ref y] 3)) (T11.setTop (mkF m 33 #[.val (.ref x), .val (.ref y), .val (.ref y)] [.int cd', .int cd])) := c10.trans (st11 _ (Steps.refl _))
    by_cases hcd : cd = cd'
    · subst hcd
      have c13 : Steps p.tables e below (s₁.setTop (entryFrame m #[.ref x, .ref y] 3)) (T11.setTop (mkF m 37 #[.val (.ref x), .val (.ref y), .val (.ref y)] [.ref x])) := c12.trans (by
        refine XS.icmpNo X11.here hexec rfl (hb hbytes d33) rfl (ii_ne_f rfl) ?_
        refine XS.aloadN X11.here hexec rfl (hb hbytes d36) rfl rfl ?_
        exact Steps.refl _)
      obtain ⟨T14, X14, q14, st14⟩ := X11.hget hexec hown (wk W (.fieldLink "java/lang/String" 9 "java/lang/String" "value" "[B")) (hx.mv X11.warmed.alike hh11).2.1 (g := (mkF m 37 #[.val (.ref x), .val (.ref y), .val (.ref y)] [.ref x])) rfl (rest := []) rfl (hb hbytes d37)
      have hh14 := q14.trans hh11
      have c15 : Steps p.tables e below (s₁.setTop (entryFrame m #[.ref x, .ref y] 3)) (T14.setTop (mkF m 41 #[.val (.ref x), .val (.ref y), .val (.ref y)] [.ref y, .ref t])) := (c13.trans (st14 _ (Steps.refl _))).trans (by
        refine XS.aloadN X14.here hexec rfl (hb hbytes d40) rfl rfl ?_
        exact Steps.refl _)
      obtain ⟨T16, X16, q16, st16⟩ := X14.hget hexec hown (wk W (.fieldLink "java/lang/String" 9 "java/lang/String" "value" "[B")) (hy.mv X14.warmed.alike hh14).2.1 (g := (mkF m 41 #[.val (.ref x), .val (.ref y), .val (.ref y)] [.ref y, .ref t])) rfl (rest := [.ref t]) rfl (hb hbytes d41)
      have hh16 := q16.trans hh14
      have c17 : Steps p.tables e below (s₁.setTop (entryFrame m #[.ref x, .ref y] 3)) (T16.setTop (mkF m 44 #[.val (.ref x), .val (.ref y), .val (.ref y)] [.ref t', .ref t])) := c15.trans (st16 _ (Steps.refl _))
      obtain ⟨v18, T18, X18, E18, g18⟩ := X16.callS hexec (LEq.law l t V t' V') hown (wks W (staticW "java/lang/String" 541 LEq.yN)) (wk W LEq.tab) (W := 0) (Nat.le_of_ble_eq_true rfl) (Nat.le_of_ble_eq_true rfl) (Nat.le_refl _) (Nat.le_refl _) (g := (mkF m 44 #[.val (.ref x), .val (.ref y), .val (.ref y)] [.ref t', .ref t])) rfl (by rw [hml]; rfl) c17 (argsL := [.ref t, .ref t']) (rest := []) rfl rfl (by show 2 * 0 + 0 ≤ _; decide) (hb hbytes d44) (⟨rfl, hx.2.2.2.1.mv X16.warmed.alike hh16, hx.2.2.2.2.1.ty, hy.2.2.2.1.mv X16.warmed.alike hh16, hy.2.2.2.2.1.ty⟩)
      obtain ⟨v, rfl, q18, hv⟩ := E18
      have iff := Cod.eqv hx.2.2.2.2.1 hy.2.2.2.2.1 hx.2.2.2.2.2 hy.2.2.2.2.2
      rcases hv with ⟨rfl, he⟩ | ⟨rfl, he⟩
      · have c19 : Steps p.tables e below (s₁.setTop (entryFrame m #[.ref x, .ref y] 3)) (T18.setTop (mkF m 55 #[.val (.ref x), .val (.ref y), .val (.ref y)] [.int 1])) := Steps.trans g18 (by
          refine XS.ifNo X18.here hexec rfl (hb hbytes d47) rfl (i0_eq_f (by decide)) ?_
          refine iconstV X18.here hexec rfl 1 (hb hbytes d50) (by decide) ?_
          refine XS.goto X18.here hexec rfl (pc0 := 51) rfl (hb hbytes d51) (by decide) rfl ?_
          exact Steps.refl _)
        exact ⟨T18, some (.int 1), _, _, _, X18, rfl, rfl, rfl, (fun h => by cases h), ⟨1, rfl, q18.trans hh16, Or.inl ⟨rfl, iff.mp he⟩⟩, fun fs hl => c19.trans (X18.ireturnOut hexec hret rfl (Or.inr (Or.inl rfl)) (hb hbytes d55) hl)⟩
      · have c19 : Steps p.tables e below (s₁.setTop (entryFrame m #[.ref x, .ref y] 3)) (T18.setTop (mkF m 55 #[.val (.ref x), .val (.ref y), .val (.ref y)] [.int 0])) := Steps.trans g18 (by
          refine XS.ifYes X18.here hexec rfl (pc0 := 47) rfl (hb hbytes d47) rfl (i0_eq_t rfl) (by decide) rfl ?_
          refine iconstV X18.here hexec rfl 0 (hb hbytes d54) (by decide) ?_
          exact Steps.refl _)
        exact ⟨T18, some (.int 0), _, _, _, X18, rfl, rfl, rfl, (fun h => by cases h), ⟨0, rfl, q18.trans hh16, Or.inr ⟨rfl, fun q => he (iff.mpr q)⟩⟩, fun fs hl => c19.trans (X18.ireturnOut hexec hret rfl (Or.inr (Or.inl rfl)) (hb hbytes d55) hl)⟩
    · have c13 : Steps p.tables e below (s₁.setTop (entryFrame m #[.ref x, .ref y] 3)) (T11.setTop (mkF m 55 #[.val (.ref x), .val (.ref y), .val (.ref y)] [.int 0])) := c12.trans (by
        refine XS.icmpYes X11.here hexec rfl (pc0 := 33) rfl (hb hbytes d33) rfl (ii_ne_t hcd) (by decide) rfl ?_
        refine iconstV X11.here hexec rfl 0 (hb hbytes d54) (by decide) ?_
        exact Steps.refl _)
      exact ⟨T11, some (.int 0), _, _, _, X11, rfl, rfl, rfl, (fun h => by cases h), ⟨0, rfl, hh11, Or.inr ⟨rfl, Cod.dif hx.2.2.2.2.1 hy.2.2.2.2.1 hcd⟩⟩, fun fs hl => c13.trans (X11.ireturnOut hexec hret rfl (Or.inr (Or.inl rfl)) (hb hbytes d55) hl)⟩
theorem pays {l : Launch} {R : Room} {p : Program} {e : Env} {below : List Frame} {s : State} {sargs : Array Value} {len W : Nat} (x t : Addr) (V : Cell) (cd : Int32) (n : Nat) (f : Nat → Int32) (y t' : Addr) (V' : Cell) (cd' : Int32) (k : Nat) (g : Nat → Int32) (z : Int32) (htab : tab.before sargs s = true) (hfr : 2 ≤ R.frames) (hlo : W + 28 ≤ R.locals) :
    Back l R p e below s sargs yN len W (fun A₁ a₁ => A₁.cells + 0 ≤ R.cells ∧ A₁.slots + 0 ≤ R.slots ∧ P x t V cd n f y t' V' cd' k g z a₁ A₁.U) (fun A₁ _ v₁ B₁ => Says01 (SameT n f k g) v₁ A₁.U B₁.U ∧ B₁.locs = A₁.locs ++ [] ∧ B₁.cells = A₁.cells + 0 ∧ B₁.slots = A₁.slots + 0) :=
  (law l x t V cd n f y t' V' cd' k g z).pays htab hfr (by omega)
end SEq
end StrChars
namespace StrChars.Road
open Jvm Sem ClassFile Op Lib Jvm.Stand Jvm.Free Jvm.Free.XT
open Jvm.Lib.Cold (StaticIs)
/-- the words of String.equals(Object) -/
abbrev wordsEq : List Jvm.Cond := [.code SEq.yN SEq.yB 3 (some .boolean), .initialized ST, .classLink ST 10 ST, .fieldLink ST 38 ST "COMPACT_STRINGS" "Z", .fieldLink ST 15 ST "coder" "B", .fieldLink ST 9 ST "value" "[B", .methodLink ST 541 LEq.yN, .static LEq.yN, .code LEq.yN LEq.yB 3 (some .boolean), .initialized "java/lang/StringLatin1"]
theorem tabEq_of {a : Array Value} {s : State} (h : ∀ w ∈ wordsEq, w.before a s = true) : SEq.tab.before a s = true := by
  have hl : LEq.tab.before a s = true := unparts (wk h (.code LEq.yN LEq.yB 3 (some .boolean))) (wks h (.initialized LEq.yN.cls :: LEq.site))
  have q := consq hl h
  exact unparts (wk q (.code SEq.yN SEq.yB 3 (some .boolean))) (wks q (.initialized SEq.yN.cls :: SEq.site))
theorem movedEq {Z s : State} {a0 args : Array Value} (hZ : Z.Warmed39 s.vm) (hw : ∀ d ∈ wordsEq, d.before a0 Z = true) : ∀ d ∈ wordsEq, d.before args s = true := fun d hd => by
  have t : ∀ d ∈ wordsEq, (d.onTables && d.keepsFace) = true := by decide +kernel
  exact RoadKit.mv hZ (hw d hd) (t d hd)
/-- the road's facts of a String, as the laws ask it -/
theorem txt_of {Z U : State} {a0 : Array Value} {kI : Nat} (wi : (Jvm.Cond.instantiable ST kI).before a0 Z = true) (al : Z.vm.Alike U.vm) {x t : Addr} {kb : ClassId} {cs : List Int32} {cd N2 : Int32} {vs : List Value} (E : RoadKit.Exa Z U.heap x ST) (V : RoadKit.Fld Z U.heap x ST "value" "[B" (.ref t)) (C : RoadKit.Fld Z U.heap x ST "coder" "B" (.int cd)) (K : RoadKit.Arv Z U.heap t kb .byte N2 vs (.int 0)) (hc : CodA cs cd N2 vs) (hb : ∀ c ∈ cs, ¬ c < 0 ∧ ¬ (65535 : Int32) < c) (l2 : cs.length ≤ 4000) :
    ∃ A, Txt x t A cd cs.length (fun j => cs.getD j 0) U := by
  obtain ⟨A, K1, K2, K3, K4, K5, K6⟩ := K
  have hcod := hc.cod (by omega) K3 K5
  obtain ⟨D, fV, fC, hB, F1, F2, g1, g2, -, -⟩ := strObj wi al E V C
  exact ⟨A, ⟨_, hB.2.2.1, D, hB.1, rfl, by cases q : D.vm <;> first | rfl | exact absurd q (hB.2.1.2 _)⟩, Has.of hB F1 g1, Has.of hB F2 g2, ⟨K1.1, State.isArrayOf_alike al K1.2.1, K1.2.2, by rcases hcod with ⟨-, q, -⟩ | ⟨-, q, -⟩ <;> omega⟩, hcod, fun j hj => by
    have e : cs.getD j 0 = cs[j] := by simp [List.getD_eq_getElem?_getD, hj]
    show ¬ cs.getD j 0 < 0 ∧ ¬ 65535 < cs.getD j 0
    rw [e]; exact hb _ (List.getElem_mem _)⟩
theorem same_list (cs ds : List Int32) : SameT cs.length (fun j => cs.getD j 0) ds.length (fun j => ds.getD j 0) ↔ cs = ds := by
  constructor
  · rintro ⟨e, q⟩
    refine List.ext_getElem e fun j h1 h2 => ?_
    have := q j h1
    simpa [List.getD_eq_getElem?_getD, h1, h2] using this
  · rintro rfl
    exact ⟨rfl, fun _ _ => rfl⟩
/-- **equals(Object) OF TWO SUCH STRINGS**: 1 just where the chars are the same -/
theorem eqW {p : Program} {l : Launch} {e : Env} {R : Room} {s : State} {args : Array Value} {below : List Frame} {len W : Nat} {Z : State} {a0 : Array Value} {h : Heap} (hZ : Z.Warmed39 s.vm) (hw : ∀ d ∈ wordsEq, d.before a0 Z = true) {kI : Nat} (wi : (Jvm.Cond.instantiable ST kI).before a0 Z = true)
    {x t : Addr} {kb : ClassId} {cs : List Int32} {cd N2 : Int32} {vs : List Value} (E : RoadKit.Exa Z h x ST) (V : RoadKit.Fld Z h x ST "value" "[B" (.ref t)) (C : RoadKit.Fld Z h x ST "coder" "B" (.int cd)) (K : RoadKit.Arv Z h t kb .byte N2 vs (.int 0)) (hc : CodA cs cd N2 vs) (hb : ∀ c ∈ cs, ¬ c < 0 ∧ ¬ (65535 : Int32) < c) (l2 : cs.length ≤ 4000)
    {y t' : Addr} {kb' : ClassId} {ds : List Int32} {cd' N2' : Int32} {vs' : List Value} (E' : RoadKit.Exa Z h y ST) (V' : RoadKit.Fld Z h y ST "value" "[B" (.ref t')) (C' : RoadKit.Fld Z h y ST "coder" "B" (.int cd')) (K' : RoadKit.Arv Z h t' kb' .byte N2' vs' (.int 0)) (hc' : CodA ds cd' N2' vs') (hb' : ∀ c ∈ ds, ¬ c < 0 ∧ ¬ (65535 : Int32) < c) (l2' : ds.length ≤ 4000)
    {z : Int32} (S : RoadKit.Sta Z h ST "COMPACT_STRINGS" "Z" (.int z)) (hz : ¬ z = 0) (hfr : 2 ≤ R.frames) (hlo : W + 28 ≤ R.locals) :
    Back l R p e below s args (⟨"java/lang/String", "equals", "(Ljava/lang/Object;)Z"⟩ : MethodName) len W (fun P a => a = #[.ref x, .ref y] ∧ P.U.heap = h ∧ P.cells + 0 ≤ R.cells ∧ P.slots + 0 ≤ R.slots)
      (fun P _ v B => ∃ L, (((v = some (.int 1) ∧ cs = ds) ∨ (v = some (.int 0) ∧ ¬ cs = ds)) ∧ L = [] ∧ B.U.heap = h) ∧ B.locs = P.locs ++ L ∧ B.cells = P.cells + 0 ∧ B.slots = P.slots + 0) := by
  intro m meth c P g ig mk a X hg hsize hdg hW hn hp'
  obtain ⟨rfl, rfl, r1, r2⟩ := hp'
  have al : Z.vm.Alike P.U.vm := hZ.alike.trans X.warmed.alike
  obtain ⟨A, hx⟩ := txt_of wi al E V C K hc hb l2
  obtain ⟨A', hy⟩ := txt_of wi al E' V' C' K' hc' hb' l2'
  obtain ⟨v, B, X', ⟨⟨w, hv, hh, hq⟩, hl, hk, hs⟩, st⟩ := SEq.pays x t A cd cs.length (fun j => cs.getD j 0) y t' A' cd' ds.length (fun j => ds.getD j 0) z (tabEq_of (movedEq hZ hw)) hfr hlo m meth c P g ig mk _ X hg hsize hdg hW hn ⟨r1, r2, rfl, hx, hy, sta_is al S, hz⟩
  refine ⟨v, B, X', ⟨[], ⟨?_, rfl, hh⟩, hl, hk, hs⟩, st⟩
  rcases hq with ⟨rfl, q⟩ | ⟨rfl, q⟩
  · exact Or.inl ⟨hv, (same_list cs ds).mp q⟩
  · exact Or.inr ⟨hv, fun e => q ((same_list cs ds).mpr e)⟩
end StrChars.Road
namespace StrChars.Road
open Jvm Sem ClassFile Op Lib Jvm.Stand Jvm.Free Jvm.Free.XT
open Jvm.Lib.Cold (StaticIs)
/-- what backV says of its String, as the contracts of this text ask it: cs's low bytes, coder 0 -/
theorem codOf {cs : List Int32} {n : Nat} (hn : cs.length = n) (hb : ∀ c ∈ cs, ¬ 255 < c) : CodA cs 0 (Int32.ofNat n) ((cs.map lo8).map Value.int) := Or.inl ⟨rfl, by rw [hn], by simp [List.map_map, Function.comp_def], hb⟩
end StrChars.Road
end Jvm.Pilot.@@N@@
namespace Jvm.Pilot.@@N@@
open Jvm Jvm.ClassFile Sem Op Lib Jvm.Free Jvm.Stand Jvm.LawKit Jvm.RoadKit Bundle Jvm.Pilot.@@N@@.Jvm.D
def EL0 : List (String × Nat) := [("java/lang/String", 7)]
section Own
variable {p : Program} {l : Launch} {e : Env} {R rm : Room} {s : State} {m : MethodId} {args : Array Value} {below : List Frame} {meth : Method} {c : Code} {own nm : String} {bytes : ByteArray} {ml : Nat} {rt : Option FieldType} {Z : State} {a0 : Array Value} {EL : List (String × Nat)} {h0 : Heap} {ws : List Addr} {T : State} {h h' : Heap} {cells slots : Nat} {Q : Outcome → State → Prop} {Qv : Option Value → Heap → Prop} {pc : Nat} {Ls : Array Slot} {rest : List Value}
/-- the run from U comes to an end that says Q -/
def Go (p : Program) (e : Env) (below : List Frame) (Q : Outcome → State → Prop) (U : State) : Prop := ∃ s₂ o, Steps p.tables e below U s₂ ∧ s₂.status = .running ∧ Ended s₂ below o ∧ Q o s₂
theorem Go.of {U V : State} (g : Go p e below Q V) (k : ∀ t, Steps p.tables e below V t → Steps p.tables e below U t) : Go p e below Q U := by
  obtain ⟨s2, o, a, b⟩ := g; exact ⟨s2, o, k _ a, b⟩
/-- where the walk stands: all that does not depend on the road behind; vm0: the tables over which its Stand is -/
abbrev PosV (p : Program) (l : Launch) (e : Env) (R : Room) (s : State) (m : MethodId) (args : Array Value) (below : List Frame) (meth : Method) (c : Code) (own nm : String) (bytes : ByteArray) (ml : Nat) (rt : Option FieldType) (Z : State) (a0 : Array Value) (EL : List (String × Nat)) (h0 : Heap) (ws : List Addr) (T : State) (h : Heap) (cells slots : Nat) (vm0 : Vm) : Prop :=
  ∃ (k0 : Nat) (locs : List Loc), Stand p l e R (s.setVm vm0) m args below meth c T locs cells slots ∧
    (p.tables.exec = Jvm.exec ∧ c.code = bytes ∧ c.maxLocals = ml ∧ meth.sig.returnType = rt ∧ meth.locks = false ∧ meth.name = nm ∧ s.heap = h0 ∧ EW Z a0 EL ∧ Z.Warmed39 s.vm) ∧
    Z.Warmed39 vm0 ∧ vm0.findClass own = some m.cls ∧ s.Since vm0 k0 ∧ k0 ≤ h.size ∧ T.heap = h ∧ CHr Z EL s.vm h0 vm0 h ∧ Fr Z.heap.size locs ∧ Keep h0 h ws ∧ Ext Z.heap h
def Pos (p : Program) (l : Launch) (e : Env) (R : Room) (s : State) (m : MethodId) (args : Array Value) (below : List Frame) (meth : Method) (c : Code) (own nm : String) (bytes : ByteArray) (ml : Nat) (rt : Option FieldType) (Z : State) (a0 : Array Value) (EL : List (String × Nat)) (h0 : Heap) (ws : List Addr) (T : State) (h : Heap) (cells slots : Nat) : Prop :=
  ∃ vm0 : Vm, PosV p l e R s m args below meth c own nm bytes ml rt Z a0 EL h0 ws T h cells slots vm0
/-- how a contract ends -/
def Fini (Z : State) (EL : List (String × Nat)) (h0 : Heap) (ws : List Addr) (rm : Room) (Qv : Option Value → Heap → Prop) (s : State) (o : Outcome) (t : State) : Prop :=
  ∃ v L, o = .returned v ∧ (Fr Z.heap.size L ∧ Keep h0 t.heap ws ∧ Ext Z.heap t.heap ∧ Qv v t.heap) ∧ CHr Z EL s.vm s.heap t.vm t.heap ∧ ReturnedEndW s o t L rm.cells rm.slots
/-- a method's contract: what it leaves where it is called with these arguments over the heap h0 -/
def Con (l : Launch) (Z : State) (EL : List (String × Nat)) (wl : List Jvm.Cond) (y : MethodName) (bytes : ByteArray) (ml : Nat) (rt : Option FieldType) (rm : Room) (as : Array Value) (h0 : Heap) (ws : List Addr) (Qv : Option Value → Heap → Prop) : Prop :=
  MetFree l y (head1 (Jvm.Cond.code y bytes ml rt :: wl) rm) (fun a U => a = as ∧ Z.Warmed39 U.vm ∧ U.heap = h0 ∧ CHv Z EL U.vm h0) (fun _ _ _ _ _ => True) (fun _ U o U' => ∃ v L, o = .returned v ∧ (Fr Z.heap.size L ∧ Keep h0 U'.heap ws ∧ Ext Z.heap U'.heap ∧ Qv v U'.heap) ∧ CHr Z EL U.vm U.heap U'.vm U'.heap ∧ ReturnedEndW U o U' L rm.cells rm.slots)
theorem Con.of {wl : List Jvm.Cond} {y : MethodName} {as : Array Value} {f0 : MethodId → JFrame} (hpn : plainFor y = true) (hEL : EW Z a0 EL) (hO : Ext Z.heap h0) (hf0 : ∀ m, entryFrame m as ml = f0 m)
    (body : ∀ p e s m below meth c s₁, Pos p l e rm s m as below meth c y.cls y.name bytes ml rt Z a0 EL h0 ws s₁ h0 0 0 → Go p e below (Fini Z EL h0 ws rm Qv s) (s₁.setTop (f0 m))) : Con l Z EL wl y bytes ml rt rm as h0 ws Qv := by
  refine MetFree.of_bodySF (code := bytes) (maxLocals := ml) (ret := rt) hpn hisR ?_
  intro p e s m args below meth c s₁ Bd hml0 hP hK
  obtain ⟨rfl, hZ, hh, hC⟩ := hP
  have hown : s.vm.findClass y.cls = some m.cls := findClass_of_methodNamed Bd.named
  have hnm := (name_of_methodNamed Bd.named Bd.method).1
  have X0 : Stand p l e rm s m args below meth c s₁ [] 0 0 := Stand.of_body Bd
  have e0 : s₁.heap = h0 := by rw [← hh, Bd.state]; rfl
  have hP : Pos p l e rm s m args below meth c y.cls y.name bytes ml rt Z a0 EL h0 ws s₁ h0 0 0 :=
    ⟨s.vm, h0.size, [], X0, ⟨Bd.exec, Bd.bytes, hml0, Bd.returns, Bd.notSynchronized, hnm, hh, hEL, hZ⟩, hZ, hown, State.WarmedH.since (State.WarmedH.refl s) _, Nat.le_refl _, e0, CHr.refl hC, Fr.nil _, Keep.refl _ _, hO⟩
  obtain ⟨s2, o, a, b, c', d⟩ := body p e s m below meth c s₁ hP
  rw [hf0]
  exact ⟨s2, o, a, b, c', d⟩
theorem Pos.xs {U V : State} (P : Pos p l e R s m args below meth c own nm bytes ml rt Z a0 EL h0 ws T h cells slots)
    (f : At T m c below → p.tables.exec = Jvm.exec → c.code = bytes → ∀ t, Steps p.tables e below V t → Steps p.tables e below U t) (g : Go p e below Q V) : Go p e below Q U := by
  obtain ⟨vm0, k0, locs, X, ⟨hx, hby, -⟩, -⟩ := P
  exact g.of (f X.here hx hby)
theorem Pos.st {U V : State} (P : Pos p l e R s m args below meth c own nm bytes ml rt Z a0 EL h0 ws T h cells slots)
    (f : ∀ (vm0 : Vm) (locs : List Loc), Stand p l e R (s.setVm vm0) m args below meth c T locs cells slots → p.tables.exec = Jvm.exec → c.code = bytes → ∀ t, Steps p.tables e below V t → Steps p.tables e below U t) (g : Go p e below Q V) : Go p e below Q U := by
  obtain ⟨vm0, k0, locs, X, ⟨hx, hby, -⟩, -⟩ := P
  exact g.of (f vm0 locs X hx hby)
theorem Pos.old (P : Pos p l e R s m args below meth c own nm bytes ml rt Z a0 EL h0 ws T h cells slots) : Ext Z.heap h := by
  obtain ⟨vm0, k0, locs, X, -, -, -, -, -, -, -, -, -, O⟩ := P; exact O
theorem Pos.kept (P : Pos p l e R s m args below meth c own nm bytes ml rt Z a0 EL h0 ws T h cells slots) : Keep h0 h ws := by
  obtain ⟨vm0, k0, locs, X, -, -, -, -, -, -, -, -, K, -⟩ := P; exact K
theorem Pos.wider (P : Pos p l e R s m args below meth c own nm bytes ml rt Z a0 EL h0 ws T h cells slots) {cells' slots' : Nat} (hc : cells ≤ cells') (hs : slots ≤ slots') : Pos p l e R s m args below meth c own nm bytes ml rt Z a0 EL h0 ws T h cells' slots' := by
  obtain ⟨vm0, k0, locs, X, r⟩ := P
  exact ⟨vm0, k0, locs, { X with same := X.same.mono hc hs }, r⟩
/-- nothing old was written at the end: every way to leave -/
theorem Pos.ret {w : Option Value} {i : Instr} (P : Pos p l e R s m args below meth c own nm bytes ml rt Z a0 EL h0 ws T h cells slots) {stk : List Value}
    (hv : rt = none → w = none)
    (hst : ∀ (vm0 : Vm) (locs : List Loc) (fs : List Frame), Stand p l e R (s.setVm vm0) m args below meth c T locs cells slots → p.tables.exec = Jvm.exec → c.code = bytes → meth.sig.returnType = rt → (∀ (f : JFrame) (acts : List Action), f.method = m → f.locked = none → f.entered = [] → (doReturn e (T.setTop f) acts w).1 = T.setFrames fs) → Steps p.tables e below (T.setTop (mkF m pc Ls stk)) (T.setFrames fs))
    (hc : cells ≤ rm.cells) (hs : slots ≤ rm.slots) (q : Qv w h) : Go p e below (Fini Z EL h0 ws rm Qv s) (T.setTop (mkF m pc Ls stk)) := by
  obtain ⟨vm0, k0, locs, X, ⟨hx, hby, hml, hret, hlk, hnm, hh, hEL, hZs⟩, hZ, hown, hS, hk, eT, hC, N, K, O⟩ := P
  obtain ⟨fs, hr, hrun, hended, r1, r2, r3, r4⟩ := X.leaveW hS (by rw [eT]; exact hk) (v := w) (fun q => hv (hret.symm.trans q)) hlk
  refine ⟨_, _, hst vm0 locs fs X hx hby hret hr, hrun, hended, w, locs, rfl, ⟨N, ?_, ?_, ?_⟩, ?_, r1, r2, r3, r4.mono hc hs⟩
  · show Keep h0 T.heap ws; rw [eT]; exact K
  · show Ext Z.heap T.heap; rw [eT]; exact O
  · show Qv w T.heap; rw [eT]; exact q
  · show CHr Z EL s.vm s.heap T.vm T.heap
    rw [eT, hh]; exact hC.trans (CHv.at X hZ hEL hC.1)
theorem Pos.retR {w : Value} {t : FieldType} (P : Pos p l e R s m args below meth c own nm bytes ml rt Z a0 EL h0 ws T h cells slots) (hret : rt = some t) (ht : t.isReference = true) (hw : w.isRef = true) (hd : decode bytes pc = .ok (.areturn, 1)) (hc : cells ≤ rm.cells) (hs : slots ≤ rm.slots) (q : Qv (some w) h) :
    Go p e below (Fini Z EL h0 ws rm Qv s) (T.setTop (mkF m pc Ls (w :: rest))) :=
  P.ret (i := .areturn) (fun q => by rw [hret] at q; cases q) (fun vm0 locs fs X hx hby hr hl => retOut X hx (i := .areturn) (hr.trans hret) (by cases w <;> first | (cases t <;> rfl) | (simp [Value.isRef] at hw)) (Or.inr (Or.inr (Or.inr (Or.inr ⟨rfl, ht, hw⟩)))) (hb hby hd) hl) hc hs q
theorem Pos.retN {z : Int32} {t : FieldType} (P : Pos p l e R s m args below meth c own nm bytes ml rt Z a0 EL h0 ws T h cells slots) (hret : rt = some t) (ht : t = .boolean ∨ t = .byte ∨ t = .char ∨ t = .short) (hd : decode bytes pc = .ok (.ireturn, 1)) (hc : cells ≤ rm.cells) (hs : slots ≤ rm.slots) (q : Qv (some (.int (nar t z))) h) :
    Go p e below (Fini Z EL h0 ws rm Qv s) (T.setTop (mkF m pc Ls (.int z :: rest))) :=
  P.ret (i := .ireturn) (fun q => by rw [hret] at q; cases q) (fun vm0 locs fs X hx hby hr hl => Jvm.RoadKit.retN X hx (hr.trans hret) ht (hb hby hd) hl) hc hs q
theorem Pos.retI {z : Int32} (P : Pos p l e R s m args below meth c own nm bytes ml rt Z a0 EL h0 ws T h cells slots) (hret : rt = some .int) (hd : decode bytes pc = .ok (.ireturn, 1)) (hc : cells ≤ rm.cells) (hs : slots ≤ rm.slots) (q : Qv (some (.int z)) h) :
    Go p e below (Fini Z EL h0 ws rm Qv s) (T.setTop (mkF m pc Ls (.int z :: rest))) :=
  P.ret (i := .ireturn) (fun q => by rw [hret] at q; cases q) (fun vm0 locs fs X hx hby hr hl => retOut X hx (i := .ireturn) (hr.trans hret) rfl (Or.inl ⟨rfl, Or.inl rfl, z, rfl⟩) (hb hby hd) hl) hc hs q
theorem Pos.retV (P : Pos p l e R s m args below meth c own nm bytes ml rt Z a0 EL h0 ws T h cells slots) (hret : rt = none) (hd : decode bytes pc = .ok (.return_, 1)) (hc : cells ≤ rm.cells) (hs : slots ≤ rm.slots) (q : Qv none h) :
    Go p e below (Fini Z EL h0 ws rm Qv s) (T.setTop (mkF m pc Ls [])) :=
  P.ret (i := .return_) (fun _ => rfl) (fun vm0 locs fs X hx hby hr hl => X.returnOut hx (hr.trans hret) (hb hby hd) hl) hc hs q
/-- a step that leaves the heap, given in the library's shape -/
theorem Pos.same {U : State} (P : Pos p l e R s m args below meth c own nm bytes ml rt Z a0 EL h0 ws T h cells slots) {V : State → State}
    (f : ∀ (vm0 : Vm) (locs : List Loc), Stand p l e R (s.setVm vm0) m args below meth c T locs cells slots → p.tables.exec = Jvm.exec → c.code = bytes → c.maxLocals = ml → Z.Warmed39 vm0 → vm0.findClass own = some m.cls → T.heap = h →
      ∃ T', Stand p l e R (s.setVm vm0) m args below meth c T' locs cells slots ∧ T'.heap = h ∧ ∀ t, Steps p.tables e below (V T') t → Steps p.tables e below U t)
    (k : ∀ T', Pos p l e R s m args below meth c own nm bytes ml rt Z a0 EL h0 ws T' h cells slots → Go p e below Q (V T')) : Go p e below Q U := by
  obtain ⟨vm0, k0, locs, X, ⟨hx, hby, hml, hret, hlk, hnm, hh, hEL, hZs⟩, hZ, hown, hS, hk, eT, r⟩ := P
  obtain ⟨T', X', e', st⟩ := f vm0 locs X hx hby hml hZ hown eT
  exact (k T' ⟨vm0, k0, locs, X', ⟨hx, hby, hml, hret, hlk, hnm, hh, hEL, hZs⟩, hZ, hown, hS, hk, e', r⟩).of st
theorem Pos.getF (P : Pos p l e R s m args below meth c own nm bytes ml rt Z a0 EL h0 ws T h cells slots) {R0 O n d host : String} {index : Nat} (w : (Jvm.Cond.fieldLink own index R0 n d).before a0 Z = true ∨ (Jvm.Cond.fieldLinkNest own index R0 n d host).before a0 Z = true) (via : Via Z R0 O n d) {a : Addr} {v : Value} (F : Fld Z h a O n d v) (hd : decode bytes pc = .ok (.getfield index, 3))
    (k : ∀ T', Pos p l e R s m args below meth c own nm bytes ml rt Z a0 EL h0 ws T' h cells slots → Go p e below Q (T'.setTop (mkF m (pc + 3) Ls (v :: rest)))) : Go p e below Q (T.setTop (mkF m pc Ls (.ref a :: rest))) :=
  P.same (V := fun T' => T'.setTop (mkF m (pc + 3) Ls (v :: rest))) (fun vm0 locs X hx hby hml hZ hown eT => Jvm.RoadKit.getF X hx hZ hown w via eT F (g := mkF m pc Ls (.ref a :: rest)) rfl rfl (hb hby hd)) k
theorem Pos.getS (P : Pos p l e R s m args below meth c own nm bytes ml rt Z a0 EL h0 ws T h cells slots) {R0 O n d host : String} {index : Nat} (w : (Jvm.Cond.fieldLink own index R0 n d).before a0 Z = true ∨ (Jvm.Cond.fieldLinkNest own index R0 n d host).before a0 Z = true) (via : Via Z R0 O n d) {v : Value} (F : Sta Z Z.heap O n d v) (hd : decode bytes pc = .ok (.getstatic index, 3))
    (k : ∀ T', Pos p l e R s m args below meth c own nm bytes ml rt Z a0 EL h0 ws T' h cells slots → Go p e below Q (T'.setTop (mkF m (pc + 3) Ls (v :: rest)))) : Go p e below Q (T.setTop (mkF m pc Ls rest)) :=
  have O := P.old
  P.same (V := fun T' => T'.setTop (mkF m (pc + 3) Ls (v :: rest))) (fun vm0 locs X hx hby hml hZ hown eT => getS2 X hx hZ hown w via eT (F.ext O) (g := mkF m pc Ls rest) rfl (hb hby hd)) k
theorem Pos.cast (P : Pos p l e R s m args below meth c own nm bytes ml rt Z a0 EL h0 ws T h cells slots) {K : String} {index : Nat} (w : (Jvm.Cond.classLink own index K).before a0 Z = true) {a : Addr} (F : Ins Z h a K true) (hd : decode bytes pc = .ok (.checkcast index, 3))
    (k : ∀ T', Pos p l e R s m args below meth c own nm bytes ml rt Z a0 EL h0 ws T' h cells slots → Go p e below Q (T'.setTop (mkF m (pc + 3) Ls (.ref a :: rest)))) : Go p e below Q (T.setTop (mkF m pc Ls (.ref a :: rest))) :=
  P.same (V := fun T' => T'.setTop (mkF m (pc + 3) Ls (.ref a :: rest))) (fun vm0 locs X hx hby hml hZ hown eT => castY X hx hZ hown w eT F (g := mkF m pc Ls (.ref a :: rest)) rfl rfl (hb hby hd)) k
theorem Pos.inst (P : Pos p l e R s m args below meth c own nm bytes ml rt Z a0 EL h0 ws T h cells slots) {K : String} {index : Nat} (w : (Jvm.Cond.classLink own index K).before a0 Z = true) {a : Addr} (F : Ins Z h a K true) (hd : decode bytes pc = .ok (.instanceof index, 3))
    (k : ∀ T', Pos p l e R s m args below meth c own nm bytes ml rt Z a0 EL h0 ws T' h cells slots → Go p e below Q (T'.setTop (mkF m (pc + 3) Ls (.int 1 :: rest)))) : Go p e below Q (T.setTop (mkF m pc Ls (.ref a :: rest))) :=
  P.same (V := fun T' => T'.setTop (mkF m (pc + 3) Ls (.int 1 :: rest))) (fun vm0 locs X hx hby hml hZ hown eT => instY X hx hZ hown w eT F (g := mkF m pc Ls (.ref a :: rest)) rfl rfl (hb hby hd)) k
theorem Pos.init0 (P : Pos p l e R s m args below meth c own nm bytes ml rt Z a0 EL h0 ws T h cells slots) {index W : Nat} (w1 : (Jvm.Cond.methodLink own index Lib.objectInit).before a0 Z = true) (w2 : (Jvm.Cond.instanceMethod Lib.objectInit).before a0 Z = true) (w3 : (Jvm.Cond.code Lib.objectInit ⟨#[0xb1]⟩ 1 none).before a0 Z = true) {a : Addr} (hd : decode bytes pc = .ok (.invokespecial index, 3)) (hsz : Ls.size = ml) (hf : 1 ≤ R.frames) (hW : (rest.map fun v => v.category).sum ≤ W) (hl : W + 12 ≤ R.locals)
    (k : ∀ T', Pos p l e R s m args below meth c own nm bytes ml rt Z a0 EL h0 ws T' h cells slots → Go p e below Q (T'.setTop (mkF m (pc + 3) Ls rest))) : Go p e below Q (T.setTop (mkF m pc Ls (.ref a :: rest))) :=
  P.same (V := fun T' => T'.setTop (mkF m (pc + 3) Ls rest)) (fun vm0 locs X hx hby hml hZ hown eT => initO X hx hZ hown w1 w2 w3 eT (g := mkF m pc Ls (.ref a :: rest)) rfl (by rw [hml]; exact hsz) rfl (hb hby hd) hf (W := W) (by show 2 * 0 + _ ≤ _; rw [Nat.mul_zero, Nat.zero_add]; exact hW) hl) k
/-- a step that makes new cells alone -/
theorem Pos.grow {U : State} {dc dn : Nat} {A : State → Heap → Prop} {V : State → State} (P : Pos p l e R s m args below meth c own nm bytes ml rt Z a0 EL h0 ws T h cells slots)
    (f : ∀ (vm0 : Vm) (locs : List Loc), Stand p l e R (s.setVm vm0) m args below meth c T locs cells slots → p.tables.exec = Jvm.exec → c.code = bytes → Z.Warmed39 vm0 → vm0.findClass own = some m.cls → T.heap = h →
      ∃ T' h', Stand p l e R (s.setVm vm0) m args below meth c T' locs (cells + dc) (slots + dn) ∧ T'.heap = h' ∧ Ext h h' ∧ A T' h' ∧ ∀ t, Steps p.tables e below (V T') t → Steps p.tables e below U t)
    (k : ∀ T' h', Pos p l e R s m args below meth c own nm bytes ml rt Z a0 EL h0 ws T' h' (cells + dc) (slots + dn) → Ext h h' → A T' h' → Go p e below Q (V T')) : Go p e below Q U := by
  obtain ⟨vm0, k0, locs, X, ⟨hx, hby, hml, hret, hlk, hnm, hh, hEL, hZs⟩, hZ, hown, hS, hk, eT, hC, N, K, O⟩ := P
  obtain ⟨T', h', X', e', E, hA, st⟩ := f vm0 locs X hx hby hZ hown eT
  exact (k T' h' ⟨vm0, k0, locs, X', ⟨hx, hby, hml, hret, hlk, hnm, hh, hEL, hZs⟩, hZ, hown, hS, Nat.le_trans hk E.1, e', hC.trans (CHr.ext E hC.1), N, K.ext E, ⟨Nat.le_trans O.1 E.1, fun a c q => E.2 _ _ (O.2 _ _ q)⟩⟩ E hA).of st
theorem Pos.newO (P : Pos p l e R s m args below meth c own nm bytes ml rt Z a0 EL h0 ws T h cells slots) {C : String} {index n : Nat} (w : (Jvm.Cond.classLink own index C).before a0 Z = true) (wi : (Jvm.Cond.instantiable C n).before a0 Z = true) (wz : (Jvm.Cond.initialized C).before a0 Z = true) (hd : decode bytes pc = .ok (.new index, 3)) (hc : cells + 1 ≤ R.cells) (hl : slots + n ≤ R.slots)
    (k : ∀ T' h' x, x = h.size → Pos p l e R s m args below meth c own nm bytes ml rt Z a0 EL h0 ws T' h' (cells + 1) (slots + n) → Ext h h' → Exa Z h' x C → (∀ {O nm d : String} {ty : FieldType}, Laid Z a0 C O nm d → parseFieldDescriptor d = some ty → Fld Z h' x O nm d (defaultValue ty)) → Go p e below Q (T'.setTop (mkF m (pc + 3) Ls (.ref x :: rest)))) : Go p e below Q (T.setTop (mkF m pc Ls rest)) :=
  P.grow (V := fun T' => T'.setTop (mkF m (pc + 3) Ls (.ref h.size :: rest))) (A := fun T' h' => Exa Z h' h.size C ∧ ∀ {O nm d : String} {ty : FieldType}, Laid Z a0 C O nm d → parseFieldDescriptor d = some ty → Fld Z h' h.size O nm d (defaultValue ty))
    (fun vm0 locs X hx hby hZ hown eT => by
      obtain ⟨T', h', X', e', E, A, D, -, st⟩ := Jvm.RoadKit.newO X hx hZ hown w wi wz eT (g := mkF m pc Ls rest) rfl (hb hby hd) hc hl
      exact ⟨T', h', X', e', E, ⟨A, D⟩, st⟩)
    (fun T' h' P' E A => k T' h' _ rfl P' E A.1 A.2)
theorem Pos.newP (P : Pos p l e R s m args below meth c own nm bytes ml rt Z a0 EL h0 ws T h cells slots) {aty : ArrayType} {n : Int32} {cap : Nat} (w : (Jvm.Cond.arrayClass (newarray.typeOf aty)).before a0 Z = true) (hd : decode bytes pc = .ok (.newarray aty, 2)) (hn : ¬ n < 0) (hcap : n.toNatClampNeg ≤ cap) (hb8 : cap * 8 ≤ 536870912) (hc : cells + 1 ≤ R.cells) (hl : slots + cap ≤ R.slots)
    (k : ∀ T' h' x cA, x = h.size → Pos p l e R s m args below meth c own nm bytes ml rt Z a0 EL h0 ws T' h' (cells + 1) (slots + cap) → Ext h h' → Arv Z h' x cA (newarray.typeOf aty) n [] (defaultValue (newarray.typeOf aty)) → Go p e below Q (T'.setTop (mkF m (pc + 2) Ls (.ref x :: rest)))) : Go p e below Q (T.setTop (mkF m pc Ls (.int n :: rest))) :=
  P.grow (V := fun T' => T'.setTop (mkF m (pc + 2) Ls (.ref h.size :: rest))) (A := fun T' h' => ∃ cA, Arv Z h' h.size cA (newarray.typeOf aty) n [] (defaultValue (newarray.typeOf aty)))
    (fun vm0 locs X hx hby hZ hown eT => by
      obtain ⟨T', h', cA, X', e', E, A, st⟩ := Jvm.RoadKit.newP X hx hZ w eT (g := mkF m pc Ls (.int n :: rest)) rfl (hb hby hd) rfl hn hcap hb8 hc hl
      exact ⟨T', h', X', e', E, ⟨cA, Arv.new A hn⟩, st⟩)
    (fun T' h' P' E A => by obtain ⟨cA, A⟩ := A; exact k T' h' _ cA rfl P' E A)
theorem Pos.newR (P : Pos p l e R s m args below meth c own nm bytes ml rt Z a0 EL h0 ws T h cells slots) {C : String} {index : Nat} {n : Int32} {cap : Nat} (w1 : (Jvm.Cond.classLink own index C).before a0 Z = true) (w2 : (Jvm.Cond.arrayOver (.object C)).before a0 Z = true) (hd : decode bytes pc = .ok (.anewarray index, 3)) (hn : ¬ n < 0) (hcap : n.toNatClampNeg ≤ cap) (hb8 : cap * 8 ≤ 536870912) (hc : cells + 1 ≤ R.cells) (hl : slots + cap ≤ R.slots)
    (k : ∀ T' h' x cA, x = h.size → Pos p l e R s m args below meth c own nm bytes ml rt Z a0 EL h0 ws T' h' (cells + 1) (slots + cap) → Ext h h' → Arv Z h' x cA (.object C) n [] .null → Ovr Z cA C → Go p e below Q (T'.setTop (mkF m (pc + 3) Ls (.ref x :: rest)))) : Go p e below Q (T.setTop (mkF m pc Ls (.int n :: rest))) :=
  P.grow (V := fun T' => T'.setTop (mkF m (pc + 3) Ls (.ref h.size :: rest))) (A := fun T' h' => ∃ cA, Arv Z h' h.size cA (.object C) n [] .null ∧ Ovr Z cA C)
    (fun vm0 locs X hx hby hZ hown eT => by
      obtain ⟨T', h', cA, X', e', E, A, O, st⟩ := Jvm.RoadKit.newR X hx hZ hown w1 w2 eT (g := mkF m pc Ls (.int n :: rest)) rfl (hb hby hd) rfl hn hcap hb8 hc hl
      exact ⟨T', h', X', e', E, ⟨cA, Arv.new A hn, O⟩, st⟩)
    (fun T' h' P' E A => by obtain ⟨cA, A, O⟩ := A; exact k T' h' _ cA rfl P' E A O)
/-- a step that writes one place of a -/
theorem Pos.wr {U : State} {a : Addr} {sl : Nat} {v : Value} {V : State → State} (P : Pos p l e R s m args below meth c own nm bytes ml rt Z a0 EL h0 ws T h cells slots)
    (hsafe : ∀ vm, Z.vm.Alike s.vm → Z.vm.Alike vm → CHr Z EL s.vm h0 vm h → Safe Z EL vm h a) (hz : Z.heap.size ≤ a) (hws : a ∈ ws ∨ h0.size ≤ a)
    (f : ∀ (vm0 : Vm) (locs : List Loc), Stand p l e R (s.setVm vm0) m args below meth c T locs cells slots → p.tables.exec = Jvm.exec → c.code = bytes → Z.Warmed39 vm0 → vm0.findClass own = some m.cls → T.heap = h → meth.name = nm →
      ∃ T' h', Stand p l e R (s.setVm vm0) m args below meth c T' (locs ++ [⟨a, sl⟩]) cells slots ∧ T'.heap = h' ∧ Wr h h' a sl v ∧ ∀ t, Steps p.tables e below (V T') t → Steps p.tables e below U t)
    (k : ∀ T' h', Pos p l e R s m args below meth c own nm bytes ml rt Z a0 EL h0 ws T' h' cells slots → Wr h h' a sl v → Go p e below Q (V T')) : Go p e below Q U := by
  obtain ⟨vm0, k0, locs, X, ⟨hx, hby, hml, hret, hlk, hnm, hh, hEL, hZs⟩, hZ, hown, hS, hk, eT, hC, N, K, O⟩ := P
  obtain ⟨T', h', X', e', W, st⟩ := f vm0 locs X hx hby hZ hown eT hnm
  exact (k T' h' ⟨vm0, k0, _, X', ⟨hx, hby, hml, hret, hlk, hnm, hh, hEL, hZs⟩, hZ, hown, hS, Nat.le_trans hk (Nat.le_of_eq W.size.symm), e', hC.trans (CHr.wr W (hsafe vm0 hZs.alike hZ.alike hC) hC.1), Fr.snoc X' N hz, K.wr W hws,
    (Old.wr (n0 := Z.heap.size) ⟨rfl, O⟩ W hz).2⟩ W).of st
theorem Pos.putF (P : Pos p l e R s m args below meth c own nm bytes ml rt Z a0 EL h0 ws T h cells slots) {R0 O n d C : String} {index kk : Nat} {ty : FieldType} {a : Addr} {v v' old : Value}
    (w : (Jvm.Cond.fieldLink own index R0 n d).before a0 Z = true) (via : Via Z R0 O n d) (F : Fld Z h a O n d old) (E : Exa Z h a C) (L : (Jvm.Cond.lays C O n d).before a0 Z = true ∨ ((Jvm.Cond.laysFinal C O n d).before a0 Z = true ∧ own = O ∧ nm = "<init>")) (wi : (Jvm.Cond.instantiable C kk).before a0 Z = true)
    (hty : parseFieldDescriptor d = some ty) (hn : narrow ty v = v') (hf : fits ty v' = true) (hd : decode bytes pc = .ok (.putfield index, 3))
    (hsafe : ∀ vm, Z.vm.Alike s.vm → Z.vm.Alike vm → CHr Z EL s.vm h0 vm h → Safe Z EL vm h a) (hz : Z.heap.size ≤ a) (hws : a ∈ ws ∨ h0.size ≤ a)
    (k : ∀ T' h', Pos p l e R s m args below meth c own nm bytes ml rt Z a0 EL h0 ws T' h' cells slots → Wr h h' a (Jvm.RoadKit.slotOf Z O n d) v' → Go p e below Q (T'.setTop (mkF m (pc + 3) Ls rest))) : Go p e below Q (T.setTop (mkF m pc Ls (v :: .ref a :: rest))) :=
  P.wr hsafe hz hws (V := fun T' => T'.setTop (mkF m (pc + 3) Ls rest)) (fun vm0 locs X hx hby hZ hown eT hnm => putFN X hx hZ hown w via eT F E (L.imp id fun q => ⟨q.1, q.2.1, hnm.trans q.2.2⟩) wi hty hn hf (g := mkF m pc Ls (v :: .ref a :: rest)) rfl rfl (hb hby hd)) k
theorem inb {j : Int32} {i : Nat} {cl : Cell} {z : Int32} (hj : j.toNatClampNeg = i) (hj0 : ¬ j < 0) (hS : cl.slots.size = z.toNatClampNeg) (hlt : i < z.toNatClampNeg) : ¬ (j < 0 ∨ cl.slots.size ≤ j.toNatClampNeg) := by
  rintro (q | q)
  · exact hj0 q
  · rw [hS, hj] at q; omega
theorem Pos.stC (P : Pos p l e R s m args below meth c own nm bytes ml rt Z a0 EL h0 ws T h cells slots) {a : Addr} {kc : ClassId} {z j x x' : Int32} {vs : List Value} {dv : Value} (A : Arv Z h a kc .char z vs dv) (i : Nat) (hj : j.toNatClampNeg = i) (hj0 : ¬ j < 0) (hlt : i < z.toNatClampNeg) (hi : i < vs.length) (hx' : nar .char x = x') (hd : decode bytes pc = .ok (.castore, 1)) (hz : Z.heap.size ≤ a) (hws : a ∈ ws ∨ h0.size ≤ a)
    (k : ∀ T' h', Pos p l e R s m args below meth c own nm bytes ml rt Z a0 EL h0 ws T' h' cells slots → Wr h h' a j.toNatClampNeg (.int x') → Arv Z h' a kc .char z (vs.set i (.int x')) dv → Go p e below Q (T'.setTop (mkF m (pc + 1) Ls rest))) : Go p e below Q (T.setTop (mkF m pc Ls (.int x :: .int j :: .ref a :: rest))) := by
  obtain ⟨cl, Ar, q1, S, N, H, G⟩ := A
  subst hx'
  refine P.wr (fun vm _ hal _ => Safe.arr hal Ar (by decide)) hz hws (V := fun T' => T'.setTop (mkF m (pc + 1) Ls rest)) (fun vm0 locs X hx hby hZ hown eT hnm => Jvm.RoadKit.stC X hx hZ eT Ar (inb hj hj0 S hlt) (g := mkF m pc Ls (.int x :: .int j :: .ref a :: rest)) rfl rfl (hb hby hd)) (fun T' h' P' W => k T' h' P' W (Arv.set Ar q1 S N H G (fits_nar_char x) W i hj hi))
theorem Pos.stR (P : Pos p l e R s m args below meth c own nm bytes ml rt Z a0 EL h0 ws T h cells slots) {a : Addr} {kc : ClassId} {C : String} {z j : Int32} {y : Addr} {vs : List Value} {dv : Value} (A : Arv Z h a kc (.object C) z vs dv) (O : Ovr Z kc C) (I : Ins Z h y C true) (i : Nat) (hj : j.toNatClampNeg = i) (hj0 : ¬ j < 0) (hlt : i < z.toNatClampNeg) (hi : i < vs.length) (hd : decode bytes pc = .ok (.aastore, 1)) (hz : Z.heap.size ≤ a) (hws : a ∈ ws ∨ h0.size ≤ a)
    (k : ∀ T' h', Pos p l e R s m args below meth c own nm bytes ml rt Z a0 EL h0 ws T' h' cells slots → Wr h h' a j.toNatClampNeg (.ref y) → Arv Z h' a kc (.object C) z (vs.set i (.ref y)) dv → Go p e below Q (T'.setTop (mkF m (pc + 1) Ls rest))) : Go p e below Q (T.setTop (mkF m pc Ls (.ref y :: .int j :: .ref a :: rest))) := by
  obtain ⟨cl, Ar, q1, S, N, H, G⟩ := A
  refine P.wr (fun vm _ hal _ => Safe.arr hal Ar nofun) hz hws (V := fun T' => T'.setTop (mkF m (pc + 1) Ls rest)) (fun vm0 locs X hx hby hZ hown eT hnm => Jvm.RoadKit.stR X hx hZ eT Ar (inb hj hj0 S hlt) rfl (Sto.ofV Ar q1 O I) (g := mkF m pc Ls (.ref y :: .int j :: .ref a :: rest)) rfl rfl (hb hby hd)) (fun T' h' P' W => k T' h' P' W (Arv.set Ar q1 S N H G rfl W i hj hi))
/-- a String constant, opaque -/
theorem Pos.ldcO (P : Pos p l e R s m args below meth c own nm bytes ml rt Z a0 EL h0 ws T h cells slots) {text : String} {index n : Nat} (w : (Jvm.Cond.stringLink own index text).before a0 Z = true) (wS : ∀ a ∈ Bundle.stringAtoms, a.before a0 Z = true) (hd : decode bytes pc = .ok (.ldc index, 2)) (hn : 4 * text.toList.length ≤ n) (hbig : n ≤ 536870912) (hc : cells + 2 ≤ R.cells) (hl : slots + (n + 4) ≤ R.slots)
    (k : ∀ T' h' x, Pos p l e R s m args below meth c own nm bytes ml rt Z a0 EL h0 ws T' h' (cells + 2) (slots + (n + 4)) → Ext h h' → Go p e below Q (T'.setTop (mkF m (pc + 2) Ls (.ref x :: rest)))) : Go p e below Q (T.setTop (mkF m pc Ls rest)) := by
  obtain ⟨vm0, k0, locs, X, ⟨hx, hby, hml, hret, hlk, hnm, hh, hEL, hZs⟩, hZ, hown, hS, hk, eT, hC, N, K, O⟩ := P
  obtain ⟨a, T', h', k1, X', e', E, hS', hk', hZ', hown', hC', -, st⟩ := ldcOH X hx hZ hown w wS eT hS hk hEL hC.1 (g := mkF m pc Ls rest) rfl (hb hby hd) hn hbig hc hl
  exact (k T' h' a ⟨T'.vm, k1, locs, X', ⟨hx, hby, hml, hret, hlk, hnm, hh, hEL, hZs⟩, hZ', hown', hS', hk', e', hC.trans hC', N, K.ext E, ⟨Nat.le_trans O.1 E.1, fun a c q => E.2 _ _ (O.2 _ _ q)⟩⟩ E).of st
/-- a String constant, read -/
theorem Pos.ldcR (P : Pos p l e R s m args below meth c own nm bytes ml rt Z a0 EL h0 ws T h cells slots) {text : String} {index n : Nat} {vs : List Value} {z : Int32} (w : (Jvm.Cond.stringLink own index text).before a0 Z = true) (wS : ∀ a ∈ Bundle.stringAtoms, a.before a0 Z = true) (hmem : (own, index) ∈ EL) (ht : (∀ c ∈ text.toList, c.toNat < 256) ∧ text.toList.map (fun c => Value.int (Jvm.Lit.byteI c.toNat.toUInt16)) = vs) (hz : ¬ z < 0) (hl0 : z.toNatClampNeg = vs.length) (hd : decode bytes pc = .ok (.ldc index, 2)) (hn : 4 * text.toList.length ≤ n) (hbig : n ≤ 536870912) (hc : cells + 2 ≤ R.cells) (hl : slots + (n + 4) ≤ R.slots)
    (k : ∀ T' h' x b kb, Pos p l e R s m args below meth c own nm bytes ml rt Z a0 EL h0 ws T' h' (cells + 2) (slots + (n + 4)) → Ext h h' → Exa Z h' x "java/lang/String" → Fld Z h' x "java/lang/String" "coder" "B" (.int 0) → Fld Z h' x "java/lang/String" "value" "[B" (.ref b) → Arv Z h' b kb .byte z vs (.int 0) → Go p e below Q (T'.setTop (mkF m (pc + 2) Ls (.ref x :: rest)))) : Go p e below Q (T.setTop (mkF m pc Ls rest)) := by
  obtain ⟨vm0, k0, locs, X, ⟨hx, hby, hml, hret, hlk, hnm, hh, hEL, hZs⟩, hZ, hown, hS, hk, eT, hC, N, K, O⟩ := P
  obtain ⟨a, T', h', k1, b, kb, X', e', E, hS', hk', hZ', hown', f1, f2, f3, f4, -, -, hC', -, -, st⟩ := ldcCH X hx hZ hown w wS eT hS hk hEL hmem hC.1 ht hz hl0 (g := mkF m pc Ls rest) rfl (hb hby hd) hn hbig hc hl
  exact (k T' h' a b kb ⟨T'.vm, k1, locs, X', ⟨hx, hby, hml, hret, hlk, hnm, hh, hEL, hZs⟩, hZ', hown', hS', hk', e', hC.trans hC', N, K.ext E, ⟨Nat.le_trans O.1 E.1, fun a c q => E.2 _ _ (O.2 _ _ q)⟩⟩ E f1 f2 f3 f4).of st
/-- behind a call by contract: the point, all its facts -/
theorem Pos.after {vm0 : Vm} {k0 : Nat} {locs L : List Loc} {dc dn cc nn : Nat} {ws' : List Addr} {U : State} {LL : List Loc}
    (hR : p.tables.exec = Jvm.exec ∧ c.code = bytes ∧ c.maxLocals = ml ∧ meth.sig.returnType = rt ∧ meth.locks = false ∧ meth.name = nm ∧ s.heap = h0 ∧ EW Z a0 EL ∧ Z.Warmed39 s.vm) (hZ : Z.Warmed39 vm0) (hown : vm0.findClass own = some m.cls) (hS : s.Since vm0 k0) (hk : k0 ≤ h.size) (eT : T.heap = h) (hC : CHr Z EL s.vm h0 vm0 h) (N : Fr Z.heap.size locs) (K : Keep h0 h ws)
    (X' : Stand p l e R ((s.setVm vm0).setVm U.vm) m args below meth c U LL cc nn) (hS2 : (s.setVm vm0).Since U.vm U.heap.size) (g : T.heap.size ≤ U.heap.size) (hLL : LL = locs ++ L) (hcc : cc = cells + dc) (hnn : nn = slots + dn) (hC' : CHr Z EL vm0 h U.vm U.heap) (N' : Fr Z.heap.size L) (K' : Keep h U.heap ws') (O' : Ext Z.heap U.heap) (hws : ∀ x ∈ ws', x ∈ ws ∨ h0.size ≤ x) :
    Pos p l e R s m args below meth c own nm bytes ml rt Z a0 EL h0 ws U U.heap (cells + dc) (slots + dn) := by
  subst hLL hcc hnn
  rw [eT] at g
  obtain ⟨Y, hS3, hZ3, ho3⟩ := rebS hS hk X' hS2 g hZ hown
  exact ⟨U.vm, _, _, Y, hR, hZ3, ho3, hS3, Nat.le_refl _, rfl, hC.trans hC', N.app N', K.trans K' hws, O'⟩
theorem Pos.callS (P : Pos p l e R s m args below meth c own nm bytes ml rt Z a0 EL h0 ws T h cells slots) {index : Nat} {y : MethodName} {bytes' : ByteArray} {ml' W : Nat} {rt' : Option FieldType} {argsL stk : List Value} {ws' : List Addr} {ps : List FieldType} {r : Option FieldType}
    (w1 : (Jvm.Cond.methodLink own index y).before a0 Z = true) (w2 : (Jvm.Cond.static y).before a0 Z = true) (w3 : (Jvm.Cond.initialized y.cls).before a0 Z = true) (w4 : (Jvm.Cond.code y bytes' ml' rt').before a0 Z = true) (hy : y.cls ≠ "java/lang/invoke/MethodHandle" ∧ y.cls ≠ "java/lang/invoke/VarHandle")
    (C : Con l Z EL [] y bytes' ml' rt' rm argsL.toArray h ws' Qv) (hf : rm.frames + 1 ≤ R.frames) (hl : W + (ml' + 11) + rm.locals ≤ R.locals) (hc : cells + rm.cells ≤ R.cells) (hs : slots + rm.slots ≤ R.slots) (hws : ∀ x ∈ ws', x ∈ ws ∨ h0.size ≤ x)
    (pd : parseMethodDescriptor y.desc = some ⟨ps, r⟩) (hlen : argsL.length = ps.length) (hst : stk = argsL.reverse ++ rest) (hsz : Ls.size = ml) (hW : (rest.map fun v => v.category).sum ≤ W) (hd : decode bytes pc = .ok (.invokestatic index, 3))
    (k : ∀ v T' h', Pos p l e R s m args below meth c own nm bytes ml rt Z a0 EL h0 ws T' h' (cells + rm.cells) (slots + rm.slots) → Keep h h' ws' → Qv v h' → Go p e below Q (T'.setTop (mkF m (pc + 3) Ls (v.toList ++ rest)))) : Go p e below Q (T.setTop (mkF m pc Ls stk)) := by
  obtain ⟨vm0, k0, locs, X, hR, hZ, hown, hS, hk, eT, hC, N, K, O⟩ := P
  have hR' := hR
  obtain ⟨hx, hby, hml, hret, hlk, hnm, hh, hEL, hZs⟩ := hR'
  obtain ⟨v, _, ⟨U, LL, cc, nn⟩, -, X', hS2, hg, ⟨L, ⟨N', K', O', hQ⟩, hLL, hcc, hnn, hC'⟩, st⟩ := callSS X hx (y := y) hown (mvT (s := s.setVm vm0) hZ w1) (mvT (s := s.setVm vm0) hZ w2) (mvT (s := s.setVm vm0) hZ w3) (mvT (s := s.setVm vm0) hZ w4) hy (backOfSH (W := W) (vm0 := vm0) (Q := fun v h' L => Fr Z.heap.size L ∧ Keep h h' ws' ∧ Ext Z.heap h' ∧ Qv v h') C hZ w4 w3 hf hl hEL hC.1) (g := mkF m pc Ls stk) rfl (by rw [hml]; exact hsz) (argsL := argsL) (rest := rest) (lenOf pd hlen) hst (by show 2 * 0 + _ ≤ _; rw [Nat.mul_zero, Nat.zero_add]; exact hW) (hb hby hd) (fun _ _ => ⟨rfl, eT, hc, hs⟩)
  dsimp only at X' hS2 hg hLL hcc hnn hC' st N' K' O' hQ
  exact (k v U U.heap (Pos.after hR hZ hown hS hk eT hC N K X' hS2 hg hLL hcc hnn hC' N' K' O' hws) K' hQ).of (fun t q => st.trans q)
theorem Pos.callI (P : Pos p l e R s m args below meth c own nm bytes ml rt Z a0 EL h0 ws T h cells slots) {index : Nat} {y : MethodName} {bytes' : ByteArray} {ml' W : Nat} {a : Addr} {argsL stk : List Value} {ws' : List Addr} {ps : List FieldType} {r : Option FieldType} (hy1 : y.name = "<init>")
    (w1 : (Jvm.Cond.methodLink own index y).before a0 Z = true) (w2 : (Jvm.Cond.instanceMethod y).before a0 Z = true) (w3 : (Jvm.Cond.initialized y.cls).before a0 Z = true) (w4 : (Jvm.Cond.code y bytes' ml' none).before a0 Z = true) (hy : y.cls ≠ "java/lang/invoke/MethodHandle" ∧ y.cls ≠ "java/lang/invoke/VarHandle")
    (C : Con l Z EL [] y bytes' ml' none rm (.ref a :: argsL).toArray h ws' Qv) (hf : rm.frames + 1 ≤ R.frames) (hl : W + (ml' + 11) + rm.locals ≤ R.locals) (hc : cells + rm.cells ≤ R.cells) (hs : slots + rm.slots ≤ R.slots) (hws : ∀ x ∈ ws', x ∈ ws ∨ h0.size ≤ x)
    (pd : parseMethodDescriptor y.desc = some ⟨ps, r⟩) (hlen : argsL.length = ps.length) (hst : stk = argsL.reverse ++ .ref a :: rest) (hsz : Ls.size = ml) (hW : (rest.map fun v => v.category).sum ≤ W) (hd : decode bytes pc = .ok (.invokespecial index, 3))
    (k : ∀ v T' h', Pos p l e R s m args below meth c own nm bytes ml rt Z a0 EL h0 ws T' h' (cells + rm.cells) (slots + rm.slots) → Keep h h' ws' → Qv v h' → Go p e below Q (T'.setTop (mkF m (pc + 3) Ls (v.toList ++ rest)))) : Go p e below Q (T.setTop (mkF m pc Ls stk)) := by
  obtain ⟨vm0, k0, locs, X, hR, hZ, hown, hS, hk, eT, hC, N, K, O⟩ := P
  have hR' := hR
  obtain ⟨hx, hby, hml, hret, hlk, hnm, hh, hEL, hZs⟩ := hR'
  obtain ⟨v, _, ⟨U, LL, cc, nn⟩, -, X', hS2, hg, ⟨L, ⟨N', K', O', hQ⟩, hLL, hcc, hnn, hC'⟩, st⟩ := X.specialBackS hx (y := y) hy1 hown (mvT (s := s.setVm vm0) hZ w1) (mvT (s := s.setVm vm0) hZ w2) (mvT (s := s.setVm vm0) hZ w4) hy (backOfSH (W := W) (vm0 := vm0) (Q := fun v h' L => Fr Z.heap.size L ∧ Keep h h' ws' ∧ Ext Z.heap h' ∧ Qv v h') C hZ w4 w3 hf hl hEL hC.1) (g := mkF m pc Ls stk) rfl (by rw [hml]; exact hsz) (Steps.refl _) (a := a) (argsL := argsL) (rest := rest) (lenOf pd hlen) hst (by show 2 * 0 + _ ≤ _; rw [Nat.mul_zero, Nat.zero_add]; exact hW) (hb hby hd) (fun _ _ => ⟨rfl, eT, hc, hs⟩)
  dsimp only at X' hS2 hg hLL hcc hnn hC' st N' K' O' hQ
  exact (k v U U.heap (Pos.after hR hZ hown hS hk eT hC N K X' hS2 hg hLL hcc hnn hC' N' K' O' hws) K' hQ).of (fun t q => st.trans q)
theorem Pos.callV (P : Pos p l e R s m args below meth c own nm bytes ml rt Z a0 EL h0 ws T h cells slots) {index : Nat} {y z : MethodName} {bytes' : ByteArray} {ml' W : Nat} {rt' : Option FieldType} {C : String} {a : Addr} {argsL stk : List Value} {ws' : List Addr} {ps : List FieldType} {r : Option FieldType}
    (w1 : (Jvm.Cond.methodLink own index y).before a0 Z = true) (w2 : (Jvm.Cond.declares y).before a0 Z = true) (w5 : (Jvm.Cond.selects C y z).before a0 Z = true) (hnf : ∀ vm0, Z.Warmed39 vm0 → NotFace (s.setVm vm0) y) (w6 : (Jvm.Cond.instanceMethod z).before a0 Z = true) (w3 : (Jvm.Cond.initialized z.cls).before a0 Z = true) (w4 : (Jvm.Cond.code z bytes' ml' rt').before a0 Z = true) (hy : y.cls ≠ "java/lang/invoke/MethodHandle" ∧ y.cls ≠ "java/lang/invoke/VarHandle") (E : Exa Z h a C)
    (Cn : Con l Z EL [] z bytes' ml' rt' rm (.ref a :: argsL).toArray h ws' Qv) (hf : rm.frames + 1 ≤ R.frames) (hl : W + (ml' + 11) + rm.locals ≤ R.locals) (hc : cells + rm.cells ≤ R.cells) (hs : slots + rm.slots ≤ R.slots) (hws : ∀ x ∈ ws', x ∈ ws ∨ h0.size ≤ x)
    (pd : parseMethodDescriptor y.desc = some ⟨ps, r⟩) (hlen : argsL.length = ps.length) (hst : stk = argsL.reverse ++ .ref a :: rest) (hsz : Ls.size = ml) (hW : (rest.map fun v => v.category).sum ≤ W) (hd : decode bytes pc = .ok (.invokevirtual index, 3))
    (k : ∀ v T' h', Pos p l e R s m args below meth c own nm bytes ml rt Z a0 EL h0 ws T' h' (cells + rm.cells) (slots + rm.slots) → Keep h h' ws' → Qv v h' → Go p e below Q (T'.setTop (mkF m (pc + 3) Ls (v.toList ++ rest)))) : Go p e below Q (T.setTop (mkF m pc Ls stk)) := by
  obtain ⟨vm0, k0, locs, X, hR, hZ, hown, hS, hk, eT, hC, N, K, O⟩ := P
  have hR' := hR
  obtain ⟨hx, hby, hml, hret, hlk, hnm, hh, hEL, hZs⟩ := hR'
  obtain ⟨cq, kq, qa, qb, qc⟩ := isOf (s := s.setVm vm0) (T := T) hZ eT E
  obtain ⟨v, _, ⟨U, LL, cc, nn⟩, -, X', hS2, hg, ⟨L, ⟨N', K', O', hQ⟩, hLL, hcc, hnn, hC'⟩, st⟩ := X.virtualBackS hx (y := y) (z := z) hown (mvT (s := s.setVm vm0) hZ w1) (mvT (s := s.setVm vm0) hZ w2) (hnf vm0 hZ) (mvT (s := s.setVm vm0) hZ w5) (mvT (s := s.setVm vm0) hZ w6) hy (backOfSH (W := W) (vm0 := vm0) (Q := fun v h' L => Fr Z.heap.size L ∧ Keep h h' ws' ∧ Ext Z.heap h' ∧ Qv v h') Cn hZ w4 w3 hf hl hEL hC.1) qa qc (g := mkF m pc Ls stk) rfl (by rw [hml]; exact hsz) (Steps.refl _) (argsL := argsL) (rest := rest) (lenOf pd hlen) hst (by show 2 * 0 + _ ≤ _; rw [Nat.mul_zero, Nat.zero_add]; exact hW) (hb hby hd) (fun _ _ => ⟨rfl, eT, hc, hs⟩)
  dsimp only at X' hS2 hg hLL hcc hnn hC' st N' K' O' hQ
  exact (k v U U.heap (Pos.after hR hZ hown hS hk eT hC N K X' hS2 hg hLL hcc hnn hC' N' K' O' hws) K' hQ).of (fun t q => st.trans q)
theorem nfOf {y : MethodName} {C : String} (w5 : (Jvm.Cond.selects C y y).before a0 Z = true) : ∀ vm0, Z.Warmed39 vm0 → NotFace (s.setVm vm0) y := fun vm0 hZ => notFace_of_selects (args := #[]) (mvT (s := s.setVm vm0) hZ w5)
/-- behind a call by one of the library's payers (it interns nothing) -/
theorem Pos.afterB {vm0 : Vm} {k0 : Nat} {locs L : List Loc} {dc dn cc nn : Nat} {ws' : List Addr} {U : State} {LL : List Loc}
    (hR : p.tables.exec = Jvm.exec ∧ c.code = bytes ∧ c.maxLocals = ml ∧ meth.sig.returnType = rt ∧ meth.locks = false ∧ meth.name = nm ∧ s.heap = h0 ∧ EW Z a0 EL ∧ Z.Warmed39 s.vm) (hZ : Z.Warmed39 vm0) (hown : vm0.findClass own = some m.cls) (hS : s.Since vm0 k0) (hk : k0 ≤ h.size) (hC : CHr Z EL s.vm h0 vm0 h) (N : Fr Z.heap.size locs) (K : Keep h0 h ws) (O : Ext Z.heap h)
    (X' : Stand p l e R (s.setVm vm0) m args below meth c U LL cc nn) (hLL : LL = locs ++ L) (hcc : cc = cells + dc) (hnn : nn = slots + dn) (N' : Fr Z.heap.size L) (K' : Keep h U.heap ws') (hws : ∀ x ∈ ws', (x ∈ ws ∨ h0.size ≤ x) ∧ Z.heap.size ≤ x) (hsafe : ∀ vm, Z.vm.Alike s.vm → Z.vm.Alike vm → CHr Z EL s.vm h0 vm h → ∀ x ∈ ws', Safe Z EL vm h x) :
    Pos p l e R s m args below meth c own nm bytes ml rt Z a0 EL h0 ws U U.heap (cells + dc) (slots + dn) := by
  subst hLL hcc hnn
  exact ⟨vm0, k0, _, X', hR, hZ, hown, hS, Nat.le_trans hk K'.1, rfl, hC.trans (CHr.keep K' (hsafe vm0 hR.2.2.2.2.2.2.2.2.alike hZ.alike hC) hC.1), N.app N', K.trans K' (fun x hx => (hws x hx).1), (Old.keep (n0 := Z.heap.size) ⟨rfl, O⟩ K' (fun x hx => (hws x hx).2)).2⟩
theorem Pos.specB (P : Pos p l e R s m args below meth c own nm bytes ml rt Z a0 EL h0 ws T h cells slots) {index : Nat} {y : MethodName} {bytes' : ByteArray} {ml' W dc dn : Nat} {a : Addr} {argsL stk : List Value} {as' : Array Value} {ws' : List Addr} {ps : List FieldType} {r : Option FieldType} {Qx : Option Value → Heap → List Loc → Prop} (hy1 : y.name = "<init>")
    (w1 : (Jvm.Cond.methodLink own index y).before a0 Z = true) (w2 : (Jvm.Cond.instanceMethod y).before a0 Z = true) (w4 : (Jvm.Cond.code y bytes' ml' none).before a0 Z = true) (hy : y.cls ≠ "java/lang/invoke/MethodHandle" ∧ y.cls ≠ "java/lang/invoke/VarHandle")
    (B : ∀ vm0 : Vm, Z.Warmed39 (s.setVm vm0).vm → Back l R p e below (s.setVm vm0) args y 3 W (fun P a => a = as' ∧ P.U.heap = h ∧ P.cells + dc ≤ R.cells ∧ P.slots + dn ≤ R.slots) (fun P _ v B => ∃ L, Qx v B.U.heap L ∧ B.locs = P.locs ++ L ∧ B.cells = P.cells + dc ∧ B.slots = P.slots + dn)) (has : (.ref a :: argsL).toArray = as')
    (hQ : ∀ v h' L, Qx v h' L → Fr Z.heap.size L ∧ Keep h h' ws') (hc : cells + dc ≤ R.cells) (hs : slots + dn ≤ R.slots) (hws : ∀ x ∈ ws', (x ∈ ws ∨ h0.size ≤ x) ∧ Z.heap.size ≤ x) (hsafe : ∀ vm, Z.vm.Alike s.vm → Z.vm.Alike vm → CHr Z EL s.vm h0 vm h → ∀ x ∈ ws', Safe Z EL vm h x)
    (pd : parseMethodDescriptor y.desc = some ⟨ps, r⟩) (hlen : argsL.length = ps.length) (hst : stk = argsL.reverse ++ .ref a :: rest) (hsz : Ls.size = ml) (hW : (rest.map fun v => v.category).sum ≤ W) (hd : decode bytes pc = .ok (.invokespecial index, 3))
    (k : ∀ v T' h' L, Pos p l e R s m args below meth c own nm bytes ml rt Z a0 EL h0 ws T' h' (cells + dc) (slots + dn) → Qx v h' L → Go p e below Q (T'.setTop (mkF m (pc + 3) Ls (v.toList ++ rest)))) : Go p e below Q (T.setTop (mkF m pc Ls stk)) := by
  obtain ⟨vm0, k0, locs, X, hR, hZ, hown, hS, hk, eT, hC, N, K, O⟩ := P
  have hR' := hR
  obtain ⟨hx, hby, hml, hret, hlk, hnm, hh, hEL, hZs⟩ := hR'
  obtain ⟨v, _, ⟨U, LL, cc, nn⟩, -, X', ⟨L, hq, hLL, hcc, hnn⟩, st⟩ := X.specialBack hx (y := y) hy1 hown (mvT (s := s.setVm vm0) hZ w1) (mvT (s := s.setVm vm0) hZ w2) (mvT (s := s.setVm vm0) hZ w4) hy (B vm0 hZ) (g := mkF m pc Ls stk) rfl (by rw [hml]; exact hsz) (Steps.refl _) (a := a) (argsL := argsL) (rest := rest) (lenOf pd hlen) hst (by show 2 * 0 + _ ≤ _; rw [Nat.mul_zero, Nat.zero_add]; exact hW) (hb hby hd) (fun _ _ => ⟨has, eT, hc, hs⟩)
  dsimp only at X' hLL hcc hnn st hq
  obtain ⟨N', K'⟩ := hQ _ _ _ hq
  exact (k v U U.heap L (Pos.afterB hR hZ hown hS hk hC N K O X' hLL hcc hnn N' K' hws hsafe) hq).of (fun t q => st.trans q)
theorem Pos.virtB (P : Pos p l e R s m args below meth c own nm bytes ml rt Z a0 EL h0 ws T h cells slots) {index : Nat} {y z : MethodName} {W dc dn : Nat} {C : String} {a : Addr} {argsL stk : List Value} {as' : Array Value} {ws' : List Addr} {ps : List FieldType} {r : Option FieldType} {Qx : Option Value → Heap → List Loc → Prop}
    (w1 : (Jvm.Cond.methodLink own index y).before a0 Z = true) (w2 : (Jvm.Cond.declares y).before a0 Z = true) (w5 : (Jvm.Cond.selects C y z).before a0 Z = true) (hnf : ∀ vm0, Z.Warmed39 vm0 → NotFace (s.setVm vm0) y) (w6 : (Jvm.Cond.instanceMethod z).before a0 Z = true) (hy : y.cls ≠ "java/lang/invoke/MethodHandle" ∧ y.cls ≠ "java/lang/invoke/VarHandle") (E : Exa Z h a C)
    (B : ∀ vm0 : Vm, Z.Warmed39 (s.setVm vm0).vm → Back l R p e below (s.setVm vm0) args z 3 W (fun P a => a = as' ∧ P.U.heap = h ∧ P.cells + dc ≤ R.cells ∧ P.slots + dn ≤ R.slots) (fun P _ v B => ∃ L, Qx v B.U.heap L ∧ B.locs = P.locs ++ L ∧ B.cells = P.cells + dc ∧ B.slots = P.slots + dn)) (has : (.ref a :: argsL).toArray = as')
    (hQ : ∀ v h' L, Qx v h' L → Fr Z.heap.size L ∧ Keep h h' ws') (hc : cells + dc ≤ R.cells) (hs : slots + dn ≤ R.slots) (hws : ∀ x ∈ ws', (x ∈ ws ∨ h0.size ≤ x) ∧ Z.heap.size ≤ x) (hsafe : ∀ vm, Z.vm.Alike s.vm → Z.vm.Alike vm → CHr Z EL s.vm h0 vm h → ∀ x ∈ ws', Safe Z EL vm h x)
    (pd : parseMethodDescriptor y.desc = some ⟨ps, r⟩) (hlen : argsL.length = ps.length) (hst : stk = argsL.reverse ++ .ref a :: rest) (hsz : Ls.size = ml) (hW : (rest.map fun v => v.category).sum ≤ W) (hd : decode bytes pc = .ok (.invokevirtual index, 3))
    (k : ∀ v T' h' L, Pos p l e R s m args below meth c own nm bytes ml rt Z a0 EL h0 ws T' h' (cells + dc) (slots + dn) → Qx v h' L → Go p e below Q (T'.setTop (mkF m (pc + 3) Ls (v.toList ++ rest)))) : Go p e below Q (T.setTop (mkF m pc Ls stk)) := by
  obtain ⟨vm0, k0, locs, X, hR, hZ, hown, hS, hk, eT, hC, N, K, O⟩ := P
  have hR' := hR
  obtain ⟨hx, hby, hml, hret, hlk, hnm, hh, hEL, hZs⟩ := hR'
  obtain ⟨cq, kq, qa, qb, qc⟩ := isOf (s := s.setVm vm0) (T := T) hZ eT E
  obtain ⟨v, _, ⟨U, LL, cc, nn⟩, -, X', ⟨L, hq, hLL, hcc, hnn⟩, st⟩ := X.virtualBack hx (y := y) (z := z) hown (mvT (s := s.setVm vm0) hZ w1) (mvT (s := s.setVm vm0) hZ w2) (hnf vm0 hZ) (mvT (s := s.setVm vm0) hZ w5) (mvT (s := s.setVm vm0) hZ w6) hy (B vm0 hZ) qa qc (g := mkF m pc Ls stk) rfl (by rw [hml]; exact hsz) (Steps.refl _) (argsL := argsL) (rest := rest) (lenOf pd hlen) hst (by show 2 * 0 + _ ≤ _; rw [Nat.mul_zero, Nat.zero_add]; exact hW) (hb hby hd) (fun _ _ => ⟨has, eT, hc, hs⟩)
  dsimp only at X' hLL hcc hnn st hq
  obtain ⟨N', K'⟩ := hQ _ _ _ hq
  exact (k v U U.heap L (Pos.afterB hR hZ hown hS hk hC N K O X' hLL hcc hnn N' K' hws hsafe) hq).of (fun t q => st.trans q)
theorem Pos.alen (P : Pos p l e R s m args below meth c own nm bytes ml rt Z a0 EL h0 ws T h cells slots) {a : Addr} {kc : ClassId} {ty : FieldType} {z : Int32} {vs : List Value} {dv : Value} (A : Arv Z h a kc ty z vs dv) (hd : decode bytes pc = .ok (.arraylength, 1))
    (g : Go p e below Q (T.setTop (mkF m (pc + 1) Ls (.int z :: rest)))) : Go p e below Q (T.setTop (mkF m pc Ls (.ref a :: rest))) := by
  obtain ⟨vm0, k0, locs, X, ⟨hx, hby, hml, hret, hlk, hnm, hh, hEL, hZs⟩, hZ, hown, hS, hk, eT, -⟩ := P
  obtain ⟨cl, Ar, q1, S, N, -, -⟩ := A
  exact g.of fun t k => X.arraylength hx (by rw [eT]; exact Ar.1) (State.isArrayOf_alike (T := s.setVm vm0) hZ.alike Ar.2.1) (g := mkF m pc Ls (.ref a :: rest)) rfl rfl (hb hby hd) _ (by rw [len_of S N]; exact k)
theorem Pos.ldc2 (P : Pos p l e R s m args below meth c own nm bytes ml rt Z a0 EL h0 ws T h cells slots) {index : Nat} {v : Int64} (w : (Jvm.Cond.constantLong own index v).before a0 Z = true) (hd : decode bytes pc = .ok (.ldc2_w index, 3))
    (g : Go p e below Q (T.setTop (mkF m (pc + 3) Ls (.long v :: rest)))) : Go p e below Q (T.setTop (mkF m pc Ls rest)) := by
  obtain ⟨vm0, k0, locs, X, ⟨hx, hby, hml, hret, hlk, hnm, hh, hEL, hZs⟩, hZ, hown, -⟩ := P
  exact g.of fun t k => X.ldc2Long hx hown (mvT (s := s.setVm vm0) hZ w) (g := mkF m pc Ls rest) rfl (hb hby hd) _ k
theorem Pos.ldcI (P : Pos p l e R s m args below meth c own nm bytes ml rt Z a0 EL h0 ws T h cells slots) {index : Nat} {v : Int32} (w : (Jvm.Cond.constant own index v).before a0 Z = true) (hd : decode bytes pc = .ok (.ldc index, 2))
    (g : Go p e below Q (T.setTop (mkF m (pc + 2) Ls (.int v :: rest)))) : Go p e below Q (T.setTop (mkF m pc Ls rest)) := by
  obtain ⟨vm0, k0, locs, X, ⟨hx, hby, hml, hret, hlk, hnm, hh, hEL, hZs⟩, hZ, hown, -⟩ := P
  exact g.of fun t k => X.ldcInt hx hown (mvT (s := s.setVm vm0) hZ w) (g := mkF m pc Ls rest) rfl (hb hby hd) _ k
/-- a new byte array: it is no literal's -/
theorem Pos.newPB (P : Pos p l e R s m args below meth c own nm bytes ml rt Z a0 EL h0 ws T h cells slots) {n : Int32} {cap : Nat} (w : (Jvm.Cond.arrayClass .byte).before a0 Z = true) (hd : decode bytes pc = .ok (.newarray .byte, 2)) (hn : ¬ n < 0) (hcap : n.toNatClampNeg ≤ cap) (hb8 : cap * 8 ≤ 536870912) (hc : cells + 1 ≤ R.cells) (hl : slots + cap ≤ R.slots)
    (k : ∀ T' h' x cA vm, x = h.size → PosV p l e R s m args below meth c own nm bytes ml rt Z a0 EL h0 ws T' h' (cells + 1) (slots + cap) vm → Safe Z EL vm h' x → Ext h h' → Arv Z h' x cA .byte n [] (.int 0) → Go p e below Q (T'.setTop (mkF m (pc + 2) Ls (.ref x :: rest)))) : Go p e below Q (T.setTop (mkF m pc Ls (.int n :: rest))) := by
  obtain ⟨vm0, k0, locs, X, ⟨hx, hby, hml, hret, hlk, hnm, hh, hEL, hZs⟩, hZ, hown, hS, hk, eT, hC, N, K, O⟩ := P
  obtain ⟨T', h', cA, X', e', E, A, st⟩ := Jvm.RoadKit.newP (aty := .byte) X hx hZ w eT (g := mkF m pc Ls (.int n :: rest)) rfl (hb hby hd) rfl hn hcap hb8 hc hl
  exact (k T' h' _ cA vm0 rfl ⟨k0, locs, X', ⟨hx, hby, hml, hret, hlk, hnm, hh, hEL, hZs⟩, hZ, hown, hS, Nat.le_trans hk E.1, e', hC.trans (CHr.ext E hC.1), N, K.ext E, ⟨Nat.le_trans O.1 E.1, fun a c q => E.2 _ _ (O.2 _ _ q)⟩⟩ (Safe.ext E hC.1 (Safe.new (Nat.le_refl _))) E (Arv.new A hn)).of st
theorem posStB {vm : Vm} (P : PosV p l e R s m args below meth c own nm bytes ml rt Z a0 EL h0 ws T h cells slots vm) {a : Addr} {kc : ClassId} {z j x x' : Int32} {vs : List Value} {dv : Value} (hsf : Safe Z EL vm h a) (A : Arv Z h a kc .byte z vs dv) (i : Nat) (hj : j.toNatClampNeg = i) (hj0 : ¬ j < 0) (hlt : i < z.toNatClampNeg) (hi : i < vs.length) (hx' : nar .byte x = x') (hd : decode bytes pc = .ok (.bastore, 1)) (hz : Z.heap.size ≤ a) (hws : a ∈ ws ∨ h0.size ≤ a)
    (k : ∀ T' h', Pos p l e R s m args below meth c own nm bytes ml rt Z a0 EL h0 ws T' h' cells slots → Wr h h' a j.toNatClampNeg (.int x') → Arv Z h' a kc .byte z (vs.set i (.int x')) dv → Go p e below Q (T'.setTop (mkF m (pc + 1) Ls rest))) : Go p e below Q (T.setTop (mkF m pc Ls (.int x :: .int j :: .ref a :: rest))) := by
  obtain ⟨cl, Ar, q1, S, N', H, G⟩ := A
  subst hx'
  obtain ⟨k0, locs, X, ⟨hx, hby, hml, hret, hlk, hnm, hh, hEL, hZs⟩, hZ, hown, hS, hk, eT, hC, N, K, O⟩ := P
  obtain ⟨T', h', X', e', W, st⟩ := Jvm.RoadKit.stB X hx hZ eT Ar (inb hj hj0 S hlt) (g := mkF m pc Ls (.int x :: .int j :: .ref a :: rest)) rfl rfl (hb hby hd)
  exact (k T' h' ⟨vm, k0, _, X', ⟨hx, hby, hml, hret, hlk, hnm, hh, hEL, hZs⟩, hZ, hown, hS, Nat.le_trans hk (Nat.le_of_eq W.size.symm), e', hC.trans (CHr.wr W hsf hC.1), Fr.snoc X' N hz, K.wr W hws, (Old.wr (n0 := Z.heap.size) ⟨rfl, O⟩ W hz).2⟩ W (Arv.set Ar q1 S N' H G (fits_nar_byte x) W i hj hi)).of st
end Own
section Own2
theorem nin0 {x : Addr} : x ∉ ([] : List Addr) := fun q => nomatch q
theorem ninS {x a : Addr} {ws : List Addr} (h : x ≠ a) (r : x ∉ ws) : x ∉ a :: ws := fun q => (List.mem_cons.mp q).elim h r
theorem narR {t : FieldType} {v : Value} (h : v.isRef = true) : narrow t v = v := by cases v <;> first | (simp [Value.isRef] at h; done) | (cases t <;> rfl)
theorem fitR {C : String} {v : Value} (h : v.isRef = true) : fits (.object C) v = true := by cases v <;> first | (simp [Value.isRef] at h; done) | rfl
theorem mask255 (x : Int32) : ∃ k : Fin 256, (x &&& 255) = Int32.ofNat k.val := by
  have h : (x &&& 255).toBitVec.toNat < 256 := by
    simp only [Int32.toBitVec_and, BitVec.toNat_and]
    exact Nat.lt_succ_of_le Nat.and_le_right
  refine ⟨⟨_, h⟩, ?_⟩
  apply Int32.toBitVec_inj.mp
  show _ = BitVec.ofNat 32 _
  rw [BitVec.ofNat_toNat]; simp
/-- (char) (x & 255): from 0 to 255, and a char -/
theorem chr255 {x y : Int32} (h : ((x &&& (255 : Int32)).toUInt32.toUInt16.toUInt32.toInt32) = y) : (¬ y < 0 ∧ ¬ (255 : Int32) < y) ∧ nar .char y = y := by
  subst h
  have t : ∀ k : Fin 256, (¬ ((Int32.ofNat k.val).toUInt32.toUInt16.toUInt32.toInt32) < 0 ∧ ¬ (255 : Int32) < ((Int32.ofNat k.val).toUInt32.toUInt16.toUInt32.toInt32)) ∧ nar .char ((Int32.ofNat k.val).toUInt32.toUInt16.toUInt32.toInt32) = ((Int32.ofNat k.val).toUInt32.toUInt16.toUInt32.toInt32) := by decide +kernel
  obtain ⟨k, e⟩ := mask255 x
  rw [e]; exact t k
theorem upC (cs : List Int32) (h : ∀ c ∈ cs, ¬ c < 0 ∧ ¬ (255 : Int32) < c) : ∀ c ∈ cs, ¬ c < 0 ∧ ¬ (65535 : Int32) < c := fun c hc => ⟨(h c hc).1, fun q => (h c hc).2 (by rw [Int32.lt_iff_toInt_lt] at q ⊢; have e1 : (65535 : Int32).toInt = 65535 := rfl; have e2 : (255 : Int32).toInt = 255 := rfl; omega)⟩
theorem lat0 : ∀ c ∈ ([] : List Int32), ¬ c < 0 ∧ ¬ (255 : Int32) < c := fun _ q => nomatch q
theorem latS {x : Int32} {cs : List Int32} (h : ¬ x < 0 ∧ ¬ (255 : Int32) < x) (r : ∀ c ∈ cs, ¬ c < 0 ∧ ¬ (255 : Int32) < c) : ∀ c ∈ x :: cs, ¬ c < 0 ∧ ¬ (255 : Int32) < c := fun c q => (List.mem_cons.mp q).elim (fun e => e ▸ h) (r c)
/-- a String whose value is not laid yet is no literal -/
theorem safeNull {Z : State} {EL : List (String × Nat)} {vm : Vm} {h : Heap} {x : Addr} (hal : Z.vm.Alike vm) (E : Exa Z h x "java/lang/String") (F : Fld Z h x "java/lang/String" "value" "[B" .null) : Safe Z EL vm h x := fun B => by
  obtain ⟨cell, k, e1, e2, e3, -, -⟩ := E
  obtain ⟨cell', cf, kf, i, f, f1, f2, f3, f4, f5, f6, f7⟩ := F
  cases e1.symm.trans f1
  obtain ⟨p, -, u, a, -, q, -, G, rfl | rfl⟩ := B
  · cases (show h[q.sa]? = some q.sC from G.ha).symm.trans e1
    obtain ⟨cS, ⟨⟨-, -, -, ⟨c1, k1, i1, g1, -⟩, -, -, -, v1, -⟩, -⟩, -⟩ := G
    obtain ⟨k', z⟩ := ff_back (U := Wst Z vm h) hal g1
    have e4 := z.symm.trans f2
    simp only [Option.some.injEq, Prod.mk.injEq] at e4
    rw [e4.2.2.2, f7] at v1
    cases v1
  · cases (show h[q.sd]? = some q.SA from G.hd).symm.trans e1
    obtain ⟨cS, -, -, g, -⟩ := G
    have g' : vm.findClass "[B" = some q.SA.cls := g
    rw [hal.findClass] at g'
    obtain ⟨k1, q1, q2⟩ := Vm.findClass_spec g'
    obtain ⟨k2, q3, q4⟩ := Vm.findClass_spec e2
    cases q1.symm.trans q3
    exact absurd (q2.symm.trans q4) (by decide)
theorem safe1 {Z : State} {EL : List (String × Nat)} {vm : Vm} {h : Heap} {x : Addr} (S : Safe Z EL vm h x) : ∀ y ∈ [x], Safe Z EL vm h y := fun y q => by cases List.mem_singleton.mp q; exact S
theorem ieq {x y : Int32} (h : x.toInt = y.toInt) : x = y := Int32.toInt_inj.mp h
theorem narB (x : Int32) : nar .byte (x.toInt8.toInt32) = x.toInt8.toInt32 := by simp [nar]
end Own2
section Own3
/-- x is a String of the chars cs -/
def Str (Z : State) (h : Heap) (x : Addr) (cs : List Int32) : Prop := Exa Z h x "java/lang/String" ∧ (∀ c ∈ cs, ¬ c < 0 ∧ ¬ (65535 : Int32) < c) ∧ cs.length ≤ 4000 ∧ ∃ (t : Addr) (kb : ClassId) (cd N2 : Int32) (vs : List Value), Fld Z h x "java/lang/String" "value" "[B" (.ref t) ∧ Fld Z h x "java/lang/String" "coder" "B" (.int cd) ∧ Arv Z h t kb .byte N2 vs (.int 0) ∧ StrChars.Road.CodA cs cd N2 vs
/-- a is no byte array -/
def NB (Z : State) (h : Heap) (a : Addr) : Prop := (∃ (C : String) (n : Nat) (a0 : Array Value), Exa Z h a C ∧ (Jvm.Cond.instantiable C n).before a0 Z = true) ∨ ∃ (cl : Cell) (ty : FieldType), Arr Z h a cl ty ∧ ty ≠ .byte
theorem NB.ne {Z : State} {h : Heap} {a t : Addr} {k : ClassId} {z : Int32} {vs : List Value} {d : Value} (N : NB Z h a) (A : Arv Z h t k .byte z vs d) : t ≠ a := by
  rcases N with ⟨C, n, a0, E, w⟩ | ⟨cl, ty, B, hty⟩
  · exact Ne.symm (Exa.neArv E A w)
  · rintro rfl
    obtain ⟨cl', ⟨A1, ⟨-, kA, hkA, compA, hkindA⟩, -⟩, -⟩ := A
    obtain ⟨B1, ⟨-, kB, hkB, compB, hkindB⟩, -⟩ := B
    cases A1.symm.trans B1
    cases hkA.symm.trans hkB
    have := hkindA.symm.trans hkindB
    injection this with _ e
    exact hty e.symm
theorem nbE {Z : State} {h : Heap} {a : Addr} {C : String} {n : Nat} {a0 : Array Value} (E : Exa Z h a C) (w : (Jvm.Cond.instantiable C n).before a0 Z = true) : NB Z h a := Or.inl ⟨C, n, a0, E, w⟩
theorem nbA {Z : State} {h : Heap} {a : Addr} {k : ClassId} {ty : FieldType} {z : Int32} {vs : List Value} {d : Value} (A : Arv Z h a k ty z vs d) (q : ty ≠ .byte) : NB Z h a := by obtain ⟨cl, B, -⟩ := A; exact Or.inr ⟨cl, ty, B, q⟩
theorem Str.lt {Z : State} {h : Heap} {x : Addr} {cs : List Int32} (S : Str Z h x cs) : x < h.size := S.1.lt
theorem Str.ext {Z : State} {h h' : Heap} {x : Addr} {cs : List Int32} (S : Str Z h x cs) (E : Ext h h') : Str Z h' x cs := by
  obtain ⟨s1, s2, s3, t, kb, cd, N2, vs, s4, s5, s6, s7⟩ := S
  exact ⟨s1.ext E, s2, s3, t, kb, cd, N2, vs, s4.ext E, s5.ext E, s6.ext E, s7⟩
theorem Str.keep {Z : State} {h h' : Heap} {x : Addr} {cs : List Int32} {ws : List Addr} (S : Str Z h x cs) (K : Keep h h' ws) (q : ∀ a ∈ ws, x ≠ a ∧ NB Z h a) : Str Z h' x cs := by
  obtain ⟨s1, s2, s3, t, kb, cd, N2, vs, s4, s5, s6, s7⟩ := S
  have n1 : x ∉ ws := fun m => (q x m).1 rfl
  have n2 : t ∉ ws := fun m => (q t m).2.ne s6 rfl
  exact ⟨s1.keep K, s2, s3, t, kb, cd, N2, vs, s4.keep K n1, s5.keep K n1, s6.keep K n2, s7⟩
theorem Str.wr {Z : State} {h h' : Heap} {x a : Addr} {cs : List Int32} {sl : Nat} {v : Value} (S : Str Z h x cs) (W : Wr h h' a sl v) (q1 : x ≠ a) (q2 : NB Z h a) : Str Z h' x cs := S.keep (Keep.of_wr W) (allS ⟨q1, q2⟩ all0)
theorem strOf {Z : State} {h : Heap} {x t : Addr} {kb : ClassId} {cs : List Int32} {n : Nat} (hn : cs.length = n) (hb : ∀ c ∈ cs, ¬ c < 0 ∧ ¬ (255 : Int32) < c) (h4 : n ≤ 4000) (E : Exa Z h x "java/lang/String") (C : Fld Z h x "java/lang/String" "coder" "B" (.int 0)) (V : Fld Z h x "java/lang/String" "value" "[B" (.ref t)) (B : Arv Z h t kb .byte (Int32.ofNat n) ((cs.map (fun c => c.toInt8.toInt32)).map Value.int) (.int 0)) : Str Z h x cs :=
  ⟨E, upC cs hb, by rw [hn]; exact h4, t, kb, 0, _, _, V, C, B, StrChars.Road.codOf hn (fun c hc => (hb c hc).2)⟩
theorem strE {Z : State} {h : Heap} {x t : Addr} {kb : ClassId} (E : Exa Z h x "java/lang/String") (C : Fld Z h x "java/lang/String" "coder" "B" (.int 0)) (V : Fld Z h x "java/lang/String" "value" "[B" (.ref t)) (B : Arv Z h t kb .byte (0 : Int32) [] (.int 0)) : Str Z h x [] :=
  strOf (n := 0) rfl lat0 (by decide) E C V B
end Own3
section Own4
variable {p : Program} {l : Launch} {e : Env} {R rm : Room} {s : State} {m : MethodId} {args : Array Value} {below : List Frame} {meth : Method} {c : Code} {own nm : String} {bytes : ByteArray} {ml : Nat} {rt : Option FieldType} {Z : State} {a0 : Array Value} {EL : List (String × Nat)} {h0 : Heap} {ws : List Addr} {T : State} {h h' : Heap} {cells slots : Nat} {Q : Outcome → State → Prop} {pc : Nat} {Ls : Array Slot} {rest : List Value}
/-- equals of two Strings of known chars -/
theorem Pos.strEq (P : Pos p l e R s m args below meth c own nm bytes ml rt Z a0 EL h0 ws T h cells slots) {index W : Nat} {x y : Addr} {cs ds : List Int32} {zc : Int32} {ps : List FieldType} {r : Option FieldType} {C : String}
    (w1 : (Jvm.Cond.methodLink own index (⟨C, "equals", "(Ljava/lang/Object;)Z"⟩ : MethodName)).before a0 Z = true) (w2 : (Jvm.Cond.declares (⟨C, "equals", "(Ljava/lang/Object;)Z"⟩ : MethodName)).before a0 Z = true) (w5 : (Jvm.Cond.selects "java/lang/String" (⟨C, "equals", "(Ljava/lang/Object;)Z"⟩ : MethodName) (⟨"java/lang/String", "equals", "(Ljava/lang/Object;)Z"⟩ : MethodName)).before a0 Z = true) (hnf : ∀ vm0, Z.Warmed39 vm0 → NotFace (s.setVm vm0) (⟨C, "equals", "(Ljava/lang/Object;)Z"⟩ : MethodName)) (w6 : (Jvm.Cond.instanceMethod (⟨"java/lang/String", "equals", "(Ljava/lang/Object;)Z"⟩ : MethodName)).before a0 Z = true) (hy : C ≠ "java/lang/invoke/MethodHandle" ∧ C ≠ "java/lang/invoke/VarHandle")
    (wq : ∀ d ∈ StrChars.Road.wordsEq, d.before a0 Z = true) (wi : (Jvm.Cond.instantiable "java/lang/String" 4).before a0 Z = true) (S0 : Sta Z Z.heap "java/lang/String" "COMPACT_STRINGS" "Z" (.int zc)) (Pz : ¬ zc = 0) (S1 : Str Z h x cs) (S2 : Str Z h y ds)
    (hf : 2 ≤ R.frames) (hl : W + 28 ≤ R.locals) (hc : cells + 0 ≤ R.cells) (hs : slots + 0 ≤ R.slots) (pd : parseMethodDescriptor "(Ljava/lang/Object;)Z" = some ⟨ps, r⟩) (hlen : 1 = ps.length) (hsz : Ls.size = ml) (hW : (rest.map fun v => v.category).sum ≤ W) (hd : decode bytes pc = .ok (.invokevirtual index, 3))
    (k1 : ∀ T', Pos p l e R s m args below meth c own nm bytes ml rt Z a0 EL h0 ws T' h cells slots → cs = ds → Go p e below Q (T'.setTop (mkF m (pc + 3) Ls (.int 1 :: rest))))
    (k0 : ∀ T', Pos p l e R s m args below meth c own nm bytes ml rt Z a0 EL h0 ws T' h cells slots → ¬ cs = ds → Go p e below Q (T'.setTop (mkF m (pc + 3) Ls (.int 0 :: rest)))) : Go p e below Q (T.setTop (mkF m pc Ls (.ref y :: .ref x :: rest))) := by
  have O := P.old
  obtain ⟨e1, b1, l1, t1, kb1, c1, n1, v1, F1, G1, A1, D1⟩ := S1
  obtain ⟨e2, b2, l2, t2, kb2, c2, n2, v2, F2, G2, A2, D2⟩ := S2
  refine P.virtB (W := W) (ws' := []) (Qx := fun v h' L => ((v = some (.int 1) ∧ cs = ds) ∨ (v = some (.int 0) ∧ ¬ cs = ds)) ∧ L = [] ∧ h' = h) w1 w2 w5 hnf w6 hy e1 (fun vm0 hZ => StrChars.Road.eqW (W := W) hZ wq (kI := 4) wi e1 F1 G1 A1 D1 b1 l1 e2 F2 G2 A2 D2 b2 l2 (S0.ext O) Pz hf hl) (argsL := [.ref y]) rfl (fun v h' L q => ⟨by rw [q.2.1]; exact Fr.nil _, by rw [q.2.2]; exact Keep.refl _ _⟩) hc hs all0 (fun _ _ _ _ => all0) pd hlen rfl hsz hW hd ?_
  intro v T' h' L P' q
  obtain ⟨q, -, hh⟩ := q
  rw [hh] at P'
  rcases q with ⟨rfl, q⟩ | ⟨rfl, q⟩
  · exact k1 T' P' q
  · exact k0 T' P' q
end Own4
theorem wSt {Z : State} {a0 : Array Value} (hw : ∀ d ∈ tables_1, d.before a0 Z = true) : ∀ d ∈ Bundle.stringAtoms, d.before a0 Z = true := fun d hd => hw d ((by decide +kernel : ∀ d ∈ Bundle.stringAtoms, d ∈ tables_1) d hd)
theorem wStr {Z : State} {a0 : Array Value} (hw : ∀ d ∈ tables_1, d.before a0 Z = true) : ∀ d ∈ StrChars.Road.words, d.before a0 Z = true := fun d hd => hw d ((by decide +kernel : ∀ d ∈ StrChars.Road.words, d ∈ tables_1) d hd)
theorem wEq {Z : State} {a0 : Array Value} (hw : ∀ d ∈ tables_1, d.before a0 Z = true) : ∀ d ∈ StrChars.Road.wordsEq, d.before a0 Z = true := fun d hd => hw d ((by decide +kernel : ∀ d ∈ StrChars.Road.wordsEq, d ∈ tables_1) d hd)
theorem d1_0 : decode method_2_code 0 = .ok (.iload_n 1, 1) := by decide +kernel
theorem d1_1 : decode method_2_code 1 = .ok (.sipush 255, 3) := by decide +kernel
theorem d1_4 : decode method_2_code 4 = .ok (.iand, 1) := by decide +kernel
theorem d1_5 : decode method_2_code 5 = .ok (.i2c, 1) := by decide +kernel
theorem d1_6 : decode method_2_code 6 = .ok (.istore_n 2, 1) := by decide +kernel
theorem d1_7 : decode method_2_code 7 = .ok (.iload_n 1, 1) := by decide +kernel
theorem d1_8 : decode method_2_code 8 = .ok (.bipush 8, 2) := by decide +kernel
theorem d1_10 : decode method_2_code 10 = .ok (.iushr, 1) := by decide +kernel
theorem d1_11 : decode method_2_code 11 = .ok (.sipush 255, 3) := by decide +kernel
theorem d1_14 : decode method_2_code 14 = .ok (.iand, 1) := by decide +kernel
theorem d1_15 : decode method_2_code 15 = .ok (.i2c, 1) := by decide +kernel
theorem d1_16 : decode method_2_code 16 = .ok (.istore_n 3, 1) := by decide +kernel
theorem d1_17 : decode method_2_code 17 = .ok (.iload_n 1, 1) := by decide +kernel
theorem d1_18 : decode method_2_code 18 = .ok (.bipush 16, 2) := by decide +kernel
theorem d1_20 : decode method_2_code 20 = .ok (.iushr, 1) := by decide +kernel
theorem d1_21 : decode method_2_code 21 = .ok (.sipush 255, 3) := by decide +kernel
theorem d1_24 : decode method_2_code 24 = .ok (.iand, 1) := by decide +kernel
theorem d1_25 : decode method_2_code 25 = .ok (.i2c, 1) := by decide +kernel
theorem d1_26 : decode method_2_code 26 = .ok (.istore 4, 2) := by decide +kernel
theorem d1_28 : decode method_2_code 28 = .ok (.iload_n 0, 1) := by decide +kernel
theorem d1_29 : decode method_2_code 29 = .ok (.ifCond .ne 14, 3) := by decide +kernel
theorem d1_32 : decode method_2_code 32 = .ok (.new 7, 3) := by decide +kernel
theorem d1_35 : decode method_2_code 35 = .ok (.dup, 1) := by decide +kernel
theorem d1_36 : decode method_2_code 36 = .ok (.iconst 0, 1) := by decide +kernel
theorem d1_37 : decode method_2_code 37 = .ok (.newarray .char, 2) := by decide +kernel
theorem d1_39 : decode method_2_code 39 = .ok (.invokespecial 9, 3) := by decide +kernel
theorem d1_42 : decode method_2_code 42 = .ok (.areturn, 1) := by decide +kernel
theorem d1_43 : decode method_2_code 43 = .ok (.iload_n 0, 1) := by decide +kernel
theorem d1_44 : decode method_2_code 44 = .ok (.iconst 1, 1) := by decide +kernel
theorem d1_45 : decode method_2_code 45 = .ok (.if_icmp .ne 8, 3) := by decide +kernel
theorem d1_48 : decode method_2_code 48 = .ok (.iload_n 2, 1) := by decide +kernel
theorem d1_49 : decode method_2_code 49 = .ok (.invokestatic 12, 3) := by decide +kernel
theorem d1_52 : decode method_2_code 52 = .ok (.areturn, 1) := by decide +kernel
theorem d1_53 : decode method_2_code 53 = .ok (.iload_n 0, 1) := by decide +kernel
theorem d1_54 : decode method_2_code 54 = .ok (.iconst 2, 1) := by decide +kernel
theorem d1_55 : decode method_2_code 55 = .ok (.if_icmp .ne 22, 3) := by decide +kernel
theorem d1_58 : decode method_2_code 58 = .ok (.new 7, 3) := by decide +kernel
theorem d1_61 : decode method_2_code 61 = .ok (.dup, 1) := by decide +kernel
theorem d1_62 : decode method_2_code 62 = .ok (.iconst 2, 1) := by decide +kernel
theorem d1_63 : decode method_2_code 63 = .ok (.newarray .char, 2) := by decide +kernel
theorem d1_65 : decode method_2_code 65 = .ok (.dup, 1) := by decide +kernel
theorem d1_66 : decode method_2_code 66 = .ok (.iconst 0, 1) := by decide +kernel
theorem d1_67 : decode method_2_code 67 = .ok (.iload_n 2, 1) := by decide +kernel
theorem d1_68 : decode method_2_code 68 = .ok (.castore, 1) := by decide +kernel
theorem d1_69 : decode method_2_code 69 = .ok (.dup, 1) := by decide +kernel
theorem d1_70 : decode method_2_code 70 = .ok (.iconst 1, 1) := by decide +kernel
theorem d1_71 : decode method_2_code 71 = .ok (.iload_n 3, 1) := by decide +kernel
theorem d1_72 : decode method_2_code 72 = .ok (.castore, 1) := by decide +kernel
theorem d1_73 : decode method_2_code 73 = .ok (.invokespecial 9, 3) := by decide +kernel
theorem d1_76 : decode method_2_code 76 = .ok (.areturn, 1) := by decide +kernel
theorem d1_77 : decode method_2_code 77 = .ok (.new 7, 3) := by decide +kernel
theorem d1_80 : decode method_2_code 80 = .ok (.dup, 1) := by decide +kernel
theorem d1_81 : decode method_2_code 81 = .ok (.iconst 3, 1) := by decide +kernel
theorem d1_82 : decode method_2_code 82 = .ok (.newarray .char, 2) := by decide +kernel
theorem d1_84 : decode method_2_code 84 = .ok (.dup, 1) := by decide +kernel
theorem d1_85 : decode method_2_code 85 = .ok (.iconst 0, 1) := by decide +kernel
theorem d1_86 : decode method_2_code 86 = .ok (.iload_n 2, 1) := by decide +kernel
theorem d1_87 : decode method_2_code 87 = .ok (.castore, 1) := by decide +kernel
theorem d1_88 : decode method_2_code 88 = .ok (.dup, 1) := by decide +kernel
theorem d1_89 : decode method_2_code 89 = .ok (.iconst 1, 1) := by decide +kernel
theorem d1_90 : decode method_2_code 90 = .ok (.iload_n 3, 1) := by decide +kernel
theorem d1_91 : decode method_2_code 91 = .ok (.castore, 1) := by decide +kernel
theorem d1_92 : decode method_2_code 92 = .ok (.dup, 1) := by decide +kernel
theorem d1_93 : decode method_2_code 93 = .ok (.iconst 2, 1) := by decide +kernel
theorem d1_94 : decode method_2_code 94 = .ok (.iload 4, 2) := by decide +kernel
theorem d1_96 : decode method_2_code 96 = .ok (.castore, 1) := by decide +kernel
theorem d1_97 : decode method_2_code 97 = .ok (.invokespecial 9, 3) := by decide +kernel
theorem d1_100 : decode method_2_code 100 = .ok (.areturn, 1) := by decide +kernel
theorem d2_0 : decode jdk_42_method_3_code 0 = .ok (.aload_n 0, 1) := by decide +kernel
theorem d2_1 : decode jdk_42_method_3_code 1 = .ok (.aload_n 1, 1) := by decide +kernel
theorem d2_2 : decode jdk_42_method_3_code 2 = .ok (.iconst 0, 1) := by decide +kernel
theorem d2_3 : decode jdk_42_method_3_code 3 = .ok (.aload_n 1, 1) := by decide +kernel
theorem d2_4 : decode jdk_42_method_3_code 4 = .ok (.arraylength, 1) := by decide +kernel
theorem d2_5 : decode jdk_42_method_3_code 5 = .ok (.aconst_null, 1) := by decide +kernel
theorem d2_6 : decode jdk_42_method_3_code 6 = .ok (.invokespecial 27, 3) := by decide +kernel
theorem d2_9 : decode jdk_42_method_3_code 9 = .ok (.return_, 1) := by decide +kernel
theorem d3_0 : decode jdk_42_method_149_code 0 = .ok (.aload_n 0, 1) := by decide +kernel
theorem d3_1 : decode jdk_42_method_149_code 1 = .ok (.invokespecial 1, 3) := by decide +kernel
theorem d3_4 : decode jdk_42_method_149_code 4 = .ok (.iload_n 3, 1) := by decide +kernel
theorem d3_5 : decode jdk_42_method_149_code 5 = .ok (.ifCond .ne 22, 3) := by decide +kernel
theorem d3_8 : decode jdk_42_method_149_code 8 = .ok (.aload_n 0, 1) := by decide +kernel
theorem d3_9 : decode jdk_42_method_149_code 9 = .ok (.ldc 7, 2) := by decide +kernel
theorem d3_11 : decode jdk_42_method_149_code 11 = .ok (.getfield 9, 3) := by decide +kernel
theorem d3_14 : decode jdk_42_method_149_code 14 = .ok (.putfield 9, 3) := by decide +kernel
theorem d3_17 : decode jdk_42_method_149_code 17 = .ok (.aload_n 0, 1) := by decide +kernel
theorem d3_18 : decode jdk_42_method_149_code 18 = .ok (.ldc 7, 2) := by decide +kernel
theorem d3_20 : decode jdk_42_method_149_code 20 = .ok (.getfield 15, 3) := by decide +kernel
theorem d3_23 : decode jdk_42_method_149_code 23 = .ok (.putfield 15, 3) := by decide +kernel
theorem d3_26 : decode jdk_42_method_149_code 26 = .ok (.return_, 1) := by decide +kernel
theorem d8_0 : decode prog_70_method_2_code 0 = .ok (.new 8, 3) := by decide +kernel
theorem d8_3 : decode prog_70_method_2_code 3 = .ok (.dup, 1) := by decide +kernel
theorem d8_4 : decode prog_70_method_2_code 4 = .ok (.aload_n 0, 1) := by decide +kernel
theorem d8_5 : decode prog_70_method_2_code 5 = .ok (.aconst_null, 1) := by decide +kernel
theorem d8_6 : decode prog_70_method_2_code 6 = .ok (.iconst 0, 1) := by decide +kernel
theorem d8_7 : decode prog_70_method_2_code 7 = .ok (.aload_n 1, 1) := by decide +kernel
theorem d8_8 : decode prog_70_method_2_code 8 = .ok (.invokespecial 23, 3) := by decide +kernel
theorem d8_11 : decode prog_70_method_2_code 11 = .ok (.areturn, 1) := by decide +kernel
theorem d9_0 : decode prog_70_method_1_code 0 = .ok (.aload_n 0, 1) := by decide +kernel
theorem d9_1 : decode prog_70_method_1_code 1 = .ok (.invokespecial 1, 3) := by decide +kernel
theorem d9_4 : decode prog_70_method_1_code 4 = .ok (.aload_n 0, 1) := by decide +kernel
theorem d9_5 : decode prog_70_method_1_code 5 = .ok (.aload_n 1, 1) := by decide +kernel
theorem d9_6 : decode prog_70_method_1_code 6 = .ok (.putfield 7, 3) := by decide +kernel
theorem d9_9 : decode prog_70_method_1_code 9 = .ok (.aload_n 0, 1) := by decide +kernel
theorem d9_10 : decode prog_70_method_1_code 10 = .ok (.aload_n 2, 1) := by decide +kernel
theorem d9_11 : decode prog_70_method_1_code 11 = .ok (.putfield 13, 3) := by decide +kernel
theorem d9_14 : decode prog_70_method_1_code 14 = .ok (.aload_n 0, 1) := by decide +kernel
theorem d9_15 : decode prog_70_method_1_code 15 = .ok (.iload_n 3, 1) := by decide +kernel
theorem d9_16 : decode prog_70_method_1_code 16 = .ok (.putfield 16, 3) := by decide +kernel
theorem d9_19 : decode prog_70_method_1_code 19 = .ok (.aload_n 0, 1) := by decide +kernel
theorem d9_20 : decode prog_70_method_1_code 20 = .ok (.aload 4, 2) := by decide +kernel
theorem d9_22 : decode prog_70_method_1_code 22 = .ok (.putfield 20, 3) := by decide +kernel
theorem d9_25 : decode prog_70_method_1_code 25 = .ok (.return_, 1) := by decide +kernel
theorem d10_0 : decode prog_70_method_5_code 0 = .ok (.aload_n 0, 1) := by decide +kernel
theorem d10_1 : decode prog_70_method_5_code 1 = .ok (.getfield 7, 3) := by decide +kernel
theorem d10_4 : decode prog_70_method_5_code 4 = .ok (.areturn, 1) := by decide +kernel
theorem d11_0 : decode prog_70_method_7_code 0 = .ok (.aload_n 0, 1) := by decide +kernel
theorem d11_1 : decode prog_70_method_7_code 1 = .ok (.getfield 20, 3) := by decide +kernel
theorem d11_4 : decode prog_70_method_7_code 4 = .ok (.areturn, 1) := by decide +kernel
theorem d14_0 : decode prog_70_method_6_code 0 = .ok (.aload_n 0, 1) := by decide +kernel
theorem d14_1 : decode prog_70_method_6_code 1 = .ok (.getfield 13, 3) := by decide +kernel
theorem d14_4 : decode prog_70_method_6_code 4 = .ok (.areturn, 1) := by decide +kernel
theorem d15_0 : decode prog_70_method_8_code 0 = .ok (.aload_n 0, 1) := by decide +kernel
theorem d15_1 : decode prog_70_method_8_code 1 = .ok (.getfield 13, 3) := by decide +kernel
theorem d15_4 : decode prog_70_method_8_code 4 = .ok (.ifnull 7, 3) := by decide +kernel
theorem d15_7 : decode prog_70_method_8_code 7 = .ok (.iconst 1, 1) := by decide +kernel
theorem d15_8 : decode prog_70_method_8_code 8 = .ok (.goto 4, 3) := by decide +kernel
theorem d15_11 : decode prog_70_method_8_code 11 = .ok (.iconst 0, 1) := by decide +kernel
theorem d15_12 : decode prog_70_method_8_code 12 = .ok (.ireturn, 1) := by decide +kernel
theorem d16_0 : decode prog_70_method_9_code 0 = .ok (.aload_n 0, 1) := by decide +kernel
theorem d16_1 : decode prog_70_method_9_code 1 = .ok (.getfield 16, 3) := by decide +kernel
theorem d16_4 : decode prog_70_method_9_code 4 = .ok (.ireturn, 1) := by decide +kernel
theorem d17_0 : decode jdk_42_method_139_code 0 = .ok (.getstatic 38, 3) := by decide +kernel
theorem d17_3 : decode jdk_42_method_139_code 3 = .ok (.ifCond .eq 23, 3) := by decide +kernel
theorem d17_6 : decode jdk_42_method_139_code 6 = .ok (.iload_n 0, 1) := by decide +kernel
theorem d17_7 : decode jdk_42_method_139_code 7 = .ok (.invokestatic 1015, 3) := by decide +kernel
theorem d17_10 : decode jdk_42_method_139_code 10 = .ok (.ifCond .eq 16, 3) := by decide +kernel
theorem d17_13 : decode jdk_42_method_139_code 13 = .ok (.new 10, 3) := by decide +kernel
theorem d17_16 : decode jdk_42_method_139_code 16 = .ok (.dup, 1) := by decide +kernel
theorem d17_17 : decode jdk_42_method_139_code 17 = .ok (.iload_n 0, 1) := by decide +kernel
theorem d17_18 : decode jdk_42_method_139_code 18 = .ok (.invokestatic 1018, 3) := by decide +kernel
theorem d17_21 : decode jdk_42_method_139_code 21 = .ok (.iconst 0, 1) := by decide +kernel
theorem d17_22 : decode jdk_42_method_139_code 22 = .ok (.invokespecial 209, 3) := by decide +kernel
theorem d17_25 : decode jdk_42_method_139_code 25 = .ok (.areturn, 1) := by decide +kernel
theorem d18_0 : decode jdk_43_method_3_code 0 = .ok (.iload_n 0, 1) := by decide +kernel
theorem d18_1 : decode jdk_43_method_3_code 1 = .ok (.sipush 255, 3) := by decide +kernel
theorem d18_4 : decode jdk_43_method_3_code 4 = .ok (.if_icmp .gt 7, 3) := by decide +kernel
theorem d18_7 : decode jdk_43_method_3_code 7 = .ok (.iconst 1, 1) := by decide +kernel
theorem d18_8 : decode jdk_43_method_3_code 8 = .ok (.goto 4, 3) := by decide +kernel
theorem d18_12 : decode jdk_43_method_3_code 12 = .ok (.ireturn, 1) := by decide +kernel
theorem d19_0 : decode jdk_43_method_46_code 0 = .ok (.iconst 1, 1) := by decide +kernel
theorem d19_1 : decode jdk_43_method_46_code 1 = .ok (.newarray .byte, 2) := by decide +kernel
theorem d19_3 : decode jdk_43_method_46_code 3 = .ok (.dup, 1) := by decide +kernel
theorem d19_4 : decode jdk_43_method_46_code 4 = .ok (.iconst 0, 1) := by decide +kernel
theorem d19_5 : decode jdk_43_method_46_code 5 = .ok (.iload_n 0, 1) := by decide +kernel
theorem d19_6 : decode jdk_43_method_46_code 6 = .ok (.i2b, 1) := by decide +kernel
theorem d19_7 : decode jdk_43_method_46_code 7 = .ok (.bastore, 1) := by decide +kernel
theorem d19_8 : decode jdk_43_method_46_code 8 = .ok (.areturn, 1) := by decide +kernel
theorem d20_0 : decode jdk_42_method_151_code 0 = .ok (.aload_n 0, 1) := by decide +kernel
theorem d20_1 : decode jdk_42_method_151_code 1 = .ok (.invokespecial 1, 3) := by decide +kernel
theorem d20_4 : decode jdk_42_method_151_code 4 = .ok (.aload_n 0, 1) := by decide +kernel
theorem d20_5 : decode jdk_42_method_151_code 5 = .ok (.aload_n 1, 1) := by decide +kernel
theorem d20_6 : decode jdk_42_method_151_code 6 = .ok (.putfield 9, 3) := by decide +kernel
theorem d20_9 : decode jdk_42_method_151_code 9 = .ok (.aload_n 0, 1) := by decide +kernel
theorem d20_10 : decode jdk_42_method_151_code 10 = .ok (.iload_n 2, 1) := by decide +kernel
theorem d20_11 : decode jdk_42_method_151_code 11 = .ok (.putfield 15, 3) := by decide +kernel
theorem d20_14 : decode jdk_42_method_151_code 14 = .ok (.return_, 1) := by decide +kernel
theorem pd_0 : parseMethodDescriptor "([CIILjava/lang/Void;)V" = some ⟨[(.array .char), .int, .int, (.object "java/lang/Void")], none⟩ := by decide +kernel
theorem pd_1 : parseMethodDescriptor "(C)Z" = some ⟨[.char], some .boolean⟩ := by decide +kernel
theorem pd_2 : parseMethodDescriptor "(C)[B" = some ⟨[.char], some (.array .byte)⟩ := by decide +kernel
theorem pd_3 : parseMethodDescriptor "([BB)V" = some ⟨[(.array .byte), .byte], none⟩ := by decide +kernel
theorem pd_4 : parseMethodDescriptor "([C)V" = some ⟨[(.array .char)], none⟩ := by decide +kernel
theorem pd_5 : parseMethodDescriptor "(C)Ljava/lang/String;" = some ⟨[.char], some (.object "java/lang/String")⟩ := by decide +kernel
theorem pd_6 : parseMethodDescriptor "(Ljava/lang/String;Ljava/lang/String;ZLjava/lang/String;)V" = some ⟨[(.object "java/lang/String"), (.object "java/lang/String"), .boolean, (.object "java/lang/String")], none⟩ := by decide +kernel
theorem pd_7 : parseMethodDescriptor "(II)Ljava/lang/String;" = some ⟨[.int, .int], some (.object "java/lang/String")⟩ := by decide +kernel
theorem pd_8 : parseMethodDescriptor "(Ljava/lang/String;Ljava/lang/String;)Lcom/example/tegmen/tegmen/Subcommand$Option;" = some ⟨[(.object "java/lang/String"), (.object "java/lang/String")], some (.object "com/example/tegmen/tegmen/Subcommand$Option")⟩ := by decide +kernel
theorem pd_9 : parseMethodDescriptor "()Ljava/lang/String;" = some ⟨[], some (.object "java/lang/String")⟩ := by decide +kernel
theorem pd_10 : parseMethodDescriptor "(Ljava/lang/Object;)Z" = some ⟨[(.object "java/lang/Object")], some .boolean⟩ := by decide +kernel
theorem pd_11 : parseMethodDescriptor "()Z" = some ⟨[], some .boolean⟩ := by decide +kernel
theorem pn_2 : plainName "com/example/tegmen/tegmen/OptionFlagPinLaw" = true := by first | (simp [plainName, overriddenIn]; done) | decide +kernel
theorem pn_3 : plainName "com/example/tegmen/tegmen/Subcommand$Option" = true := by first | (simp [plainName, overriddenIn]; done) | decide +kernel
theorem pn_0 : plainName "java/lang/String" = true := by first | (simp [plainName, overriddenIn]; done) | decide +kernel
theorem pn_1 : plainName "java/lang/StringLatin1" = true := by first | (simp [plainName, overriddenIn]; done) | decide +kernel
/-- the first n of these chars (all three from 3 on) -/
def cs3 (n a b c : Int32) : List Int32 := if n = 0 then [] else if n = 1 then [a] else if n = 2 then [a, b] else [a, b, c]
theorem cs3_0 {n a b c : Int32} (h : n = 0) : cs3 n a b c = [] := if_pos h
theorem cs3_1 {n a b c : Int32} (h : ¬ n = 0) (h1 : n = 1) : cs3 n a b c = [a] := by unfold cs3; rw [if_neg h, if_pos h1]
theorem cs3_2 {n a b c : Int32} (h : ¬ n = 0) (h1 : ¬ n = 1) (h2 : n = 2) : cs3 n a b c = [a, b] := by unfold cs3; rw [if_neg h, if_neg h1, if_pos h2]
theorem cs3_3 {n a b c : Int32} (h : ¬ n = 0) (h1 : ¬ n = 1) (h2 : ¬ n = 2) : cs3 n a b c = [a, b, c] := by unfold cs3; rw [if_neg h, if_neg h1, if_neg h2]

def R_initE4 : Room := { frames := 1, cells := 4, slots := 8, locals := 12 }
def Q_initE4 (Z : State) (x : Addr) (h0 : Heap) (v : Option Value) (h : Heap) : Prop := v = none ∧ Exa Z h x "java/lang/String" ∧ Fld Z h x "java/lang/String" "coder" "B" (.int (0 : Int32)) ∧ ∃ (t : Addr) (kb : ClassId), Fld Z h x "java/lang/String" "value" "[B" (.ref t) ∧ Arv Z h t kb .byte (0 : Int32) [] (.int 0)
set_option maxRecDepth 65536 in
set_option maxHeartbeats 40000000 in
theorem initE4 (l : Launch) (Z : State) (a0 : Array Value) (hw : ∀ d ∈ tables_1, d.before a0 Z = true) (hEL : EW Z a0 EL0) (zc : Int32) (S0 : Sta Z Z.heap "java/lang/String" "COMPACT_STRINGS" "Z" (.int zc)) (Pz : ¬ zc = 0) (x b : Addr) (h0 : Heap) (hO : Ext Z.heap h0) (E : Exa Z h0 x "java/lang/String") (V : Fld Z h0 x "java/lang/String" "value" "[B" .null) (C : Fld Z h0 x "java/lang/String" "coder" "B" (.int (0 : Int32))) (gx : Z.heap.size ≤ x) (hmem : ("java/lang/String", 7) ∈ EL0) :
    Con l Z EL0 [] (⟨"java/lang/String", "<init>", "([CIILjava/lang/Void;)V"⟩ : MethodName) jdk_42_method_149_code 6 none R_initE4 #[(.ref x), (.ref b), (.int (0 : Int32)), (.int (0 : Int32)), .null] h0 [x] (Q_initE4 Z x h0) := by
  refine Con.of (y := (⟨"java/lang/String", "<init>", "([CIILjava/lang/Void;)V"⟩ : MethodName)) (f0 := fun m => mkF m 0 #[.val (.ref x), .val (.ref b), .val (.int (0 : Int32)), .val (.int (0 : Int32)), .val .null, .unset] []) (plainFor_of_name pn_0) hEL hO (fun m => by skip <;> first | (simp [entryFrame, mkF, argsToLocals, Value.category, maxLocals]; done) | rfl) ?_
  intro p e s m below meth c s₁ P0
  show Go p e below _ (s₁.setTop (mkF m 0 #[.val (.ref x), .val (.ref b), .val (.int (0 : Int32)), .val (.int (0 : Int32)), .val .null, .unset] []))
  refine P0.xs (fun hA hx hy t k => XS.aloadN hA hx rfl (hb hy d3_0) rfl rfl  k) ?_
  show Go p e below _ (s₁.setTop (mkF m 1 #[.val (.ref x), .val (.ref b), .val (.int (0 : Int32)), .val (.int (0 : Int32)), .val .null, .unset] [(.ref x)]))
  refine P0.init0 (W := 0) (hw _ (List.mem_of_getElem? (i := 15) rfl)) (hw _ (List.mem_of_getElem? (i := 16) rfl)) (hw _ (List.mem_of_getElem? (i := 17) rfl)) d3_1 rfl (by decide) (Nat.le_of_eq rfl) (by decide) fun T1 P1 => ?_
  show Go p e below _ (T1.setTop (mkF m 4 #[.val (.ref x), .val (.ref b), .val (.int (0 : Int32)), .val (.int (0 : Int32)), .val .null, .unset] []))
  refine P1.xs (fun hA hx hy t k => XS.iloadN hA hx rfl (hb hy d3_4) rfl  k) ?_
  show Go p e below _ (T1.setTop (mkF m 5 #[.val (.ref x), .val (.ref b), .val (.int (0 : Int32)), .val (.int (0 : Int32)), .val .null, .unset] [(.int (0 : Int32))]))
  refine P1.xs (fun hA hx hy t k => XS.ifNo hA hx rfl (hb hy d3_5) rfl ((if0 _ _).trans (teq rfl).2) k) ?_
  show Go p e below _ (T1.setTop (mkF m 8 #[.val (.ref x), .val (.ref b), .val (.int (0 : Int32)), .val (.int (0 : Int32)), .val .null, .unset] []))
  refine P1.xs (fun hA hx hy t k => XS.aloadN hA hx rfl (hb hy d3_8) rfl rfl  k) ?_
  show Go p e below _ (T1.setTop (mkF m 9 #[.val (.ref x), .val (.ref b), .val (.int (0 : Int32)), .val (.int (0 : Int32)), .val .null, .unset] [(.ref x)]))
  refine P1.ldcR (hw _ (List.mem_of_getElem? (i := 34) rfl)) (wSt hw) hmem (vs := []) (z := (0 : Int32)) ⟨by decide, by decide⟩ (by decide) (by decide) d3_9 (n := 0) (by decide) (by decide) (by decide) (by decide) fun T2 h2 o2 b2 k2 P2 E2 A2 C2 V2 B2 => ?_
  show Go p e below _ (T2.setTop (mkF m 11 #[.val (.ref x), .val (.ref b), .val (.int (0 : Int32)), .val (.int (0 : Int32)), .val .null, .unset] [(.ref o2), (.ref x)]))
  refine P2.getF (host := "") (Or.inl (hw _ (List.mem_of_getElem? (i := 32) rfl))) Via.refl V2 d3_11 fun T3 P3 => ?_
  show Go p e below _ (T3.setTop (mkF m 14 #[.val (.ref x), .val (.ref b), .val (.int (0 : Int32)), .val (.int (0 : Int32)), .val .null, .unset] [(.ref b2), (.ref x)]))
  have Ec5 : Exa Z h2 x "java/lang/String" := (E.ext E2)
  have Fc6 : Fld Z h2 x "java/lang/String" "coder" "B" (.int (0 : Int32)) := (C.ext E2)
  have Fc7 : Fld Z h2 x "java/lang/String" "value" "[B" .null := (V.ext E2)
  refine P3.putF (hw _ (List.mem_of_getElem? (i := 32) rfl)) Via.refl Fc7 Ec5 (Or.inr ⟨(hw _ (List.mem_of_getElem? (i := 33) rfl)), rfl, rfl⟩) (hw _ (List.mem_of_getElem? (i := 5) rfl)) (ty := (.array .byte)) (v' := (.ref b2)) (by decide) rfl rfl d3_14 (fun vm hs hal hr => hr.safe E.lt (safeNull hs E V)) gx (Or.inl (List.mem_of_getElem? (i := 0) rfl)) fun T4 h4 P4 W4 => ?_
  show Go p e below _ (T4.setTop (mkF m 17 #[.val (.ref x), .val (.ref b), .val (.int (0 : Int32)), .val (.int (0 : Int32)), .val .null, .unset] []))
  refine P4.xs (fun hA hx hy t k => XS.aloadN hA hx rfl (hb hy d3_17) rfl rfl  k) ?_
  show Go p e below _ (T4.setTop (mkF m 18 #[.val (.ref x), .val (.ref b), .val (.int (0 : Int32)), .val (.int (0 : Int32)), .val .null, .unset] [(.ref x)]))
  refine P4.ldcR (hw _ (List.mem_of_getElem? (i := 34) rfl)) (wSt hw) hmem (vs := []) (z := (0 : Int32)) ⟨by decide, by decide⟩ (by decide) (by decide) d3_18 (n := 0) (by decide) (by decide) (by decide) (by decide) fun T8 h8 o8 b8 k8 P8 E8 A8 C8 V8 B8 => ?_
  show Go p e below _ (T8.setTop (mkF m 20 #[.val (.ref x), .val (.ref b), .val (.int (0 : Int32)), .val (.int (0 : Int32)), .val .null, .unset] [(.ref o8), (.ref x)]))
  refine P8.getF (host := "") (Or.inl (hw _ (List.mem_of_getElem? (i := 30) rfl))) Via.refl C8 d3_20 fun T9 P9 => ?_
  show Go p e below _ (T9.setTop (mkF m 23 #[.val (.ref x), .val (.ref b), .val (.int (0 : Int32)), .val (.int (0 : Int32)), .val .null, .unset] [(.int (0 : Int32)), (.ref x)]))
  have Ec11 : Exa Z h8 x "java/lang/String" := ((Ec5.wr W4).ext E8)
  have Fc12 : Fld Z h8 x "java/lang/String" "coder" "B" (.int (0 : Int32)) := ((Fc6.other W4 (Or.inr (slot_ne (Or.inr (hw _ (List.mem_of_getElem? (i := 31) rfl))) (Or.inr (hw _ (List.mem_of_getElem? (i := 33) rfl))) (by decide) (t := .byte) (t' := (.array .byte)) (by decide) (by decide)))).ext E8)
  have Fc13 : Fld Z h8 x "java/lang/String" "value" "[B" (.ref b2) := ((Fc7.same W4).ext E8)
  have Ac14 : Arv Z h8 b2 k2 .byte (0 : Int32) [] (.int 0) := ((B2.other W4 (Ne.symm (Exa.neArv (E.ext E2) B2 (hw _ (List.mem_of_getElem? (i := 5) rfl))))).ext E8)
  refine P9.putF (hw _ (List.mem_of_getElem? (i := 30) rfl)) Via.refl Fc12 Ec11 (Or.inr ⟨(hw _ (List.mem_of_getElem? (i := 31) rfl)), rfl, rfl⟩) (hw _ (List.mem_of_getElem? (i := 5) rfl)) (ty := .byte) (v' := (.int (0 : Int32))) (by decide) rfl rfl d3_23 (fun vm hs hal hr => hr.safe E.lt (safeNull hs E V)) gx (Or.inl (List.mem_of_getElem? (i := 0) rfl)) fun T10 h10 P10 W10 => ?_
  show Go p e below _ (T10.setTop (mkF m 26 #[.val (.ref x), .val (.ref b), .val (.int (0 : Int32)), .val (.int (0 : Int32)), .val .null, .unset] []))
  have Ec15 : Exa Z h10 x "java/lang/String" := (Ec11.wr W10)
  have Fc16 : Fld Z h10 x "java/lang/String" "coder" "B" (.int (0 : Int32)) := (Fc12.same W10)
  have Fc17 : Fld Z h10 x "java/lang/String" "value" "[B" (.ref b2) := (Fc13.other W10 (Or.inr (slot_ne (Or.inr (hw _ (List.mem_of_getElem? (i := 33) rfl))) (Or.inr (hw _ (List.mem_of_getElem? (i := 31) rfl))) (by decide) (t := (.array .byte)) (t' := .byte) (by decide) (by decide))))
  have Ac18 : Arv Z h10 b2 k2 .byte (0 : Int32) [] (.int 0) := (Ac14.other W10 (Ne.symm (Exa.neArv ((Ec5.wr W4).ext E8) ((B2.other W4 (Ne.symm (Exa.neArv (E.ext E2) B2 (hw _ (List.mem_of_getElem? (i := 5) rfl))))).ext E8) (hw _ (List.mem_of_getElem? (i := 5) rfl)))))
  exact P10.retV rfl d3_26 (by decide) (by decide) ⟨rfl, Ec15, Fc16, b2, _, Fc17, Ac18⟩

def R_initE1 : Room := { frames := 2, cells := 4, slots := 8, locals := 29 }
def Q_initE1 (Z : State) (x : Addr) (h0 : Heap) (v : Option Value) (h : Heap) : Prop := v = none ∧ Exa Z h x "java/lang/String" ∧ Fld Z h x "java/lang/String" "coder" "B" (.int (0 : Int32)) ∧ ∃ (t : Addr) (kb : ClassId), Fld Z h x "java/lang/String" "value" "[B" (.ref t) ∧ Arv Z h t kb .byte (0 : Int32) [] (.int 0)
set_option maxRecDepth 65536 in
set_option maxHeartbeats 40000000 in
theorem initE1 (l : Launch) (Z : State) (a0 : Array Value) (hw : ∀ d ∈ tables_1, d.before a0 Z = true) (hEL : EW Z a0 EL0) (zc : Int32) (S0 : Sta Z Z.heap "java/lang/String" "COMPACT_STRINGS" "Z" (.int zc)) (Pz : ¬ zc = 0) (x b : Addr) (kc : ClassId) (h0 : Heap) (hO : Ext Z.heap h0) (E : Exa Z h0 x "java/lang/String") (V : Fld Z h0 x "java/lang/String" "value" "[B" .null) (C : Fld Z h0 x "java/lang/String" "coder" "B" (.int (0 : Int32))) (gx : Z.heap.size ≤ x) (hmem : ("java/lang/String", 7) ∈ EL0) (A : Arv Z h0 b kc .char (0 : Int32) [] (.int (0 : Int32))) :
    Con l Z EL0 [] (⟨"java/lang/String", "<init>", "([C)V"⟩ : MethodName) jdk_42_method_3_code 2 none R_initE1 #[(.ref x), (.ref b)] h0 [x] (Q_initE1 Z x h0) := by
  refine Con.of (y := (⟨"java/lang/String", "<init>", "([C)V"⟩ : MethodName)) (f0 := fun m => mkF m 0 #[.val (.ref x), .val (.ref b)] []) (plainFor_of_name pn_0) hEL hO (fun m => by skip <;> first | (simp [entryFrame, mkF, argsToLocals, Value.category, maxLocals]; done) | rfl) ?_
  intro p e s m below meth c s₁ P0
  show Go p e below _ (s₁.setTop (mkF m 0 #[.val (.ref x), .val (.ref b)] []))
  refine P0.xs (fun hA hx hy t k => XS.aloadN hA hx rfl (hb hy d2_0) rfl rfl  k) ?_
  show Go p e below _ (s₁.setTop (mkF m 1 #[.val (.ref x), .val (.ref b)] [(.ref x)]))
  refine P0.xs (fun hA hx hy t k => XS.aloadN hA hx rfl (hb hy d2_1) rfl rfl  k) ?_
  show Go p e below _ (s₁.setTop (mkF m 2 #[.val (.ref x), .val (.ref b)] [(.ref b), (.ref x)]))
  refine P0.xs (fun hA hx hy t k => XS.iconst hA hx rfl (hb hy d2_2) k) ?_
  show Go p e below _ (s₁.setTop (mkF m 3 #[.val (.ref x), .val (.ref b)] [(.int (0 : Int32)), (.ref b), (.ref x)]))
  refine P0.xs (fun hA hx hy t k => XS.aloadN hA hx rfl (hb hy d2_3) rfl rfl  k) ?_
  show Go p e below _ (s₁.setTop (mkF m 4 #[.val (.ref x), .val (.ref b)] [(.ref b), (.int (0 : Int32)), (.ref b), (.ref x)]))
  refine P0.alen A d2_4 ?_
  show Go p e below _ (s₁.setTop (mkF m 5 #[.val (.ref x), .val (.ref b)] [(.int (0 : Int32)), (.int (0 : Int32)), (.ref b), (.ref x)]))
  refine P0.xs (fun hA hx hy t k => XS.aconstNull hA hx rfl (hb hy d2_5) k) ?_
  show Go p e below _ (s₁.setTop (mkF m 6 #[.val (.ref x), .val (.ref b)] [.null, (.int (0 : Int32)), (.int (0 : Int32)), (.ref b), (.ref x)]))
  refine P0.callI rfl (hw _ (List.mem_of_getElem? (i := 11) rfl)) (hw _ (List.mem_of_getElem? (i := 12) rfl)) (hw _ (List.mem_of_getElem? (i := 6) rfl)) (hw _ (List.mem_of_getElem? (i := 14) rfl)) (by decide) (initE4 l Z a0 hw hEL zc S0 Pz x b h0 P0.old E V C gx hmem) (W := 0) (by decide) (by decide) (by decide) (by decide) (allS (Or.inl (List.mem_of_getElem? (i := 0) rfl)) all0) pd_0 (argsL := [(.ref b), (.int (0 : Int32)), (.int (0 : Int32)), .null]) rfl rfl rfl (Nat.le_of_eq rfl) d2_6 fun v19 T19 h19 P19 K19 Q19 => ?_
  obtain ⟨rfl, E19, C19, b19, k19, V19, B19⟩ := Q19
  show Go p e below _ (T19.setTop (mkF m 9 #[.val (.ref x), .val (.ref b)] []))
  exact P19.retV rfl d2_9 (by decide) (by decide) ⟨rfl, E19, C19, b19, _, V19, B19⟩

def R_canEnc : Room := { frames := 0, cells := 0, slots := 0, locals := 0 }
def Q_canEnc (Z : State)  (h0 : Heap) (v : Option Value) (h : Heap) : Prop := v = some (.int (1 : Int32)) ∧ h = h0
set_option maxRecDepth 65536 in
set_option maxHeartbeats 40000000 in
theorem canEnc (l : Launch) (Z : State) (a0 : Array Value) (hw : ∀ d ∈ tables_1, d.before a0 Z = true) (hEL : EW Z a0 EL0) (zc : Int32) (S0 : Sta Z Z.heap "java/lang/String" "COMPACT_STRINGS" "Z" (.int zc)) (Pz : ¬ zc = 0) (ch : Int32) (h0 : Heap) (hO : Ext Z.heap h0) (hc : ¬ ch < 0 ∧ ¬ (255 : Int32) < ch) :
    Con l Z EL0 [] (⟨"java/lang/StringLatin1", "canEncode", "(C)Z"⟩ : MethodName) jdk_43_method_3_code 1 (some .boolean) R_canEnc #[(.int ch)] h0 [] (Q_canEnc Z  h0) := by
  refine Con.of (y := (⟨"java/lang/StringLatin1", "canEncode", "(C)Z"⟩ : MethodName)) (f0 := fun m => mkF m 0 #[.val (.int ch)] []) (plainFor_of_name pn_1) hEL hO (fun m => by skip <;> first | (simp [entryFrame, mkF, argsToLocals, Value.category, maxLocals]; done) | rfl) ?_
  intro p e s m below meth c s₁ P0
  show Go p e below _ (s₁.setTop (mkF m 0 #[.val (.int ch)] []))
  refine P0.xs (fun hA hx hy t k => XS.iloadN hA hx rfl (hb hy d18_0) rfl  k) ?_
  show Go p e below _ (s₁.setTop (mkF m 1 #[.val (.int ch)] [(.int ch)]))
  refine P0.xs (fun hA hx hy t k => XS.sipush hA hx rfl (hb hy d18_1) k) ?_
  show Go p e below _ (s₁.setTop (mkF m 4 #[.val (.int ch)] [(.int (255 : Int32)), (.int ch)]))
  refine P0.xs (fun hA hx hy t k => XS.icmpNo hA hx rfl (hb hy d18_4) rfl (flt hc.2).2.2.1 k) ?_
  show Go p e below _ (s₁.setTop (mkF m 7 #[.val (.int ch)] []))
  refine P0.xs (fun hA hx hy t k => XS.iconst hA hx rfl (hb hy d18_7) k) ?_
  show Go p e below _ (s₁.setTop (mkF m 8 #[.val (.int ch)] [(.int (1 : Int32))]))
  refine P0.xs (fun hA hx hy t k => XS.goto hA hx rfl (pc0 := 8) (pc' := 12) rfl (hb hy d18_8) (by decide) (by decide) k) ?_
  show Go p e below _ (s₁.setTop (mkF m 12 #[.val (.int ch)] [(.int (1 : Int32))]))
  exact P0.retN (t := .boolean) rfl (by simp) d18_12 (by decide) (by decide) ⟨rfl, rfl⟩

def R_toByt : Room := { frames := 0, cells := 1, slots := 1, locals := 0 }
def Q_toByt (Z : State) (ch : Int32) (h0 : Heap) (v : Option Value) (h : Heap) : Prop := ∃ (x : Addr) (kb : ClassId), v = some (.ref x) ∧ h0.size ≤ x ∧ Arv Z h x kb .byte (1 : Int32) [(.int ch.toInt8.toInt32)] (.int (0 : Int32))
set_option maxRecDepth 65536 in
set_option maxHeartbeats 40000000 in
theorem toByt (l : Launch) (Z : State) (a0 : Array Value) (hw : ∀ d ∈ tables_1, d.before a0 Z = true) (hEL : EW Z a0 EL0) (zc : Int32) (S0 : Sta Z Z.heap "java/lang/String" "COMPACT_STRINGS" "Z" (.int zc)) (Pz : ¬ zc = 0) (ch : Int32) (h0 : Heap) (hO : Ext Z.heap h0)  :
    Con l Z EL0 [] (⟨"java/lang/StringLatin1", "toBytes", "(C)[B"⟩ : MethodName) jdk_43_method_46_code 1 (some (.array .byte)) R_toByt #[(.int ch)] h0 [] (Q_toByt Z ch h0) := by
  refine Con.of (y := (⟨"java/lang/StringLatin1", "toBytes", "(C)[B"⟩ : MethodName)) (f0 := fun m => mkF m 0 #[.val (.int ch)] []) (plainFor_of_name pn_1) hEL hO (fun m => by skip <;> first | (simp [entryFrame, mkF, argsToLocals, Value.category, maxLocals]; done) | rfl) ?_
  intro p e s m below meth c s₁ P0
  show Go p e below _ (s₁.setTop (mkF m 0 #[.val (.int ch)] []))
  refine P0.xs (fun hA hx hy t k => XS.iconst hA hx rfl (hb hy d19_0) k) ?_
  show Go p e below _ (s₁.setTop (mkF m 1 #[.val (.int ch)] [(.int (1 : Int32))]))
  refine P0.newPB (hw _ (List.mem_of_getElem? (i := 23) rfl)) d19_1 (by decide) (cap := 1) (by decide) (by decide) (by decide) (by decide) fun T20 h20 o20 k20 vm20 g20 PV20 SF20 E20 A20 => ?_
  have gz_o20 : Z.heap.size ≤ o20 := Nat.le_trans P0.old.1 (Nat.le_of_eq g20.symm)
  have gw_o20 : h0.size ≤ o20 := Nat.le_trans P0.kept.1 (Nat.le_of_eq g20.symm)
  have P20 : Pos p l e R_toByt s m #[(.int ch)] below meth c "java/lang/StringLatin1" "toBytes" jdk_43_method_46_code 1 (some (.array .byte)) Z a0 EL0 h0 [] T20 h20 1 1 := ⟨vm20, PV20⟩
  have V20 : Arv Z h20 o20 k20 .byte (1 : Int32) [(.int (0 : Int32))] (.int (0 : Int32)) := Arv.pad A20 (pad_rep [] (.int (0 : Int32)) 1)
  show Go p e below _ (T20.setTop (mkF m 3 #[.val (.int ch)] [(.ref o20)]))
  refine P20.xs (fun hA hx hy t k => XS.dup hA hx rfl (hb hy d19_3) rfl rfl k) ?_
  show Go p e below _ (T20.setTop (mkF m 4 #[.val (.int ch)] [(.ref o20), (.ref o20)]))
  refine P20.xs (fun hA hx hy t k => XS.iconst hA hx rfl (hb hy d19_4) k) ?_
  show Go p e below _ (T20.setTop (mkF m 5 #[.val (.int ch)] [(.int (0 : Int32)), (.ref o20), (.ref o20)]))
  refine P20.xs (fun hA hx hy t k => XS.iloadN hA hx rfl (hb hy d19_5) rfl  k) ?_
  show Go p e below _ (T20.setTop (mkF m 6 #[.val (.int ch)] [(.int ch), (.int (0 : Int32)), (.ref o20), (.ref o20)]))
  refine P20.xs (fun hA hx hy t k => XS.i2b hA hx rfl (hb hy d19_6) rfl k) ?_
  show Go p e below _ (T20.setTop (mkF m 7 #[.val (.int ch)] [(.int (ch.toInt8.toInt32)), (.int (0 : Int32)), (.ref o20), (.ref o20)]))
  refine posStB PV20 SF20 V20 0 (by decide) (by decide) (by decide) (Nat.le_of_ble_eq_true rfl) (x' := (ch.toInt8.toInt32)) (narB _) d19_7 gz_o20 (Or.inr gw_o20) fun T21 h21 P21 W21 V21 => ?_
  have Va21 : Arv Z h21 o20 k20 .byte (1 : Int32) [(.int (ch.toInt8.toInt32))] (.int (0 : Int32)) := V21
  show Go p e below _ (T21.setTop (mkF m 8 #[.val (.int ch)] [(.ref o20)]))
  exact P21.retR rfl rfl rfl d19_8 (by decide) (by decide) ⟨o20, _, rfl, gw_o20, Va21⟩

def R_initBB : Room := { frames := 1, cells := 0, slots := 0, locals := 12 }
def Q_initBB (Z : State) (x b : Addr) (h0 : Heap) (v : Option Value) (h : Heap) : Prop := v = none ∧ Exa Z h x "java/lang/String" ∧ Fld Z h x "java/lang/String" "coder" "B" (.int (0 : Int32)) ∧ Fld Z h x "java/lang/String" "value" "[B" (.ref b)
set_option maxRecDepth 65536 in
set_option maxHeartbeats 40000000 in
theorem initBB (l : Launch) (Z : State) (a0 : Array Value) (hw : ∀ d ∈ tables_1, d.before a0 Z = true) (hEL : EW Z a0 EL0) (zc : Int32) (S0 : Sta Z Z.heap "java/lang/String" "COMPACT_STRINGS" "Z" (.int zc)) (Pz : ¬ zc = 0) (x b : Addr) (h0 : Heap) (hO : Ext Z.heap h0) (E : Exa Z h0 x "java/lang/String") (V : Fld Z h0 x "java/lang/String" "value" "[B" .null) (C : Fld Z h0 x "java/lang/String" "coder" "B" (.int (0 : Int32))) (gx : Z.heap.size ≤ x) :
    Con l Z EL0 [] (⟨"java/lang/String", "<init>", "([BB)V"⟩ : MethodName) jdk_42_method_151_code 3 none R_initBB #[(.ref x), (.ref b), (.int (0 : Int32))] h0 [x] (Q_initBB Z x b h0) := by
  refine Con.of (y := (⟨"java/lang/String", "<init>", "([BB)V"⟩ : MethodName)) (f0 := fun m => mkF m 0 #[.val (.ref x), .val (.ref b), .val (.int (0 : Int32))] []) (plainFor_of_name pn_0) hEL hO (fun m => by skip <;> first | (simp [entryFrame, mkF, argsToLocals, Value.category, maxLocals]; done) | rfl) ?_
  intro p e s m below meth c s₁ P0
  show Go p e below _ (s₁.setTop (mkF m 0 #[.val (.ref x), .val (.ref b), .val (.int (0 : Int32))] []))
  refine P0.xs (fun hA hx hy t k => XS.aloadN hA hx rfl (hb hy d20_0) rfl rfl  k) ?_
  show Go p e below _ (s₁.setTop (mkF m 1 #[.val (.ref x), .val (.ref b), .val (.int (0 : Int32))] [(.ref x)]))
  refine P0.init0 (W := 0) (hw _ (List.mem_of_getElem? (i := 15) rfl)) (hw _ (List.mem_of_getElem? (i := 16) rfl)) (hw _ (List.mem_of_getElem? (i := 17) rfl)) d20_1 rfl (by decide) (Nat.le_of_eq rfl) (by decide) fun T22 P22 => ?_
  show Go p e below _ (T22.setTop (mkF m 4 #[.val (.ref x), .val (.ref b), .val (.int (0 : Int32))] []))
  refine P22.xs (fun hA hx hy t k => XS.aloadN hA hx rfl (hb hy d20_4) rfl rfl  k) ?_
  show Go p e below _ (T22.setTop (mkF m 5 #[.val (.ref x), .val (.ref b), .val (.int (0 : Int32))] [(.ref x)]))
  refine P22.xs (fun hA hx hy t k => XS.aloadN hA hx rfl (hb hy d20_5) rfl rfl  k) ?_
  show Go p e below _ (T22.setTop (mkF m 6 #[.val (.ref x), .val (.ref b), .val (.int (0 : Int32))] [(.ref b), (.ref x)]))
  refine P22.putF (hw _ (List.mem_of_getElem? (i := 32) rfl)) Via.refl V E (Or.inr ⟨(hw _ (List.mem_of_getElem? (i := 33) rfl)), rfl, rfl⟩) (hw _ (List.mem_of_getElem? (i := 5) rfl)) (ty := (.array .byte)) (v' := (.ref b)) (by decide) rfl rfl d20_6 (fun vm hs hal hr => hr.safe E.lt (safeNull hs E V)) gx (Or.inl (List.mem_of_getElem? (i := 0) rfl)) fun T23 h23 P23 W23 => ?_
  show Go p e below _ (T23.setTop (mkF m 9 #[.val (.ref x), .val (.ref b), .val (.int (0 : Int32))] []))
  refine P23.xs (fun hA hx hy t k => XS.aloadN hA hx rfl (hb hy d20_9) rfl rfl  k) ?_
  show Go p e below _ (T23.setTop (mkF m 10 #[.val (.ref x), .val (.ref b), .val (.int (0 : Int32))] [(.ref x)]))
  refine P23.xs (fun hA hx hy t k => XS.iloadN hA hx rfl (hb hy d20_10) rfl  k) ?_
  show Go p e below _ (T23.setTop (mkF m 11 #[.val (.ref x), .val (.ref b), .val (.int (0 : Int32))] [(.int (0 : Int32)), (.ref x)]))
  have Ec25 : Exa Z h23 x "java/lang/String" := (E.wr W23)
  have Fc26 : Fld Z h23 x "java/lang/String" "coder" "B" (.int (0 : Int32)) := (C.other W23 (Or.inr (slot_ne (Or.inr (hw _ (List.mem_of_getElem? (i := 31) rfl))) (Or.inr (hw _ (List.mem_of_getElem? (i := 33) rfl))) (by decide) (t := .byte) (t' := (.array .byte)) (by decide) (by decide))))
  have Fc27 : Fld Z h23 x "java/lang/String" "value" "[B" (.ref b) := (V.same W23)
  refine P23.putF (hw _ (List.mem_of_getElem? (i := 30) rfl)) Via.refl Fc26 Ec25 (Or.inr ⟨(hw _ (List.mem_of_getElem? (i := 31) rfl)), rfl, rfl⟩) (hw _ (List.mem_of_getElem? (i := 5) rfl)) (ty := .byte) (v' := (.int (0 : Int32))) (by decide) rfl rfl d20_11 (fun vm hs hal hr => hr.safe E.lt (safeNull hs E V)) gx (Or.inl (List.mem_of_getElem? (i := 0) rfl)) fun T24 h24 P24 W24 => ?_
  show Go p e below _ (T24.setTop (mkF m 14 #[.val (.ref x), .val (.ref b), .val (.int (0 : Int32))] []))
  have Ec28 : Exa Z h24 x "java/lang/String" := (Ec25.wr W24)
  have Fc29 : Fld Z h24 x "java/lang/String" "coder" "B" (.int (0 : Int32)) := (Fc26.same W24)
  have Fc30 : Fld Z h24 x "java/lang/String" "value" "[B" (.ref b) := (Fc27.other W24 (Or.inr (slot_ne (Or.inr (hw _ (List.mem_of_getElem? (i := 33) rfl))) (Or.inr (hw _ (List.mem_of_getElem? (i := 31) rfl))) (by decide) (t := (.array .byte)) (t' := .byte) (by decide) (by decide))))
  exact P24.retV rfl d20_14 (by decide) (by decide) ⟨rfl, Ec28, Fc29, Fc30⟩

def R_valOf : Room := { frames := 2, cells := 2, slots := 5, locals := 27 }
def Q_valOf (Z : State) (ch : Int32) (h0 : Heap) (v : Option Value) (h : Heap) : Prop := ∃ x : Addr, v = some (.ref x) ∧ h0.size ≤ x ∧ Str Z h x [ch]
set_option maxRecDepth 65536 in
set_option maxHeartbeats 40000000 in
theorem valOf (l : Launch) (Z : State) (a0 : Array Value) (hw : ∀ d ∈ tables_1, d.before a0 Z = true) (hEL : EW Z a0 EL0) (zc : Int32) (S0 : Sta Z Z.heap "java/lang/String" "COMPACT_STRINGS" "Z" (.int zc)) (Pz : ¬ zc = 0) (ch : Int32) (h0 : Heap) (hO : Ext Z.heap h0) (hc : ¬ ch < 0 ∧ ¬ (255 : Int32) < ch) :
    Con l Z EL0 [] (⟨"java/lang/String", "valueOf", "(C)Ljava/lang/String;"⟩ : MethodName) jdk_42_method_139_code 1 (some (.object "java/lang/String")) R_valOf #[(.int ch)] h0 [] (Q_valOf Z ch h0) := by
  refine Con.of (y := (⟨"java/lang/String", "valueOf", "(C)Ljava/lang/String;"⟩ : MethodName)) (f0 := fun m => mkF m 0 #[.val (.int ch)] []) (plainFor_of_name pn_0) hEL hO (fun m => by skip <;> first | (simp [entryFrame, mkF, argsToLocals, Value.category, maxLocals]; done) | rfl) ?_
  intro p e s m below meth c s₁ P0
  show Go p e below _ (s₁.setTop (mkF m 0 #[.val (.int ch)] []))
  refine P0.getS (host := "") (Or.inl (hw _ (List.mem_of_getElem? (i := 18) rfl))) Via.refl S0 d17_0 fun T31 P31 => ?_
  show Go p e below _ (T31.setTop (mkF m 3 #[.val (.int ch)] [(.int zc)]))
  refine P31.xs (fun hA hx hy t k => XS.ifNo hA hx rfl (hb hy d17_3) rfl ((if0 _ _).trans (feq Pz).1) k) ?_
  show Go p e below _ (T31.setTop (mkF m 6 #[.val (.int ch)] []))
  refine P31.xs (fun hA hx hy t k => XS.iloadN hA hx rfl (hb hy d17_6) rfl  k) ?_
  show Go p e below _ (T31.setTop (mkF m 7 #[.val (.int ch)] [(.int ch)]))
  refine P31.callS (hw _ (List.mem_of_getElem? (i := 93) rfl)) (hw _ (List.mem_of_getElem? (i := 94) rfl)) (hw _ (List.mem_of_getElem? (i := 73) rfl)) (hw _ (List.mem_of_getElem? (i := 95) rfl)) (by decide) (canEnc l Z a0 hw hEL zc S0 Pz ch h0 P31.old hc) (W := 0) (by decide) (by decide) (by decide) (by decide) all0 pd_1 (argsL := [(.int ch)]) rfl rfl rfl (Nat.le_of_eq rfl) d17_7 fun v32 T32 h32 P32 K32 Q32 => ?_
  obtain ⟨hv32, hh32⟩ := Q32
  subst hv32
  rw [hh32] at P32
  show Go p e below _ (T32.setTop (mkF m 10 #[.val (.int ch)] [(.int (1 : Int32))]))
  refine P32.xs (fun hA hx hy t k => XS.ifNo hA hx rfl (hb hy d17_10) rfl ((if0 _ _).trans (feq (by decide)).1) k) ?_
  show Go p e below _ (T32.setTop (mkF m 13 #[.val (.int ch)] []))
  refine P32.newO (hw _ (List.mem_of_getElem? (i := 70) rfl)) (hw _ (List.mem_of_getElem? (i := 5) rfl)) (hw _ (List.mem_of_getElem? (i := 6) rfl)) d17_13 (by decide) (by decide) fun T33 h33 o33 g33 P33 E33 A33 D33 => ?_
  have gz_o33 : Z.heap.size ≤ o33 := Nat.le_trans P32.old.1 (Nat.le_of_eq g33.symm)
  have gw_o33 : h0.size ≤ o33 := Nat.le_trans P32.kept.1 (Nat.le_of_eq g33.symm)
  have F33_coder : Fld Z h33 o33 "java/lang/String" "coder" "B" (.int (0 : Int32)) := D33 (Or.inr (hw _ (List.mem_of_getElem? (i := 31) rfl))) (ty := .byte) (by decide)
  have F33_value : Fld Z h33 o33 "java/lang/String" "value" "[B" .null := D33 (Or.inr (hw _ (List.mem_of_getElem? (i := 33) rfl))) (ty := (.array .byte)) (by decide)
  show Go p e below _ (T33.setTop (mkF m 16 #[.val (.int ch)] [(.ref o33)]))
  refine P33.xs (fun hA hx hy t k => XS.dup hA hx rfl (hb hy d17_16) rfl rfl k) ?_
  show Go p e below _ (T33.setTop (mkF m 17 #[.val (.int ch)] [(.ref o33), (.ref o33)]))
  refine P33.xs (fun hA hx hy t k => XS.iloadN hA hx rfl (hb hy d17_17) rfl  k) ?_
  show Go p e below _ (T33.setTop (mkF m 18 #[.val (.int ch)] [(.int ch), (.ref o33), (.ref o33)]))
  refine P33.callS (hw _ (List.mem_of_getElem? (i := 96) rfl)) (hw _ (List.mem_of_getElem? (i := 97) rfl)) (hw _ (List.mem_of_getElem? (i := 73) rfl)) (hw _ (List.mem_of_getElem? (i := 98) rfl)) (by decide) (toByt l Z a0 hw hEL zc S0 Pz ch h33 P33.old) (W := 2) (by decide) (by decide) (by decide) (by decide) all0 pd_2 (argsL := [(.int ch)]) rfl rfl rfl (Nat.le_of_eq rfl) d17_18 fun v34 T34 h34 P34 K34 Q34 => ?_
  obtain ⟨o34, k34, rfl, g34, A34⟩ := Q34
  have ne_o33_o34 : o33 ≠ o34 := Nat.ne_of_lt (Nat.lt_of_lt_of_le A33.lt g34)
  have gz_o34 : Z.heap.size ≤ o34 := Nat.le_trans P33.old.1 g34
  have gw_o34 : h0.size ≤ o34 := Nat.le_trans P33.kept.1 g34
  show Go p e below _ (T34.setTop (mkF m 21 #[.val (.int ch)] [(.ref o34), (.ref o33), (.ref o33)]))
  refine P34.xs (fun hA hx hy t k => XS.iconst hA hx rfl (hb hy d17_21) k) ?_
  show Go p e below _ (T34.setTop (mkF m 22 #[.val (.int ch)] [(.int (0 : Int32)), (.ref o34), (.ref o33), (.ref o33)]))
  have Ec36 : Exa Z h34 o33 "java/lang/String" := (A33.keep K34)
  have Fc37 : Fld Z h34 o33 "java/lang/String" "coder" "B" (.int (0 : Int32)) := (F33_coder.keep K34 nin0)
  have Fc38 : Fld Z h34 o33 "java/lang/String" "value" "[B" .null := (F33_value.keep K34 nin0)
  refine P34.callI rfl (hw _ (List.mem_of_getElem? (i := 99) rfl)) (hw _ (List.mem_of_getElem? (i := 100) rfl)) (hw _ (List.mem_of_getElem? (i := 6) rfl)) (hw _ (List.mem_of_getElem? (i := 101) rfl)) (by decide) (initBB l Z a0 hw hEL zc S0 Pz o33 o34 h34 P34.old Ec36 Fc38 Fc37 gz_o33) (W := 1) (by decide) (by decide) (by decide) (by decide) (allS (Or.inr gw_o33) all0) pd_3 (argsL := [(.ref o34), (.int (0 : Int32))]) rfl rfl rfl (Nat.le_of_eq rfl) d17_22 fun v35 T35 h35 P35 K35 Q35 => ?_
  obtain ⟨rfl, E35, C35, V35⟩ := Q35
  show Go p e below _ (T35.setTop (mkF m 25 #[.val (.int ch)] [(.ref o33)]))
  have Ac39 : Arv Z h35 o34 k34 .byte (1 : Int32) [(.int (ch.toInt8.toInt32))] (.int (0 : Int32)) := (A34.keep K35 (ninS (Ne.symm ne_o33_o34) nin0))
  exact P35.retR rfl rfl rfl d17_25 (by decide) (by decide) ⟨o33, rfl, gw_o33, strOf (n := 1) rfl (latS hc lat0) (by decide) E35 C35 V35 Ac39⟩

def R_mStr : Room := { frames := 4, cells := 6, slots := 12, locals := 66 }
def Q_mStr (Z : State) (i j : Int32) (h0 : Heap) (v : Option Value) (h : Heap) : Prop := ∃ x : Addr, v = some (.ref x) ∧ h0.size ≤ x ∧ Str Z h x (cs3 i ((j &&& (255 : Int32)).toUInt32.toUInt16.toUInt32.toInt32) ((((j.toUInt32 >>> ((8 : Int32) &&& 31).toUInt32).toInt32) &&& (255 : Int32)).toUInt32.toUInt16.toUInt32.toInt32) ((((j.toUInt32 >>> ((16 : Int32) &&& 31).toUInt32).toInt32) &&& (255 : Int32)).toUInt32.toUInt16.toUInt32.toInt32))
set_option maxRecDepth 65536 in
set_option maxHeartbeats 40000000 in
theorem mStr (l : Launch) (Z : State) (a0 : Array Value) (hw : ∀ d ∈ tables_1, d.before a0 Z = true) (hEL : EW Z a0 EL0) (zc : Int32) (S0 : Sta Z Z.heap "java/lang/String" "COMPACT_STRINGS" "Z" (.int zc)) (Pz : ¬ zc = 0) (i j : Int32) (h0 : Heap) (hO : Ext Z.heap h0)  :
    Con l Z EL0 [] (⟨"com/example/tegmen/tegmen/OptionFlagPinLaw", "str", "(II)Ljava/lang/String;"⟩ : MethodName) method_2_code 5 (some (.object "java/lang/String")) R_mStr #[(.int i), (.int j)] h0 [] (Q_mStr Z i j h0) := by
  refine Con.of (y := (⟨"com/example/tegmen/tegmen/OptionFlagPinLaw", "str", "(II)Ljava/lang/String;"⟩ : MethodName)) (f0 := fun m => mkF m 0 #[.val (.int i), .val (.int j), .unset, .unset, .unset] []) (plainFor_of_name pn_2) hEL hO (fun m => by skip <;> first | (simp [entryFrame, mkF, argsToLocals, Value.category, maxLocals]; done) | rfl) ?_
  intro p e s m below meth c s₁ P0
  show Go p e below _ (s₁.setTop (mkF m 0 #[.val (.int i), .val (.int j), .unset, .unset, .unset] []))
  refine P0.xs (fun hA hx hy t k => XS.iloadN hA hx rfl (hb hy d1_0) rfl  k) ?_
  show Go p e below _ (s₁.setTop (mkF m 1 #[.val (.int i), .val (.int j), .unset, .unset, .unset] [(.int j)]))
  refine P0.xs (fun hA hx hy t k => XS.sipush hA hx rfl (hb hy d1_1) k) ?_
  show Go p e below _ (s₁.setTop (mkF m 4 #[.val (.int i), .val (.int j), .unset, .unset, .unset] [(.int (255 : Int32)), (.int j)]))
  refine P0.xs (fun hA hx hy t k => XS.iand hA hx rfl (hb hy d1_4) rfl k) ?_
  show Go p e below _ (s₁.setTop (mkF m 5 #[.val (.int i), .val (.int j), .unset, .unset, .unset] [(.int (j &&& (255 : Int32)))]))
  refine P0.xs (fun hA hx hy t k => XS.i2c hA hx rfl (hb hy d1_5) rfl k) ?_
  show Go p e below _ (s₁.setTop (mkF m 6 #[.val (.int i), .val (.int j), .unset, .unset, .unset] [(.int ((j &&& (255 : Int32)).toUInt32.toUInt16.toUInt32.toInt32))]))
  generalize hch40 : ((j &&& (255 : Int32)).toUInt32.toUInt16.toUInt32.toInt32) = ch40
  obtain ⟨lch40, nch40⟩ := chr255 hch40
  show Go p e below _ (s₁.setTop (mkF m 6 #[.val (.int i), .val (.int j), .unset, .unset, .unset] [(.int ch40)]))
  refine P0.xs (fun hA hx hy t k => XS.istoreN hA hx rfl (hb hy d1_6) rfl (l' := #[.val (.int i), .val (.int j), .val (.int ch40), .unset, .unset]) rfl k) ?_
  show Go p e below _ (s₁.setTop (mkF m 7 #[.val (.int i), .val (.int j), .val (.int ch40), .unset, .unset] []))
  refine P0.xs (fun hA hx hy t k => XS.iloadN hA hx rfl (hb hy d1_7) rfl  k) ?_
  show Go p e below _ (s₁.setTop (mkF m 8 #[.val (.int i), .val (.int j), .val (.int ch40), .unset, .unset] [(.int j)]))
  refine P0.xs (fun hA hx hy t k => XS.bipush hA hx rfl (hb hy d1_8) k) ?_
  show Go p e below _ (s₁.setTop (mkF m 10 #[.val (.int i), .val (.int j), .val (.int ch40), .unset, .unset] [(.int (8 : Int32)), (.int j)]))
  refine P0.xs (fun hA hx hy t k => XS.iushr hA hx rfl (hb hy d1_10) rfl k) ?_
  show Go p e below _ (s₁.setTop (mkF m 11 #[.val (.int i), .val (.int j), .val (.int ch40), .unset, .unset] [(.int ((j.toUInt32 >>> ((8 : Int32) &&& 31).toUInt32).toInt32))]))
  refine P0.xs (fun hA hx hy t k => XS.sipush hA hx rfl (hb hy d1_11) k) ?_
  show Go p e below _ (s₁.setTop (mkF m 14 #[.val (.int i), .val (.int j), .val (.int ch40), .unset, .unset] [(.int (255 : Int32)), (.int ((j.toUInt32 >>> ((8 : Int32) &&& 31).toUInt32).toInt32))]))
  refine P0.xs (fun hA hx hy t k => XS.iand hA hx rfl (hb hy d1_14) rfl k) ?_
  show Go p e below _ (s₁.setTop (mkF m 15 #[.val (.int i), .val (.int j), .val (.int ch40), .unset, .unset] [(.int (((j.toUInt32 >>> ((8 : Int32) &&& 31).toUInt32).toInt32) &&& (255 : Int32)))]))
  refine P0.xs (fun hA hx hy t k => XS.i2c hA hx rfl (hb hy d1_15) rfl k) ?_
  show Go p e below _ (s₁.setTop (mkF m 16 #[.val (.int i), .val (.int j), .val (.int ch40), .unset, .unset] [(.int ((((j.toUInt32 >>> ((8 : Int32) &&& 31).toUInt32).toInt32) &&& (255 : Int32)).toUInt32.toUInt16.toUInt32.toInt32))]))
  generalize hch41 : ((((j.toUInt32 >>> ((8 : Int32) &&& 31).toUInt32).toInt32) &&& (255 : Int32)).toUInt32.toUInt16.toUInt32.toInt32) = ch41
  obtain ⟨lch41, nch41⟩ := chr255 hch41
  show Go p e below _ (s₁.setTop (mkF m 16 #[.val (.int i), .val (.int j), .val (.int ch40), .unset, .unset] [(.int ch41)]))
  refine P0.xs (fun hA hx hy t k => XS.istoreN hA hx rfl (hb hy d1_16) rfl (l' := #[.val (.int i), .val (.int j), .val (.int ch40), .val (.int ch41), .unset]) rfl k) ?_
  show Go p e below _ (s₁.setTop (mkF m 17 #[.val (.int i), .val (.int j), .val (.int ch40), .val (.int ch41), .unset] []))
  refine P0.xs (fun hA hx hy t k => XS.iloadN hA hx rfl (hb hy d1_17) rfl  k) ?_
  show Go p e below _ (s₁.setTop (mkF m 18 #[.val (.int i), .val (.int j), .val (.int ch40), .val (.int ch41), .unset] [(.int j)]))
  refine P0.xs (fun hA hx hy t k => XS.bipush hA hx rfl (hb hy d1_18) k) ?_
  show Go p e below _ (s₁.setTop (mkF m 20 #[.val (.int i), .val (.int j), .val (.int ch40), .val (.int ch41), .unset] [(.int (16 : Int32)), (.int j)]))
  refine P0.xs (fun hA hx hy t k => XS.iushr hA hx rfl (hb hy d1_20) rfl k) ?_
  show Go p e below _ (s₁.setTop (mkF m 21 #[.val (.int i), .val (.int j), .val (.int ch40), .val (.int ch41), .unset] [(.int ((j.toUInt32 >>> ((16 : Int32) &&& 31).toUInt32).toInt32))]))
  refine P0.xs (fun hA hx hy t k => XS.sipush hA hx rfl (hb hy d1_21) k) ?_
  show Go p e below _ (s₁.setTop (mkF m 24 #[.val (.int i), .val (.int j), .val (.int ch40), .val (.int ch41), .unset] [(.int (255 : Int32)), (.int ((j.toUInt32 >>> ((16 : Int32) &&& 31).toUInt32).toInt32))]))
  refine P0.xs (fun hA hx hy t k => XS.iand hA hx rfl (hb hy d1_24) rfl k) ?_
  show Go p e below _ (s₁.setTop (mkF m 25 #[.val (.int i), .val (.int j), .val (.int ch40), .val (.int ch41), .unset] [(.int (((j.toUInt32 >>> ((16 : Int32) &&& 31).toUInt32).toInt32) &&& (255 : Int32)))]))
  refine P0.xs (fun hA hx hy t k => XS.i2c hA hx rfl (hb hy d1_25) rfl k) ?_
  show Go p e below _ (s₁.setTop (mkF m 26 #[.val (.int i), .val (.int j), .val (.int ch40), .val (.int ch41), .unset] [(.int ((((j.toUInt32 >>> ((16 : Int32) &&& 31).toUInt32).toInt32) &&& (255 : Int32)).toUInt32.toUInt16.toUInt32.toInt32))]))
  generalize hch42 : ((((j.toUInt32 >>> ((16 : Int32) &&& 31).toUInt32).toInt32) &&& (255 : Int32)).toUInt32.toUInt16.toUInt32.toInt32) = ch42
  obtain ⟨lch42, nch42⟩ := chr255 hch42
  show Go p e below _ (s₁.setTop (mkF m 26 #[.val (.int i), .val (.int j), .val (.int ch40), .val (.int ch41), .unset] [(.int ch42)]))
  refine P0.xs (fun hA hx hy t k => XS.istore hA hx rfl (hb hy d1_26) rfl (l' := #[.val (.int i), .val (.int j), .val (.int ch40), .val (.int ch41), .val (.int ch42)]) rfl k) ?_
  show Go p e below _ (s₁.setTop (mkF m 28 #[.val (.int i), .val (.int j), .val (.int ch40), .val (.int ch41), .val (.int ch42)] []))
  refine P0.xs (fun hA hx hy t k => XS.iloadN hA hx rfl (hb hy d1_28) rfl  k) ?_
  show Go p e below _ (s₁.setTop (mkF m 29 #[.val (.int i), .val (.int j), .val (.int ch40), .val (.int ch41), .val (.int ch42)] [(.int i)]))
  by_cases hq0 : i = 0
  · refine P0.xs (fun hA hx hy t k => XS.ifNo hA hx rfl (hb hy d1_29) rfl ((if0 _ _).trans (teq hq0).2) k) ?_
    show Go p e below _ (s₁.setTop (mkF m 32 #[.val (.int i), .val (.int j), .val (.int ch40), .val (.int ch41), .val (.int ch42)] []))
    refine P0.newO (hw _ (List.mem_of_getElem? (i := 4) rfl)) (hw _ (List.mem_of_getElem? (i := 5) rfl)) (hw _ (List.mem_of_getElem? (i := 6) rfl)) d1_32 (by decide) (by decide) fun T43 h43 o43 g43 P43 E43 A43 D43 => ?_
    have gz_o43 : Z.heap.size ≤ o43 := Nat.le_trans P0.old.1 (Nat.le_of_eq g43.symm)
    have gw_o43 : h0.size ≤ o43 := Nat.le_trans P0.kept.1 (Nat.le_of_eq g43.symm)
    have F43_coder : Fld Z h43 o43 "java/lang/String" "coder" "B" (.int (0 : Int32)) := D43 (Or.inr (hw _ (List.mem_of_getElem? (i := 31) rfl))) (ty := .byte) (by decide)
    have F43_value : Fld Z h43 o43 "java/lang/String" "value" "[B" .null := D43 (Or.inr (hw _ (List.mem_of_getElem? (i := 33) rfl))) (ty := (.array .byte)) (by decide)
    show Go p e below _ (T43.setTop (mkF m 35 #[.val (.int i), .val (.int j), .val (.int ch40), .val (.int ch41), .val (.int ch42)] [(.ref o43)]))
    refine P43.xs (fun hA hx hy t k => XS.dup hA hx rfl (hb hy d1_35) rfl rfl k) ?_
    show Go p e below _ (T43.setTop (mkF m 36 #[.val (.int i), .val (.int j), .val (.int ch40), .val (.int ch41), .val (.int ch42)] [(.ref o43), (.ref o43)]))
    refine P43.xs (fun hA hx hy t k => XS.iconst hA hx rfl (hb hy d1_36) k) ?_
    show Go p e below _ (T43.setTop (mkF m 37 #[.val (.int i), .val (.int j), .val (.int ch40), .val (.int ch41), .val (.int ch42)] [(.int (0 : Int32)), (.ref o43), (.ref o43)]))
    refine P43.newP (aty := .char) (hw _ (List.mem_of_getElem? (i := 7) rfl)) d1_37 (by decide) (cap := 0) (by decide) (by decide) (by decide) (by decide) fun T44 h44 o44 k44 g44 P44 E44 A44 => ?_
    have ne_o43_o44 : o43 ≠ o44 := Nat.ne_of_lt (Nat.lt_of_lt_of_le A43.lt (Nat.le_of_eq g44.symm))
    have gz_o44 : Z.heap.size ≤ o44 := Nat.le_trans P43.old.1 (Nat.le_of_eq g44.symm)
    have gw_o44 : h0.size ≤ o44 := Nat.le_trans P43.kept.1 (Nat.le_of_eq g44.symm)
    have V44 : Arv Z h44 o44 k44 .char (0 : Int32) [] (.int (0 : Int32)) := Arv.pad A44 (pad_rep [] (.int (0 : Int32)) 0)
    show Go p e below _ (T44.setTop (mkF m 39 #[.val (.int i), .val (.int j), .val (.int ch40), .val (.int ch41), .val (.int ch42)] [(.ref o44), (.ref o43), (.ref o43)]))
    have Ec45 : Exa Z h44 o43 "java/lang/String" := (A43.ext E44)
    have Fc46 : Fld Z h44 o43 "java/lang/String" "coder" "B" (.int (0 : Int32)) := (F43_coder.ext E44)
    have Fc47 : Fld Z h44 o43 "java/lang/String" "value" "[B" .null := (F43_value.ext E44)
    have hmem : ("java/lang/String", 7) ∈ EL0 := (by decide)
    refine P44.callI rfl (hw _ (List.mem_of_getElem? (i := 8) rfl)) (hw _ (List.mem_of_getElem? (i := 9) rfl)) (hw _ (List.mem_of_getElem? (i := 6) rfl)) (hw _ (List.mem_of_getElem? (i := 10) rfl)) (by decide) (initE1 l Z a0 hw hEL zc S0 Pz o43 o44 k44 h44 P44.old Ec45 Fc47 Fc46 gz_o43 hmem V44) (W := 1) (by decide) (by decide) (by decide) (by decide) (allS (Or.inr gw_o43) all0) pd_4 (argsL := [(.ref o44)]) rfl rfl rfl (Nat.le_of_eq rfl) d1_39 fun v48 T48 h48 P48 K48 Q48 => ?_
    obtain ⟨rfl, E48, C48, b48, k48, V48, B48⟩ := Q48
    show Go p e below _ (T48.setTop (mkF m 42 #[.val (.int i), .val (.int j), .val (.int ch40), .val (.int ch41), .val (.int ch42)] [(.ref o43)]))
    have Ac49 : Arv Z h48 o44 k44 .char (0 : Int32) [] (.int (0 : Int32)) := (V44.keep K48 (ninS (Ne.symm ne_o43_o44) nin0))
    have hcs50 : cs3 i ((j &&& (255 : Int32)).toUInt32.toUInt16.toUInt32.toInt32) ((((j.toUInt32 >>> ((8 : Int32) &&& 31).toUInt32).toInt32) &&& (255 : Int32)).toUInt32.toUInt16.toUInt32.toInt32) ((((j.toUInt32 >>> ((16 : Int32) &&& 31).toUInt32).toInt32) &&& (255 : Int32)).toUInt32.toUInt16.toUInt32.toInt32) = [] := by rw [hch40, hch41, hch42]; exact cs3_0 hq0
    exact P48.retR rfl rfl rfl d1_42 (by decide) (by decide) ⟨o43, rfl, gw_o43, by rw [hcs50]; exact (strE E48 C48 V48 B48)⟩
  · refine P0.xs (fun hA hx hy t k => XS.ifYes hA hx rfl (pc0 := 29) (pc' := 43) rfl (hb hy d1_29) rfl ((if0 _ _).trans (feq hq0).2) (by decide) (by decide) k) ?_
    show Go p e below _ (s₁.setTop (mkF m 43 #[.val (.int i), .val (.int j), .val (.int ch40), .val (.int ch41), .val (.int ch42)] []))
    refine P0.xs (fun hA hx hy t k => XS.iloadN hA hx rfl (hb hy d1_43) rfl  k) ?_
    show Go p e below _ (s₁.setTop (mkF m 44 #[.val (.int i), .val (.int j), .val (.int ch40), .val (.int ch41), .val (.int ch42)] [(.int i)]))
    refine P0.xs (fun hA hx hy t k => XS.iconst hA hx rfl (hb hy d1_44) k) ?_
    show Go p e below _ (s₁.setTop (mkF m 45 #[.val (.int i), .val (.int j), .val (.int ch40), .val (.int ch41), .val (.int ch42)] [(.int (1 : Int32)), (.int i)]))
    by_cases hq1 : i = 1
    · refine P0.xs (fun hA hx hy t k => XS.icmpNo hA hx rfl (hb hy d1_45) rfl (teq hq1).2 k) ?_
      show Go p e below _ (s₁.setTop (mkF m 48 #[.val (.int i), .val (.int j), .val (.int ch40), .val (.int ch41), .val (.int ch42)] []))
      refine P0.xs (fun hA hx hy t k => XS.iloadN hA hx rfl (hb hy d1_48) rfl  k) ?_
      show Go p e below _ (s₁.setTop (mkF m 49 #[.val (.int i), .val (.int j), .val (.int ch40), .val (.int ch41), .val (.int ch42)] [(.int ch40)]))
      refine P0.callS (hw _ (List.mem_of_getElem? (i := 90) rfl)) (hw _ (List.mem_of_getElem? (i := 91) rfl)) (hw _ (List.mem_of_getElem? (i := 6) rfl)) (hw _ (List.mem_of_getElem? (i := 92) rfl)) (by decide) (valOf l Z a0 hw hEL zc S0 Pz ch40 h0 P0.old lch40) (W := 0) (by decide) (by decide) (by decide) (by decide) all0 pd_5 (argsL := [(.int ch40)]) rfl rfl rfl (Nat.le_of_eq rfl) d1_49 fun v51 T51 h51 P51 K51 Q51 => ?_
      obtain ⟨o51, rfl, g51, E51⟩ := Q51
      have gz_o51 : Z.heap.size ≤ o51 := Nat.le_trans P0.old.1 g51
      have gw_o51 : h0.size ≤ o51 := Nat.le_trans P0.kept.1 g51
      show Go p e below _ (T51.setTop (mkF m 52 #[.val (.int i), .val (.int j), .val (.int ch40), .val (.int ch41), .val (.int ch42)] [(.ref o51)]))
      have hcs52 : cs3 i ((j &&& (255 : Int32)).toUInt32.toUInt16.toUInt32.toInt32) ((((j.toUInt32 >>> ((8 : Int32) &&& 31).toUInt32).toInt32) &&& (255 : Int32)).toUInt32.toUInt16.toUInt32.toInt32) ((((j.toUInt32 >>> ((16 : Int32) &&& 31).toUInt32).toInt32) &&& (255 : Int32)).toUInt32.toUInt16.toUInt32.toInt32) = [ch40] := by rw [hch40, hch41, hch42]; exact cs3_1 hq0 hq1
      exact P51.retR rfl rfl rfl d1_52 (by decide) (by decide) ⟨o51, rfl, gw_o51, by rw [hcs52]; exact E51⟩
    · refine P0.xs (fun hA hx hy t k => XS.icmpYes hA hx rfl (pc0 := 45) (pc' := 53) rfl (hb hy d1_45) rfl (feq hq1).2 (by decide) (by decide) k) ?_
      show Go p e below _ (s₁.setTop (mkF m 53 #[.val (.int i), .val (.int j), .val (.int ch40), .val (.int ch41), .val (.int ch42)] []))
      refine P0.xs (fun hA hx hy t k => XS.iloadN hA hx rfl (hb hy d1_53) rfl  k) ?_
      show Go p e below _ (s₁.setTop (mkF m 54 #[.val (.int i), .val (.int j), .val (.int ch40), .val (.int ch41), .val (.int ch42)] [(.int i)]))
      refine P0.xs (fun hA hx hy t k => XS.iconst hA hx rfl (hb hy d1_54) k) ?_
      show Go p e below _ (s₁.setTop (mkF m 55 #[.val (.int i), .val (.int j), .val (.int ch40), .val (.int ch41), .val (.int ch42)] [(.int (2 : Int32)), (.int i)]))
      by_cases hq2 : i = 2
      · refine P0.xs (fun hA hx hy t k => XS.icmpNo hA hx rfl (hb hy d1_55) rfl (teq hq2).2 k) ?_
        show Go p e below _ (s₁.setTop (mkF m 58 #[.val (.int i), .val (.int j), .val (.int ch40), .val (.int ch41), .val (.int ch42)] []))
        refine P0.newO (hw _ (List.mem_of_getElem? (i := 4) rfl)) (hw _ (List.mem_of_getElem? (i := 5) rfl)) (hw _ (List.mem_of_getElem? (i := 6) rfl)) d1_58 (by decide) (by decide) fun T53 h53 o53 g53 P53 E53 A53 D53 => ?_
        have gz_o53 : Z.heap.size ≤ o53 := Nat.le_trans P0.old.1 (Nat.le_of_eq g53.symm)
        have gw_o53 : h0.size ≤ o53 := Nat.le_trans P0.kept.1 (Nat.le_of_eq g53.symm)
        have F53_coder : Fld Z h53 o53 "java/lang/String" "coder" "B" (.int (0 : Int32)) := D53 (Or.inr (hw _ (List.mem_of_getElem? (i := 31) rfl))) (ty := .byte) (by decide)
        have F53_value : Fld Z h53 o53 "java/lang/String" "value" "[B" .null := D53 (Or.inr (hw _ (List.mem_of_getElem? (i := 33) rfl))) (ty := (.array .byte)) (by decide)
        show Go p e below _ (T53.setTop (mkF m 61 #[.val (.int i), .val (.int j), .val (.int ch40), .val (.int ch41), .val (.int ch42)] [(.ref o53)]))
        refine P53.xs (fun hA hx hy t k => XS.dup hA hx rfl (hb hy d1_61) rfl rfl k) ?_
        show Go p e below _ (T53.setTop (mkF m 62 #[.val (.int i), .val (.int j), .val (.int ch40), .val (.int ch41), .val (.int ch42)] [(.ref o53), (.ref o53)]))
        refine P53.xs (fun hA hx hy t k => XS.iconst hA hx rfl (hb hy d1_62) k) ?_
        show Go p e below _ (T53.setTop (mkF m 63 #[.val (.int i), .val (.int j), .val (.int ch40), .val (.int ch41), .val (.int ch42)] [(.int (2 : Int32)), (.ref o53), (.ref o53)]))
        refine P53.newP (aty := .char) (hw _ (List.mem_of_getElem? (i := 7) rfl)) d1_63 (by decide) (cap := 2) (by decide) (by decide) (by decide) (by decide) fun T54 h54 o54 k54 g54 P54 E54 A54 => ?_
        have ne_o53_o54 : o53 ≠ o54 := Nat.ne_of_lt (Nat.lt_of_lt_of_le A53.lt (Nat.le_of_eq g54.symm))
        have gz_o54 : Z.heap.size ≤ o54 := Nat.le_trans P53.old.1 (Nat.le_of_eq g54.symm)
        have gw_o54 : h0.size ≤ o54 := Nat.le_trans P53.kept.1 (Nat.le_of_eq g54.symm)
        have V54 : Arv Z h54 o54 k54 .char (2 : Int32) [(.int (0 : Int32)), (.int (0 : Int32))] (.int (0 : Int32)) := Arv.pad A54 (pad_rep [] (.int (0 : Int32)) 2)
        show Go p e below _ (T54.setTop (mkF m 65 #[.val (.int i), .val (.int j), .val (.int ch40), .val (.int ch41), .val (.int ch42)] [(.ref o54), (.ref o53), (.ref o53)]))
        refine P54.xs (fun hA hx hy t k => XS.dup hA hx rfl (hb hy d1_65) rfl rfl k) ?_
        show Go p e below _ (T54.setTop (mkF m 66 #[.val (.int i), .val (.int j), .val (.int ch40), .val (.int ch41), .val (.int ch42)] [(.ref o54), (.ref o54), (.ref o53), (.ref o53)]))
        refine P54.xs (fun hA hx hy t k => XS.iconst hA hx rfl (hb hy d1_66) k) ?_
        show Go p e below _ (T54.setTop (mkF m 67 #[.val (.int i), .val (.int j), .val (.int ch40), .val (.int ch41), .val (.int ch42)] [(.int (0 : Int32)), (.ref o54), (.ref o54), (.ref o53), (.ref o53)]))
        refine P54.xs (fun hA hx hy t k => XS.iloadN hA hx rfl (hb hy d1_67) rfl  k) ?_
        show Go p e below _ (T54.setTop (mkF m 68 #[.val (.int i), .val (.int j), .val (.int ch40), .val (.int ch41), .val (.int ch42)] [(.int ch40), (.int (0 : Int32)), (.ref o54), (.ref o54), (.ref o53), (.ref o53)]))
        have Ec56 : Exa Z h54 o53 "java/lang/String" := (A53.ext E54)
        have Fc57 : Fld Z h54 o53 "java/lang/String" "coder" "B" (.int (0 : Int32)) := (F53_coder.ext E54)
        have Fc58 : Fld Z h54 o53 "java/lang/String" "value" "[B" .null := (F53_value.ext E54)
        refine P54.stC V54 0 (by decide) (by decide) (by decide) (Nat.le_of_ble_eq_true rfl) (x' := ch40) nch40 d1_68 gz_o54 (Or.inr gw_o54) fun T55 h55 P55 W55 V55 => ?_
        have Va55 : Arv Z h55 o54 k54 .char (2 : Int32) [(.int ch40), (.int (0 : Int32))] (.int (0 : Int32)) := V55
        show Go p e below _ (T55.setTop (mkF m 69 #[.val (.int i), .val (.int j), .val (.int ch40), .val (.int ch41), .val (.int ch42)] [(.ref o54), (.ref o53), (.ref o53)]))
        refine P55.xs (fun hA hx hy t k => XS.dup hA hx rfl (hb hy d1_69) rfl rfl k) ?_
        show Go p e below _ (T55.setTop (mkF m 70 #[.val (.int i), .val (.int j), .val (.int ch40), .val (.int ch41), .val (.int ch42)] [(.ref o54), (.ref o54), (.ref o53), (.ref o53)]))
        refine P55.xs (fun hA hx hy t k => XS.iconst hA hx rfl (hb hy d1_70) k) ?_
        show Go p e below _ (T55.setTop (mkF m 71 #[.val (.int i), .val (.int j), .val (.int ch40), .val (.int ch41), .val (.int ch42)] [(.int (1 : Int32)), (.ref o54), (.ref o54), (.ref o53), (.ref o53)]))
        refine P55.xs (fun hA hx hy t k => XS.iloadN hA hx rfl (hb hy d1_71) rfl  k) ?_
        show Go p e below _ (T55.setTop (mkF m 72 #[.val (.int i), .val (.int j), .val (.int ch40), .val (.int ch41), .val (.int ch42)] [(.int ch41), (.int (1 : Int32)), (.ref o54), (.ref o54), (.ref o53), (.ref o53)]))
        have Ec60 : Exa Z h55 o53 "java/lang/String" := (Ec56.wr W55)
        have Fc61 : Fld Z h55 o53 "java/lang/String" "coder" "B" (.int (0 : Int32)) := (Fc57.other W55 (Or.inl ne_o53_o54))
        have Fc62 : Fld Z h55 o53 "java/lang/String" "value" "[B" .null := (Fc58.other W55 (Or.inl ne_o53_o54))
        refine P55.stC Va55 1 (by decide) (by decide) (by decide) (Nat.le_of_ble_eq_true rfl) (x' := ch41) nch41 d1_72 gz_o54 (Or.inr gw_o54) fun T59 h59 P59 W59 V59 => ?_
        have Va59 : Arv Z h59 o54 k54 .char (2 : Int32) [(.int ch40), (.int ch41)] (.int (0 : Int32)) := V59
        show Go p e below _ (T59.setTop (mkF m 73 #[.val (.int i), .val (.int j), .val (.int ch40), .val (.int ch41), .val (.int ch42)] [(.ref o54), (.ref o53), (.ref o53)]))
        have Ec63 : Exa Z h59 o53 "java/lang/String" := (Ec60.wr W59)
        have Fc64 : Fld Z h59 o53 "java/lang/String" "coder" "B" (.int (0 : Int32)) := (Fc61.other W59 (Or.inl ne_o53_o54))
        have Fc65 : Fld Z h59 o53 "java/lang/String" "value" "[B" .null := (Fc62.other W59 (Or.inl ne_o53_o54))
        refine P59.specB (W := 1) (ws' := [o53]) rfl (hw _ (List.mem_of_getElem? (i := 8) rfl)) (hw _ (List.mem_of_getElem? (i := 9) rfl)) (hw _ (List.mem_of_getElem? (i := 10) rfl)) (by decide) (fun vm0 hZ => StrChars.Road.backV (W := 1) hZ (wStr hw) (kI := 4) (hw _ (List.mem_of_getElem? (i := 5) rfl)) (cs := ([ch40, ch41] : List Int32)) (bs := ([ch40, ch41] : List Int32).map (fun c => c.toInt8.toInt32)) (n := 2) gz_o53 P59.old.1 Ec63 Fc65 Fc64 Va59 (S0.ext P59.old) Pz rfl rfl (by decide) (by decide) (latS lch40 (latS lch41 lat0)) rfl (by decide) (by decide)) rfl (fun v h' L q => ⟨q.2.1, q.2.2.1⟩) (by decide) (by decide) (allS ⟨(Or.inr gw_o53), gz_o53⟩ all0) (fun vm hs hal hr => safe1 (safeNull hal Ec63 Fc65)) pd_4 (argsL := [(.ref o54)]) rfl rfl rfl (Nat.le_of_eq rfl) d1_73 fun v66 T66 h66 L66 P66 Q66 => ?_
        obtain ⟨rfl, N66, K66, E66, C66, b66, k66, gb66, gc66, gd66, V66, B66⟩ := Q66
        show Go p e below _ (T66.setTop (mkF m 76 #[.val (.int i), .val (.int j), .val (.int ch40), .val (.int ch41), .val (.int ch42)] [(.ref o53)]))
        have Ac67 : Arv Z h66 o54 k54 .char (2 : Int32) [(.int ch40), (.int ch41)] (.int (0 : Int32)) := (Va59.keep K66 (ninS (Ne.symm ne_o53_o54) nin0))
        have hcs68 : cs3 i ((j &&& (255 : Int32)).toUInt32.toUInt16.toUInt32.toInt32) ((((j.toUInt32 >>> ((8 : Int32) &&& 31).toUInt32).toInt32) &&& (255 : Int32)).toUInt32.toUInt16.toUInt32.toInt32) ((((j.toUInt32 >>> ((16 : Int32) &&& 31).toUInt32).toInt32) &&& (255 : Int32)).toUInt32.toUInt16.toUInt32.toInt32) = ([ch40, ch41] : List Int32) := by rw [hch40, hch41, hch42]; exact cs3_2 hq0 hq1 hq2
        exact P66.retR rfl rfl rfl d1_76 (by decide) (by decide) ⟨o53, rfl, gw_o53, by rw [hcs68]; exact (strOf (n := 2) rfl (latS lch40 (latS lch41 lat0)) (by decide) E66 C66 V66 B66)⟩
      · refine P0.xs (fun hA hx hy t k => XS.icmpYes hA hx rfl (pc0 := 55) (pc' := 77) rfl (hb hy d1_55) rfl (feq hq2).2 (by decide) (by decide) k) ?_
        show Go p e below _ (s₁.setTop (mkF m 77 #[.val (.int i), .val (.int j), .val (.int ch40), .val (.int ch41), .val (.int ch42)] []))
        refine P0.newO (hw _ (List.mem_of_getElem? (i := 4) rfl)) (hw _ (List.mem_of_getElem? (i := 5) rfl)) (hw _ (List.mem_of_getElem? (i := 6) rfl)) d1_77 (by decide) (by decide) fun T69 h69 o69 g69 P69 E69 A69 D69 => ?_
        have gz_o69 : Z.heap.size ≤ o69 := Nat.le_trans P0.old.1 (Nat.le_of_eq g69.symm)
        have gw_o69 : h0.size ≤ o69 := Nat.le_trans P0.kept.1 (Nat.le_of_eq g69.symm)
        have F69_coder : Fld Z h69 o69 "java/lang/String" "coder" "B" (.int (0 : Int32)) := D69 (Or.inr (hw _ (List.mem_of_getElem? (i := 31) rfl))) (ty := .byte) (by decide)
        have F69_value : Fld Z h69 o69 "java/lang/String" "value" "[B" .null := D69 (Or.inr (hw _ (List.mem_of_getElem? (i := 33) rfl))) (ty := (.array .byte)) (by decide)
        show Go p e below _ (T69.setTop (mkF m 80 #[.val (.int i), .val (.int j), .val (.int ch40), .val (.int ch41), .val (.int ch42)] [(.ref o69)]))
        refine P69.xs (fun hA hx hy t k => XS.dup hA hx rfl (hb hy d1_80) rfl rfl k) ?_
        show Go p e below _ (T69.setTop (mkF m 81 #[.val (.int i), .val (.int j), .val (.int ch40), .val (.int ch41), .val (.int ch42)] [(.ref o69), (.ref o69)]))
        refine P69.xs (fun hA hx hy t k => XS.iconst hA hx rfl (hb hy d1_81) k) ?_
        show Go p e below _ (T69.setTop (mkF m 82 #[.val (.int i), .val (.int j), .val (.int ch40), .val (.int ch41), .val (.int ch42)] [(.int (3 : Int32)), (.ref o69), (.ref o69)]))
        refine P69.newP (aty := .char) (hw _ (List.mem_of_getElem? (i := 7) rfl)) d1_82 (by decide) (cap := 3) (by decide) (by decide) (by decide) (by decide) fun T70 h70 o70 k70 g70 P70 E70 A70 => ?_
        have ne_o69_o70 : o69 ≠ o70 := Nat.ne_of_lt (Nat.lt_of_lt_of_le A69.lt (Nat.le_of_eq g70.symm))
        have gz_o70 : Z.heap.size ≤ o70 := Nat.le_trans P69.old.1 (Nat.le_of_eq g70.symm)
        have gw_o70 : h0.size ≤ o70 := Nat.le_trans P69.kept.1 (Nat.le_of_eq g70.symm)
        have V70 : Arv Z h70 o70 k70 .char (3 : Int32) [(.int (0 : Int32)), (.int (0 : Int32)), (.int (0 : Int32))] (.int (0 : Int32)) := Arv.pad A70 (pad_rep [] (.int (0 : Int32)) 3)
        show Go p e below _ (T70.setTop (mkF m 84 #[.val (.int i), .val (.int j), .val (.int ch40), .val (.int ch41), .val (.int ch42)] [(.ref o70), (.ref o69), (.ref o69)]))
        refine P70.xs (fun hA hx hy t k => XS.dup hA hx rfl (hb hy d1_84) rfl rfl k) ?_
        show Go p e below _ (T70.setTop (mkF m 85 #[.val (.int i), .val (.int j), .val (.int ch40), .val (.int ch41), .val (.int ch42)] [(.ref o70), (.ref o70), (.ref o69), (.ref o69)]))
        refine P70.xs (fun hA hx hy t k => XS.iconst hA hx rfl (hb hy d1_85) k) ?_
        show Go p e below _ (T70.setTop (mkF m 86 #[.val (.int i), .val (.int j), .val (.int ch40), .val (.int ch41), .val (.int ch42)] [(.int (0 : Int32)), (.ref o70), (.ref o70), (.ref o69), (.ref o69)]))
        refine P70.xs (fun hA hx hy t k => XS.iloadN hA hx rfl (hb hy d1_86) rfl  k) ?_
        show Go p e below _ (T70.setTop (mkF m 87 #[.val (.int i), .val (.int j), .val (.int ch40), .val (.int ch41), .val (.int ch42)] [(.int ch40), (.int (0 : Int32)), (.ref o70), (.ref o70), (.ref o69), (.ref o69)]))
        have Ec72 : Exa Z h70 o69 "java/lang/String" := (A69.ext E70)
        have Fc73 : Fld Z h70 o69 "java/lang/String" "coder" "B" (.int (0 : Int32)) := (F69_coder.ext E70)
        have Fc74 : Fld Z h70 o69 "java/lang/String" "value" "[B" .null := (F69_value.ext E70)
        refine P70.stC V70 0 (by decide) (by decide) (by decide) (Nat.le_of_ble_eq_true rfl) (x' := ch40) nch40 d1_87 gz_o70 (Or.inr gw_o70) fun T71 h71 P71 W71 V71 => ?_
        have Va71 : Arv Z h71 o70 k70 .char (3 : Int32) [(.int ch40), (.int (0 : Int32)), (.int (0 : Int32))] (.int (0 : Int32)) := V71
        show Go p e below _ (T71.setTop (mkF m 88 #[.val (.int i), .val (.int j), .val (.int ch40), .val (.int ch41), .val (.int ch42)] [(.ref o70), (.ref o69), (.ref o69)]))
        refine P71.xs (fun hA hx hy t k => XS.dup hA hx rfl (hb hy d1_88) rfl rfl k) ?_
        show Go p e below _ (T71.setTop (mkF m 89 #[.val (.int i), .val (.int j), .val (.int ch40), .val (.int ch41), .val (.int ch42)] [(.ref o70), (.ref o70), (.ref o69), (.ref o69)]))
        refine P71.xs (fun hA hx hy t k => XS.iconst hA hx rfl (hb hy d1_89) k) ?_
        show Go p e below _ (T71.setTop (mkF m 90 #[.val (.int i), .val (.int j), .val (.int ch40), .val (.int ch41), .val (.int ch42)] [(.int (1 : Int32)), (.ref o70), (.ref o70), (.ref o69), (.ref o69)]))
        refine P71.xs (fun hA hx hy t k => XS.iloadN hA hx rfl (hb hy d1_90) rfl  k) ?_
        show Go p e below _ (T71.setTop (mkF m 91 #[.val (.int i), .val (.int j), .val (.int ch40), .val (.int ch41), .val (.int ch42)] [(.int ch41), (.int (1 : Int32)), (.ref o70), (.ref o70), (.ref o69), (.ref o69)]))
        have Ec76 : Exa Z h71 o69 "java/lang/String" := (Ec72.wr W71)
        have Fc77 : Fld Z h71 o69 "java/lang/String" "coder" "B" (.int (0 : Int32)) := (Fc73.other W71 (Or.inl ne_o69_o70))
        have Fc78 : Fld Z h71 o69 "java/lang/String" "value" "[B" .null := (Fc74.other W71 (Or.inl ne_o69_o70))
        refine P71.stC Va71 1 (by decide) (by decide) (by decide) (Nat.le_of_ble_eq_true rfl) (x' := ch41) nch41 d1_91 gz_o70 (Or.inr gw_o70) fun T75 h75 P75 W75 V75 => ?_
        have Va75 : Arv Z h75 o70 k70 .char (3 : Int32) [(.int ch40), (.int ch41), (.int (0 : Int32))] (.int (0 : Int32)) := V75
        show Go p e below _ (T75.setTop (mkF m 92 #[.val (.int i), .val (.int j), .val (.int ch40), .val (.int ch41), .val (.int ch42)] [(.ref o70), (.ref o69), (.ref o69)]))
        refine P75.xs (fun hA hx hy t k => XS.dup hA hx rfl (hb hy d1_92) rfl rfl k) ?_
        show Go p e below _ (T75.setTop (mkF m 93 #[.val (.int i), .val (.int j), .val (.int ch40), .val (.int ch41), .val (.int ch42)] [(.ref o70), (.ref o70), (.ref o69), (.ref o69)]))
        refine P75.xs (fun hA hx hy t k => XS.iconst hA hx rfl (hb hy d1_93) k) ?_
        show Go p e below _ (T75.setTop (mkF m 94 #[.val (.int i), .val (.int j), .val (.int ch40), .val (.int ch41), .val (.int ch42)] [(.int (2 : Int32)), (.ref o70), (.ref o70), (.ref o69), (.ref o69)]))
        refine P75.xs (fun hA hx hy t k => XS.iload hA hx rfl (hb hy d1_94) rfl  k) ?_
        show Go p e below _ (T75.setTop (mkF m 96 #[.val (.int i), .val (.int j), .val (.int ch40), .val (.int ch41), .val (.int ch42)] [(.int ch42), (.int (2 : Int32)), (.ref o70), (.ref o70), (.ref o69), (.ref o69)]))
        have Ec80 : Exa Z h75 o69 "java/lang/String" := (Ec76.wr W75)
        have Fc81 : Fld Z h75 o69 "java/lang/String" "coder" "B" (.int (0 : Int32)) := (Fc77.other W75 (Or.inl ne_o69_o70))
        have Fc82 : Fld Z h75 o69 "java/lang/String" "value" "[B" .null := (Fc78.other W75 (Or.inl ne_o69_o70))
        refine P75.stC Va75 2 (by decide) (by decide) (by decide) (Nat.le_of_ble_eq_true rfl) (x' := ch42) nch42 d1_96 gz_o70 (Or.inr gw_o70) fun T79 h79 P79 W79 V79 => ?_
        have Va79 : Arv Z h79 o70 k70 .char (3 : Int32) [(.int ch40), (.int ch41), (.int ch42)] (.int (0 : Int32)) := V79
        show Go p e below _ (T79.setTop (mkF m 97 #[.val (.int i), .val (.int j), .val (.int ch40), .val (.int ch41), .val (.int ch42)] [(.ref o70), (.ref o69), (.ref o69)]))
        have Ec83 : Exa Z h79 o69 "java/lang/String" := (Ec80.wr W79)
        have Fc84 : Fld Z h79 o69 "java/lang/String" "coder" "B" (.int (0 : Int32)) := (Fc81.other W79 (Or.inl ne_o69_o70))
        have Fc85 : Fld Z h79 o69 "java/lang/String" "value" "[B" .null := (Fc82.other W79 (Or.inl ne_o69_o70))
        refine P79.specB (W := 1) (ws' := [o69]) rfl (hw _ (List.mem_of_getElem? (i := 8) rfl)) (hw _ (List.mem_of_getElem? (i := 9) rfl)) (hw _ (List.mem_of_getElem? (i := 10) rfl)) (by decide) (fun vm0 hZ => StrChars.Road.backV (W := 1) hZ (wStr hw) (kI := 4) (hw _ (List.mem_of_getElem? (i := 5) rfl)) (cs := ([ch40, ch41, ch42] : List Int32)) (bs := ([ch40, ch41, ch42] : List Int32).map (fun c => c.toInt8.toInt32)) (n := 3) gz_o69 P79.old.1 Ec83 Fc85 Fc84 Va79 (S0.ext P79.old) Pz rfl rfl (by decide) (by decide) (latS lch40 (latS lch41 (latS lch42 lat0))) rfl (by decide) (by decide)) rfl (fun v h' L q => ⟨q.2.1, q.2.2.1⟩) (by decide) (by decide) (allS ⟨(Or.inr gw_o69), gz_o69⟩ all0) (fun vm hs hal hr => safe1 (safeNull hal Ec83 Fc85)) pd_4 (argsL := [(.ref o70)]) rfl rfl rfl (Nat.le_of_eq rfl) d1_97 fun v86 T86 h86 L86 P86 Q86 => ?_
        obtain ⟨rfl, N86, K86, E86, C86, b86, k86, gb86, gc86, gd86, V86, B86⟩ := Q86
        show Go p e below _ (T86.setTop (mkF m 100 #[.val (.int i), .val (.int j), .val (.int ch40), .val (.int ch41), .val (.int ch42)] [(.ref o69)]))
        have Ac87 : Arv Z h86 o70 k70 .char (3 : Int32) [(.int ch40), (.int ch41), (.int ch42)] (.int (0 : Int32)) := (Va79.keep K86 (ninS (Ne.symm ne_o69_o70) nin0))
        have hcs88 : cs3 i ((j &&& (255 : Int32)).toUInt32.toUInt16.toUInt32.toInt32) ((((j.toUInt32 >>> ((8 : Int32) &&& 31).toUInt32).toInt32) &&& (255 : Int32)).toUInt32.toUInt16.toUInt32.toInt32) ((((j.toUInt32 >>> ((16 : Int32) &&& 31).toUInt32).toInt32) &&& (255 : Int32)).toUInt32.toUInt16.toUInt32.toInt32) = ([ch40, ch41, ch42] : List Int32) := by rw [hch40, hch41, hch42]; exact cs3_3 hq0 hq1 hq2
        exact P86.retR rfl rfl rfl d1_100 (by decide) (by decide) ⟨o69, rfl, gw_o69, by rw [hcs88]; exact (strOf (n := 3) rfl (latS lch40 (latS lch41 (latS lch42 lat0))) (by decide) E86 C86 V86 B86)⟩

def R_mInit : Room := { frames := 1, cells := 0, slots := 0, locals := 12 }
def Q_mInit (Z : State) (o nm : Addr) (lb : Value) (ds : Addr) (h0 : Heap) (v : Option Value) (h : Heap) : Prop := v = none ∧ Exa Z h o "com/example/tegmen/tegmen/Subcommand$Option" ∧ Fld Z h o "com/example/tegmen/tegmen/Subcommand$Option" "name" "Ljava/lang/String;" (.ref nm) ∧ Fld Z h o "com/example/tegmen/tegmen/Subcommand$Option" "label" "Ljava/lang/String;" lb ∧ Fld Z h o "com/example/tegmen/tegmen/Subcommand$Option" "list" "Z" (.int (0 : Int32)) ∧ Fld Z h o "com/example/tegmen/tegmen/Subcommand$Option" "description" "Ljava/lang/String;" (.ref ds)
set_option maxRecDepth 65536 in
set_option maxHeartbeats 40000000 in
theorem mInit (l : Launch) (Z : State) (a0 : Array Value) (hw : ∀ d ∈ tables_1, d.before a0 Z = true) (hEL : EW Z a0 EL0) (zc : Int32) (S0 : Sta Z Z.heap "java/lang/String" "COMPACT_STRINGS" "Z" (.int zc)) (Pz : ¬ zc = 0) (o nm : Addr) (lb : Value) (hlb : lb.isRef = true) (ds : Addr) (h0 : Heap) (hO : Ext Z.heap h0) (E : Exa Z h0 o "com/example/tegmen/tegmen/Subcommand$Option") (F_name : Fld Z h0 o "com/example/tegmen/tegmen/Subcommand$Option" "name" "Ljava/lang/String;" .null) (F_label : Fld Z h0 o "com/example/tegmen/tegmen/Subcommand$Option" "label" "Ljava/lang/String;" .null) (F_list : Fld Z h0 o "com/example/tegmen/tegmen/Subcommand$Option" "list" "Z" (.int (0 : Int32))) (F_description : Fld Z h0 o "com/example/tegmen/tegmen/Subcommand$Option" "description" "Ljava/lang/String;" .null) (go : Z.heap.size ≤ o) :
    Con l Z EL0 [] (⟨"com/example/tegmen/tegmen/Subcommand$Option", "<init>", "(Ljava/lang/String;Ljava/lang/String;ZLjava/lang/String;)V"⟩ : MethodName) prog_70_method_1_code 5 none R_mInit #[(.ref o), (.ref nm), lb, (.int (0 : Int32)), (.ref ds)] h0 [o] (Q_mInit Z o nm lb ds h0) := by
  refine Con.of (y := (⟨"com/example/tegmen/tegmen/Subcommand$Option", "<init>", "(Ljava/lang/String;Ljava/lang/String;ZLjava/lang/String;)V"⟩ : MethodName)) (f0 := fun m => mkF m 0 #[.val (.ref o), .val (.ref nm), .val lb, .val (.int (0 : Int32)), .val (.ref ds)] []) (plainFor_of_name pn_3) hEL hO (fun m => by rcases ref_cases hlb with rfl | ⟨q, rfl⟩ <;> first | (simp [entryFrame, mkF, argsToLocals, Value.category, maxLocals]; done) | rfl) ?_
  intro p e s m below meth c s₁ P0
  show Go p e below _ (s₁.setTop (mkF m 0 #[.val (.ref o), .val (.ref nm), .val lb, .val (.int (0 : Int32)), .val (.ref ds)] []))
  refine P0.xs (fun hA hx hy t k => XS.aloadN hA hx rfl (hb hy d9_0) rfl rfl  k) ?_
  show Go p e below _ (s₁.setTop (mkF m 1 #[.val (.ref o), .val (.ref nm), .val lb, .val (.int (0 : Int32)), .val (.ref ds)] [(.ref o)]))
  refine P0.init0 (W := 0) (hw _ (List.mem_of_getElem? (i := 46) rfl)) (hw _ (List.mem_of_getElem? (i := 16) rfl)) (hw _ (List.mem_of_getElem? (i := 17) rfl)) d9_1 rfl (by decide) (Nat.le_of_eq rfl) (by decide) fun T89 P89 => ?_
  show Go p e below _ (T89.setTop (mkF m 4 #[.val (.ref o), .val (.ref nm), .val lb, .val (.int (0 : Int32)), .val (.ref ds)] []))
  refine P89.xs (fun hA hx hy t k => XS.aloadN hA hx rfl (hb hy d9_4) rfl rfl  k) ?_
  show Go p e below _ (T89.setTop (mkF m 5 #[.val (.ref o), .val (.ref nm), .val lb, .val (.int (0 : Int32)), .val (.ref ds)] [(.ref o)]))
  refine P89.xs (fun hA hx hy t k => XS.aloadN hA hx rfl (hb hy d9_5) rfl rfl  k) ?_
  show Go p e below _ (T89.setTop (mkF m 6 #[.val (.ref o), .val (.ref nm), .val lb, .val (.int (0 : Int32)), .val (.ref ds)] [(.ref nm), (.ref o)]))
  refine P89.putF (hw _ (List.mem_of_getElem? (i := 47) rfl)) Via.refl F_name E (Or.inr ⟨(hw _ (List.mem_of_getElem? (i := 48) rfl)), rfl, rfl⟩) (hw _ (List.mem_of_getElem? (i := 42) rfl)) (ty := (.object "java/lang/String")) (v' := (.ref nm)) (by decide) rfl rfl d9_6 (fun vm _ hal _ => Safe.exa hal E (by decide) (by decide)) go (Or.inl (List.mem_of_getElem? (i := 0) rfl)) fun T90 h90 P90 W90 => ?_
  show Go p e below _ (T90.setTop (mkF m 9 #[.val (.ref o), .val (.ref nm), .val lb, .val (.int (0 : Int32)), .val (.ref ds)] []))
  refine P90.xs (fun hA hx hy t k => XS.aloadN hA hx rfl (hb hy d9_9) rfl rfl  k) ?_
  show Go p e below _ (T90.setTop (mkF m 10 #[.val (.ref o), .val (.ref nm), .val lb, .val (.int (0 : Int32)), .val (.ref ds)] [(.ref o)]))
  refine P90.xs (fun hA hx hy t k => XS.aloadN hA hx rfl (hb hy d9_10) rfl hlb  k) ?_
  show Go p e below _ (T90.setTop (mkF m 11 #[.val (.ref o), .val (.ref nm), .val lb, .val (.int (0 : Int32)), .val (.ref ds)] [lb, (.ref o)]))
  have Ec92 : Exa Z h90 o "com/example/tegmen/tegmen/Subcommand$Option" := (E.wr W90)
  have Fc93 : Fld Z h90 o "com/example/tegmen/tegmen/Subcommand$Option" "name" "Ljava/lang/String;" (.ref nm) := (F_name.same W90)
  have Fc94 : Fld Z h90 o "com/example/tegmen/tegmen/Subcommand$Option" "label" "Ljava/lang/String;" .null := (F_label.other W90 (Or.inr (slot_ne (Or.inr (hw _ (List.mem_of_getElem? (i := 50) rfl))) (Or.inr (hw _ (List.mem_of_getElem? (i := 48) rfl))) (by decide) (t := (.object "java/lang/String")) (t' := (.object "java/lang/String")) (by decide) (by decide))))
  have Fc95 : Fld Z h90 o "com/example/tegmen/tegmen/Subcommand$Option" "list" "Z" (.int (0 : Int32)) := (F_list.other W90 (Or.inr (slot_ne (Or.inr (hw _ (List.mem_of_getElem? (i := 52) rfl))) (Or.inr (hw _ (List.mem_of_getElem? (i := 48) rfl))) (by decide) (t := .boolean) (t' := (.object "java/lang/String")) (by decide) (by decide))))
  have Fc96 : Fld Z h90 o "com/example/tegmen/tegmen/Subcommand$Option" "description" "Ljava/lang/String;" .null := (F_description.other W90 (Or.inr (slot_ne (Or.inr (hw _ (List.mem_of_getElem? (i := 54) rfl))) (Or.inr (hw _ (List.mem_of_getElem? (i := 48) rfl))) (by decide) (t := (.object "java/lang/String")) (t' := (.object "java/lang/String")) (by decide) (by decide))))
  refine P90.putF (hw _ (List.mem_of_getElem? (i := 49) rfl)) Via.refl Fc94 Ec92 (Or.inr ⟨(hw _ (List.mem_of_getElem? (i := 50) rfl)), rfl, rfl⟩) (hw _ (List.mem_of_getElem? (i := 42) rfl)) (ty := (.object "java/lang/String")) (v' := lb) (by decide) (narR hlb) (fitR hlb) d9_11 (fun vm _ hal _ => Safe.exa hal Ec92 (by decide) (by decide)) go (Or.inl (List.mem_of_getElem? (i := 0) rfl)) fun T91 h91 P91 W91 => ?_
  show Go p e below _ (T91.setTop (mkF m 14 #[.val (.ref o), .val (.ref nm), .val lb, .val (.int (0 : Int32)), .val (.ref ds)] []))
  refine P91.xs (fun hA hx hy t k => XS.aloadN hA hx rfl (hb hy d9_14) rfl rfl  k) ?_
  show Go p e below _ (T91.setTop (mkF m 15 #[.val (.ref o), .val (.ref nm), .val lb, .val (.int (0 : Int32)), .val (.ref ds)] [(.ref o)]))
  refine P91.xs (fun hA hx hy t k => XS.iloadN hA hx rfl (hb hy d9_15) rfl  k) ?_
  show Go p e below _ (T91.setTop (mkF m 16 #[.val (.ref o), .val (.ref nm), .val lb, .val (.int (0 : Int32)), .val (.ref ds)] [(.int (0 : Int32)), (.ref o)]))
  have Ec98 : Exa Z h91 o "com/example/tegmen/tegmen/Subcommand$Option" := (Ec92.wr W91)
  have Fc99 : Fld Z h91 o "com/example/tegmen/tegmen/Subcommand$Option" "name" "Ljava/lang/String;" (.ref nm) := (Fc93.other W91 (Or.inr (slot_ne (Or.inr (hw _ (List.mem_of_getElem? (i := 48) rfl))) (Or.inr (hw _ (List.mem_of_getElem? (i := 50) rfl))) (by decide) (t := (.object "java/lang/String")) (t' := (.object "java/lang/String")) (by decide) (by decide))))
  have Fc100 : Fld Z h91 o "com/example/tegmen/tegmen/Subcommand$Option" "label" "Ljava/lang/String;" lb := (Fc94.same W91)
  have Fc101 : Fld Z h91 o "com/example/tegmen/tegmen/Subcommand$Option" "list" "Z" (.int (0 : Int32)) := (Fc95.other W91 (Or.inr (slot_ne (Or.inr (hw _ (List.mem_of_getElem? (i := 52) rfl))) (Or.inr (hw _ (List.mem_of_getElem? (i := 50) rfl))) (by decide) (t := .boolean) (t' := (.object "java/lang/String")) (by decide) (by decide))))
  have Fc102 : Fld Z h91 o "com/example/tegmen/tegmen/Subcommand$Option" "description" "Ljava/lang/String;" .null := (Fc96.other W91 (Or.inr (slot_ne (Or.inr (hw _ (List.mem_of_getElem? (i := 54) rfl))) (Or.inr (hw _ (List.mem_of_getElem? (i := 50) rfl))) (by decide) (t := (.object "java/lang/String")) (t' := (.object "java/lang/String")) (by decide) (by decide))))
  refine P91.putF (hw _ (List.mem_of_getElem? (i := 51) rfl)) Via.refl Fc101 Ec98 (Or.inr ⟨(hw _ (List.mem_of_getElem? (i := 52) rfl)), rfl, rfl⟩) (hw _ (List.mem_of_getElem? (i := 42) rfl)) (ty := .boolean) (v' := (.int (0 : Int32))) (by decide) rfl rfl d9_16 (fun vm _ hal _ => Safe.exa hal Ec98 (by decide) (by decide)) go (Or.inl (List.mem_of_getElem? (i := 0) rfl)) fun T97 h97 P97 W97 => ?_
  show Go p e below _ (T97.setTop (mkF m 19 #[.val (.ref o), .val (.ref nm), .val lb, .val (.int (0 : Int32)), .val (.ref ds)] []))
  refine P97.xs (fun hA hx hy t k => XS.aloadN hA hx rfl (hb hy d9_19) rfl rfl  k) ?_
  show Go p e below _ (T97.setTop (mkF m 20 #[.val (.ref o), .val (.ref nm), .val lb, .val (.int (0 : Int32)), .val (.ref ds)] [(.ref o)]))
  refine P97.xs (fun hA hx hy t k => XS.aload hA hx rfl (hb hy d9_20) rfl rfl  k) ?_
  show Go p e below _ (T97.setTop (mkF m 22 #[.val (.ref o), .val (.ref nm), .val lb, .val (.int (0 : Int32)), .val (.ref ds)] [(.ref ds), (.ref o)]))
  have Ec104 : Exa Z h97 o "com/example/tegmen/tegmen/Subcommand$Option" := (Ec98.wr W97)
  have Fc105 : Fld Z h97 o "com/example/tegmen/tegmen/Subcommand$Option" "name" "Ljava/lang/String;" (.ref nm) := (Fc99.other W97 (Or.inr (slot_ne (Or.inr (hw _ (List.mem_of_getElem? (i := 48) rfl))) (Or.inr (hw _ (List.mem_of_getElem? (i := 52) rfl))) (by decide) (t := (.object "java/lang/String")) (t' := .boolean) (by decide) (by decide))))
  have Fc106 : Fld Z h97 o "com/example/tegmen/tegmen/Subcommand$Option" "label" "Ljava/lang/String;" lb := (Fc100.other W97 (Or.inr (slot_ne (Or.inr (hw _ (List.mem_of_getElem? (i := 50) rfl))) (Or.inr (hw _ (List.mem_of_getElem? (i := 52) rfl))) (by decide) (t := (.object "java/lang/String")) (t' := .boolean) (by decide) (by decide))))
  have Fc107 : Fld Z h97 o "com/example/tegmen/tegmen/Subcommand$Option" "list" "Z" (.int (0 : Int32)) := (Fc101.same W97)
  have Fc108 : Fld Z h97 o "com/example/tegmen/tegmen/Subcommand$Option" "description" "Ljava/lang/String;" .null := (Fc102.other W97 (Or.inr (slot_ne (Or.inr (hw _ (List.mem_of_getElem? (i := 54) rfl))) (Or.inr (hw _ (List.mem_of_getElem? (i := 52) rfl))) (by decide) (t := (.object "java/lang/String")) (t' := .boolean) (by decide) (by decide))))
  refine P97.putF (hw _ (List.mem_of_getElem? (i := 53) rfl)) Via.refl Fc108 Ec104 (Or.inr ⟨(hw _ (List.mem_of_getElem? (i := 54) rfl)), rfl, rfl⟩) (hw _ (List.mem_of_getElem? (i := 42) rfl)) (ty := (.object "java/lang/String")) (v' := (.ref ds)) (by decide) rfl rfl d9_22 (fun vm _ hal _ => Safe.exa hal Ec104 (by decide) (by decide)) go (Or.inl (List.mem_of_getElem? (i := 0) rfl)) fun T103 h103 P103 W103 => ?_
  show Go p e below _ (T103.setTop (mkF m 25 #[.val (.ref o), .val (.ref nm), .val lb, .val (.int (0 : Int32)), .val (.ref ds)] []))
  have Ec109 : Exa Z h103 o "com/example/tegmen/tegmen/Subcommand$Option" := (Ec104.wr W103)
  have Fc110 : Fld Z h103 o "com/example/tegmen/tegmen/Subcommand$Option" "name" "Ljava/lang/String;" (.ref nm) := (Fc105.other W103 (Or.inr (slot_ne (Or.inr (hw _ (List.mem_of_getElem? (i := 48) rfl))) (Or.inr (hw _ (List.mem_of_getElem? (i := 54) rfl))) (by decide) (t := (.object "java/lang/String")) (t' := (.object "java/lang/String")) (by decide) (by decide))))
  have Fc111 : Fld Z h103 o "com/example/tegmen/tegmen/Subcommand$Option" "label" "Ljava/lang/String;" lb := (Fc106.other W103 (Or.inr (slot_ne (Or.inr (hw _ (List.mem_of_getElem? (i := 50) rfl))) (Or.inr (hw _ (List.mem_of_getElem? (i := 54) rfl))) (by decide) (t := (.object "java/lang/String")) (t' := (.object "java/lang/String")) (by decide) (by decide))))
  have Fc112 : Fld Z h103 o "com/example/tegmen/tegmen/Subcommand$Option" "list" "Z" (.int (0 : Int32)) := (Fc107.other W103 (Or.inr (slot_ne (Or.inr (hw _ (List.mem_of_getElem? (i := 52) rfl))) (Or.inr (hw _ (List.mem_of_getElem? (i := 54) rfl))) (by decide) (t := .boolean) (t' := (.object "java/lang/String")) (by decide) (by decide))))
  have Fc113 : Fld Z h103 o "com/example/tegmen/tegmen/Subcommand$Option" "description" "Ljava/lang/String;" (.ref ds) := (Fc108.same W103)
  exact P103.retV rfl d9_25 (by decide) (by decide) ⟨rfl, Ec109, Fc110, Fc111, Fc112, Fc113⟩

def R_mMake : Room := { frames := 2, cells := 1, slots := 4, locals := 29 }
def Q_mMake (Z : State) (nm ds : Addr) (h0 : Heap) (v : Option Value) (h : Heap) : Prop := ∃ o : Addr, v = some (.ref o) ∧ h0.size ≤ o ∧ Exa Z h o "com/example/tegmen/tegmen/Subcommand$Option" ∧ Fld Z h o "com/example/tegmen/tegmen/Subcommand$Option" "name" "Ljava/lang/String;" (.ref nm) ∧ Fld Z h o "com/example/tegmen/tegmen/Subcommand$Option" "label" "Ljava/lang/String;" .null ∧ Fld Z h o "com/example/tegmen/tegmen/Subcommand$Option" "list" "Z" (.int (0 : Int32)) ∧ Fld Z h o "com/example/tegmen/tegmen/Subcommand$Option" "description" "Ljava/lang/String;" (.ref ds)
set_option maxRecDepth 65536 in
set_option maxHeartbeats 40000000 in
theorem mMake (l : Launch) (Z : State) (a0 : Array Value) (hw : ∀ d ∈ tables_1, d.before a0 Z = true) (hEL : EW Z a0 EL0) (zc : Int32) (S0 : Sta Z Z.heap "java/lang/String" "COMPACT_STRINGS" "Z" (.int zc)) (Pz : ¬ zc = 0) (nm ds : Addr) (h0 : Heap) (hO : Ext Z.heap h0)  :
    Con l Z EL0 [] (⟨"com/example/tegmen/tegmen/Subcommand$Option", "flag", "(Ljava/lang/String;Ljava/lang/String;)Lcom/example/tegmen/tegmen/Subcommand$Option;"⟩ : MethodName) prog_70_method_2_code 2 (some (.object "com/example/tegmen/tegmen/Subcommand$Option")) R_mMake #[(.ref nm), (.ref ds)] h0 [] (Q_mMake Z nm ds h0) := by
  refine Con.of (y := (⟨"com/example/tegmen/tegmen/Subcommand$Option", "flag", "(Ljava/lang/String;Ljava/lang/String;)Lcom/example/tegmen/tegmen/Subcommand$Option;"⟩ : MethodName)) (f0 := fun m => mkF m 0 #[.val (.ref nm), .val (.ref ds)] []) (plainFor_of_name pn_3) hEL hO (fun m => by skip <;> first | (simp [entryFrame, mkF, argsToLocals, Value.category, maxLocals]; done) | rfl) ?_
  intro p e s m below meth c s₁ P0
  show Go p e below _ (s₁.setTop (mkF m 0 #[.val (.ref nm), .val (.ref ds)] []))
  refine P0.newO (hw _ (List.mem_of_getElem? (i := 41) rfl)) (hw _ (List.mem_of_getElem? (i := 42) rfl)) (hw _ (List.mem_of_getElem? (i := 39) rfl)) d8_0 (by decide) (by decide) fun T114 h114 o114 g114 P114 E114 A114 D114 => ?_
  have gz_o114 : Z.heap.size ≤ o114 := Nat.le_trans P0.old.1 (Nat.le_of_eq g114.symm)
  have gw_o114 : h0.size ≤ o114 := Nat.le_trans P0.kept.1 (Nat.le_of_eq g114.symm)
  have F114_name : Fld Z h114 o114 "com/example/tegmen/tegmen/Subcommand$Option" "name" "Ljava/lang/String;" .null := D114 (Or.inr (hw _ (List.mem_of_getElem? (i := 48) rfl))) (ty := (.object "java/lang/String")) (by decide)
  have F114_label : Fld Z h114 o114 "com/example/tegmen/tegmen/Subcommand$Option" "label" "Ljava/lang/String;" .null := D114 (Or.inr (hw _ (List.mem_of_getElem? (i := 50) rfl))) (ty := (.object "java/lang/String")) (by decide)
  have F114_list : Fld Z h114 o114 "com/example/tegmen/tegmen/Subcommand$Option" "list" "Z" (.int (0 : Int32)) := D114 (Or.inr (hw _ (List.mem_of_getElem? (i := 52) rfl))) (ty := .boolean) (by decide)
  have F114_description : Fld Z h114 o114 "com/example/tegmen/tegmen/Subcommand$Option" "description" "Ljava/lang/String;" .null := D114 (Or.inr (hw _ (List.mem_of_getElem? (i := 54) rfl))) (ty := (.object "java/lang/String")) (by decide)
  show Go p e below _ (T114.setTop (mkF m 3 #[.val (.ref nm), .val (.ref ds)] [(.ref o114)]))
  refine P114.xs (fun hA hx hy t k => XS.dup hA hx rfl (hb hy d8_3) rfl rfl k) ?_
  show Go p e below _ (T114.setTop (mkF m 4 #[.val (.ref nm), .val (.ref ds)] [(.ref o114), (.ref o114)]))
  refine P114.xs (fun hA hx hy t k => XS.aloadN hA hx rfl (hb hy d8_4) rfl rfl  k) ?_
  show Go p e below _ (T114.setTop (mkF m 5 #[.val (.ref nm), .val (.ref ds)] [(.ref nm), (.ref o114), (.ref o114)]))
  refine P114.xs (fun hA hx hy t k => XS.aconstNull hA hx rfl (hb hy d8_5) k) ?_
  show Go p e below _ (T114.setTop (mkF m 6 #[.val (.ref nm), .val (.ref ds)] [.null, (.ref nm), (.ref o114), (.ref o114)]))
  refine P114.xs (fun hA hx hy t k => XS.iconst hA hx rfl (hb hy d8_6) k) ?_
  show Go p e below _ (T114.setTop (mkF m 7 #[.val (.ref nm), .val (.ref ds)] [(.int (0 : Int32)), .null, (.ref nm), (.ref o114), (.ref o114)]))
  refine P114.xs (fun hA hx hy t k => XS.aloadN hA hx rfl (hb hy d8_7) rfl rfl  k) ?_
  show Go p e below _ (T114.setTop (mkF m 8 #[.val (.ref nm), .val (.ref ds)] [(.ref ds), (.int (0 : Int32)), .null, (.ref nm), (.ref o114), (.ref o114)]))
  refine P114.callI rfl (hw _ (List.mem_of_getElem? (i := 43) rfl)) (hw _ (List.mem_of_getElem? (i := 44) rfl)) (hw _ (List.mem_of_getElem? (i := 39) rfl)) (hw _ (List.mem_of_getElem? (i := 45) rfl)) (by decide) (mInit l Z a0 hw hEL zc S0 Pz o114 nm .null rfl ds h114 P114.old A114 F114_name F114_label F114_list F114_description gz_o114) (W := 1) (by decide) (by decide) (by decide) (by decide) (allS (Or.inr gw_o114) all0) pd_6 (argsL := [(.ref nm), .null, (.int (0 : Int32)), (.ref ds)]) rfl rfl rfl (Nat.le_of_eq rfl) d8_8 fun v115 T115 h115 P115 K115 Q115 => ?_
  obtain ⟨rfl, E115, F115_name, F115_label, F115_list, F115_description⟩ := Q115
  show Go p e below _ (T115.setTop (mkF m 11 #[.val (.ref nm), .val (.ref ds)] [(.ref o114)]))
  exact P115.retR rfl rfl rfl d8_11 (by decide) (by decide) ⟨o114, rfl, gw_o114, E115, F115_name, F115_label, F115_list, F115_description⟩

def R_m_name : Room := { frames := 0, cells := 0, slots := 0, locals := 0 }
def Q_m_name (Z : State) (wv : Value) (h0 : Heap) (v : Option Value) (h : Heap) : Prop := v = some wv ∧ h = h0
set_option maxRecDepth 65536 in
set_option maxHeartbeats 40000000 in
theorem m_name (l : Launch) (Z : State) (a0 : Array Value) (hw : ∀ d ∈ tables_1, d.before a0 Z = true) (hEL : EW Z a0 EL0) (zc : Int32) (S0 : Sta Z Z.heap "java/lang/String" "COMPACT_STRINGS" "Z" (.int zc)) (Pz : ¬ zc = 0) (o : Addr) (wv : Value) (hwv : wv.isRef = true) (h0 : Heap) (hO : Ext Z.heap h0) (F : Fld Z h0 o "com/example/tegmen/tegmen/Subcommand$Option" "name" "Ljava/lang/String;" wv) :
    Con l Z EL0 [] (⟨"com/example/tegmen/tegmen/Subcommand$Option", "name", "()Ljava/lang/String;"⟩ : MethodName) prog_70_method_5_code 1 (some (.object "java/lang/String")) R_m_name #[(.ref o)] h0 [] (Q_m_name Z wv h0) := by
  refine Con.of (y := (⟨"com/example/tegmen/tegmen/Subcommand$Option", "name", "()Ljava/lang/String;"⟩ : MethodName)) (f0 := fun m => mkF m 0 #[.val (.ref o)] []) (plainFor_of_name pn_3) hEL hO (fun m => by skip <;> first | (simp [entryFrame, mkF, argsToLocals, Value.category, maxLocals]; done) | rfl) ?_
  intro p e s m below meth c s₁ P0
  show Go p e below _ (s₁.setTop (mkF m 0 #[.val (.ref o)] []))
  refine P0.xs (fun hA hx hy t k => XS.aloadN hA hx rfl (hb hy d10_0) rfl rfl  k) ?_
  show Go p e below _ (s₁.setTop (mkF m 1 #[.val (.ref o)] [(.ref o)]))
  refine P0.getF (host := "") (Or.inl (hw _ (List.mem_of_getElem? (i := 47) rfl))) Via.refl F d10_1 fun T116 P116 => ?_
  show Go p e below _ (T116.setTop (mkF m 4 #[.val (.ref o)] [wv]))
  exact P116.retR rfl rfl hwv d10_4 (by decide) (by decide) ⟨rfl, rfl⟩

def R_m_label : Room := { frames := 0, cells := 0, slots := 0, locals := 0 }
def Q_m_label (Z : State) (wv : Value) (h0 : Heap) (v : Option Value) (h : Heap) : Prop := v = some wv ∧ h = h0
set_option maxRecDepth 65536 in
set_option maxHeartbeats 40000000 in
theorem m_label (l : Launch) (Z : State) (a0 : Array Value) (hw : ∀ d ∈ tables_1, d.before a0 Z = true) (hEL : EW Z a0 EL0) (zc : Int32) (S0 : Sta Z Z.heap "java/lang/String" "COMPACT_STRINGS" "Z" (.int zc)) (Pz : ¬ zc = 0) (o : Addr) (wv : Value) (hwv : wv.isRef = true) (h0 : Heap) (hO : Ext Z.heap h0) (F : Fld Z h0 o "com/example/tegmen/tegmen/Subcommand$Option" "label" "Ljava/lang/String;" wv) :
    Con l Z EL0 [] (⟨"com/example/tegmen/tegmen/Subcommand$Option", "label", "()Ljava/lang/String;"⟩ : MethodName) prog_70_method_6_code 1 (some (.object "java/lang/String")) R_m_label #[(.ref o)] h0 [] (Q_m_label Z wv h0) := by
  refine Con.of (y := (⟨"com/example/tegmen/tegmen/Subcommand$Option", "label", "()Ljava/lang/String;"⟩ : MethodName)) (f0 := fun m => mkF m 0 #[.val (.ref o)] []) (plainFor_of_name pn_3) hEL hO (fun m => by skip <;> first | (simp [entryFrame, mkF, argsToLocals, Value.category, maxLocals]; done) | rfl) ?_
  intro p e s m below meth c s₁ P0
  show Go p e below _ (s₁.setTop (mkF m 0 #[.val (.ref o)] []))
  refine P0.xs (fun hA hx hy t k => XS.aloadN hA hx rfl (hb hy d14_0) rfl rfl  k) ?_
  show Go p e below _ (s₁.setTop (mkF m 1 #[.val (.ref o)] [(.ref o)]))
  refine P0.getF (host := "") (Or.inl (hw _ (List.mem_of_getElem? (i := 49) rfl))) Via.refl F d14_1 fun T117 P117 => ?_
  show Go p e below _ (T117.setTop (mkF m 4 #[.val (.ref o)] [wv]))
  exact P117.retR rfl rfl hwv d14_4 (by decide) (by decide) ⟨rfl, rfl⟩

def R_m_description : Room := { frames := 0, cells := 0, slots := 0, locals := 0 }
def Q_m_description (Z : State) (wv : Value) (h0 : Heap) (v : Option Value) (h : Heap) : Prop := v = some wv ∧ h = h0
set_option maxRecDepth 65536 in
set_option maxHeartbeats 40000000 in
theorem m_description (l : Launch) (Z : State) (a0 : Array Value) (hw : ∀ d ∈ tables_1, d.before a0 Z = true) (hEL : EW Z a0 EL0) (zc : Int32) (S0 : Sta Z Z.heap "java/lang/String" "COMPACT_STRINGS" "Z" (.int zc)) (Pz : ¬ zc = 0) (o : Addr) (wv : Value) (hwv : wv.isRef = true) (h0 : Heap) (hO : Ext Z.heap h0) (F : Fld Z h0 o "com/example/tegmen/tegmen/Subcommand$Option" "description" "Ljava/lang/String;" wv) :
    Con l Z EL0 [] (⟨"com/example/tegmen/tegmen/Subcommand$Option", "description", "()Ljava/lang/String;"⟩ : MethodName) prog_70_method_7_code 1 (some (.object "java/lang/String")) R_m_description #[(.ref o)] h0 [] (Q_m_description Z wv h0) := by
  refine Con.of (y := (⟨"com/example/tegmen/tegmen/Subcommand$Option", "description", "()Ljava/lang/String;"⟩ : MethodName)) (f0 := fun m => mkF m 0 #[.val (.ref o)] []) (plainFor_of_name pn_3) hEL hO (fun m => by skip <;> first | (simp [entryFrame, mkF, argsToLocals, Value.category, maxLocals]; done) | rfl) ?_
  intro p e s m below meth c s₁ P0
  show Go p e below _ (s₁.setTop (mkF m 0 #[.val (.ref o)] []))
  refine P0.xs (fun hA hx hy t k => XS.aloadN hA hx rfl (hb hy d11_0) rfl rfl  k) ?_
  show Go p e below _ (s₁.setTop (mkF m 1 #[.val (.ref o)] [(.ref o)]))
  refine P0.getF (host := "") (Or.inl (hw _ (List.mem_of_getElem? (i := 53) rfl))) Via.refl F d11_1 fun T118 P118 => ?_
  show Go p e below _ (T118.setTop (mkF m 4 #[.val (.ref o)] [wv]))
  exact P118.retR rfl rfl hwv d11_4 (by decide) (by decide) ⟨rfl, rfl⟩

def R_m_takesList : Room := { frames := 0, cells := 0, slots := 0, locals := 0 }
def Q_m_takesList (Z : State)  (h0 : Heap) (v : Option Value) (h : Heap) : Prop := v = some (.int (0 : Int32)) ∧ h = h0
set_option maxRecDepth 65536 in
set_option maxHeartbeats 40000000 in
theorem m_takesList (l : Launch) (Z : State) (a0 : Array Value) (hw : ∀ d ∈ tables_1, d.before a0 Z = true) (hEL : EW Z a0 EL0) (zc : Int32) (S0 : Sta Z Z.heap "java/lang/String" "COMPACT_STRINGS" "Z" (.int zc)) (Pz : ¬ zc = 0) (o : Addr)  (h0 : Heap) (hO : Ext Z.heap h0) (F : Fld Z h0 o "com/example/tegmen/tegmen/Subcommand$Option" "list" "Z" (.int (0 : Int32))) :
    Con l Z EL0 [] (⟨"com/example/tegmen/tegmen/Subcommand$Option", "takesList", "()Z"⟩ : MethodName) prog_70_method_9_code 1 (some .boolean) R_m_takesList #[(.ref o)] h0 [] (Q_m_takesList Z  h0) := by
  refine Con.of (y := (⟨"com/example/tegmen/tegmen/Subcommand$Option", "takesList", "()Z"⟩ : MethodName)) (f0 := fun m => mkF m 0 #[.val (.ref o)] []) (plainFor_of_name pn_3) hEL hO (fun m => by skip <;> first | (simp [entryFrame, mkF, argsToLocals, Value.category, maxLocals]; done) | rfl) ?_
  intro p e s m below meth c s₁ P0
  show Go p e below _ (s₁.setTop (mkF m 0 #[.val (.ref o)] []))
  refine P0.xs (fun hA hx hy t k => XS.aloadN hA hx rfl (hb hy d16_0) rfl rfl  k) ?_
  show Go p e below _ (s₁.setTop (mkF m 1 #[.val (.ref o)] [(.ref o)]))
  refine P0.getF (host := "") (Or.inl (hw _ (List.mem_of_getElem? (i := 51) rfl))) Via.refl F d16_1 fun T119 P119 => ?_
  show Go p e below _ (T119.setTop (mkF m 4 #[.val (.ref o)] [(.int (0 : Int32))]))
  exact P119.retN (t := .boolean) rfl (by simp) d16_4 (by decide) (by decide) ⟨rfl, rfl⟩

def R_m_tvN : Room := { frames := 0, cells := 0, slots := 0, locals := 0 }
def Q_m_tvN (Z : State)  (h0 : Heap) (v : Option Value) (h : Heap) : Prop := v = some (.int (0 : Int32)) ∧ h = h0
set_option maxRecDepth 65536 in
set_option maxHeartbeats 40000000 in
theorem m_tvN (l : Launch) (Z : State) (a0 : Array Value) (hw : ∀ d ∈ tables_1, d.before a0 Z = true) (hEL : EW Z a0 EL0) (zc : Int32) (S0 : Sta Z Z.heap "java/lang/String" "COMPACT_STRINGS" "Z" (.int zc)) (Pz : ¬ zc = 0) (o : Addr) (h0 : Heap) (hO : Ext Z.heap h0) (F : Fld Z h0 o "com/example/tegmen/tegmen/Subcommand$Option" "label" "Ljava/lang/String;" .null) :
    Con l Z EL0 [] (⟨"com/example/tegmen/tegmen/Subcommand$Option", "takesValues", "()Z"⟩ : MethodName) prog_70_method_8_code 1 (some .boolean) R_m_tvN #[(.ref o)] h0 [] (Q_m_tvN Z  h0) := by
  refine Con.of (y := (⟨"com/example/tegmen/tegmen/Subcommand$Option", "takesValues", "()Z"⟩ : MethodName)) (f0 := fun m => mkF m 0 #[.val (.ref o)] []) (plainFor_of_name pn_3) hEL hO (fun m => by skip <;> first | (simp [entryFrame, mkF, argsToLocals, Value.category, maxLocals]; done) | rfl) ?_
  intro p e s m below meth c s₁ P0
  show Go p e below _ (s₁.setTop (mkF m 0 #[.val (.ref o)] []))
  refine P0.xs (fun hA hx hy t k => XS.aloadN hA hx rfl (hb hy d15_0) rfl rfl  k) ?_
  show Go p e below _ (s₁.setTop (mkF m 1 #[.val (.ref o)] [(.ref o)]))
  refine P0.getF (host := "") (Or.inl (hw _ (List.mem_of_getElem? (i := 49) rfl))) Via.refl F d15_1 fun T120 P120 => ?_
  show Go p e below _ (T120.setTop (mkF m 4 #[.val (.ref o)] [.null]))
  refine P120.xs (fun hA hx hy t k => XS.ifnullYes hA hx rfl (pc0 := 4) (pc' := 11) rfl (hb hy d15_4) rfl (by decide) (by decide) k) ?_
  show Go p e below _ (T120.setTop (mkF m 11 #[.val (.ref o)] []))
  refine P120.xs (fun hA hx hy t k => XS.iconst hA hx rfl (hb hy d15_11) k) ?_
  show Go p e below _ (T120.setTop (mkF m 12 #[.val (.ref o)] [(.int (0 : Int32))]))
  exact P120.retN (t := .boolean) rfl (by simp) d15_12 (by decide) (by decide) ⟨rfl, rfl⟩

def R_m_tvR : Room := { frames := 0, cells := 0, slots := 0, locals := 0 }
def Q_m_tvR (Z : State)  (h0 : Heap) (v : Option Value) (h : Heap) : Prop := v = some (.int (1 : Int32)) ∧ h = h0
set_option maxRecDepth 65536 in
set_option maxHeartbeats 40000000 in
theorem m_tvR (l : Launch) (Z : State) (a0 : Array Value) (hw : ∀ d ∈ tables_1, d.before a0 Z = true) (hEL : EW Z a0 EL0) (zc : Int32) (S0 : Sta Z Z.heap "java/lang/String" "COMPACT_STRINGS" "Z" (.int zc)) (Pz : ¬ zc = 0) (o q : Addr) (h0 : Heap) (hO : Ext Z.heap h0) (F : Fld Z h0 o "com/example/tegmen/tegmen/Subcommand$Option" "label" "Ljava/lang/String;" (.ref q)) :
    Con l Z EL0 [] (⟨"com/example/tegmen/tegmen/Subcommand$Option", "takesValues", "()Z"⟩ : MethodName) prog_70_method_8_code 1 (some .boolean) R_m_tvR #[(.ref o)] h0 [] (Q_m_tvR Z  h0) := by
  refine Con.of (y := (⟨"com/example/tegmen/tegmen/Subcommand$Option", "takesValues", "()Z"⟩ : MethodName)) (f0 := fun m => mkF m 0 #[.val (.ref o)] []) (plainFor_of_name pn_3) hEL hO (fun m => by skip <;> first | (simp [entryFrame, mkF, argsToLocals, Value.category, maxLocals]; done) | rfl) ?_
  intro p e s m below meth c s₁ P0
  show Go p e below _ (s₁.setTop (mkF m 0 #[.val (.ref o)] []))
  refine P0.xs (fun hA hx hy t k => XS.aloadN hA hx rfl (hb hy d15_0) rfl rfl  k) ?_
  show Go p e below _ (s₁.setTop (mkF m 1 #[.val (.ref o)] [(.ref o)]))
  refine P0.getF (host := "") (Or.inl (hw _ (List.mem_of_getElem? (i := 49) rfl))) Via.refl F d15_1 fun T121 P121 => ?_
  show Go p e below _ (T121.setTop (mkF m 4 #[.val (.ref o)] [(.ref q)]))
  refine P121.xs (fun hA hx hy t k => XS.ifnullNo hA hx rfl (hb hy d15_4) rfl k) ?_
  show Go p e below _ (T121.setTop (mkF m 7 #[.val (.ref o)] []))
  refine P121.xs (fun hA hx hy t k => XS.iconst hA hx rfl (hb hy d15_7) k) ?_
  show Go p e below _ (T121.setTop (mkF m 8 #[.val (.ref o)] [(.int (1 : Int32))]))
  refine P121.xs (fun hA hx hy t k => XS.goto hA hx rfl (pc0 := 8) (pc' := 12) rfl (hb hy d15_8) (by decide) (by decide) k) ?_
  show Go p e below _ (T121.setTop (mkF m 12 #[.val (.ref o)] [(.int (1 : Int32))]))
  exact P121.retN (t := .boolean) rfl (by simp) d15_12 (by decide) (by decide) ⟨rfl, rfl⟩

def Q_mLaw (Z : State)  (h0 : Heap) (v : Option Value) (h : Heap) : Prop := v = some (.int 1)
set_option maxRecDepth 65536 in
set_option maxHeartbeats 40000000 in
theorem mLaw (l : Launch) (Z : State) (a0 : Array Value) (hw : ∀ d ∈ tables_1, d.before a0 Z = true) (hEL : EW Z a0 EL0) (zc : Int32) (S0 : Sta Z Z.heap "java/lang/String" "COMPACT_STRINGS" "Z" (.int zc)) (Pz : ¬ zc = 0) (p0 p1 p2 : Int32) (h0 : Heap) (hO : Ext Z.heap h0)  :
    Con l Z EL0 tables_1 x code maxLocals ret room_1 #[(.int p0), (.int p1), (.int p2)] h0 [] (Q_mLaw Z  h0) := by
  refine Con.of (y := (⟨"com/example/tegmen/tegmen/OptionFlagPinLaw", "law", "(III)Z"⟩ : MethodName)) (f0 := fun m => mkF m 0 #[.val (.int p0), .val (.int p1), .val (.int p2), .unset, .unset, .unset, .unset, .unset, .unset, .unset, .unset, .unset] []) (plainFor_of_name pn_2) hEL hO (fun m => by skip <;> first | (simp [entryFrame, mkF, argsToLocals, Value.category, maxLocals]; done) | rfl) ?_
  intro p e s m below meth c s₁ P0
  show Go p e below _ (s₁.setTop (mkF m 0 #[.val (.int p0), .val (.int p1), .val (.int p2), .unset, .unset, .unset, .unset, .unset, .unset, .unset, .unset, .unset] []))
  refine P0.xs (fun hA hx hy t k => XS.iloadN hA hx rfl (hb hy at_0) rfl  k) ?_
  show Go p e below _ (s₁.setTop (mkF m 1 #[.val (.int p0), .val (.int p1), .val (.int p2), .unset, .unset, .unset, .unset, .unset, .unset, .unset, .unset, .unset] [(.int p2)]))
  refine P0.xs (fun hA hx hy t k => XS.iconst hA hx rfl (hb hy at_1) k) ?_
  show Go p e below _ (s₁.setTop (mkF m 2 #[.val (.int p0), .val (.int p1), .val (.int p2), .unset, .unset, .unset, .unset, .unset, .unset, .unset, .unset, .unset] [(.int (3 : Int32)), (.int p2)]))
  refine P0.xs (fun hA hx hy t k => XS.iand hA hx rfl (hb hy at_2) rfl k) ?_
  show Go p e below _ (s₁.setTop (mkF m 3 #[.val (.int p0), .val (.int p1), .val (.int p2), .unset, .unset, .unset, .unset, .unset, .unset, .unset, .unset, .unset] [(.int (p2 &&& (3 : Int32)))]))
  generalize hna : (p2 &&& (3 : Int32)) = na
  refine P0.xs (fun hA hx hy t k => XS.istoreN hA hx rfl (hb hy at_3) rfl (l' := #[.val (.int p0), .val (.int p1), .val (.int p2), .val (.int na), .unset, .unset, .unset, .unset, .unset, .unset, .unset, .unset]) rfl k) ?_
  show Go p e below _ (s₁.setTop (mkF m 4 #[.val (.int p0), .val (.int p1), .val (.int p2), .val (.int na), .unset, .unset, .unset, .unset, .unset, .unset, .unset, .unset] []))
  refine P0.xs (fun hA hx hy t k => XS.iloadN hA hx rfl (hb hy at_4) rfl  k) ?_
  show Go p e below _ (s₁.setTop (mkF m 5 #[.val (.int p0), .val (.int p1), .val (.int p2), .val (.int na), .unset, .unset, .unset, .unset, .unset, .unset, .unset, .unset] [(.int p2)]))
  refine P0.xs (fun hA hx hy t k => XS.iconst hA hx rfl (hb hy at_5) k) ?_
  show Go p e below _ (s₁.setTop (mkF m 6 #[.val (.int p0), .val (.int p1), .val (.int p2), .val (.int na), .unset, .unset, .unset, .unset, .unset, .unset, .unset, .unset] [(.int (2 : Int32)), (.int p2)]))
  refine P0.xs (fun hA hx hy t k => XS.iushr hA hx rfl (hb hy at_6) rfl k) ?_
  show Go p e below _ (s₁.setTop (mkF m 7 #[.val (.int p0), .val (.int p1), .val (.int p2), .val (.int na), .unset, .unset, .unset, .unset, .unset, .unset, .unset, .unset] [(.int ((p2.toUInt32 >>> ((2 : Int32) &&& 31).toUInt32).toInt32))]))
  refine P0.xs (fun hA hx hy t k => XS.iconst hA hx rfl (hb hy at_7) k) ?_
  show Go p e below _ (s₁.setTop (mkF m 8 #[.val (.int p0), .val (.int p1), .val (.int p2), .val (.int na), .unset, .unset, .unset, .unset, .unset, .unset, .unset, .unset] [(.int (3 : Int32)), (.int ((p2.toUInt32 >>> ((2 : Int32) &&& 31).toUInt32).toInt32))]))
  refine P0.xs (fun hA hx hy t k => XS.iand hA hx rfl (hb hy at_8) rfl k) ?_
  show Go p e below _ (s₁.setTop (mkF m 9 #[.val (.int p0), .val (.int p1), .val (.int p2), .val (.int na), .unset, .unset, .unset, .unset, .unset, .unset, .unset, .unset] [(.int (((p2.toUInt32 >>> ((2 : Int32) &&& 31).toUInt32).toInt32) &&& (3 : Int32)))]))
  generalize hnb : (((p2.toUInt32 >>> ((2 : Int32) &&& 31).toUInt32).toInt32) &&& (3 : Int32)) = nb
  refine P0.xs (fun hA hx hy t k => XS.istore hA hx rfl (hb hy at_9) rfl (l' := #[.val (.int p0), .val (.int p1), .val (.int p2), .val (.int na), .val (.int nb), .unset, .unset, .unset, .unset, .unset, .unset, .unset]) rfl k) ?_
  show Go p e below _ (s₁.setTop (mkF m 11 #[.val (.int p0), .val (.int p1), .val (.int p2), .val (.int na), .val (.int nb), .unset, .unset, .unset, .unset, .unset, .unset, .unset] []))
  refine P0.xs (fun hA hx hy t k => XS.iloadN hA hx rfl (hb hy at_11) rfl  k) ?_
  show Go p e below _ (s₁.setTop (mkF m 12 #[.val (.int p0), .val (.int p1), .val (.int p2), .val (.int na), .val (.int nb), .unset, .unset, .unset, .unset, .unset, .unset, .unset] [(.int na)]))
  refine P0.xs (fun hA hx hy t k => XS.iloadN hA hx rfl (hb hy at_12) rfl  k) ?_
  show Go p e below _ (s₁.setTop (mkF m 13 #[.val (.int p0), .val (.int p1), .val (.int p2), .val (.int na), .val (.int nb), .unset, .unset, .unset, .unset, .unset, .unset, .unset] [(.int p0), (.int na)]))
  refine P0.callS (hw _ (List.mem_of_getElem? (i := 0) rfl)) (hw _ (List.mem_of_getElem? (i := 1) rfl)) (hw _ (List.mem_of_getElem? (i := 2) rfl)) (hw _ (List.mem_of_getElem? (i := 3) rfl)) (by decide) (mStr l Z a0 hw hEL zc S0 Pz na p0 h0 P0.old) (W := 0) (by decide) (by decide) (by decide) (by decide) all0 pd_7 (argsL := [(.int na), (.int p0)]) rfl rfl rfl (Nat.le_of_eq rfl) at_13 fun v122 T122 h122 P122 K122 Q122 => ?_
  obtain ⟨o122, rfl, g122, E122⟩ := Q122
  have gz_o122 : Z.heap.size ≤ o122 := Nat.le_trans P0.old.1 g122
  have gw_o122 : h0.size ≤ o122 := Nat.le_trans P0.kept.1 g122
  show Go p e below _ (T122.setTop (mkF m 16 #[.val (.int p0), .val (.int p1), .val (.int p2), .val (.int na), .val (.int nb), .unset, .unset, .unset, .unset, .unset, .unset, .unset] [(.ref o122)]))
  refine P122.xs (fun hA hx hy t k => XS.astore hA hx rfl (hb hy at_16) rfl rfl (l' := #[.val (.int p0), .val (.int p1), .val (.int p2), .val (.int na), .val (.int nb), .val (.ref o122), .unset, .unset, .unset, .unset, .unset, .unset]) rfl k) ?_
  show Go p e below _ (T122.setTop (mkF m 18 #[.val (.int p0), .val (.int p1), .val (.int p2), .val (.int na), .val (.int nb), .val (.ref o122), .unset, .unset, .unset, .unset, .unset, .unset] []))
  refine P122.xs (fun hA hx hy t k => XS.iload hA hx rfl (hb hy at_18) rfl  k) ?_
  show Go p e below _ (T122.setTop (mkF m 20 #[.val (.int p0), .val (.int p1), .val (.int p2), .val (.int na), .val (.int nb), .val (.ref o122), .unset, .unset, .unset, .unset, .unset, .unset] [(.int nb)]))
  refine P122.xs (fun hA hx hy t k => XS.iloadN hA hx rfl (hb hy at_20) rfl  k) ?_
  show Go p e below _ (T122.setTop (mkF m 21 #[.val (.int p0), .val (.int p1), .val (.int p2), .val (.int na), .val (.int nb), .val (.ref o122), .unset, .unset, .unset, .unset, .unset, .unset] [(.int p1), (.int nb)]))
  have Ec124 : Exa Z h122 o122 "java/lang/String" := E122.1
  refine P122.callS (hw _ (List.mem_of_getElem? (i := 0) rfl)) (hw _ (List.mem_of_getElem? (i := 1) rfl)) (hw _ (List.mem_of_getElem? (i := 2) rfl)) (hw _ (List.mem_of_getElem? (i := 3) rfl)) (by decide) (mStr l Z a0 hw hEL zc S0 Pz nb p1 h122 P122.old) (W := 0) (by decide) (by decide) (by decide) (by decide) all0 pd_7 (argsL := [(.int nb), (.int p1)]) rfl rfl rfl (Nat.le_of_eq rfl) at_21 fun v123 T123 h123 P123 K123 Q123 => ?_
  obtain ⟨o123, rfl, g123, E123⟩ := Q123
  have ne_o122_o123 : o122 ≠ o123 := Nat.ne_of_lt (Nat.lt_of_lt_of_le Ec124.lt g123)
  have gz_o123 : Z.heap.size ≤ o123 := Nat.le_trans P122.old.1 g123
  have gw_o123 : h0.size ≤ o123 := Nat.le_trans P122.kept.1 g123
  show Go p e below _ (T123.setTop (mkF m 24 #[.val (.int p0), .val (.int p1), .val (.int p2), .val (.int na), .val (.int nb), .val (.ref o122), .unset, .unset, .unset, .unset, .unset, .unset] [(.ref o123)]))
  refine P123.xs (fun hA hx hy t k => XS.astore hA hx rfl (hb hy at_24) rfl rfl (l' := #[.val (.int p0), .val (.int p1), .val (.int p2), .val (.int na), .val (.int nb), .val (.ref o122), .val (.ref o123), .unset, .unset, .unset, .unset, .unset]) rfl k) ?_
  show Go p e below _ (T123.setTop (mkF m 26 #[.val (.int p0), .val (.int p1), .val (.int p2), .val (.int na), .val (.int nb), .val (.ref o122), .val (.ref o123), .unset, .unset, .unset, .unset, .unset] []))
  refine P123.xs (fun hA hx hy t k => XS.iloadN hA hx rfl (hb hy at_26) rfl  k) ?_
  show Go p e below _ (T123.setTop (mkF m 27 #[.val (.int p0), .val (.int p1), .val (.int p2), .val (.int na), .val (.int nb), .val (.ref o122), .val (.ref o123), .unset, .unset, .unset, .unset, .unset] [(.int na)]))
  refine P123.xs (fun hA hx hy t k => XS.iloadN hA hx rfl (hb hy at_27) rfl  k) ?_
  show Go p e below _ (T123.setTop (mkF m 28 #[.val (.int p0), .val (.int p1), .val (.int p2), .val (.int na), .val (.int nb), .val (.ref o122), .val (.ref o123), .unset, .unset, .unset, .unset, .unset] [(.int p0), (.int na)]))
  have Ec126 : Exa Z h123 o122 "java/lang/String" := (Ec124.keep K123)
  have Ec127 : Exa Z h123 o123 "java/lang/String" := E123.1
  have Sc128 : Str Z h123 o122 (cs3 na ((p0 &&& (255 : Int32)).toUInt32.toUInt16.toUInt32.toInt32) ((((p0.toUInt32 >>> ((8 : Int32) &&& 31).toUInt32).toInt32) &&& (255 : Int32)).toUInt32.toUInt16.toUInt32.toInt32) ((((p0.toUInt32 >>> ((16 : Int32) &&& 31).toUInt32).toInt32) &&& (255 : Int32)).toUInt32.toUInt16.toUInt32.toInt32)) := (E122.keep K123 all0)
  refine P123.callS (hw _ (List.mem_of_getElem? (i := 0) rfl)) (hw _ (List.mem_of_getElem? (i := 1) rfl)) (hw _ (List.mem_of_getElem? (i := 2) rfl)) (hw _ (List.mem_of_getElem? (i := 3) rfl)) (by decide) (mStr l Z a0 hw hEL zc S0 Pz na p0 h123 P123.old) (W := 0) (by decide) (by decide) (by decide) (by decide) all0 pd_7 (argsL := [(.int na), (.int p0)]) rfl rfl rfl (Nat.le_of_eq rfl) at_28 fun v125 T125 h125 P125 K125 Q125 => ?_
  obtain ⟨o125, rfl, g125, E125⟩ := Q125
  have ne_o122_o125 : o122 ≠ o125 := Nat.ne_of_lt (Nat.lt_of_lt_of_le Ec126.lt g125)
  have ne_o123_o125 : o123 ≠ o125 := Nat.ne_of_lt (Nat.lt_of_lt_of_le Ec127.lt g125)
  have gz_o125 : Z.heap.size ≤ o125 := Nat.le_trans P123.old.1 g125
  have gw_o125 : h0.size ≤ o125 := Nat.le_trans P123.kept.1 g125
  show Go p e below _ (T125.setTop (mkF m 31 #[.val (.int p0), .val (.int p1), .val (.int p2), .val (.int na), .val (.int nb), .val (.ref o122), .val (.ref o123), .unset, .unset, .unset, .unset, .unset] [(.ref o125)]))
  refine P125.xs (fun hA hx hy t k => XS.astore hA hx rfl (hb hy at_31) rfl rfl (l' := #[.val (.int p0), .val (.int p1), .val (.int p2), .val (.int na), .val (.int nb), .val (.ref o122), .val (.ref o123), .val (.ref o125), .unset, .unset, .unset, .unset]) rfl k) ?_
  show Go p e below _ (T125.setTop (mkF m 33 #[.val (.int p0), .val (.int p1), .val (.int p2), .val (.int na), .val (.int nb), .val (.ref o122), .val (.ref o123), .val (.ref o125), .unset, .unset, .unset, .unset] []))
  refine P125.xs (fun hA hx hy t k => XS.iload hA hx rfl (hb hy at_33) rfl  k) ?_
  show Go p e below _ (T125.setTop (mkF m 35 #[.val (.int p0), .val (.int p1), .val (.int p2), .val (.int na), .val (.int nb), .val (.ref o122), .val (.ref o123), .val (.ref o125), .unset, .unset, .unset, .unset] [(.int nb)]))
  refine P125.xs (fun hA hx hy t k => XS.iloadN hA hx rfl (hb hy at_35) rfl  k) ?_
  show Go p e below _ (T125.setTop (mkF m 36 #[.val (.int p0), .val (.int p1), .val (.int p2), .val (.int na), .val (.int nb), .val (.ref o122), .val (.ref o123), .val (.ref o125), .unset, .unset, .unset, .unset] [(.int p1), (.int nb)]))
  have Ec130 : Exa Z h125 o122 "java/lang/String" := (Ec126.keep K125)
  have Ec131 : Exa Z h125 o123 "java/lang/String" := (Ec127.keep K125)
  have Ec132 : Exa Z h125 o125 "java/lang/String" := E125.1
  have Sc133 : Str Z h125 o122 (cs3 na ((p0 &&& (255 : Int32)).toUInt32.toUInt16.toUInt32.toInt32) ((((p0.toUInt32 >>> ((8 : Int32) &&& 31).toUInt32).toInt32) &&& (255 : Int32)).toUInt32.toUInt16.toUInt32.toInt32) ((((p0.toUInt32 >>> ((16 : Int32) &&& 31).toUInt32).toInt32) &&& (255 : Int32)).toUInt32.toUInt16.toUInt32.toInt32)) := (Sc128.keep K125 all0)
  have Sc134 : Str Z h125 o123 (cs3 nb ((p1 &&& (255 : Int32)).toUInt32.toUInt16.toUInt32.toInt32) ((((p1.toUInt32 >>> ((8 : Int32) &&& 31).toUInt32).toInt32) &&& (255 : Int32)).toUInt32.toUInt16.toUInt32.toInt32) ((((p1.toUInt32 >>> ((16 : Int32) &&& 31).toUInt32).toInt32) &&& (255 : Int32)).toUInt32.toUInt16.toUInt32.toInt32)) := (E123.keep K125 all0)
  refine P125.callS (hw _ (List.mem_of_getElem? (i := 0) rfl)) (hw _ (List.mem_of_getElem? (i := 1) rfl)) (hw _ (List.mem_of_getElem? (i := 2) rfl)) (hw _ (List.mem_of_getElem? (i := 3) rfl)) (by decide) (mStr l Z a0 hw hEL zc S0 Pz nb p1 h125 P125.old) (W := 0) (by decide) (by decide) (by decide) (by decide) all0 pd_7 (argsL := [(.int nb), (.int p1)]) rfl rfl rfl (Nat.le_of_eq rfl) at_36 fun v129 T129 h129 P129 K129 Q129 => ?_
  obtain ⟨o129, rfl, g129, E129⟩ := Q129
  have ne_o122_o129 : o122 ≠ o129 := Nat.ne_of_lt (Nat.lt_of_lt_of_le Ec130.lt g129)
  have ne_o123_o129 : o123 ≠ o129 := Nat.ne_of_lt (Nat.lt_of_lt_of_le Ec131.lt g129)
  have ne_o125_o129 : o125 ≠ o129 := Nat.ne_of_lt (Nat.lt_of_lt_of_le Ec132.lt g129)
  have gz_o129 : Z.heap.size ≤ o129 := Nat.le_trans P125.old.1 g129
  have gw_o129 : h0.size ≤ o129 := Nat.le_trans P125.kept.1 g129
  show Go p e below _ (T129.setTop (mkF m 39 #[.val (.int p0), .val (.int p1), .val (.int p2), .val (.int na), .val (.int nb), .val (.ref o122), .val (.ref o123), .val (.ref o125), .unset, .unset, .unset, .unset] [(.ref o129)]))
  refine P129.xs (fun hA hx hy t k => XS.astore hA hx rfl (hb hy at_39) rfl rfl (l' := #[.val (.int p0), .val (.int p1), .val (.int p2), .val (.int na), .val (.int nb), .val (.ref o122), .val (.ref o123), .val (.ref o125), .val (.ref o129), .unset, .unset, .unset]) rfl k) ?_
  show Go p e below _ (T129.setTop (mkF m 41 #[.val (.int p0), .val (.int p1), .val (.int p2), .val (.int na), .val (.int nb), .val (.ref o122), .val (.ref o123), .val (.ref o125), .val (.ref o129), .unset, .unset, .unset] []))
  refine P129.xs (fun hA hx hy t k => XS.aload hA hx rfl (hb hy at_41) rfl rfl  k) ?_
  show Go p e below _ (T129.setTop (mkF m 43 #[.val (.int p0), .val (.int p1), .val (.int p2), .val (.int na), .val (.int nb), .val (.ref o122), .val (.ref o123), .val (.ref o125), .val (.ref o129), .unset, .unset, .unset] [(.ref o122)]))
  refine P129.xs (fun hA hx hy t k => XS.aload hA hx rfl (hb hy at_43) rfl rfl  k) ?_
  show Go p e below _ (T129.setTop (mkF m 45 #[.val (.int p0), .val (.int p1), .val (.int p2), .val (.int na), .val (.int nb), .val (.ref o122), .val (.ref o123), .val (.ref o125), .val (.ref o129), .unset, .unset, .unset] [(.ref o123), (.ref o122)]))
  have Ec136 : Exa Z h129 o122 "java/lang/String" := (Ec130.keep K129)
  have Ec137 : Exa Z h129 o123 "java/lang/String" := (Ec131.keep K129)
  have Ec138 : Exa Z h129 o125 "java/lang/String" := (Ec132.keep K129)
  have Ec139 : Exa Z h129 o129 "java/lang/String" := E129.1
  have Sc140 : Str Z h129 o122 (cs3 na ((p0 &&& (255 : Int32)).toUInt32.toUInt16.toUInt32.toInt32) ((((p0.toUInt32 >>> ((8 : Int32) &&& 31).toUInt32).toInt32) &&& (255 : Int32)).toUInt32.toUInt16.toUInt32.toInt32) ((((p0.toUInt32 >>> ((16 : Int32) &&& 31).toUInt32).toInt32) &&& (255 : Int32)).toUInt32.toUInt16.toUInt32.toInt32)) := (Sc133.keep K129 all0)
  have Sc141 : Str Z h129 o123 (cs3 nb ((p1 &&& (255 : Int32)).toUInt32.toUInt16.toUInt32.toInt32) ((((p1.toUInt32 >>> ((8 : Int32) &&& 31).toUInt32).toInt32) &&& (255 : Int32)).toUInt32.toUInt16.toUInt32.toInt32) ((((p1.toUInt32 >>> ((16 : Int32) &&& 31).toUInt32).toInt32) &&& (255 : Int32)).toUInt32.toUInt16.toUInt32.toInt32)) := (Sc134.keep K129 all0)
  have Sc142 : Str Z h129 o125 (cs3 na ((p0 &&& (255 : Int32)).toUInt32.toUInt16.toUInt32.toInt32) ((((p0.toUInt32 >>> ((8 : Int32) &&& 31).toUInt32).toInt32) &&& (255 : Int32)).toUInt32.toUInt16.toUInt32.toInt32) ((((p0.toUInt32 >>> ((16 : Int32) &&& 31).toUInt32).toInt32) &&& (255 : Int32)).toUInt32.toUInt16.toUInt32.toInt32)) := (E125.keep K129 all0)
  refine P129.callS (hw _ (List.mem_of_getElem? (i := 37) rfl)) (hw _ (List.mem_of_getElem? (i := 38) rfl)) (hw _ (List.mem_of_getElem? (i := 39) rfl)) (hw _ (List.mem_of_getElem? (i := 40) rfl)) (by decide) (mMake l Z a0 hw hEL zc S0 Pz o122 o123 h129 P129.old) (W := 0) (by decide) (by decide) (by decide) (by decide) all0 pd_8 (argsL := [(.ref o122), (.ref o123)]) rfl rfl rfl (Nat.le_of_eq rfl) at_45 fun v135 T135 h135 P135 K135 Q135 => ?_
  obtain ⟨o135, rfl, g135, E135, F135_name, F135_label, F135_list, F135_description⟩ := Q135
  have ne_o122_o135 : o122 ≠ o135 := Nat.ne_of_lt (Nat.lt_of_lt_of_le Ec136.lt g135)
  have ne_o123_o135 : o123 ≠ o135 := Nat.ne_of_lt (Nat.lt_of_lt_of_le Ec137.lt g135)
  have ne_o125_o135 : o125 ≠ o135 := Nat.ne_of_lt (Nat.lt_of_lt_of_le Ec138.lt g135)
  have ne_o129_o135 : o129 ≠ o135 := Nat.ne_of_lt (Nat.lt_of_lt_of_le Ec139.lt g135)
  have gz_o135 : Z.heap.size ≤ o135 := Nat.le_trans P129.old.1 g135
  have gw_o135 : h0.size ≤ o135 := Nat.le_trans P129.kept.1 g135
  show Go p e below _ (T135.setTop (mkF m 48 #[.val (.int p0), .val (.int p1), .val (.int p2), .val (.int na), .val (.int nb), .val (.ref o122), .val (.ref o123), .val (.ref o125), .val (.ref o129), .unset, .unset, .unset] [(.ref o135)]))
  refine P135.xs (fun hA hx hy t k => XS.astore hA hx rfl (hb hy at_48) rfl rfl (l' := #[.val (.int p0), .val (.int p1), .val (.int p2), .val (.int na), .val (.int nb), .val (.ref o122), .val (.ref o123), .val (.ref o125), .val (.ref o129), .val (.ref o135), .unset, .unset]) rfl k) ?_
  show Go p e below _ (T135.setTop (mkF m 50 #[.val (.int p0), .val (.int p1), .val (.int p2), .val (.int na), .val (.int nb), .val (.ref o122), .val (.ref o123), .val (.ref o125), .val (.ref o129), .val (.ref o135), .unset, .unset] []))
  refine P135.xs (fun hA hx hy t k => XS.aload hA hx rfl (hb hy at_50) rfl rfl  k) ?_
  show Go p e below _ (T135.setTop (mkF m 52 #[.val (.int p0), .val (.int p1), .val (.int p2), .val (.int na), .val (.int nb), .val (.ref o122), .val (.ref o123), .val (.ref o125), .val (.ref o129), .val (.ref o135), .unset, .unset] [(.ref o135)]))
  refine P135.xs (fun hA hx hy t k => XS.ifnonnullYes hA hx rfl (pc0 := 52) (pc' := 57) rfl (hb hy at_52) rfl (by decide) (by decide) k) ?_
  show Go p e below _ (T135.setTop (mkF m 57 #[.val (.int p0), .val (.int p1), .val (.int p2), .val (.int na), .val (.int nb), .val (.ref o122), .val (.ref o123), .val (.ref o125), .val (.ref o129), .val (.ref o135), .unset, .unset] []))
  refine P135.xs (fun hA hx hy t k => XS.aload hA hx rfl (hb hy at_57) rfl rfl  k) ?_
  show Go p e below _ (T135.setTop (mkF m 59 #[.val (.int p0), .val (.int p1), .val (.int p2), .val (.int na), .val (.int nb), .val (.ref o122), .val (.ref o123), .val (.ref o125), .val (.ref o129), .val (.ref o135), .unset, .unset] [(.ref o135)]))
  have Ec144 : Exa Z h135 o122 "java/lang/String" := (Ec136.keep K135)
  have Ec145 : Exa Z h135 o123 "java/lang/String" := (Ec137.keep K135)
  have Ec146 : Exa Z h135 o125 "java/lang/String" := (Ec138.keep K135)
  have Ec147 : Exa Z h135 o129 "java/lang/String" := (Ec139.keep K135)
  have Sc148 : Str Z h135 o122 (cs3 na ((p0 &&& (255 : Int32)).toUInt32.toUInt16.toUInt32.toInt32) ((((p0.toUInt32 >>> ((8 : Int32) &&& 31).toUInt32).toInt32) &&& (255 : Int32)).toUInt32.toUInt16.toUInt32.toInt32) ((((p0.toUInt32 >>> ((16 : Int32) &&& 31).toUInt32).toInt32) &&& (255 : Int32)).toUInt32.toUInt16.toUInt32.toInt32)) := (Sc140.keep K135 all0)
  have Sc149 : Str Z h135 o123 (cs3 nb ((p1 &&& (255 : Int32)).toUInt32.toUInt16.toUInt32.toInt32) ((((p1.toUInt32 >>> ((8 : Int32) &&& 31).toUInt32).toInt32) &&& (255 : Int32)).toUInt32.toUInt16.toUInt32.toInt32) ((((p1.toUInt32 >>> ((16 : Int32) &&& 31).toUInt32).toInt32) &&& (255 : Int32)).toUInt32.toUInt16.toUInt32.toInt32)) := (Sc141.keep K135 all0)
  have Sc150 : Str Z h135 o125 (cs3 na ((p0 &&& (255 : Int32)).toUInt32.toUInt16.toUInt32.toInt32) ((((p0.toUInt32 >>> ((8 : Int32) &&& 31).toUInt32).toInt32) &&& (255 : Int32)).toUInt32.toUInt16.toUInt32.toInt32) ((((p0.toUInt32 >>> ((16 : Int32) &&& 31).toUInt32).toInt32) &&& (255 : Int32)).toUInt32.toUInt16.toUInt32.toInt32)) := (Sc142.keep K135 all0)
  have Sc151 : Str Z h135 o129 (cs3 nb ((p1 &&& (255 : Int32)).toUInt32.toUInt16.toUInt32.toInt32) ((((p1.toUInt32 >>> ((8 : Int32) &&& 31).toUInt32).toInt32) &&& (255 : Int32)).toUInt32.toUInt16.toUInt32.toInt32) ((((p1.toUInt32 >>> ((16 : Int32) &&& 31).toUInt32).toInt32) &&& (255 : Int32)).toUInt32.toUInt16.toUInt32.toInt32)) := (E129.keep K135 all0)
  refine P135.callV (hw _ (List.mem_of_getElem? (i := 55) rfl)) (hw _ (List.mem_of_getElem? (i := 56) rfl)) (hw _ (List.mem_of_getElem? (i := 58) rfl)) (nfOf (hw _ (List.mem_of_getElem? (i := 58) rfl))) (hw _ (List.mem_of_getElem? (i := 57) rfl)) (hw _ (List.mem_of_getElem? (i := 39) rfl)) (hw _ (List.mem_of_getElem? (i := 59) rfl)) (by decide) E135 (m_name l Z a0 hw hEL zc S0 Pz o135 (.ref o122) rfl h135 P135.old F135_name) (W := 0) (by decide) (by decide) (by decide) (by decide) all0 pd_9 (argsL := []) rfl rfl rfl (Nat.le_of_eq rfl) at_59 fun v143 T143 h143 P143 K143 Q143 => ?_
  obtain ⟨hv143, hh143⟩ := Q143
  subst hv143
  rw [hh143] at P143
  show Go p e below _ (T143.setTop (mkF m 62 #[.val (.int p0), .val (.int p1), .val (.int p2), .val (.int na), .val (.int nb), .val (.ref o122), .val (.ref o123), .val (.ref o125), .val (.ref o129), .val (.ref o135), .unset, .unset] [(.ref o122)]))
  refine P143.xs (fun hA hx hy t k => XS.astore hA hx rfl (hb hy at_62) rfl rfl (l' := #[.val (.int p0), .val (.int p1), .val (.int p2), .val (.int na), .val (.int nb), .val (.ref o122), .val (.ref o123), .val (.ref o125), .val (.ref o129), .val (.ref o135), .val (.ref o122), .unset]) rfl k) ?_
  show Go p e below _ (T143.setTop (mkF m 64 #[.val (.int p0), .val (.int p1), .val (.int p2), .val (.int na), .val (.int nb), .val (.ref o122), .val (.ref o123), .val (.ref o125), .val (.ref o129), .val (.ref o135), .val (.ref o122), .unset] []))
  refine P143.xs (fun hA hx hy t k => XS.aload hA hx rfl (hb hy at_64) rfl rfl  k) ?_
  show Go p e below _ (T143.setTop (mkF m 66 #[.val (.int p0), .val (.int p1), .val (.int p2), .val (.int na), .val (.int nb), .val (.ref o122), .val (.ref o123), .val (.ref o125), .val (.ref o129), .val (.ref o135), .val (.ref o122), .unset] [(.ref o135)]))
  refine P143.callV (hw _ (List.mem_of_getElem? (i := 60) rfl)) (hw _ (List.mem_of_getElem? (i := 61) rfl)) (hw _ (List.mem_of_getElem? (i := 63) rfl)) (nfOf (hw _ (List.mem_of_getElem? (i := 63) rfl))) (hw _ (List.mem_of_getElem? (i := 62) rfl)) (hw _ (List.mem_of_getElem? (i := 39) rfl)) (hw _ (List.mem_of_getElem? (i := 64) rfl)) (by decide) E135 (m_description l Z a0 hw hEL zc S0 Pz o135 (.ref o123) rfl h135 P143.old F135_description) (W := 0) (by decide) (by decide) (by decide) (by decide) all0 pd_9 (argsL := []) rfl rfl rfl (Nat.le_of_eq rfl) at_66 fun v152 T152 h152 P152 K152 Q152 => ?_
  obtain ⟨hv152, hh152⟩ := Q152
  subst hv152
  rw [hh152] at P152
  show Go p e below _ (T152.setTop (mkF m 69 #[.val (.int p0), .val (.int p1), .val (.int p2), .val (.int na), .val (.int nb), .val (.ref o122), .val (.ref o123), .val (.ref o125), .val (.ref o129), .val (.ref o135), .val (.ref o122), .unset] [(.ref o123)]))
  refine P152.xs (fun hA hx hy t k => XS.astore hA hx rfl (hb hy at_69) rfl rfl (l' := #[.val (.int p0), .val (.int p1), .val (.int p2), .val (.int na), .val (.int nb), .val (.ref o122), .val (.ref o123), .val (.ref o125), .val (.ref o129), .val (.ref o135), .val (.ref o122), .val (.ref o123)]) rfl k) ?_
  show Go p e below _ (T152.setTop (mkF m 71 #[.val (.int p0), .val (.int p1), .val (.int p2), .val (.int na), .val (.int nb), .val (.ref o122), .val (.ref o123), .val (.ref o125), .val (.ref o129), .val (.ref o135), .val (.ref o122), .val (.ref o123)] []))
  refine P152.xs (fun hA hx hy t k => XS.aload hA hx rfl (hb hy at_71) rfl rfl  k) ?_
  show Go p e below _ (T152.setTop (mkF m 73 #[.val (.int p0), .val (.int p1), .val (.int p2), .val (.int na), .val (.int nb), .val (.ref o122), .val (.ref o123), .val (.ref o125), .val (.ref o129), .val (.ref o135), .val (.ref o122), .val (.ref o123)] [(.ref o122)]))
  refine P152.xs (fun hA hx hy t k => XS.ifnullNo hA hx rfl (hb hy at_73) rfl k) ?_
  show Go p e below _ (T152.setTop (mkF m 76 #[.val (.int p0), .val (.int p1), .val (.int p2), .val (.int na), .val (.int nb), .val (.ref o122), .val (.ref o123), .val (.ref o125), .val (.ref o129), .val (.ref o135), .val (.ref o122), .val (.ref o123)] []))
  refine P152.xs (fun hA hx hy t k => XS.aload hA hx rfl (hb hy at_76) rfl rfl  k) ?_
  show Go p e below _ (T152.setTop (mkF m 78 #[.val (.int p0), .val (.int p1), .val (.int p2), .val (.int na), .val (.int nb), .val (.ref o122), .val (.ref o123), .val (.ref o125), .val (.ref o129), .val (.ref o135), .val (.ref o122), .val (.ref o123)] [(.ref o123)]))
  refine P152.xs (fun hA hx hy t k => XS.ifnonnullYes hA hx rfl (pc0 := 78) (pc' := 83) rfl (hb hy at_78) rfl (by decide) (by decide) k) ?_
  show Go p e below _ (T152.setTop (mkF m 83 #[.val (.int p0), .val (.int p1), .val (.int p2), .val (.int na), .val (.int nb), .val (.ref o122), .val (.ref o123), .val (.ref o125), .val (.ref o129), .val (.ref o135), .val (.ref o122), .val (.ref o123)] []))
  refine P152.xs (fun hA hx hy t k => XS.aload hA hx rfl (hb hy at_83) rfl rfl  k) ?_
  show Go p e below _ (T152.setTop (mkF m 85 #[.val (.int p0), .val (.int p1), .val (.int p2), .val (.int na), .val (.int nb), .val (.ref o122), .val (.ref o123), .val (.ref o125), .val (.ref o129), .val (.ref o135), .val (.ref o122), .val (.ref o123)] [(.ref o122)]))
  refine P152.xs (fun hA hx hy t k => XS.aload hA hx rfl (hb hy at_85) rfl rfl  k) ?_
  show Go p e below _ (T152.setTop (mkF m 87 #[.val (.int p0), .val (.int p1), .val (.int p2), .val (.int na), .val (.int nb), .val (.ref o122), .val (.ref o123), .val (.ref o125), .val (.ref o129), .val (.ref o135), .val (.ref o122), .val (.ref o123)] [(.ref o125), (.ref o122)]))
  refine P152.strEq (W := 0) (hw _ (List.mem_of_getElem? (i := 65) rfl)) (hw _ (List.mem_of_getElem? (i := 66) rfl)) (hw _ (List.mem_of_getElem? (i := 68) rfl)) (nfOf (hw _ (List.mem_of_getElem? (i := 68) rfl))) (hw _ (List.mem_of_getElem? (i := 67) rfl)) (by decide) (wEq hw) (hw _ (List.mem_of_getElem? (i := 5) rfl)) S0 Pz Sc148 Sc150 (by decide) (by decide) (by decide) (by decide) pd_10 rfl rfl (Nat.le_of_eq rfl) at_87 (fun T153 P153 _ => ?_) (fun _ _ q => absurd rfl q)
  show Go p e below _ (T153.setTop (mkF m 90 #[.val (.int p0), .val (.int p1), .val (.int p2), .val (.int na), .val (.int nb), .val (.ref o122), .val (.ref o123), .val (.ref o125), .val (.ref o129), .val (.ref o135), .val (.ref o122), .val (.ref o123)] [(.int (1 : Int32))]))
  refine P153.xs (fun hA hx hy t k => XS.ifNo hA hx rfl (hb hy at_90) rfl ((if0 _ _).trans (feq (by decide)).1) k) ?_
  show Go p e below _ (T153.setTop (mkF m 93 #[.val (.int p0), .val (.int p1), .val (.int p2), .val (.int na), .val (.int nb), .val (.ref o122), .val (.ref o123), .val (.ref o125), .val (.ref o129), .val (.ref o135), .val (.ref o122), .val (.ref o123)] []))
  refine P153.xs (fun hA hx hy t k => XS.aload hA hx rfl (hb hy at_93) rfl rfl  k) ?_
  show Go p e below _ (T153.setTop (mkF m 95 #[.val (.int p0), .val (.int p1), .val (.int p2), .val (.int na), .val (.int nb), .val (.ref o122), .val (.ref o123), .val (.ref o125), .val (.ref o129), .val (.ref o135), .val (.ref o122), .val (.ref o123)] [(.ref o123)]))
  refine P153.xs (fun hA hx hy t k => XS.aload hA hx rfl (hb hy at_95) rfl rfl  k) ?_
  show Go p e below _ (T153.setTop (mkF m 97 #[.val (.int p0), .val (.int p1), .val (.int p2), .val (.int na), .val (.int nb), .val (.ref o122), .val (.ref o123), .val (.ref o125), .val (.ref o129), .val (.ref o135), .val (.ref o122), .val (.ref o123)] [(.ref o129), (.ref o123)]))
  refine P153.strEq (W := 0) (hw _ (List.mem_of_getElem? (i := 65) rfl)) (hw _ (List.mem_of_getElem? (i := 66) rfl)) (hw _ (List.mem_of_getElem? (i := 68) rfl)) (nfOf (hw _ (List.mem_of_getElem? (i := 68) rfl))) (hw _ (List.mem_of_getElem? (i := 67) rfl)) (by decide) (wEq hw) (hw _ (List.mem_of_getElem? (i := 5) rfl)) S0 Pz Sc149 Sc151 (by decide) (by decide) (by decide) (by decide) pd_10 rfl rfl (Nat.le_of_eq rfl) at_97 (fun T154 P154 _ => ?_) (fun _ _ q => absurd rfl q)
  show Go p e below _ (T154.setTop (mkF m 100 #[.val (.int p0), .val (.int p1), .val (.int p2), .val (.int na), .val (.int nb), .val (.ref o122), .val (.ref o123), .val (.ref o125), .val (.ref o129), .val (.ref o135), .val (.ref o122), .val (.ref o123)] [(.int (1 : Int32))]))
  refine P154.xs (fun hA hx hy t k => XS.ifNo hA hx rfl (hb hy at_100) rfl ((if0 _ _).trans (feq (by decide)).1) k) ?_
  show Go p e below _ (T154.setTop (mkF m 103 #[.val (.int p0), .val (.int p1), .val (.int p2), .val (.int na), .val (.int nb), .val (.ref o122), .val (.ref o123), .val (.ref o125), .val (.ref o129), .val (.ref o135), .val (.ref o122), .val (.ref o123)] []))
  refine P154.xs (fun hA hx hy t k => XS.aload hA hx rfl (hb hy at_103) rfl rfl  k) ?_
  show Go p e below _ (T154.setTop (mkF m 105 #[.val (.int p0), .val (.int p1), .val (.int p2), .val (.int na), .val (.int nb), .val (.ref o122), .val (.ref o123), .val (.ref o125), .val (.ref o129), .val (.ref o135), .val (.ref o122), .val (.ref o123)] [(.ref o135)]))
  refine P154.callV (hw _ (List.mem_of_getElem? (i := 75) rfl)) (hw _ (List.mem_of_getElem? (i := 76) rfl)) (hw _ (List.mem_of_getElem? (i := 78) rfl)) (nfOf (hw _ (List.mem_of_getElem? (i := 78) rfl))) (hw _ (List.mem_of_getElem? (i := 77) rfl)) (hw _ (List.mem_of_getElem? (i := 39) rfl)) (hw _ (List.mem_of_getElem? (i := 79) rfl)) (by decide) E135 (m_label l Z a0 hw hEL zc S0 Pz o135 .null rfl h135 P154.old F135_label) (W := 0) (by decide) (by decide) (by decide) (by decide) all0 pd_9 (argsL := []) rfl rfl rfl (Nat.le_of_eq rfl) at_105 fun v155 T155 h155 P155 K155 Q155 => ?_
  obtain ⟨hv155, hh155⟩ := Q155
  subst hv155
  rw [hh155] at P155
  show Go p e below _ (T155.setTop (mkF m 108 #[.val (.int p0), .val (.int p1), .val (.int p2), .val (.int na), .val (.int nb), .val (.ref o122), .val (.ref o123), .val (.ref o125), .val (.ref o129), .val (.ref o135), .val (.ref o122), .val (.ref o123)] [.null]))
  refine P155.xs (fun hA hx hy t k => XS.ifnonnullNo hA hx rfl (hb hy at_108) rfl k) ?_
  show Go p e below _ (T155.setTop (mkF m 111 #[.val (.int p0), .val (.int p1), .val (.int p2), .val (.int na), .val (.int nb), .val (.ref o122), .val (.ref o123), .val (.ref o125), .val (.ref o129), .val (.ref o135), .val (.ref o122), .val (.ref o123)] []))
  refine P155.xs (fun hA hx hy t k => XS.aload hA hx rfl (hb hy at_111) rfl rfl  k) ?_
  show Go p e below _ (T155.setTop (mkF m 113 #[.val (.int p0), .val (.int p1), .val (.int p2), .val (.int na), .val (.int nb), .val (.ref o122), .val (.ref o123), .val (.ref o125), .val (.ref o129), .val (.ref o135), .val (.ref o122), .val (.ref o123)] [(.ref o135)]))
  refine P155.callV (hw _ (List.mem_of_getElem? (i := 80) rfl)) (hw _ (List.mem_of_getElem? (i := 81) rfl)) (hw _ (List.mem_of_getElem? (i := 83) rfl)) (nfOf (hw _ (List.mem_of_getElem? (i := 83) rfl))) (hw _ (List.mem_of_getElem? (i := 82) rfl)) (hw _ (List.mem_of_getElem? (i := 39) rfl)) (hw _ (List.mem_of_getElem? (i := 84) rfl)) (by decide) E135 (m_tvN l Z a0 hw hEL zc S0 Pz o135 h135 P155.old F135_label) (W := 0) (by decide) (by decide) (by decide) (by decide) all0 pd_11 (argsL := []) rfl rfl rfl (Nat.le_of_eq rfl) at_113 fun v156 T156 h156 P156 K156 Q156 => ?_
  obtain ⟨hv156, hh156⟩ := Q156
  subst hv156
  rw [hh156] at P156
  show Go p e below _ (T156.setTop (mkF m 116 #[.val (.int p0), .val (.int p1), .val (.int p2), .val (.int na), .val (.int nb), .val (.ref o122), .val (.ref o123), .val (.ref o125), .val (.ref o129), .val (.ref o135), .val (.ref o122), .val (.ref o123)] [(.int (0 : Int32))]))
  refine P156.xs (fun hA hx hy t k => XS.ifNo hA hx rfl (hb hy at_116) rfl ((if0 _ _).trans (teq rfl).2) k) ?_
  show Go p e below _ (T156.setTop (mkF m 119 #[.val (.int p0), .val (.int p1), .val (.int p2), .val (.int na), .val (.int nb), .val (.ref o122), .val (.ref o123), .val (.ref o125), .val (.ref o129), .val (.ref o135), .val (.ref o122), .val (.ref o123)] []))
  refine P156.xs (fun hA hx hy t k => XS.aload hA hx rfl (hb hy at_119) rfl rfl  k) ?_
  show Go p e below _ (T156.setTop (mkF m 121 #[.val (.int p0), .val (.int p1), .val (.int p2), .val (.int na), .val (.int nb), .val (.ref o122), .val (.ref o123), .val (.ref o125), .val (.ref o129), .val (.ref o135), .val (.ref o122), .val (.ref o123)] [(.ref o135)]))
  refine P156.callV (hw _ (List.mem_of_getElem? (i := 85) rfl)) (hw _ (List.mem_of_getElem? (i := 86) rfl)) (hw _ (List.mem_of_getElem? (i := 88) rfl)) (nfOf (hw _ (List.mem_of_getElem? (i := 88) rfl))) (hw _ (List.mem_of_getElem? (i := 87) rfl)) (hw _ (List.mem_of_getElem? (i := 39) rfl)) (hw _ (List.mem_of_getElem? (i := 89) rfl)) (by decide) E135 (m_takesList l Z a0 hw hEL zc S0 Pz o135  h135 P156.old F135_list) (W := 0) (by decide) (by decide) (by decide) (by decide) all0 pd_11 (argsL := []) rfl rfl rfl (Nat.le_of_eq rfl) at_121 fun v157 T157 h157 P157 K157 Q157 => ?_
  obtain ⟨hv157, hh157⟩ := Q157
  subst hv157
  rw [hh157] at P157
  show Go p e below _ (T157.setTop (mkF m 124 #[.val (.int p0), .val (.int p1), .val (.int p2), .val (.int na), .val (.int nb), .val (.ref o122), .val (.ref o123), .val (.ref o125), .val (.ref o129), .val (.ref o135), .val (.ref o122), .val (.ref o123)] [(.int (0 : Int32))]))
  refine P157.xs (fun hA hx hy t k => XS.ifNo hA hx rfl (hb hy at_124) rfl ((if0 _ _).trans (teq rfl).2) k) ?_
  show Go p e below _ (T157.setTop (mkF m 127 #[.val (.int p0), .val (.int p1), .val (.int p2), .val (.int na), .val (.int nb), .val (.ref o122), .val (.ref o123), .val (.ref o125), .val (.ref o129), .val (.ref o135), .val (.ref o122), .val (.ref o123)] []))
  refine P157.xs (fun hA hx hy t k => XS.iconst hA hx rfl (hb hy at_127) k) ?_
  show Go p e below _ (T157.setTop (mkF m 128 #[.val (.int p0), .val (.int p1), .val (.int p2), .val (.int na), .val (.int nb), .val (.ref o122), .val (.ref o123), .val (.ref o125), .val (.ref o129), .val (.ref o135), .val (.ref o122), .val (.ref o123)] [(.int (1 : Int32))]))
  refine P157.xs (fun hA hx hy t k => XS.goto hA hx rfl (pc0 := 128) (pc' := 132) rfl (hb hy at_128) (by decide) (by decide) k) ?_
  show Go p e below _ (T157.setTop (mkF m 132 #[.val (.int p0), .val (.int p1), .val (.int p2), .val (.int na), .val (.int nb), .val (.ref o122), .val (.ref o123), .val (.ref o125), .val (.ref o129), .val (.ref o135), .val (.ref o122), .val (.ref o123)] [(.int (1 : Int32))]))
  exact P157.retN (t := .boolean) rfl (by simp) at_132 (by decide) (by decide) rfl

theorem hELof {Z : State} {a0 : Array Value} (hw : ∀ d ∈ tables_1, d.before a0 Z = true) : EW Z a0 EL0 := (EW.cons (hw _ (List.mem_of_getElem? (i := 34) rfl)) (by decide) EW.nil)
set_option maxRecDepth 65536 in
set_option maxHeartbeats 40000000 in
theorem comes_1 {Post : Tables → Env → Array Value → State → Outcome → State → Prop} (hpost : ∀ tb e args s v u, (limb_1_1.after args s (.returned v) u = true ∧ limb_1_2.after args s (.returned v) u = true ∧ True) → ReturnedEndW s (.returned v) u (Jvm.fieldLocs frame_1_writes args s ++ Jvm.arrayLocs frame_1_arrays args s ++ Jvm.staticLocs frame_1_statics s) 40 1216 → Post tb e args s (.returned v) u) :
    ArmFor flags0 classFile x code maxLocals ret World_1 tables_1 room_1 Calls_1 rest_1 Pre_1 Post := by
  intro l hfl _ _ p e ha hc hk s m args below hf hA hF happ hP
  obtain ⟨hcalls, hrest, hpre⟩ := hP
  obtain ⟨-, -, -, hnamed, -, -, -, hat⟩ := (Spec.applies_iff hf).mp happ
  obtain ⟨hg, hn⟩ := and_e (Cond.before_iff.mp (show (Jvm.Cond.and given_1 narrow_1).before args s = true from hpre))
  obtain ⟨hcount, a0_⟩ := and_e hg
  obtain ⟨q0, a1_⟩ := and_e a0_
  obtain ⟨q1, a2_⟩ := and_e a1_
  have q2 := a2_
  obtain ⟨w0, w1, w2, rfl⟩ : ∃ w0 w1 w2 : Value, args = #[w0, w1, w2] := by
    have hs : args.size = 3 := by simpa [Cond.value, given_1] using hcount
    obtain ⟨L⟩ := args
    match L, hs with
    | [w0, w1, w2], _ => exact ⟨w0, w1, w2, rfl⟩
  have hw := fun d (hd : d ∈ tables_1) => atoms_spec (ws := Jvm.Cond.code x code maxLocals ret :: tables_1) hat d (List.mem_cons_of_mem _ hd)
  obtain ⟨hsets, hown0⟩ := atoms_of _ (rest_1_c_eq ▸ (show rest_1_c.before _ s = true from hrest))
  have hfit : Fit s := fun {y c} hc i hi => by
    obtain ⟨ha, rfl⟩ := Array.getElem?_eq_some_iff.mp hc
    have q := List.all_eq_true.mp ((Array.all_eq_true_iff_forall_mem.mp hF) _ (Array.getElem_mem ha)) i (List.mem_range.mpr hi)
    simpa [Array.getElem?_eq_getElem hi] using q
  have n5 := not_v (Cond.before_iff.mp (hsets _ (List.mem_of_getElem? (i := 2) rfl)))
  obtain ⟨i0, e0⟩ := is_v q0
  obtain rfl : w0 = (.int i0) := Option.some.inj e0
  obtain ⟨i1, e1⟩ := is_v q1
  obtain rfl : w1 = (.int i1) := Option.some.inj e1
  obtain ⟨i2, e2⟩ := is_v q2
  obtain rfl : w2 = (.int i2) := Option.some.inj e2
  obtain ⟨zc, ez⟩ := is_v (Cond.before_iff.mp (hsets _ (List.mem_of_getElem? (i := 1) rfl)))
  have S0 : Sta s s.heap "java/lang/String" "COMPACT_STRINGS" "Z" (.int zc) := Sta.start ez (Or.inl (hsets _ (List.mem_of_getElem? (i := 0) rfl)))
  have Pz : ¬ (zc = (0 : Int32)) := gotF (Cond.eq_ints ez (Term.int_eval (0))) n5
  obtain ⟨n, o, h1, h2, h3, _, L, rfl, ⟨N, K, O, hv⟩, -, hq⟩ := mLaw l s _ hw (hELof hw) zc S0 Pz i0 i1 i2 s.heap ⟨Nat.le_refl _, fun _ _ q => q⟩  p e ha hc hk s m _ below hf ((Spec.applies_iff_loose hf).mp happ).1 ⟨rfl, State.Warmed39.refl s, rfl, (CHv.start (hELof hw) (fun p hp => hcalls.1 p hp) (hsets _ (List.mem_of_getElem? (i := 2) rfl)) (hw _ (List.mem_of_getElem? (i := 23) rfl)) (hw _ (List.mem_of_getElem? (i := 5) rfl)))⟩ trivial
  cases hv
  refine ⟨n, _, h1, h2, h3, hpost _ _ _ _ _ _ ⟨Cond.after_iff.mpr rfl, Cond.after_iff.mpr (eq_i res_at (Term.int_eval (1)) rfl), trivial⟩ ⟨hq.1, hq.2.1, hq.2.2.1, (hq.2.2.2.sift fun y hy => Or.inr (N y hy)).mono (by decide) (by decide)⟩⟩
theorem main_1_1 : Claimed_1_1 := comes_1 fun _ _ _ _ _ _ h hF => ⟨h.1, hF⟩
theorem main_1_2 : Claimed_1_2 := comes_1 fun _ _ _ _ _ _ h hF => ⟨h.2.1, hF⟩
end Jvm.Pilot.@@N@@
namespace Jvm.Pilot.@@N@@
open Jvm Jvm.ClassFile Sem Op Lib Jvm.Free Jvm.Stand Jvm.Pilot.@@N@@.Jvm.D
/-! MADE BY PROGRAM (witnessworld.py) out of the Statement's table words and the real class files: 20 classes; the members and pool entries that the words name. The judged class is class 1, her method 2. -/
namespace start1
open Jvm.ClassFile
def u (s : String) : CpInfo := .utf8 (stringToUtf16 s)
/-- a pool by its gaps: so many unusable entries, then the entry; so many at the end -/
def gap : Nat → List CpInfo → List CpInfo
  | 0, r => r
  | n + 1, r => .unusable :: gap n r
def poolList (es : List (Nat × CpInfo)) (last : Nat) : List CpInfo := es.foldr (fun e r => gap e.1 (e.2 :: r)) (gap last [])
def pool (es : List (Nat × CpInfo)) (last : Nat) : Array CpInfo := ⟨poolList es last⟩
def fileOf (pool : Array CpInfo) (this : Nat) (attrs : Array Attribute := #[]) (ms : Array MethodInfo := #[]) (fl : Nat := 33) (sup : Nat := 0) (ifs : Array Nat := #[]) (fds : Array FieldInfo := #[]) : ClassFile where
  minorVersion := 0
  majorVersion := 65
  constantPool := pool
  accessFlags := fl
  thisClass := this
  superClass := sup
  interfaces := ifs
  fields := fds
  methods := ms
  attributes := attrs
def plain (name : String) (sup : Option ClassId) : Class where
  name := name
  kind := .ordinary
  loader := none
  accessFlags := 33
  super := sup
  interfaces := #[]
  cf := none
  fields := #[]
  methods := #[]
  instanceTypes := #[]
  staticTypes := #[]
  resolved := #[]
  callSites := []
  init := .initialized
  statics := none
  mirror := none

def pool0 : Array CpInfo := pool [(5, u "<init>"), (0, u "()V"), (1, .class_ 10), (1, u "java/lang/Object")] 113

def k0c0 : Code := { maxStack := 0, maxLocals := 1, code := object_method_1_code, exceptionTable := #[], attributes := #[] }
def k0m0 : Method := { name := "<init>", desc := "()V", sig := { parameters := [], returnType := none }, accessFlags := 1, code := some k0c0 }
/-- java/lang/Object -/
def k0 : Class := { plain "java/lang/Object" none with
  accessFlags := 33
  interfaces := #[]
  cf := some (fileOf pool0 8 #[] #[{ accessFlags := 1, nameIndex := 5, descriptorIndex := 6, attributes := #[] }] 33 0 #[] #[])
  fields := #[]
  methods := #[k0m0]
  instanceTypes := #[]
  staticTypes := #[]
  resolved := Array.replicate 124 none
  statics := none }

def pool1 : Array CpInfo := pool [(2, .class_ 4), (1, u "java/lang/Object"), (0, u "<init>"), (0, u "()V"), (0, .class_ 8), (0, u "java/lang/String"), (0, .methodref 7 10), (0, .nameAndType 5 11), (0, u "([C)V"), (0, .methodref 7 13), (0, .nameAndType 14 15), (0, u "valueOf"), (0, u "(C)Ljava/lang/String;"), (0, .methodref 17 18), (0, .class_ 19), (0, .nameAndType 20 21), (0, u "com/example/tegmen/tegmen/OptionFlagPinLaw"), (0, u "str"), (0, u "(II)Ljava/lang/String;"), (0, .methodref 23 24), (0, .class_ 25), (0, .nameAndType 26 27), (0, u "com/example/tegmen/tegmen/Subcommand$Option"), (0, u "flag"), (0, u "(Ljava/lang/String;Ljava/lang/String;)Lcom/example/tegmen/tegmen/Subcommand$Option;"), (0, .methodref 23 29), (0, .nameAndType 30 31), (0, u "name"), (0, u "()Ljava/lang/String;"), (0, .methodref 23 33), (0, .nameAndType 34 31), (0, u "description"), (0, .methodref 7 36), (0, .nameAndType 37 38), (0, u "equals"), (0, u "(Ljava/lang/Object;)Z"), (0, .methodref 23 40), (0, .nameAndType 41 31), (0, u "label"), (0, .methodref 23 43), (0, .nameAndType 44 45), (0, u "takesValues"), (0, u "()Z"), (0, .methodref 23 47), (0, .nameAndType 48 45), (0, u "takesList"), (3, u "law"), (0, u "(III)Z")] 6

def k1m0 : Method := { name := "<init>", desc := "()V", sig := { parameters := [], returnType := none }, accessFlags := 2, code := none }
def k1c1 : Code := { maxStack := 6, maxLocals := 5, code := method_2_code, exceptionTable := #[], attributes := #[] }
def k1m1 : Method := { name := "str", desc := "(II)Ljava/lang/String;", sig := { parameters := [.int, .int], returnType := some (.object "java/lang/String") }, accessFlags := 10, code := some k1c1 }
def k1c2 : Code := { maxStack := 2, maxLocals := 12, code := code, exceptionTable := #[], attributes := #[] }
def k1m2 : Method := { name := "law", desc := "(III)Z", sig := { parameters := [.int, .int, .int], returnType := some .boolean }, accessFlags := 9, code := some k1c2 }
/-- com/example/tegmen/tegmen/OptionFlagPinLaw -/
def k1 : Class := { plain "com/example/tegmen/tegmen/OptionFlagPinLaw" (some 0) with
  accessFlags := 49
  interfaces := #[]
  cf := some (fileOf pool1 17 #[] #[{ accessFlags := 2, nameIndex := 5, descriptorIndex := 6, attributes := #[] }, { accessFlags := 10, nameIndex := 20, descriptorIndex := 21, attributes := #[] }, { accessFlags := 9, nameIndex := 52, descriptorIndex := 53, attributes := #[] }] 49 2 #[] #[])
  fields := #[]
  methods := #[k1m0, k1m1, k1m2]
  instanceTypes := #[]
  staticTypes := #[]
  resolved := Array.replicate 60 none
  statics := none }

def pool2 : Array CpInfo := pool [(1, .class_ 2), (0, u "java/io/Serializable"), (0, .class_ 4), (0, u "java/lang/Object")] 2

/-- java/io/Serializable -/
def k2 : Class := { plain "java/io/Serializable" (some 0) with
  accessFlags := 1537
  interfaces := #[]
  cf := some (fileOf pool2 1 #[] #[] 1537 3 #[] #[])
  fields := #[]
  methods := #[]
  instanceTypes := #[]
  staticTypes := #[]
  resolved := Array.replicate 7 none
  statics := none }

def pool3 : Array CpInfo := pool [(1, .class_ 2), (0, u "java/lang/Comparable"), (0, .class_ 4), (0, u "java/lang/Object")] 7

/-- java/lang/Comparable -/
def k3 : Class := { plain "java/lang/Comparable" (some 0) with
  accessFlags := 1537
  interfaces := #[]
  cf := some (fileOf pool3 1 #[] #[] 1537 3 #[] #[])
  fields := #[]
  methods := #[]
  instanceTypes := #[]
  staticTypes := #[]
  resolved := Array.replicate 12 none
  statics := none }

def pool4 : Array CpInfo := pool [(2, .class_ 4), (1, u "java/lang/CharSequence"), (42, .class_ 48), (0, u "java/lang/CharSequence$1CodePointIterator"), (10, .class_ 60), (0, u "java/lang/CharSequence$1CharIterator"), (5, .class_ 67), (0, u "java/lang/Object")] 63

/-- java/lang/CharSequence -/
def k4 : Class := { plain "java/lang/CharSequence" (some 0) with
  accessFlags := 1537
  interfaces := #[]
  cf := some (fileOf pool4 2 #[.nestMembers #[47, 59]] #[] 1537 66 #[] #[])
  fields := #[]
  methods := #[]
  instanceTypes := #[]
  staticTypes := #[]
  resolved := Array.replicate 131 none
  statics := none }

def pool5 : Array CpInfo := pool [(1, .class_ 2), (0, u "java/lang/constant/Constable"), (0, .class_ 4), (0, u "java/lang/Object")] 6

/-- java/lang/constant/Constable -/
def k5 : Class := { plain "java/lang/constant/Constable" (some 0) with
  accessFlags := 1537
  interfaces := #[]
  cf := some (fileOf pool5 1 #[] #[] 1537 3 #[] #[])
  fields := #[]
  methods := #[]
  instanceTypes := #[]
  staticTypes := #[]
  resolved := Array.replicate 11 none
  statics := none }

def pool6 : Array CpInfo := pool [(1, .class_ 2), (0, u "java/lang/constant/ConstantDesc"), (0, .class_ 4), (0, u "java/lang/Object")] 32

/-- java/lang/constant/ConstantDesc -/
def k6 : Class := { plain "java/lang/constant/ConstantDesc" (some 0) with
  accessFlags := 1537
  interfaces := #[]
  cf := some (fileOf pool6 1 #[] #[] 1537 3 #[] #[])
  fields := #[]
  methods := #[]
  instanceTypes := #[]
  staticTypes := #[]
  resolved := Array.replicate 37 none
  statics := none }

def pool7 : Array CpInfo := pool [(1, .methodref 2 3), (0, .class_ 4), (0, .nameAndType 5 6), (0, u "java/lang/Object"), (0, u "<init>"), (0, u "()V"), (0, .string 8), (0, u ""), (0, .fieldref 10 11), (0, .class_ 12), (0, .nameAndType 13 14), (0, u "java/lang/String"), (0, u "value"), (0, u "[B"), (0, .fieldref 10 16), (0, .nameAndType 17 18), (0, u "coder"), (0, u "B"), (2, u "hash"), (0, u "I"), (2, u "hashIsZero"), (0, u "Z"), (0, .methodref 10 28), (0, .nameAndType 5 29), (0, u "([CIILjava/lang/Void;)V"), (8, .fieldref 10 39), (0, .nameAndType 40 26), (0, u "COMPACT_STRINGS"), (1, .class_ 44), (1, u "java/lang/StringUTF16"), (0, u "compress"), (1, .methodref 42 48), (0, .nameAndType 49 50), (0, u "coderFromArrayLen"), (0, u "([BI)B"), (2, u "toBytes"), (53, .class_ 109), (1, u "java/lang/StringLatin1"), (67, .methodref 42 178), (0, .nameAndType 45 179), (0, u "([CII)[B"), (29, .methodref 10 210), (0, .nameAndType 5 211), (0, u "([BB)V"), (157, u "(C)Z"), (171, .methodref 107 542), (0, .nameAndType 543 544), (0, u "equals"), (0, u "([B[B)Z"), (28, u "(Ljava/lang/Object;)Z"), (1, .class_ 576), (0, u "java/lang/CharSequence"), (22, u "CASE_INSENSITIVE_ORDER"), (0, u "Ljava/util/Comparator;"), (181, u "valueOf"), (0, u "(C)Ljava/lang/String;"), (226, u "([C)V"), (4, .methodref 107 1016), (0, .nameAndType 1017 369), (0, u "canEncode"), (0, .methodref 107 1019), (0, .nameAndType 53 1020), (0, u "(C)[B"), (80, u "serialPersistentFields"), (0, u "[Ljava/io/ObjectStreamField;"), (0, .class_ 1104), (0, u "java/lang/String$CaseInsensitiveComparator"), (1, .class_ 1107), (0, u "java/io/Serializable"), (0, .class_ 1109), (0, u "java/lang/Comparable"), (0, .class_ 1111), (0, u "java/lang/constant/Constable"), (0, .class_ 1113), (0, u "java/lang/constant/ConstantDesc"), (2, u "serialVersionUID"), (0, u "J"), (3, u "REPL"), (0, u "C"), (2, u "LATIN1"), (1, u "UTF16")] 323

def k7m0 : Method := { name := "<init>", desc := "()V", sig := { parameters := [], returnType := none }, accessFlags := 1, code := none }
def k7c1 : Code := { maxStack := 5, maxLocals := 2, code := jdk_42_method_3_code, exceptionTable := #[], attributes := #[] }
def k7m1 : Method := { name := "<init>", desc := "([C)V", sig := { parameters := [(.array .char)], returnType := none }, accessFlags := 1, code := some k7c1 }
def k7c2 : Code := { maxStack := 2, maxLocals := 3, code := jdk_42_method_66_code, exceptionTable := #[], attributes := #[] }
def k7m2 : Method := { name := "equals", desc := "(Ljava/lang/Object;)Z", sig := { parameters := [(.object "java/lang/Object")], returnType := some .boolean }, accessFlags := 1, code := some k7c2 }
def k7c3 : Code := { maxStack := 4, maxLocals := 1, code := jdk_42_method_139_code, exceptionTable := #[], attributes := #[] }
def k7m3 : Method := { name := "valueOf", desc := "(C)Ljava/lang/String;", sig := { parameters := [.char], returnType := some (.object "java/lang/String") }, accessFlags := 9, code := some k7c3 }
def k7c4 : Code := { maxStack := 4, maxLocals := 6, code := jdk_42_method_149_code, exceptionTable := #[], attributes := #[] }
def k7m4 : Method := { name := "<init>", desc := "([CIILjava/lang/Void;)V", sig := { parameters := [(.array .char), .int, .int, (.object "java/lang/Void")], returnType := none }, accessFlags := 2, code := some k7c4 }
def k7c5 : Code := { maxStack := 2, maxLocals := 3, code := jdk_42_method_151_code, exceptionTable := #[], attributes := #[] }
def k7m5 : Method := { name := "<init>", desc := "([BB)V", sig := { parameters := [(.array .byte), .byte], returnType := none }, accessFlags := 0, code := some k7c5 }
/-- java/lang/String -/
def k7 : Class := { plain "java/lang/String" (some 0) with
  accessFlags := 49
  interfaces := #[2, 3, 4, 5, 6]
  cf := some (fileOf pool7 10 #[.nestMembers #[1103]] #[{ accessFlags := 1, nameIndex := 5, descriptorIndex := 6, attributes := #[] }, { accessFlags := 1, nameIndex := 5, descriptorIndex := 1010, attributes := #[] }, { accessFlags := 1, nameIndex := 543, descriptorIndex := 573, attributes := #[] }, { accessFlags := 9, nameIndex := 782, descriptorIndex := 783, attributes := #[] }, { accessFlags := 2, nameIndex := 5, descriptorIndex := 29, attributes := #[] }, { accessFlags := 0, nameIndex := 5, descriptorIndex := 211, attributes := #[] }] 49 2 #[1106, 1108, 575, 1110, 1112] #[{ accessFlags := 18, nameIndex := 13, descriptorIndex := 14, attributes := #[] }, { accessFlags := 18, nameIndex := 17, descriptorIndex := 18, attributes := #[] }, { accessFlags := 2, nameIndex := 21, descriptorIndex := 22, attributes := #[] }, { accessFlags := 2, nameIndex := 25, descriptorIndex := 26, attributes := #[] }, { accessFlags := 26, nameIndex := 1116, descriptorIndex := 1117, attributes := #[] }, { accessFlags := 24, nameIndex := 40, descriptorIndex := 26, attributes := #[] }, { accessFlags := 26, nameIndex := 1101, descriptorIndex := 1102, attributes := #[] }, { accessFlags := 26, nameIndex := 1121, descriptorIndex := 1122, attributes := #[] }, { accessFlags := 25, nameIndex := 599, descriptorIndex := 600, attributes := #[] }, { accessFlags := 24, nameIndex := 1125, descriptorIndex := 18, attributes := #[] }, { accessFlags := 24, nameIndex := 1127, descriptorIndex := 18, attributes := #[] }])
  fields := #[{ name := "value", type := (.array .byte), accessFlags := 18, slot := 0, constantValue := 0 }, { name := "coder", type := .byte, accessFlags := 18, slot := 1, constantValue := 0 }, { name := "hash", type := .int, accessFlags := 2, slot := 2, constantValue := 0 }, { name := "hashIsZero", type := .boolean, accessFlags := 2, slot := 3, constantValue := 0 }, { name := "serialVersionUID", type := .long, accessFlags := 26, slot := 0, constantValue := 0 }, { name := "COMPACT_STRINGS", type := .boolean, accessFlags := 24, slot := 1, constantValue := 0 }, { name := "serialPersistentFields", type := (.array (.object "java/io/ObjectStreamField")), accessFlags := 26, slot := 2, constantValue := 0 }, { name := "REPL", type := .char, accessFlags := 26, slot := 3, constantValue := 0 }, { name := "CASE_INSENSITIVE_ORDER", type := (.object "java/util/Comparator"), accessFlags := 25, slot := 4, constantValue := 0 }, { name := "LATIN1", type := .byte, accessFlags := 24, slot := 5, constantValue := 0 }, { name := "UTF16", type := .byte, accessFlags := 24, slot := 6, constantValue := 0 }]
  methods := #[k7m0, k7m1, k7m2, k7m3, k7m4, k7m5]
  instanceTypes := #[(.array .byte), .byte, .int, .boolean]
  staticTypes := #[.long, .boolean, (.array (.object "java/io/ObjectStreamField")), .char, (.object "java/util/Comparator"), .byte, .byte]
  resolved := Array.replicate 1451 none
  statics := some 0 }

def pool8 : Array CpInfo := pool [(6, .class_ 8), (1, u "java/lang/Object"), (0, u "<init>"), (0, u "()V"), (1, .class_ 14), (1, u "java/lang/StringUTF16"), (31, u "$assertionsDisabled"), (0, u "Z"), (13, u "HI_BYTE_SHIFT"), (0, u "I"), (2, u "LO_BYTE_SHIFT"), (49, .methodref 12 116), (0, .nameAndType 117 118), (0, u "compress"), (0, u "([CI[BII)I"), (3, u "([CII)[B"), (138, u "coderFromArrayLen"), (0, u "([BI)B"), (106, .class_ 371), (1, u "java/lang/StringUTF16$LinesSpliterator"), (58, u "MAX_LENGTH"), (196, .class_ 628), (0, u "java/lang/StringUTF16$CodePointsSpliterator"), (0, .class_ 630), (0, u "java/lang/StringUTF16$CharsSpliterator")] 4

def k8m0 : Method := { name := "<init>", desc := "()V", sig := { parameters := [], returnType := none }, accessFlags := 0, code := none }
def k8c1 : Code := { maxStack := 2, maxLocals := 2, code := jdk_52_method_15_code, exceptionTable := #[], attributes := #[] }
def k8m1 : Method := { name := "coderFromArrayLen", desc := "([BI)B", sig := { parameters := [(.array .byte), .int], returnType := some .byte }, accessFlags := 8, code := some k8c1 }
def k8c2 : Code := { maxStack := 5, maxLocals := 6, code := jdk_52_method_16_code, exceptionTable := #[], attributes := #[] }
def k8m2 : Method := { name := "compress", desc := "([CII)[B", sig := { parameters := [(.array .char), .int, .int], returnType := some (.array .byte) }, accessFlags := 9, code := some k8c2 }
def k8c3 : Code := { maxStack := 3, maxLocals := 7, code := jdk_52_method_21_code, exceptionTable := #[], attributes := #[] }
def k8m3 : Method := { name := "compress", desc := "([CI[BII)I", sig := { parameters := [(.array .char), .int, (.array .byte), .int, .int], returnType := some .int }, accessFlags := 9, code := some k8c3 }
/-- java/lang/StringUTF16 -/
def k8 : Class := { plain "java/lang/StringUTF16" (some 0) with
  accessFlags := 48
  interfaces := #[]
  cf := some (fileOf pool8 12 #[.nestMembers #[627, 629, 369]] #[{ accessFlags := 0, nameIndex := 9, descriptorIndex := 10, attributes := #[] }, { accessFlags := 8, nameIndex := 261, descriptorIndex := 262, attributes := #[] }, { accessFlags := 9, nameIndex := 117, descriptorIndex := 122, attributes := #[] }, { accessFlags := 9, nameIndex := 117, descriptorIndex := 118, attributes := #[] }] 48 6 #[] #[{ accessFlags := 26, nameIndex := 61, descriptorIndex := 62, attributes := #[] }, { accessFlags := 26, nameIndex := 65, descriptorIndex := 62, attributes := #[] }, { accessFlags := 24, nameIndex := 430, descriptorIndex := 62, attributes := #[] }, { accessFlags := 4120, nameIndex := 46, descriptorIndex := 47, attributes := #[] }])
  fields := #[{ name := "HI_BYTE_SHIFT", type := .int, accessFlags := 26, slot := 0, constantValue := 0 }, { name := "LO_BYTE_SHIFT", type := .int, accessFlags := 26, slot := 1, constantValue := 0 }, { name := "MAX_LENGTH", type := .int, accessFlags := 24, slot := 2, constantValue := 0 }, { name := "$assertionsDisabled", type := .boolean, accessFlags := 4120, slot := 3, constantValue := 0 }]
  methods := #[k8m0, k8m1, k8m2, k8m3]
  instanceTypes := #[]
  staticTypes := #[.int, .int, .int, .boolean]
  resolved := Array.replicate 635 none
  statics := none }

def pool9 : Array CpInfo := pool [(1, .methodref 2 3), (0, .class_ 4), (0, .nameAndType 5 6), (0, u "java/lang/Object"), (0, u "<init>"), (0, u "()V"), (0, .fieldref 8 9), (0, .class_ 10), (0, .nameAndType 11 12), (0, u "com/example/tegmen/tegmen/Subcommand$Option"), (0, u "name"), (0, u "Ljava/lang/String;"), (0, .fieldref 8 14), (0, .nameAndType 15 12), (0, u "label"), (0, .fieldref 8 17), (0, .nameAndType 18 19), (0, u "list"), (0, u "Z"), (0, .fieldref 8 21), (0, .nameAndType 22 12), (0, u "description"), (0, .methodref 8 24), (0, .nameAndType 5 25), (0, u "(Ljava/lang/String;Ljava/lang/String;ZLjava/lang/String;)V"), (5, u "()Z"), (8, u "flag"), (0, u "(Ljava/lang/String;Ljava/lang/String;)Lcom/example/tegmen/tegmen/Subcommand$Option;"), (2, u "()Ljava/lang/String;"), (0, u "takesValues"), (1, u "takesList"), (5, .class_ 54), (0, u "com/example/tegmen/tegmen/Subcommand")] 16

def k9c0 : Code := { maxStack := 2, maxLocals := 5, code := prog_70_method_1_code, exceptionTable := #[], attributes := #[] }
def k9m0 : Method := { name := "<init>", desc := "(Ljava/lang/String;Ljava/lang/String;ZLjava/lang/String;)V", sig := { parameters := [(.object "java/lang/String"), (.object "java/lang/String"), .boolean, (.object "java/lang/String")], returnType := none }, accessFlags := 2, code := some k9c0 }
def k9c1 : Code := { maxStack := 6, maxLocals := 2, code := prog_70_method_2_code, exceptionTable := #[], attributes := #[] }
def k9m1 : Method := { name := "flag", desc := "(Ljava/lang/String;Ljava/lang/String;)Lcom/example/tegmen/tegmen/Subcommand$Option;", sig := { parameters := [(.object "java/lang/String"), (.object "java/lang/String")], returnType := some (.object "com/example/tegmen/tegmen/Subcommand$Option") }, accessFlags := 8, code := some k9c1 }
def k9c2 : Code := { maxStack := 1, maxLocals := 1, code := prog_70_method_5_code, exceptionTable := #[], attributes := #[] }
def k9m2 : Method := { name := "name", desc := "()Ljava/lang/String;", sig := { parameters := [], returnType := some (.object "java/lang/String") }, accessFlags := 0, code := some k9c2 }
def k9c3 : Code := { maxStack := 1, maxLocals := 1, code := prog_70_method_6_code, exceptionTable := #[], attributes := #[] }
def k9m3 : Method := { name := "label", desc := "()Ljava/lang/String;", sig := { parameters := [], returnType := some (.object "java/lang/String") }, accessFlags := 0, code := some k9c3 }
def k9c4 : Code := { maxStack := 1, maxLocals := 1, code := prog_70_method_7_code, exceptionTable := #[], attributes := #[] }
def k9m4 : Method := { name := "description", desc := "()Ljava/lang/String;", sig := { parameters := [], returnType := some (.object "java/lang/String") }, accessFlags := 0, code := some k9c4 }
def k9c5 : Code := { maxStack := 1, maxLocals := 1, code := prog_70_method_8_code, exceptionTable := #[], attributes := #[] }
def k9m5 : Method := { name := "takesValues", desc := "()Z", sig := { parameters := [], returnType := some .boolean }, accessFlags := 0, code := some k9c5 }
def k9c6 : Code := { maxStack := 1, maxLocals := 1, code := prog_70_method_9_code, exceptionTable := #[], attributes := #[] }
def k9m6 : Method := { name := "takesList", desc := "()Z", sig := { parameters := [], returnType := some .boolean }, accessFlags := 0, code := some k9c6 }
/-- com/example/tegmen/tegmen/Subcommand$Option -/
def k9 : Class := { plain "com/example/tegmen/tegmen/Subcommand$Option" (some 0) with
  accessFlags := 48
  interfaces := #[]
  cf := some (fileOf pool9 8 #[.nestHost 53] #[{ accessFlags := 2, nameIndex := 5, descriptorIndex := 25, attributes := #[] }, { accessFlags := 8, nameIndex := 40, descriptorIndex := 41, attributes := #[] }, { accessFlags := 0, nameIndex := 11, descriptorIndex := 44, attributes := #[] }, { accessFlags := 0, nameIndex := 15, descriptorIndex := 44, attributes := #[] }, { accessFlags := 0, nameIndex := 22, descriptorIndex := 44, attributes := #[] }, { accessFlags := 0, nameIndex := 45, descriptorIndex := 31, attributes := #[] }, { accessFlags := 0, nameIndex := 47, descriptorIndex := 31, attributes := #[] }] 48 2 #[] #[{ accessFlags := 18, nameIndex := 11, descriptorIndex := 12, attributes := #[] }, { accessFlags := 18, nameIndex := 15, descriptorIndex := 12, attributes := #[] }, { accessFlags := 18, nameIndex := 18, descriptorIndex := 19, attributes := #[] }, { accessFlags := 18, nameIndex := 22, descriptorIndex := 12, attributes := #[] }])
  fields := #[{ name := "name", type := (.object "java/lang/String"), accessFlags := 18, slot := 0, constantValue := 0 }, { name := "label", type := (.object "java/lang/String"), accessFlags := 18, slot := 1, constantValue := 0 }, { name := "list", type := .boolean, accessFlags := 18, slot := 2, constantValue := 0 }, { name := "description", type := (.object "java/lang/String"), accessFlags := 18, slot := 3, constantValue := 0 }]
  methods := #[k9m0, k9m1, k9m2, k9m3, k9m4, k9m5, k9m6]
  instanceTypes := #[(.object "java/lang/String"), (.object "java/lang/String"), .boolean, (.object "java/lang/String")]
  staticTypes := #[]
  resolved := Array.replicate 71 none
  statics := none }

def pool10 : Array CpInfo := pool [(4, .class_ 6), (1, u "java/lang/Object"), (0, u "<init>"), (0, u "()V"), (5, .class_ 16), (1, u "java/lang/StringLatin1"), (73, u "canEncode"), (14, u "(C)Z"), (15, u "$assertionsDisabled"), (0, u "Z"), (98, .class_ 223), (1, u "java/lang/StringLatin1$LinesSpliterator"), (57, u "equals"), (0, u "([B[B)Z"), (97, u "toBytes"), (1, u "(C)[B"), (7, .class_ 391), (0, u "java/lang/StringLatin1$CharsSpliterator")] 3

def k10m0 : Method := { name := "<init>", desc := "()V", sig := { parameters := [], returnType := none }, accessFlags := 0, code := none }
def k10c1 : Code := { maxStack := 2, maxLocals := 1, code := jdk_43_method_3_code, exceptionTable := #[], attributes := #[] }
def k10m1 : Method := { name := "canEncode", desc := "(C)Z", sig := { parameters := [.char], returnType := some .boolean }, accessFlags := 9, code := some k10c1 }
def k10c2 : Code := { maxStack := 3, maxLocals := 3, code := jdk_43_method_13_code, exceptionTable := #[], attributes := #[] }
def k10m2 : Method := { name := "equals", desc := "([B[B)Z", sig := { parameters := [(.array .byte), (.array .byte)], returnType := some .boolean }, accessFlags := 9, code := some k10c2 }
def k10c3 : Code := { maxStack := 4, maxLocals := 1, code := jdk_43_method_46_code, exceptionTable := #[], attributes := #[] }
def k10m3 : Method := { name := "toBytes", desc := "(C)[B", sig := { parameters := [.char], returnType := some (.array .byte) }, accessFlags := 9, code := some k10c3 }
/-- java/lang/StringLatin1 -/
def k10 : Class := { plain "java/lang/StringLatin1" (some 0) with
  accessFlags := 48
  interfaces := #[]
  cf := some (fileOf pool10 14 #[.nestMembers #[390, 221]] #[{ accessFlags := 0, nameIndex := 7, descriptorIndex := 8, attributes := #[] }, { accessFlags := 9, nameIndex := 90, descriptorIndex := 105, attributes := #[] }, { accessFlags := 9, nameIndex := 281, descriptorIndex := 282, attributes := #[] }, { accessFlags := 9, nameIndex := 380, descriptorIndex := 382, attributes := #[] }] 48 4 #[] #[{ accessFlags := 4120, nameIndex := 121, descriptorIndex := 122, attributes := #[] }])
  fields := #[{ name := "$assertionsDisabled", type := .boolean, accessFlags := 4120, slot := 0, constantValue := 0 }]
  methods := #[k10m0, k10m1, k10m2, k10m3]
  instanceTypes := #[]
  staticTypes := #[.boolean]
  resolved := Array.replicate 395 none
  statics := none }

def pool11 : Array CpInfo := pool [(2, .class_ 4), (1, u "java/lang/Object"), (0, u "<init>"), (0, u "()V"), (17, .class_ 26), (1, u "jdk/internal/util/Preconditions"), (28, .class_ 56), (0, u "jdk/internal/util/Preconditions$4"), (57, .class_ 115), (0, u "jdk/internal/util/Preconditions$1"), (7, u "SIOOBE_FORMATTER"), (0, u "Ljava/util/function/BiFunction;"), (0, .class_ 126), (0, u "jdk/internal/util/Preconditions$2"), (3, u "AIOOBE_FORMATTER"), (0, .class_ 132), (0, u "jdk/internal/util/Preconditions$3"), (3, u "IOOBE_FORMATTER")] 57

def k11m0 : Method := { name := "<init>", desc := "()V", sig := { parameters := [], returnType := none }, accessFlags := 1, code := none }
/-- jdk/internal/util/Preconditions -/
def k11 : Class := { plain "jdk/internal/util/Preconditions" (some 0) with
  accessFlags := 33
  interfaces := #[]
  cf := some (fileOf pool11 24 #[.nestMembers #[55, 131, 125, 114]] #[{ accessFlags := 1, nameIndex := 5, descriptorIndex := 6, attributes := #[] }] 33 2 #[] #[{ accessFlags := 25, nameIndex := 123, descriptorIndex := 124, attributes := #[] }, { accessFlags := 25, nameIndex := 130, descriptorIndex := 124, attributes := #[] }, { accessFlags := 25, nameIndex := 136, descriptorIndex := 124, attributes := #[] }])
  fields := #[{ name := "SIOOBE_FORMATTER", type := (.object "java/util/function/BiFunction"), accessFlags := 25, slot := 0, constantValue := 0 }, { name := "AIOOBE_FORMATTER", type := (.object "java/util/function/BiFunction"), accessFlags := 25, slot := 1, constantValue := 0 }, { name := "IOOBE_FORMATTER", type := (.object "java/util/function/BiFunction"), accessFlags := 25, slot := 2, constantValue := 0 }]
  methods := #[k11m0]
  instanceTypes := #[]
  staticTypes := #[(.object "java/util/function/BiFunction"), (.object "java/util/function/BiFunction"), (.object "java/util/function/BiFunction")]
  resolved := Array.replicate 194 none
  statics := some 1 }

def pool12 : Array CpInfo := pool [(9, u "<init>"), (6, .class_ 18), (1, u "java/lang/Object"), (0, u "()V"), (1, .class_ 23), (1, u "jdk/internal/util/ArraysSupport"), (0, u "LOG2_ARRAY_LONG_INDEX_SCALE"), (0, u "I"), (2, u "U"), (0, u "Ljdk/internal/misc/Unsafe;"), (8, u "BIG_ENDIAN"), (0, u "Z"), (8, u "LOG2_BYTE_BIT_SIZE"), (4, u "LOG2_ARRAY_INT_INDEX_SCALE"), (54, u "JLA"), (0, u "Ljdk/internal/access/JavaLangAccess;"), (11, u "LOG2_ARRAY_BOOLEAN_INDEX_SCALE"), (9, u "LOG2_ARRAY_BYTE_INDEX_SCALE"), (5, u "LOG2_ARRAY_CHAR_INDEX_SCALE"), (5, u "LOG2_ARRAY_SHORT_INDEX_SCALE"), (18, u "LOG2_ARRAY_FLOAT_INDEX_SCALE"), (24, u "LOG2_ARRAY_DOUBLE_INDEX_SCALE"), (89, u "T_BOOLEAN"), (2, u "T_CHAR"), (1, u "T_FLOAT"), (1, u "T_DOUBLE"), (1, u "T_BYTE"), (1, u "T_SHORT"), (1, u "T_INT"), (1, u "T_LONG"), (1, u "SOFT_MAX_ARRAY_LENGTH")] 83

def k12m0 : Method := { name := "<init>", desc := "()V", sig := { parameters := [], returnType := none }, accessFlags := 2, code := none }
/-- jdk/internal/util/ArraysSupport -/
def k12 : Class := { plain "jdk/internal/util/ArraysSupport" (some 0) with
  accessFlags := 33
  interfaces := #[]
  cf := some (fileOf pool12 21 #[] #[{ accessFlags := 2, nameIndex := 9, descriptorIndex := 19, attributes := #[] }] 33 16 #[] #[{ accessFlags := 24, nameIndex := 28, descriptorIndex := 29, attributes := #[] }, { accessFlags := 26, nameIndex := 38, descriptorIndex := 39, attributes := #[] }, { accessFlags := 25, nameIndex := 121, descriptorIndex := 25, attributes := #[] }, { accessFlags := 25, nameIndex := 131, descriptorIndex := 25, attributes := #[] }, { accessFlags := 25, nameIndex := 137, descriptorIndex := 25, attributes := #[] }, { accessFlags := 25, nameIndex := 143, descriptorIndex := 25, attributes := #[] }, { accessFlags := 25, nameIndex := 53, descriptorIndex := 25, attributes := #[] }, { accessFlags := 25, nameIndex := 24, descriptorIndex := 25, attributes := #[] }, { accessFlags := 25, nameIndex := 162, descriptorIndex := 25, attributes := #[] }, { accessFlags := 25, nameIndex := 187, descriptorIndex := 25, attributes := #[] }, { accessFlags := 26, nameIndex := 48, descriptorIndex := 25, attributes := #[] }, { accessFlags := 25, nameIndex := 277, descriptorIndex := 25, attributes := #[] }, { accessFlags := 25, nameIndex := 280, descriptorIndex := 25, attributes := #[] }, { accessFlags := 25, nameIndex := 282, descriptorIndex := 25, attributes := #[] }, { accessFlags := 25, nameIndex := 284, descriptorIndex := 25, attributes := #[] }, { accessFlags := 25, nameIndex := 286, descriptorIndex := 25, attributes := #[] }, { accessFlags := 25, nameIndex := 288, descriptorIndex := 25, attributes := #[] }, { accessFlags := 25, nameIndex := 290, descriptorIndex := 25, attributes := #[] }, { accessFlags := 25, nameIndex := 292, descriptorIndex := 25, attributes := #[] }, { accessFlags := 26, nameIndex := 108, descriptorIndex := 109, attributes := #[] }, { accessFlags := 25, nameIndex := 294, descriptorIndex := 25, attributes := #[] }])
  fields := #[{ name := "U", type := (.object "jdk/internal/misc/Unsafe"), accessFlags := 24, slot := 0, constantValue := 0 }, { name := "BIG_ENDIAN", type := .boolean, accessFlags := 26, slot := 1, constantValue := 0 }, { name := "LOG2_ARRAY_BOOLEAN_INDEX_SCALE", type := .int, accessFlags := 25, slot := 2, constantValue := 0 }, { name := "LOG2_ARRAY_BYTE_INDEX_SCALE", type := .int, accessFlags := 25, slot := 3, constantValue := 0 }, { name := "LOG2_ARRAY_CHAR_INDEX_SCALE", type := .int, accessFlags := 25, slot := 4, constantValue := 0 }, { name := "LOG2_ARRAY_SHORT_INDEX_SCALE", type := .int, accessFlags := 25, slot := 5, constantValue := 0 }, { name := "LOG2_ARRAY_INT_INDEX_SCALE", type := .int, accessFlags := 25, slot := 6, constantValue := 0 }, { name := "LOG2_ARRAY_LONG_INDEX_SCALE", type := .int, accessFlags := 25, slot := 7, constantValue := 0 }, { name := "LOG2_ARRAY_FLOAT_INDEX_SCALE", type := .int, accessFlags := 25, slot := 8, constantValue := 0 }, { name := "LOG2_ARRAY_DOUBLE_INDEX_SCALE", type := .int, accessFlags := 25, slot := 9, constantValue := 0 }, { name := "LOG2_BYTE_BIT_SIZE", type := .int, accessFlags := 26, slot := 10, constantValue := 0 }, { name := "T_BOOLEAN", type := .int, accessFlags := 25, slot := 11, constantValue := 0 }, { name := "T_CHAR", type := .int, accessFlags := 25, slot := 12, constantValue := 0 }, { name := "T_FLOAT", type := .int, accessFlags := 25, slot := 13, constantValue := 0 }, { name := "T_DOUBLE", type := .int, accessFlags := 25, slot := 14, constantValue := 0 }, { name := "T_BYTE", type := .int, accessFlags := 25, slot := 15, constantValue := 0 }, { name := "T_SHORT", type := .int, accessFlags := 25, slot := 16, constantValue := 0 }, { name := "T_INT", type := .int, accessFlags := 25, slot := 17, constantValue := 0 }, { name := "T_LONG", type := .int, accessFlags := 25, slot := 18, constantValue := 0 }, { name := "JLA", type := (.object "jdk/internal/access/JavaLangAccess"), accessFlags := 26, slot := 19, constantValue := 0 }, { name := "SOFT_MAX_ARRAY_LENGTH", type := .int, accessFlags := 25, slot := 20, constantValue := 0 }]
  methods := #[k12m0]
  instanceTypes := #[]
  staticTypes := #[(.object "jdk/internal/misc/Unsafe"), .boolean, .int, .int, .int, .int, .int, .int, .int, .int, .int, .int, .int, .int, .int, .int, .int, .int, .int, (.object "jdk/internal/access/JavaLangAccess"), .int]
  resolved := Array.replicate 378 none
  statics := none }

def pool13 : Array CpInfo := pool [(1, u "java/lang/Cloneable"), (0, .class_ 1), (0, u "java/lang/Object"), (0, .class_ 3)] 3

/-- java/lang/Cloneable -/
def k13 : Class := { plain "java/lang/Cloneable" (some 0) with
  accessFlags := 1537
  interfaces := #[]
  cf := some (fileOf pool13 2 #[] #[] 1537 4 #[] #[])
  fields := #[]
  methods := #[]
  instanceTypes := #[]
  staticTypes := #[]
  resolved := Array.replicate 8 none
  statics := none }

/-- the primitive byte -/
def k14 : Class := { plain "byte" none with kind := .primitive 'B', accessFlags := 0x411 }
/-- [B -/
def k15 : Class := { plain "[B" (some 0) with kind := .array 14 .byte, interfaces := #[13, 2], accessFlags := 1041 }

/-- the primitive char -/
def k16 : Class := { plain "char" none with kind := .primitive 'C', accessFlags := 0x411 }
/-- [C -/
def k17 : Class := { plain "[C" (some 0) with kind := .array 16 .char, interfaces := #[13, 2], accessFlags := 1041 }

/-- the primitive int -/
def k18 : Class := { plain "int" none with kind := .primitive 'I', accessFlags := 0x411 }
/-- [I -/
def k19 : Class := { plain "[I" (some 0) with kind := .array 18 .int, interfaces := #[13, 2], accessFlags := 1041 }

def heap : Heap := #[{ cls := 7, slots := #[.long 0, .int 1, .null, .int 0, .null, .int 0, .int 0], vm := .statics 7 },
  { cls := 11, slots := #[.null, .null, .null], vm := .statics 11 }]
def classes : Array Class := #[k0, k1, k2, k3, k4, k5, k6, k7, k8, k9, k10, k11, k12, k13, k14, k15, k16, k17, k18, k19]
def interned : List (Array UInt16 × Addr) := []
def slotsUsed : Nat := 10
def theMethod : MethodId := ⟨1, 2⟩
def args0 : Array Value := #[.int 5, .int 6, .int 7]
def aboutOver (below : List Frame) : State where
  vm := { classes := classes, interned := interned.toArray }
  heap := heap
  slotsUsed := slotsUsed
  threads := #[{ frames := .invoking theMethod args0 :: below }]
def below0 : List Frame := [.native { method := ⟨0, 0⟩, args := #[] }]
def about1 : State := aboutOver below0
def p0 : Program := .bare "" "" ""
def e0 : Env := launch0.env 0 0 0
theorem w_frames : about1.frames = Frame.invoking theMethod args0 :: below0 := rfl
set_option maxRecDepth 65536 in
theorem w_args : argsFit about1.vm theMethod args0 = true := by decide +kernel
set_option maxRecDepth 65536 in
theorem w_heap : heapFits about1 = true := by decide +kernel
set_option maxRecDepth 65536 in
theorem w_runnable : about1.curStatus? = some .runnable := by decide +kernel
set_option maxRecDepth 65536 in
theorem w_alone : about1.alone = true := by decide +kernel
set_option maxRecDepth 65536 in
theorem w_named : about1.methodNamed? x = some theMethod := by decide +kernel
set_option maxRecDepth 65536 in
theorem w_hears : about1.hears theMethod below0 = true := by decide +kernel
set_option maxRecDepth 65536 in
theorem w_ripe : about1.ripe theMethod args0 below0 = true := by decide +kernel
theorem w_running : about1.status = .running := rfl
set_option maxRecDepth 65536 in
theorem w_room : about1.hasRoom e0.platform room_1 = true :=
  launch0.hasRoom_least _ room_1 (by decide +kernel) (by decide +kernel) (by decide +kernel) (by decide +kernel) (by decide +kernel) (by decide +kernel)
theorem allAtoms_all (ts : List Jvm.Cond) (a : Array Jvm.Value) (st : Jvm.State) : (allAtoms ts).before a st = ts.all (fun c => c.before a st) := by
  induction ts with
  | nil => rfl
  | cons c t ih =>
    show (Jvm.Cond.and c (allAtoms t)).before a st = _
    rw [Jvm.Cond.before_and, ih, List.all_cons]
def words1 : List Jvm.Cond := Jvm.Cond.code x code maxLocals ret :: tables_1
/-- a 'code' word, met by the world's own term for the bytes: nothing is compared byte by byte -/
theorem code_word {y : MethodName} {bytes : ByteArray} {mx : Nat} {rt : Option FieldType} {a : Array Value} {s : State} {m : MethodId} {meth : Method} {c : Code} (h1 : s.methodNamed? y = some m) (h2 : s.vm.method? m = some meth) (h3 : meth.code = some c) (h4 : c.code = bytes)
    (h5 : (c.maxLocals == mx && c.exceptionTable.isEmpty && decide (c.maxStack ≤ mostOperands) && decide (meth.sig.returnType = rt) && !meth.locks && decide (parseMethodDescriptor y.desc = some meth.sig)) = true) : (Jvm.Cond.code y bytes mx rt).before a s = true := by
  simp only [Bool.and_eq_true, beq_iff_eq, Bool.not_eq_true', decide_eq_true_eq] at h5
  obtain ⟨⟨⟨⟨⟨g1, g2⟩, g3⟩, g4⟩, g5⟩, g6⟩ := h5
  simp [Cond.before, Cond.holds, Cond.value, h1, h2, h3, h4, g1, g2, g3, g4, g5, g6]
def isCode : Jvm.Cond → Bool
  | .code _ _ _ _ => true
  | _ => false
theorem all_split {L : List Jvm.Cond} {P : Jvm.Cond → Bool} (h1 : L.all (fun c => isCode c || P c) = true) (h2 : ∀ c ∈ L.filter isCode, P c = true) : L.all P = true := by
  refine List.all_eq_true.mpr fun c hc => ?_
  have h := List.all_eq_true.mp h1 c hc
  rcases Bool.eq_false_or_eq_true (isCode c) with hi | hi
  · exact h2 c (List.mem_filter.mpr ⟨hc, hi⟩)
  · simpa [hi] using h
set_option maxRecDepth 65536 in
theorem w_c0 : (Jvm.Cond.code x code maxLocals ret).before args0 about1 = true := code_word (m := ⟨1, 2⟩) (meth := k1m2) (c := k1c2) (by decide +kernel) rfl rfl rfl (by decide +kernel)
set_option maxRecDepth 65536 in
theorem w_c1 : (Jvm.Cond.code ({ cls := "com/example/tegmen/tegmen/OptionFlagPinLaw", name := "str", desc := "(II)Ljava/lang/String;" } : Jvm.MethodName) method_2_code (5 : Nat) (Option.some (Jvm.ClassFile.FieldType.object "java/lang/String"))).before args0 about1 = true := code_word (m := ⟨1, 1⟩) (meth := k1m1) (c := k1c1) (by decide +kernel) rfl rfl rfl (by decide +kernel)
set_option maxRecDepth 65536 in
theorem w_c2 : (Jvm.Cond.code ({ cls := "java/lang/String", name := "<init>", desc := "([C)V" } : Jvm.MethodName) jdk_42_method_3_code (2 : Nat) (Option.none : Option Jvm.ClassFile.FieldType)).before args0 about1 = true := code_word (m := ⟨7, 1⟩) (meth := k7m1) (c := k7c1) (by decide +kernel) rfl rfl rfl (by decide +kernel)
set_option maxRecDepth 65536 in
theorem w_c3 : (Jvm.Cond.code ({ cls := "java/lang/String", name := "<init>", desc := "([CIILjava/lang/Void;)V" } : Jvm.MethodName) jdk_42_method_149_code (6 : Nat) (Option.none : Option Jvm.ClassFile.FieldType)).before args0 about1 = true := code_word (m := ⟨7, 4⟩) (meth := k7m4) (c := k7c4) (by decide +kernel) rfl rfl rfl (by decide +kernel)
set_option maxRecDepth 65536 in
theorem w_c4 : (Jvm.Cond.code ({ cls := "java/lang/Object", name := "<init>", desc := "()V" } : Jvm.MethodName) object_method_1_code (1 : Nat) (Option.none : Option Jvm.ClassFile.FieldType)).before args0 about1 = true := code_word (m := ⟨0, 0⟩) (meth := k0m0) (c := k0c0) (by decide +kernel) rfl rfl rfl (by decide +kernel)
set_option maxRecDepth 65536 in
theorem w_c5 : (Jvm.Cond.code ({ cls := "java/lang/StringUTF16", name := "compress", desc := "([CII)[B" } : Jvm.MethodName) jdk_52_method_16_code (6 : Nat) (Option.some (Jvm.ClassFile.FieldType.array Jvm.ClassFile.FieldType.byte))).before args0 about1 = true := code_word (m := ⟨8, 2⟩) (meth := k8m2) (c := k8c2) (by decide +kernel) rfl rfl rfl (by decide +kernel)
set_option maxRecDepth 65536 in
theorem w_c6 : (Jvm.Cond.code ({ cls := "java/lang/StringUTF16", name := "compress", desc := "([CI[BII)I" } : Jvm.MethodName) jdk_52_method_21_code (7 : Nat) (Option.some Jvm.ClassFile.FieldType.int)).before args0 about1 = true := code_word (m := ⟨8, 3⟩) (meth := k8m3) (c := k8c3) (by decide +kernel) rfl rfl rfl (by decide +kernel)
set_option maxRecDepth 65536 in
theorem w_c7 : (Jvm.Cond.code ({ cls := "java/lang/StringUTF16", name := "coderFromArrayLen", desc := "([BI)B" } : Jvm.MethodName) jdk_52_method_15_code (2 : Nat) (Option.some Jvm.ClassFile.FieldType.byte)).before args0 about1 = true := code_word (m := ⟨8, 1⟩) (meth := k8m1) (c := k8c1) (by decide +kernel) rfl rfl rfl (by decide +kernel)
set_option maxRecDepth 65536 in
theorem w_c8 : (Jvm.Cond.code ({ cls := "com/example/tegmen/tegmen/Subcommand$Option", name := "flag", desc := "(Ljava/lang/String;Ljava/lang/String;)Lcom/example/tegmen/tegmen/Subcommand$Option;" } : Jvm.MethodName) prog_70_method_2_code (2 : Nat) (Option.some (Jvm.ClassFile.FieldType.object "com/example/tegmen/tegmen/Subcommand$Option"))).before args0 about1 = true := code_word (m := ⟨9, 1⟩) (meth := k9m1) (c := k9c1) (by decide +kernel) rfl rfl rfl (by decide +kernel)
set_option maxRecDepth 65536 in
theorem w_c9 : (Jvm.Cond.code ({ cls := "com/example/tegmen/tegmen/Subcommand$Option", name := "<init>", desc := "(Ljava/lang/String;Ljava/lang/String;ZLjava/lang/String;)V" } : Jvm.MethodName) prog_70_method_1_code (5 : Nat) (Option.none : Option Jvm.ClassFile.FieldType)).before args0 about1 = true := code_word (m := ⟨9, 0⟩) (meth := k9m0) (c := k9c0) (by decide +kernel) rfl rfl rfl (by decide +kernel)
set_option maxRecDepth 65536 in
theorem w_c10 : (Jvm.Cond.code ({ cls := "com/example/tegmen/tegmen/Subcommand$Option", name := "name", desc := "()Ljava/lang/String;" } : Jvm.MethodName) prog_70_method_5_code (1 : Nat) (Option.some (Jvm.ClassFile.FieldType.object "java/lang/String"))).before args0 about1 = true := code_word (m := ⟨9, 2⟩) (meth := k9m2) (c := k9c2) (by decide +kernel) rfl rfl rfl (by decide +kernel)
set_option maxRecDepth 65536 in
theorem w_c11 : (Jvm.Cond.code ({ cls := "com/example/tegmen/tegmen/Subcommand$Option", name := "description", desc := "()Ljava/lang/String;" } : Jvm.MethodName) prog_70_method_7_code (1 : Nat) (Option.some (Jvm.ClassFile.FieldType.object "java/lang/String"))).before args0 about1 = true := code_word (m := ⟨9, 4⟩) (meth := k9m4) (c := k9c4) (by decide +kernel) rfl rfl rfl (by decide +kernel)
set_option maxRecDepth 65536 in
theorem w_c12 : (Jvm.Cond.code ({ cls := "java/lang/String", name := "equals", desc := "(Ljava/lang/Object;)Z" } : Jvm.MethodName) jdk_42_method_66_code (3 : Nat) (Option.some Jvm.ClassFile.FieldType.boolean)).before args0 about1 = true := code_word (m := ⟨7, 2⟩) (meth := k7m2) (c := k7c2) (by decide +kernel) rfl rfl rfl (by decide +kernel)
set_option maxRecDepth 65536 in
theorem w_c13 : (Jvm.Cond.code ({ cls := "java/lang/StringLatin1", name := "equals", desc := "([B[B)Z" } : Jvm.MethodName) jdk_43_method_13_code (3 : Nat) (Option.some Jvm.ClassFile.FieldType.boolean)).before args0 about1 = true := code_word (m := ⟨10, 2⟩) (meth := k10m2) (c := k10c2) (by decide +kernel) rfl rfl rfl (by decide +kernel)
set_option maxRecDepth 65536 in
theorem w_c14 : (Jvm.Cond.code ({ cls := "com/example/tegmen/tegmen/Subcommand$Option", name := "label", desc := "()Ljava/lang/String;" } : Jvm.MethodName) prog_70_method_6_code (1 : Nat) (Option.some (Jvm.ClassFile.FieldType.object "java/lang/String"))).before args0 about1 = true := code_word (m := ⟨9, 3⟩) (meth := k9m3) (c := k9c3) (by decide +kernel) rfl rfl rfl (by decide +kernel)
set_option maxRecDepth 65536 in
theorem w_c15 : (Jvm.Cond.code ({ cls := "com/example/tegmen/tegmen/Subcommand$Option", name := "takesValues", desc := "()Z" } : Jvm.MethodName) prog_70_method_8_code (1 : Nat) (Option.some Jvm.ClassFile.FieldType.boolean)).before args0 about1 = true := code_word (m := ⟨9, 5⟩) (meth := k9m5) (c := k9c5) (by decide +kernel) rfl rfl rfl (by decide +kernel)
set_option maxRecDepth 65536 in
theorem w_c16 : (Jvm.Cond.code ({ cls := "com/example/tegmen/tegmen/Subcommand$Option", name := "takesList", desc := "()Z" } : Jvm.MethodName) prog_70_method_9_code (1 : Nat) (Option.some Jvm.ClassFile.FieldType.boolean)).before args0 about1 = true := code_word (m := ⟨9, 6⟩) (meth := k9m6) (c := k9c6) (by decide +kernel) rfl rfl rfl (by decide +kernel)
set_option maxRecDepth 65536 in
theorem w_c17 : (Jvm.Cond.code ({ cls := "java/lang/String", name := "valueOf", desc := "(C)Ljava/lang/String;" } : Jvm.MethodName) jdk_42_method_139_code (1 : Nat) (Option.some (Jvm.ClassFile.FieldType.object "java/lang/String"))).before args0 about1 = true := code_word (m := ⟨7, 3⟩) (meth := k7m3) (c := k7c3) (by decide +kernel) rfl rfl rfl (by decide +kernel)
set_option maxRecDepth 65536 in
theorem w_c18 : (Jvm.Cond.code ({ cls := "java/lang/StringLatin1", name := "canEncode", desc := "(C)Z" } : Jvm.MethodName) jdk_43_method_3_code (1 : Nat) (Option.some Jvm.ClassFile.FieldType.boolean)).before args0 about1 = true := code_word (m := ⟨10, 1⟩) (meth := k10m1) (c := k10c1) (by decide +kernel) rfl rfl rfl (by decide +kernel)
set_option maxRecDepth 65536 in
theorem w_c19 : (Jvm.Cond.code ({ cls := "java/lang/StringLatin1", name := "toBytes", desc := "(C)[B" } : Jvm.MethodName) jdk_43_method_46_code (1 : Nat) (Option.some (Jvm.ClassFile.FieldType.array Jvm.ClassFile.FieldType.byte))).before args0 about1 = true := code_word (m := ⟨10, 3⟩) (meth := k10m3) (c := k10c3) (by decide +kernel) rfl rfl rfl (by decide +kernel)
set_option maxRecDepth 65536 in
theorem w_c20 : (Jvm.Cond.code ({ cls := "java/lang/String", name := "<init>", desc := "([BB)V" } : Jvm.MethodName) jdk_42_method_151_code (3 : Nat) (Option.none : Option Jvm.ClassFile.FieldType)).before args0 about1 = true := code_word (m := ⟨7, 5⟩) (meth := k7m5) (c := k7c5) (by decide +kernel) rfl rfl rfl (by decide +kernel)
def codes1 : List Jvm.Cond := [Jvm.Cond.code x code maxLocals ret, Jvm.Cond.code ({ cls := "com/example/tegmen/tegmen/OptionFlagPinLaw", name := "str", desc := "(II)Ljava/lang/String;" } : Jvm.MethodName) method_2_code (5 : Nat) (Option.some (Jvm.ClassFile.FieldType.object "java/lang/String")), Jvm.Cond.code ({ cls := "java/lang/String", name := "<init>", desc := "([C)V" } : Jvm.MethodName) jdk_42_method_3_code (2 : Nat) (Option.none : Option Jvm.ClassFile.FieldType), Jvm.Cond.code ({ cls := "java/lang/String", name := "<init>", desc := "([CIILjava/lang/Void;)V" } : Jvm.MethodName) jdk_42_method_149_code (6 : Nat) (Option.none : Option Jvm.ClassFile.FieldType), Jvm.Cond.code ({ cls := "java/lang/Object", name := "<init>", desc := "()V" } : Jvm.MethodName) object_method_1_code (1 : Nat) (Option.none : Option Jvm.ClassFile.FieldType), Jvm.Cond.code ({ cls := "java/lang/StringUTF16", name := "compress", desc := "([CII)[B" } : Jvm.MethodName) jdk_52_method_16_code (6 : Nat) (Option.some (Jvm.ClassFile.FieldType.array Jvm.ClassFile.FieldType.byte)), Jvm.Cond.code ({ cls := "java/lang/StringUTF16", name := "compress", desc := "([CI[BII)I" } : Jvm.MethodName) jdk_52_method_21_code (7 : Nat) (Option.some Jvm.ClassFile.FieldType.int), Jvm.Cond.code ({ cls := "java/lang/StringUTF16", name := "coderFromArrayLen", desc := "([BI)B" } : Jvm.MethodName) jdk_52_method_15_code (2 : Nat) (Option.some Jvm.ClassFile.FieldType.byte), Jvm.Cond.code ({ cls := "com/example/tegmen/tegmen/Subcommand$Option", name := "flag", desc := "(Ljava/lang/String;Ljava/lang/String;)Lcom/example/tegmen/tegmen/Subcommand$Option;" } : Jvm.MethodName) prog_70_method_2_code (2 : Nat) (Option.some (Jvm.ClassFile.FieldType.object "com/example/tegmen/tegmen/Subcommand$Option")), Jvm.Cond.code ({ cls := "com/example/tegmen/tegmen/Subcommand$Option", name := "<init>", desc := "(Ljava/lang/String;Ljava/lang/String;ZLjava/lang/String;)V" } : Jvm.MethodName) prog_70_method_1_code (5 : Nat) (Option.none : Option Jvm.ClassFile.FieldType), Jvm.Cond.code ({ cls := "com/example/tegmen/tegmen/Subcommand$Option", name := "name", desc := "()Ljava/lang/String;" } : Jvm.MethodName) prog_70_method_5_code (1 : Nat) (Option.some (Jvm.ClassFile.FieldType.object "java/lang/String")), Jvm.Cond.code ({ cls := "com/example/tegmen/tegmen/Subcommand$Option", name := "description", desc := "()Ljava/lang/String;" } : Jvm.MethodName) prog_70_method_7_code (1 : Nat) (Option.some (Jvm.ClassFile.FieldType.object "java/lang/String")), Jvm.Cond.code ({ cls := "java/lang/String", name := "equals", desc := "(Ljava/lang/Object;)Z" } : Jvm.MethodName) jdk_42_method_66_code (3 : Nat) (Option.some Jvm.ClassFile.FieldType.boolean), Jvm.Cond.code ({ cls := "java/lang/StringLatin1", name := "equals", desc := "([B[B)Z" } : Jvm.MethodName) jdk_43_method_13_code (3 : Nat) (Option.some Jvm.ClassFile.FieldType.boolean), Jvm.Cond.code ({ cls := "com/example/tegmen/tegmen/Subcommand$Option", name := "label", desc := "()Ljava/lang/String;" } : Jvm.MethodName) prog_70_method_6_code (1 : Nat) (Option.some (Jvm.ClassFile.FieldType.object "java/lang/String")), Jvm.Cond.code ({ cls := "com/example/tegmen/tegmen/Subcommand$Option", name := "takesValues", desc := "()Z" } : Jvm.MethodName) prog_70_method_8_code (1 : Nat) (Option.some Jvm.ClassFile.FieldType.boolean), Jvm.Cond.code ({ cls := "com/example/tegmen/tegmen/Subcommand$Option", name := "takesList", desc := "()Z" } : Jvm.MethodName) prog_70_method_9_code (1 : Nat) (Option.some Jvm.ClassFile.FieldType.boolean), Jvm.Cond.code ({ cls := "java/lang/String", name := "valueOf", desc := "(C)Ljava/lang/String;" } : Jvm.MethodName) jdk_42_method_139_code (1 : Nat) (Option.some (Jvm.ClassFile.FieldType.object "java/lang/String")), Jvm.Cond.code ({ cls := "java/lang/StringLatin1", name := "canEncode", desc := "(C)Z" } : Jvm.MethodName) jdk_43_method_3_code (1 : Nat) (Option.some Jvm.ClassFile.FieldType.boolean), Jvm.Cond.code ({ cls := "java/lang/StringLatin1", name := "toBytes", desc := "(C)[B" } : Jvm.MethodName) jdk_43_method_46_code (1 : Nat) (Option.some (Jvm.ClassFile.FieldType.array Jvm.ClassFile.FieldType.byte)), Jvm.Cond.code ({ cls := "java/lang/String", name := "<init>", desc := "([BB)V" } : Jvm.MethodName) jdk_42_method_151_code (3 : Nat) (Option.none : Option Jvm.ClassFile.FieldType)]
set_option maxRecDepth 65536 in
theorem codes_eq : words1.filter isCode = codes1 := rfl
theorem w_codes : ∀ c ∈ words1.filter isCode, c.before args0 about1 = true := by
  rw [codes_eq]
  intro c hc
  simp only [codes1, List.mem_cons, List.not_mem_nil, or_false] at hc
  rcases hc with rfl | rfl | rfl | rfl | rfl | rfl | rfl | rfl | rfl | rfl | rfl | rfl | rfl | rfl | rfl | rfl | rfl | rfl | rfl | rfl | rfl
  · exact w_c0
  · exact w_c1
  · exact w_c2
  · exact w_c3
  · exact w_c4
  · exact w_c5
  · exact w_c6
  · exact w_c7
  · exact w_c8
  · exact w_c9
  · exact w_c10
  · exact w_c11
  · exact w_c12
  · exact w_c13
  · exact w_c14
  · exact w_c15
  · exact w_c16
  · exact w_c17
  · exact w_c18
  · exact w_c19
  · exact w_c20
set_option maxRecDepth 65536 in
theorem w_t1 : (words1.take 24).all (fun c => isCode c || c.before args0 about1) = true := by decide +kernel
set_option maxRecDepth 65536 in
theorem w_t2 : ((words1.drop 24).take 24).all (fun c => isCode c || c.before args0 about1) = true := by decide +kernel
set_option maxRecDepth 65536 in
theorem w_t3 : (((words1.drop 24).drop 24).take 24).all (fun c => isCode c || c.before args0 about1) = true := by decide +kernel
set_option maxRecDepth 65536 in
theorem w_t4 : ((((words1.drop 24).drop 24).drop 24).take 24).all (fun c => isCode c || c.before args0 about1) = true := by decide +kernel
set_option maxRecDepth 65536 in
theorem w_t5 : ((((words1.drop 24).drop 24).drop 24).drop 24).all (fun c => isCode c || c.before args0 about1) = true := by decide +kernel
theorem w_tables : (allAtoms (Jvm.Cond.code x code maxLocals ret :: tables_1)).before args0 about1 = true := by
  rw [allAtoms_all]
  show words1.all (fun c => c.before args0 about1) = true
  refine all_split ?_ w_codes
  rw [← List.take_append_drop 24 words1, List.all_append, w_t1, ← List.take_append_drop 24 (words1.drop 24), List.all_append, w_t2, ← List.take_append_drop 24 ((words1.drop 24).drop 24), List.all_append, w_t3, ← List.take_append_drop 24 (((words1.drop 24).drop 24).drop 24), List.all_append, w_t4, w_t5]
  rfl
set_option maxRecDepth 65536 in
theorem w_rest : rest_1_c.before args0 about1 = true := by decide +kernel
set_option maxRecDepth 65536 in
theorem w_case : (Jvm.Cond.and given_1 narrow_1).before args0 about1 = true := by decide +kernel
set_option maxRecDepth 65536 in
theorem w_consts : constsHeld consts_1 about1 := Jvm.Lit.constsHeldB_iff.mp (by decide +kernel)
theorem w_applies : (headSpec (Jvm.Cond.code x code maxLocals ret :: tables_1) room_1).applies x e0.platform about1 = true :=
  (Spec.applies_iff w_frames).mpr ⟨w_running, w_runnable, w_alone, w_named, w_hears, w_ripe, w_room, w_tables⟩
theorem atStart : AtStart classFile x code maxLocals ret World_1 tables_1 room_1 Calls_1 rest_1 Pre_1 launch0 p0 e0 about1 theMethod args0 below0 :=
  ⟨lists_1, trivial, launch0.admits_env _ _ _, launch0.least_env, fairChoices_fair.cas, fairChoices_fair.clock, w_frames, w_args, w_heap, w_applies, ⟨w_consts, trivial⟩, w_rest, w_case⟩
end start1
theorem witness_1 : WitnessClaimed_1 := ⟨start1.p0, start1.e0, start1.about1, start1.theMethod, start1.args0, start1.below0, start1.atStart⟩
end Jvm.Pilot.@@N@@
