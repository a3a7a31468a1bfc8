import JvmDerived
import JvmDerived.Pilot.@@N@@Statement
import JvmDerived.Pilot.@@N@@Code
set_option linter.unusedVariables false
set_option linter.unusedSimpArgs false
/- laws to paste: Road.backV (cut by pick.py; bodies as the Statement names them) -/
namespace Jvm.Pilot.@@N@@
namespace StrChars
open Jvm Sem ClassFile Op Lib Jvm.Stand Jvm.Free.XT Jvm.Free.ALB Jvm.Free.JM Jvm.Free
open Jvm.Lib.Cold (StaticIs)
/-- a char array whose places are chars -/
def Ch (a : Addr) (A : Cell) (U : State) : Prop := Arr .char a A U ∧ Typed .char A
theorem Ch.mv {a : Addr} {A : Cell} {U U' : State} (h : Ch a A U) (hal : U.vm.Alike U'.vm) (hh : U'.heap = U.heap) : Ch a A U' := ⟨h.1.mv hal hh, h.2⟩
theorem Ch.keep {a : Addr} {A : Cell} {U U' : State} (h : Ch a A U) (hal : U.vm.Alike U'.vm) (hk : U'.heap[a]? = some A) : Ch a A U' := ⟨h.1.keep hal hk, h.2⟩
/-- what place i of a char[]'s cell holds -/
def cv (A : Cell) (i : Nat) : Int32 := match A.slots[i]? with | some (.int x) => x | _ => 0
theorem Ch.get {a : Addr} {A : Cell} {U : State} (h : Ch a A U) {i : Nat} (hi : i < A.slots.size) : A.slots[i]? = some (.int (cv A i)) := by
  have e := Array.getElem?_eq_getElem hi
  have f := h.2 i _ e
  unfold cv; rw [e]
  generalize A.slots[i] = v at f
  cases v <;> simp [fits] at f ⊢
/-- the byte that i2b leaves of a char -/
def lo8 (x : Int32) : Int32 := x.toInt8.toInt32
theorem fits_lo8 (y : Int32) : fits .byte (.int (lo8 y)) = true := by
  have h1 := y.toInt8.le_toInt
  have h2 := y.toInt8.toInt_lt
  simp only [lo8, fits, Bool.and_eq_true, decide_eq_true_eq, Int32.le_iff_toInt_le, Int8.toInt_toInt32, show (-128 : Int32).toInt = -128 from by decide, show (127 : Int32).toInt = 127 from by decide]
  omega
/-- A' is A but that each place j of lo .. hi - 1 holds f j -/
def Laid (A A' : Cell) (lo hi : Nat) (f : Nat → Value) : Prop := A'.cls = A.cls ∧ A'.vm = A.vm ∧ A'.slots.size = A.slots.size ∧ ∀ i, A'.slots[i]? = if lo ≤ i ∧ i < hi then some (f i) else A.slots[i]?
theorem Laid.zero (A : Cell) (lo : Nat) (f : Nat → Value) : Laid A A lo (lo + 0) f := ⟨rfl, rfl, rfl, fun i => by rw [if_neg (by omega)]⟩
theorem Laid.step {A Ak : Cell} {lo k : Nat} {f : Nat → Value} {v : Value} (h : Laid A Ak lo k f) (hlo : lo ≤ k) (hk : k < Ak.slots.size) (hv : v = f k) : Laid A (Ak.setSlot k v) lo (k + 1) f := by
  refine ⟨h.1, h.2.1, by simpa [Cell.setSlot] using h.2.2.1, fun i => ?_⟩
  by_cases e : k = i
  · subst e; rw [Cell.slots_setSlot_self v hk, if_pos (by omega), hv]
  · rw [Cell.slots_setSlot_ne v e, h.2.2.2 i]
    by_cases q : lo ≤ i ∧ i < k
    · rw [if_pos q, if_pos (by omega)]
    · rw [if_neg q, if_neg (by omega)]
def U16 : String := "java/lang/StringUTF16"
namespace Cmp5
def yN : MethodName := ⟨"java/lang/StringUTF16", "compress", "([CI[BII)I"⟩
abbrev yB : ByteArray := jdk_52_method_21_code
theorem d0 : decode yB 0 = .ok (.iconst 0, 1) := by decide +kernel
theorem d1 : decode yB 1 = .ok (.istore 5, 2) := by decide +kernel
theorem d3 : decode yB 3 = .ok (.iload 5, 2) := by decide +kernel
theorem d5 : decode yB 5 = .ok (.iload 4, 2) := by decide +kernel
theorem d7 : decode yB 7 = .ok (.if_icmp (.ge) 37, 3) := by decide +kernel
theorem d10 : decode yB 10 = .ok (.aload_n 0, 1) := by decide +kernel
theorem d11 : decode yB 11 = .ok (.iload_n 1, 1) := by decide +kernel
theorem d12 : decode yB 12 = .ok (.caload, 1) := by decide +kernel
theorem d13 : decode yB 13 = .ok (.istore 6, 2) := by decide +kernel
theorem d15 : decode yB 15 = .ok (.iload 6, 2) := by decide +kernel
theorem d17 : decode yB 17 = .ok (.sipush 255, 3) := by decide +kernel
theorem d20 : decode yB 20 = .ok (.if_icmp (.le) 6, 3) := by decide +kernel
theorem d26 : decode yB 26 = .ok (.aload_n 2, 1) := by decide +kernel
theorem d27 : decode yB 27 = .ok (.iload_n 3, 1) := by decide +kernel
theorem d28 : decode yB 28 = .ok (.iload 6, 2) := by decide +kernel
theorem d30 : decode yB 30 = .ok (.i2b, 1) := by decide +kernel
theorem d31 : decode yB 31 = .ok (.bastore, 1) := by decide +kernel
theorem d32 : decode yB 32 = .ok (.iinc 1 1, 3) := by decide +kernel
theorem d35 : decode yB 35 = .ok (.iinc 3 1, 3) := by decide +kernel
theorem d38 : decode yB 38 = .ok (.iinc 5 1, 3) := by decide +kernel
theorem d41 : decode yB 41 = .ok (.goto (-38), 3) := by decide +kernel
theorem d44 : decode yB 44 = .ok (.iload 4, 2) := by decide +kernel
theorem d46 : decode yB 46 = .ok (.ireturn, 1) := by decide +kernel
def site : List Cond := []
def tab : Cond := tabOf yN yB 7 (some .int) site
def P (b : Addr) (A : Cell) (d : Addr) (B : Cell) (o q len : Nat) (args : Array Value) (s : State) : Prop := args = #[.ref b, .int (Int32.ofNat o), .ref d, .int (Int32.ofNat q), .int (Int32.ofNat len)] ∧ Ch b A s ∧ Arr .byte d B s ∧ b ≠ d ∧ o + len ≤ A.slots.size ∧ q + len ≤ B.slots.size ∧ ∀ i, i < len → ¬ 255 < cv A (o + i)
def E (b : Addr) (A : Cell) (d : Addr) (B : Cell) (o q len : Nat) (r : Option Value) (s u : State) : Prop := r = some (.int (Int32.ofNat len)) ∧ ∃ B', Put d B' s u ∧ Laid B B' q (q + len) (fun j => Value.int (lo8 (cv A (o + (j - q)))))
/-- no char of the range above 255: len; the places written hold each char's low byte -/
theorem law (l : Launch) (b : Addr) (A : Cell) (d : Addr) (B : Cell) (o q len : Nat) : Law l yN 5 5 0 0 yB 7 (some .int) site (P b A d B o q len) (E b A d B o q len) (copyLocs d q len) 0 0 := by
  refine Law.of_walk (plainFor_of_name (by decide +kernel)) (by decide +kernel) (by decide +kernel) (by decide) (fun _ _ h => by rw [h.1]; rfl) (fun _ U U' hal hh h => ⟨h.1, h.2.1.mv hal hh, h.2.2.1.mv hal hh, h.2.2.2⟩) (fun r U U' V V' h1 hal h2 h => ⟨h.1, h.2.elim fun B' q => ⟨B', q.1.mv h1 h2, q.2⟩⟩) ?_
  intro p e s m args below meth c s₁ X0 hexec hbytes hml hret hlk hnm hown hh0 W hP
  obtain ⟨rfl, hA, hB, hne, l1, l2, hp⟩ := hP
  have c1 : Steps p.tables e below (s₁.setTop (entryFrame m #[.ref b, .int (Int32.ofNat o), .ref d, .int (Int32.ofNat q), .int (Int32.ofNat len)] 7)) (s₁.setTop (mkF m 0 #[.val (.ref b), .val (.int (Int32.ofNat o)), .val (.ref d), .val (.int (Int32.ofNat q)), .val (.int (Int32.ofNat len)), .unset, .unset] [])) := entry rfl
  have hA0 := hA.1.mv X0.warmed.alike hh0
  have hB0 := hB.mv X0.warmed.alike hh0
  have a31 := hA.1.2.2.2
  have c2 : Steps p.tables e below (s₁.setTop (entryFrame m #[.ref b, .int (Int32.ofNat o), .ref d, .int (Int32.ofNat q), .int (Int32.ofNat len)] 7)) (s₁.setTop (mkF m 3 #[.val (.ref b), .val (.int (Int32.ofNat o)), .val (.ref d), .val (.int (Int32.ofNat q)), .val (.int (Int32.ofNat len)), .val (.int 0), .unset] [])) := c1.trans (by
    refine iconstV X0.here hexec rfl 0 (hb hbytes d0) (by decide) ?_
    refine XS.istore X0.here hexec rfl (hb hbytes d1) rfl rfl ?_
    exact Steps.refl _)
  have loop : ∀ (r i : Nat), i + r = len → ∀ (z : Slot), (z = .unset ∨ ∃ w, z = .val w ∧ w.category = 1) → ∀ (Tl : State) (Bk : Cell), Stand p l e { frames := 0, locals := 0, cells := 0, slots := 0 } s m #[.ref b, .int (Int32.ofNat o), .ref d, .int (Int32.ofNat q), .int (Int32.ofNat len)] below meth c Tl ([] ++ copyLocs d q i) 0 0 → Put d Bk s₁ Tl → Laid B Bk q (q + i) (fun j => Value.int (lo8 (cv A (o + (j - q))))) →
      Steps p.tables e below (s₁.setTop (entryFrame m #[.ref b, .int (Int32.ofNat o), .ref d, .int (Int32.ofNat q), .int (Int32.ofNat len)] 7)) (Tl.setTop (mkF m 3 #[.val (.ref b), .val (.int (Int32.ofNat (o + i))), .val (.ref d), .val (.int (Int32.ofNat (q + i))), .val (.int (Int32.ofNat len)), .val (.int (Int32.ofNat i)), z] [])) → ∃ (T' : State) (B' : Cell) (z' : Slot), Stand p l e { frames := 0, locals := 0, cells := 0, slots := 0 } s m #[.ref b, .int (Int32.ofNat o), .ref d, .int (Int32.ofNat q), .int (Int32.ofNat len)] below meth c T' ([] ++ copyLocs d q len) 0 0 ∧ Put d B' s₁ T' ∧ Laid B B' q (q + len) (fun j => Value.int (lo8 (cv A (o + (j - q))))) ∧
      Steps p.tables e below (s₁.setTop (entryFrame m #[.ref b, .int (Int32.ofNat o), .ref d, .int (Int32.ofNat q), .int (Int32.ofNat len)] 7)) (T'.setTop (mkF m 3 #[.val (.ref b), .val (.int (Int32.ofNat (o + len))), .val (.ref d), .val (.int (Int32.ofNat (q + len))), .val (.int (Int32.ofNat len)), .val (.int (Int32.ofNat len)), z'] [])) := by
    intro r
    induction r with
    | zero =>
      intro i hi z hz Tl Bk Xl pl fl cl
      have hil : i = len := by omega
      rw [hil] at Xl fl cl
      exact ⟨Tl, Bk, z, Xl, pl, fl, cl⟩
    | succ r ih =>
      intro i hi z hz Tl Bk Xl pl fl cl
      have all := X0.warmed.alike.symm.trans Xl.warmed.alike
      have hAl := hA0.keep all (pl.other hne hA0.1)
      have hBk := hB0.like all pl.1 fl.1 fl.2.1 fl.2.2.1
      have hlt : q + i < Bk.slots.size := by rw [fl.2.2.1]; omega
      have c3 : Steps p.tables e below (s₁.setTop (entryFrame m #[.ref b, .int (Int32.ofNat o), .ref d, .int (Int32.ofNat q), .int (Int32.ofNat len)] 7)) (Tl.setTop (mkF m 12 #[.val (.ref b), .val (.int (Int32.ofNat (o + i))), .val (.ref d), .val (.int (Int32.ofNat (q + i))), .val (.int (Int32.ofNat len)), .val (.int (Int32.ofNat i)), z] [.int (Int32.ofNat (o + i)), .ref b])) := cl.trans (by
        refine XS.iload Xl.here hexec rfl (hb hbytes d3) rfl ?_
        refine XS.iload Xl.here hexec rfl (hb hbytes d5) rfl ?_
        refine XS.icmpNo Xl.here hexec rfl (hb hbytes d7) rfl (ii_ge_f (lt32 (by omega) (by omega))) ?_
        refine XS.aloadN Xl.here hexec rfl (hb hbytes d10) rfl rfl ?_
        refine XS.iloadN Xl.here hexec rfl (hb hbytes d11) rfl ?_
        exact Steps.refl _)
      have c4 : Steps p.tables e below (s₁.setTop (entryFrame m #[.ref b, .int (Int32.ofNat o), .ref d, .int (Int32.ofNat q), .int (Int32.ofNat len)] 7)) (Tl.setTop (mkF m 13 #[.val (.ref b), .val (.int (Int32.ofNat (o + i))), .val (.ref d), .val (.int (Int32.ofNat (q + i))), .val (.int (Int32.ofNat len)), .val (.int (Int32.ofNat i)), z] [.int (cv A (o + i))])) := c3.trans (by
        refine Xl.aget hexec hAl rfl (hA.get (i := o + i) (by omega)) rfl rfl (hb hbytes d12) ?_
        exact Steps.refl _)
      have c5 : Steps p.tables e below (s₁.setTop (entryFrame m #[.ref b, .int (Int32.ofNat o), .ref d, .int (Int32.ofNat q), .int (Int32.ofNat len)] 7)) (Tl.setTop (mkF m 15 #[.val (.ref b), .val (.int (Int32.ofNat (o + i))), .val (.ref d), .val (.int (Int32.ofNat (q + i))), .val (.int (Int32.ofNat len)), .val (.int (Int32.ofNat i)), .val (.int (cv A (o + i)))] [])) := c4.trans (by
        refine XS.istoreS Xl.here hexec rfl (hb hbytes d13) rfl rfl hz ?_
        exact Steps.refl _)
      have c6 : Steps p.tables e below (s₁.setTop (entryFrame m #[.ref b, .int (Int32.ofNat o), .ref d, .int (Int32.ofNat q), .int (Int32.ofNat len)] 7)) (Tl.setTop (mkF m 31 #[.val (.ref b), .val (.int (Int32.ofNat (o + i))), .val (.ref d), .val (.int (Int32.ofNat (q + i))), .val (.int (Int32.ofNat len)), .val (.int (Int32.ofNat i)), .val (.int (cv A (o + i)))] [.int (lo8 (cv A (o + i))), .int (Int32.ofNat (q + i)), .ref d])) := c5.trans (by
        refine XS.iload Xl.here hexec rfl (hb hbytes d15) rfl ?_
        refine sipushV Xl.here hexec rfl 255 (hb hbytes d17) (by decide) ?_
        refine XS.icmpYes Xl.here hexec rfl (pc0 := 20) rfl (hb hbytes d20) rfl (ii_le_t (hp i (by omega))) (by decide) rfl ?_
        refine XS.aloadN Xl.here hexec rfl (hb hbytes d26) rfl rfl ?_
        refine XS.iloadN Xl.here hexec rfl (hb hbytes d27) rfl ?_
        refine XS.iload Xl.here hexec rfl (hb hbytes d28) rfl ?_
        refine i2b Xl.here hexec rfl (hb hbytes d30) rfl ?_
        exact Steps.refl _)
      obtain ⟨T7, X7, p7, st7⟩ := Xl.aput hexec hBk rfl hlt rfl (fits_lo8 (cv A (o + i))) (g := (mkF m 31 #[.val (.ref b), .val (.int (Int32.ofNat (o + i))), .val (.ref d), .val (.int (Int32.ofNat (q + i))), .val (.int (Int32.ofNat len)), .val (.int (Int32.ofNat i)), .val (.int (cv A (o + i)))] [.int (lo8 (cv A (o + i))), .int (Int32.ofNat (q + i)), .ref d])) rfl (rest := []) rfl (hb hbytes d31)
      have c8 : Steps p.tables e below (s₁.setTop (entryFrame m #[.ref b, .int (Int32.ofNat o), .ref d, .int (Int32.ofNat q), .int (Int32.ofNat len)] 7)) (T7.setTop (mkF m 32 #[.val (.ref b), .val (.int (Int32.ofNat (o + i))), .val (.ref d), .val (.int (Int32.ofNat (q + i))), .val (.int (Int32.ofNat len)), .val (.int (Int32.ofNat i)), .val (.int (cv A (o + i)))] [])) := c6.trans (st7 _ (Steps.refl _))
      have c9 : Steps p.tables e below (s₁.setTop (entryFrame m #[.ref b, .int (Int32.ofNat o), .ref d, .int (Int32.ofNat q), .int (Int32.ofNat len)] 7)) (T7.setTop (mkF m 3 #[.val (.ref b), .val (.int (Int32.ofNat (o + i) + 1)), .val (.ref d), .val (.int (Int32.ofNat (q + i) + 1)), .val (.int (Int32.ofNat len)), .val (.int (Int32.ofNat i + 1)), .val (.int (cv A (o + i)))] [])) := c8.trans (by
        refine iincV X7.here hexec rfl 1 (hb hbytes d32) (by decide) rfl rfl ?_
        refine iincV X7.here hexec rfl 1 (hb hbytes d35) (by decide) rfl rfl ?_
        refine iincV X7.here hexec rfl 1 (hb hbytes d38) (by decide) rfl rfl ?_
        refine XS.goto X7.here hexec rfl (pc0 := 41) rfl (hb hbytes d41) (by decide) rfl ?_
        exact Steps.refl _)
      have c10 : Steps p.tables e below (s₁.setTop (entryFrame m #[.ref b, .int (Int32.ofNat o), .ref d, .int (Int32.ofNat q), .int (Int32.ofNat len)] 7)) (T7.setTop (mkF m 3 #[.val (.ref b), .val (.int (Int32.ofNat (o + (i + 1)))), .val (.ref d), .val (.int (Int32.ofNat (q + (i + 1)))), .val (.int (Int32.ofNat len)), .val (.int (Int32.ofNat (i + 1))), .val (.int (cv A (o + i)))] [])) := by
        have := c9
        rw [succ32, succ32, succ32] at this
        exact this
      exact ih (i + 1) (by omega) _ (Or.inr ⟨_, rfl, rfl⟩) T7 _ (by rw [copyLocs_step, ← List.append_assoc]; exact X7) (pl.trans p7) (fl.step (by omega) hlt (by simp)) c10
  obtain ⟨T9, B9, z9, X9, p9, f9, g9⟩ := loop len 0 (by omega) .unset (Or.inl rfl) s₁ B (by simpa [copyLocs] using X0) ⟨hB0.1, fun _ _ => rfl, rfl⟩ (Laid.zero _ _ _) c2
  have c11 : Steps p.tables e below (s₁.setTop (entryFrame m #[.ref b, .int (Int32.ofNat o), .ref d, .int (Int32.ofNat q), .int (Int32.ofNat len)] 7)) (T9.setTop (mkF m 46 #[.val (.ref b), .val (.int (Int32.ofNat (o + len))), .val (.ref d), .val (.int (Int32.ofNat (q + len))), .val (.int (Int32.ofNat len)), .val (.int (Int32.ofNat len)), z9] [.int (Int32.ofNat len)])) := g9.trans (by
    refine XS.iload X9.here hexec rfl (hb hbytes d3) rfl ?_
    refine XS.iload X9.here hexec rfl (hb hbytes d5) rfl ?_
    refine XS.icmpYes X9.here hexec rfl (pc0 := 7) rfl (hb hbytes d7) rfl (ii_ge_t (nlt32 (by omega) (Nat.le_refl _))) (by decide) rfl ?_
    refine XS.iload X9.here hexec rfl (hb hbytes d44) rfl ?_
    exact Steps.refl _)
  exact ⟨T9, some (.int (Int32.ofNat len)), _, _, _, X9, by simp, rfl, rfl, (fun h => by cases h), ⟨rfl, B9, p9.from hh0, f9⟩, fun fs hl => c11.trans (X9.ireturnOut hexec hret rfl (Or.inl rfl) (hb hbytes d46) hl)⟩
end Cmp5
namespace Cmp3
def yN : MethodName := ⟨"java/lang/StringUTF16", "compress", "([CII)[B"⟩
abbrev yB : ByteArray := jdk_52_method_16_code
theorem d0 : decode yB 0 = .ok (.iload_n 2, 1) := by decide +kernel
theorem d1 : decode yB 1 = .ok (.newarray .byte, 2) := by decide +kernel
theorem d3 : decode yB 3 = .ok (.astore_n 3, 1) := by decide +kernel
theorem d4 : decode yB 4 = .ok (.aload_n 0, 1) := by decide +kernel
theorem d5 : decode yB 5 = .ok (.iload_n 1, 1) := by decide +kernel
theorem d6 : decode yB 6 = .ok (.aload_n 3, 1) := by decide +kernel
theorem d7 : decode yB 7 = .ok (.iconst 0, 1) := by decide +kernel
theorem d8 : decode yB 8 = .ok (.iload_n 2, 1) := by decide +kernel
theorem d9 : decode yB 9 = .ok (.invokestatic 115, 3) := by decide +kernel
theorem d12 : decode yB 12 = .ok (.istore 4, 2) := by decide +kernel
theorem d14 : decode yB 14 = .ok (.iload 4, 2) := by decide +kernel
theorem d16 : decode yB 16 = .ok (.iload_n 2, 1) := by decide +kernel
theorem d17 : decode yB 17 = .ok (.if_icmp (.eq) 40, 3) := by decide +kernel
theorem d57 : decode yB 57 = .ok (.aload_n 3, 1) := by decide +kernel
theorem d58 : decode yB 58 = .ok (.areturn, 1) := by decide +kernel
def site : List Cond := [.arrayClass .byte, Cmp5.tab] ++ staticW U16 115 Cmp5.yN
def tab : Cond := tabOf yN yB 6 (some (.array .byte)) site
def P (b : Addr) (A : Cell) (o len : Nat) (args : Array Value) (s : State) : Prop := args = #[.ref b, .int (Int32.ofNat o), .int (Int32.ofNat len)] ∧ Ch b A s ∧ o + len ≤ A.slots.size ∧ len ≤ 536870912 ∧ ∀ i, i < len → ¬ 255 < cv A (o + i)
def E (b : Addr) (A : Cell) (o len : Nat) (r : Option Value) (s u : State) : Prop := NewArr .byte "[B" len (fun j => .int (lo8 (cv A (o + j)))) r s u ∧ u.heap.size = s.heap.size + 1
/-- no char of the range above 255: a new byte[] of their low bytes -/
theorem law (l : Launch) (b : Addr) (A : Cell) (o len : Nat) : Law l yN 3 3 1 18 yB 6 (some (.array .byte)) site (P b A o len) (E b A o len) [] 1 len := by
  refine Law.of_walk (plainFor_of_name (by decide +kernel)) (by decide +kernel) (by decide +kernel) (by decide) (fun _ _ h => by rw [h.1]; rfl) (fun _ U U' hal hh h => ⟨h.1, h.2.1.mv hal hh, h.2.2⟩) (fun r U U' V V' h1 hal h2 h => ⟨NewArr.mv r U U' V V' h1 hal h2 h.1, by rw [h1, h2]; exact h.2⟩) ?_
  intro p e s m args below meth c s₁ X0 hexec hbytes hml hret hlk hnm hown hh0 W hP
  obtain ⟨rfl, hA, l1, l2, hp⟩ := hP
  have a31 := hA.1.2.2.2
  have c1 : Steps p.tables e below (s₁.setTop (entryFrame m #[.ref b, .int (Int32.ofNat o), .int (Int32.ofNat len)] 6)) (s₁.setTop (mkF m 0 #[.val (.ref b), .val (.int (Int32.ofNat o)), .val (.int (Int32.ofNat len)), .unset, .unset, .unset] [])) := entry rfl
  have c2 : Steps p.tables e below (s₁.setTop (entryFrame m #[.ref b, .int (Int32.ofNat o), .int (Int32.ofNat len)] 6)) (s₁.setTop (mkF m 1 #[.val (.ref b), .val (.int (Int32.ofNat o)), .val (.int (Int32.ofNat len)), .unset, .unset, .unset] [.int (Int32.ofNat len)])) := c1.trans (by
    refine XS.iloadN X0.here hexec rfl (hb hbytes d0) rfl ?_
    exact Steps.refl _)
  obtain ⟨T3, B3, X3, ba3, bs3, bv3, bh3, bf3, st3⟩ := X0.anew hexec (atype := .byte) (wk W (.arrayClass .byte)) rfl (by show len * 1 ≤ _; omega) (by omega) (g := (mkF m 1 #[.val (.ref b), .val (.int (Int32.ofNat o)), .val (.int (Int32.ofNat len)), .unset, .unset, .unset] [.int (Int32.ofNat len)])) rfl (hb hbytes d1) (rest := []) rfl (Nat.le_refl _) (by show 0 + len ≤ len; omega)
  rw [hh0] at ba3 st3
  have kp3 : XT.Kept s T3 := (XT.Kept.of_eq hh0).push bh3
  have hA3 := hA.keep X3.warmed.alike (kp3 _ _ hA.1.1)
  have hne : b ≠ s.heap.size := hA.1.ne
  have c4 : Steps p.tables e below (s₁.setTop (entryFrame m #[.ref b, .int (Int32.ofNat o), .int (Int32.ofNat len)] 6)) (T3.setTop (mkF m 3 #[.val (.ref b), .val (.int (Int32.ofNat o)), .val (.int (Int32.ofNat len)), .unset, .unset, .unset] [.ref s.heap.size])) := c2.trans (st3 _ (Steps.refl _))
  have c5 : Steps p.tables e below (s₁.setTop (entryFrame m #[.ref b, .int (Int32.ofNat o), .int (Int32.ofNat len)] 6)) (T3.setTop (mkF m 9 #[.val (.ref b), .val (.int (Int32.ofNat o)), .val (.int (Int32.ofNat len)), .val (.ref s.heap.size), .unset, .unset] [.int (Int32.ofNat len), .int 0, .ref s.heap.size, .int (Int32.ofNat o), .ref b])) := c4.trans (by
    refine XS.astoreN X3.here hexec rfl (hb hbytes d3) rfl rfl rfl ?_
    refine XS.aloadN X3.here hexec rfl (hb hbytes d4) rfl rfl ?_
    refine XS.iloadN X3.here hexec rfl (hb hbytes d5) rfl ?_
    refine XS.aloadN X3.here hexec rfl (hb hbytes d6) rfl rfl ?_
    refine iconstV X3.here hexec rfl 0 (hb hbytes d7) (by decide) ?_
    refine XS.iloadN X3.here hexec rfl (hb hbytes d8) rfl ?_
    exact Steps.refl _)
  obtain ⟨v6, T6, X6, E6, g6⟩ := X3.callS hexec (Cmp5.law l b A s.heap.size B3 o 0 len) hown (wks W (staticW U16 115 Cmp5.yN)) (wk W Cmp5.tab) (W := 0) (Nat.le_of_ble_eq_true rfl) (Nat.le_of_ble_eq_true rfl) (Nat.le_refl _) (by show 0 + len + 0 ≤ len; omega) (g := (mkF m 9 #[.val (.ref b), .val (.int (Int32.ofNat o)), .val (.int (Int32.ofNat len)), .val (.ref s.heap.size), .unset, .unset] [.int (Int32.ofNat len), .int (Int32.ofNat 0), .ref s.heap.size, .int (Int32.ofNat o), .ref b])) rfl (by rw [hml]; rfl) c5 (argsL := [.ref b, .int (Int32.ofNat o), .ref s.heap.size, .int (Int32.ofNat 0), .int (Int32.ofNat len)]) (rest := []) rfl rfl (by show 2 * 0 + 0 ≤ _; decide) (hb hbytes d9) (⟨rfl, hA3, ba3, hne, l1, by rw [bs3]; simp, hp⟩)
  obtain ⟨rfl, B6, p6, f6⟩ := E6
  have c7 : Steps p.tables e below (s₁.setTop (entryFrame m #[.ref b, .int (Int32.ofNat o), .int (Int32.ofNat len)] 6)) (T6.setTop (mkF m 12 #[.val (.ref b), .val (.int (Int32.ofNat o)), .val (.int (Int32.ofNat len)), .val (.ref s.heap.size), .unset, .unset] [.int (Int32.ofNat len)])) := g6
  have c8 : Steps p.tables e below (s₁.setTop (entryFrame m #[.ref b, .int (Int32.ofNat o), .int (Int32.ofNat len)] 6)) (T6.setTop (mkF m 58 #[.val (.ref b), .val (.int (Int32.ofNat o)), .val (.int (Int32.ofNat len)), .val (.ref s.heap.size), .val (.int (Int32.ofNat len)), .unset] [.ref s.heap.size])) := c7.trans (by
    refine XS.istore X6.here hexec rfl (hb hbytes d12) rfl rfl ?_
    refine XS.iload X6.here hexec rfl (hb hbytes d14) rfl ?_
    refine XS.iloadN X6.here hexec rfl (hb hbytes d16) rfl ?_
    refine XS.icmpYes X6.here hexec rfl (pc0 := 17) rfl (hb hbytes d17) rfl (ii_eq_t rfl) (by decide) rfl ?_
    refine XS.aloadN X6.here hexec rfl (hb hbytes d57) rfl rfl ?_
    exact Steps.refl _)
  have X8 := X6.wide (L' := []) (cells' := 1) (slots' := len) (fun x hx hlt => by
    simp only [List.nil_append, copyLocs, List.mem_map, List.mem_range] at hx
    obtain ⟨i, -, rfl⟩ := hx
    exact absurd hlt (Nat.lt_irrefl _)) (Nat.le_refl _) (by omega)
  exact ⟨T6, some (.ref s.heap.size), _, _, _, X8, rfl, rfl, rfl, (fun h => by cases h), ⟨⟨rfl, B6, ba3.like (X3.warmed.alike.symm.trans X6.warmed.alike) p6.1 f6.1 f6.2.1 f6.2.2.1, f6.2.1.trans bv3, by rw [X6.warmed.alike.findClass, f6.1]; exact bf3, by rw [f6.2.2.1, bs3]; simp, fun j hj => by rw [f6.2.2.2 j, if_pos (by omega)]; rfl, kp3.put p6 (Nat.le_refl _)⟩, by rw [p6.2.2, bh3, hh0]; simp⟩, fun fs hl => c8.trans (X8.areturnOut hexec rfl hret rfl (hb hbytes d58) hl)⟩
end Cmp3
namespace CodL
def yN : MethodName := ⟨"java/lang/StringUTF16", "coderFromArrayLen", "([BI)B"⟩
abbrev yB : ByteArray := jdk_52_method_15_code
theorem d0 : decode yB 0 = .ok (.iload_n 1, 1) := by decide +kernel
theorem d1 : decode yB 1 = .ok (.aload_n 0, 1) := by decide +kernel
theorem d2 : decode yB 2 = .ok (.arraylength, 1) := by decide +kernel
theorem d3 : decode yB 3 = .ok (.isub, 1) := by decide +kernel
theorem d4 : decode yB 4 = .ok (.bipush 31, 2) := by decide +kernel
theorem d6 : decode yB 6 = .ok (.iushr, 1) := by decide +kernel
theorem d7 : decode yB 7 = .ok (.i2b, 1) := by decide +kernel
theorem d8 : decode yB 8 = .ok (.ireturn, 1) := by decide +kernel
def site : List Cond := []
def tab : Cond := tabOf yN yB 2 (some .byte) site
def P (d : Addr) (B : Cell) (args : Array Value) (s : State) : Prop := args = #[.ref d, .int (Int32.ofNat B.slots.size)] ∧ Arr .byte d B s
def E (r : Option Value) (s u : State) : Prop := XT.PureE (some (.int 0)) r s u
/-- an array as long as the number of chars: LATIN1 -/
theorem law (l : Launch) (d : Addr) (B : Cell) : Law l yN 2 2 0 0 yB 2 (some .byte) site (P d B) E [] 0 0 := by
  refine Law.of_walk (plainFor_of_name (by decide +kernel)) (by decide +kernel) (by decide +kernel) (by decide) (fun _ _ h => by rw [h.1]; rfl) (fun _ U U' hal hh h => ⟨h.1, h.2.mv hal hh⟩) (fun r U U' V V' h1 hal h2 h => XT.PureE.mv r U U' V V' h1 hal h2 h) ?_
  intro p e s m args below meth c s₁ X0 hexec hbytes hml hret hlk hnm hown hh0 W hP
  obtain ⟨rfl, hB⟩ := hP
  have hB0 := hB.mv X0.warmed.alike hh0
  have c1 : Steps p.tables e below (s₁.setTop (entryFrame m #[.ref d, .int (Int32.ofNat B.slots.size)] 2)) (s₁.setTop (mkF m 0 #[.val (.ref d), .val (.int (Int32.ofNat B.slots.size))] [])) := entry rfl
  have c2 : Steps p.tables e below (s₁.setTop (entryFrame m #[.ref d, .int (Int32.ofNat B.slots.size)] 2)) (s₁.setTop (mkF m 2 #[.val (.ref d), .val (.int (Int32.ofNat B.slots.size))] [.ref d, .int (Int32.ofNat B.slots.size)])) := c1.trans (by
    refine XS.iloadN X0.here hexec rfl (hb hbytes d0) rfl ?_
    refine XS.aloadN X0.here hexec rfl (hb hbytes d1) rfl rfl ?_
    exact Steps.refl _)
  have c3 : Steps p.tables e below (s₁.setTop (entryFrame m #[.ref d, .int (Int32.ofNat B.slots.size)] 2)) (s₁.setTop (mkF m 8 #[.val (.ref d), .val (.int (Int32.ofNat B.slots.size))] [.int (lo8 (ushr (Int32.ofNat B.slots.size - Int32.ofNat B.slots.size) 31))])) := c2.trans (by
    refine X0.alen hexec hB0 rfl rfl (hb hbytes d2) ?_
    refine XS.isub X0.here hexec rfl (hb hbytes d3) rfl ?_
    refine bipushV X0.here hexec rfl 31 (hb hbytes d4) (by decide) ?_
    refine iushr X0.here hexec rfl (hb hbytes d6) rfl ?_
    refine i2b X0.here hexec rfl (hb hbytes d7) rfl ?_
    exact Steps.refl _)
  have e0 : lo8 (ushr (Int32.ofNat B.slots.size - Int32.ofNat B.slots.size) 31) = 0 := by rw [Int32.sub_self]; decide
  rw [e0] at c3
  exact ⟨s₁, some (.int 0), _, _, _, X0, rfl, rfl, rfl, (fun h => by cases h), ⟨rfl, hh0⟩, fun fs hl => c3.trans (X0.ireturnOut hexec hret rfl (Or.inr (Or.inr (Or.inl rfl))) (hb hbytes d8) hl)⟩
end CodL
/-- the String at a is Latin-1 over a new byte[] (the heap's one new cell): the low bytes of the len chars of A from o on; every cell but a is kept -/
def Got (a : Addr) (D : Cell) (fV fC : Field) (A : Cell) (o len : Nat) (r : Option Value) (s u : State) : Prop := r = none ∧ ∃ D' V : Cell, Blank "java/lang/String" a D' u ∧ Same D D' [fV.slot, fC.slot] ∧ D'.slots[fV.slot]? = some (.ref s.heap.size) ∧ D'.slots[fC.slot]? = some (.int 0) ∧ Arr .byte s.heap.size V u ∧ V.vm = .none ∧ u.vm.findClass "[B" = some V.cls ∧ V.slots.size = len ∧ (∀ j, j < len → V.slots[j]? = some (.int (lo8 (cv A (o + j))))) ∧ (∀ (y : Addr) (c : Cell), y ≠ a → s.heap[y]? = some c → u.heap[y]? = some c) ∧ u.heap.size = s.heap.size + 1
theorem Got.mv {a : Addr} {D A : Cell} {fV fC : Field} {o len : Nat} : ∀ r (U U' V V' : State), U'.heap = U.heap → V.vm.Alike V'.vm → V'.heap = V.heap → Got a D fV fC A o len r U V → Got a D fV fC A o len r U' V' :=
  fun r U U' V V' h1 hal h2 ⟨e0, D', X, a1, a2, a3, a4, a5, a6, a7, a8, a9, a10, a11⟩ => ⟨e0, D', X, a1.mv hal h2, a2, by rw [h1]; exact a3, a4, by rw [h1]; exact a5.mv hal h2, a6, by rw [hal.findClass]; exact a7, a8, a9, by rw [h1, h2]; exact a10, by rw [h1, h2]; exact a11⟩
namespace New4
def yN : MethodName := ⟨"java/lang/String", "<init>", "([CIILjava/lang/Void;)V"⟩
abbrev yB : ByteArray := jdk_42_method_149_code
theorem d0 : decode yB 0 = .ok (.aload_n 0, 1) := by decide +kernel
theorem d1 : decode yB 1 = .ok (.invokespecial 1, 3) := by decide +kernel
theorem d4 : decode yB 4 = .ok (.iload_n 3, 1) := by decide +kernel
theorem d5 : decode yB 5 = .ok (.ifCond (.ne) 22, 3) := by decide +kernel
theorem d27 : decode yB 27 = .ok (.getstatic 38, 3) := by decide +kernel
theorem d30 : decode yB 30 = .ok (.ifCond (.eq) 28, 3) := by decide +kernel
theorem d33 : decode yB 33 = .ok (.aload_n 1, 1) := by decide +kernel
theorem d34 : decode yB 34 = .ok (.iload_n 2, 1) := by decide +kernel
theorem d35 : decode yB 35 = .ok (.iload_n 3, 1) := by decide +kernel
theorem d36 : decode yB 36 = .ok (.invokestatic 177, 3) := by decide +kernel
theorem d39 : decode yB 39 = .ok (.astore 5, 2) := by decide +kernel
theorem d41 : decode yB 41 = .ok (.aload_n 0, 1) := by decide +kernel
theorem d42 : decode yB 42 = .ok (.aload 5, 2) := by decide +kernel
theorem d44 : decode yB 44 = .ok (.iload_n 3, 1) := by decide +kernel
theorem d45 : decode yB 45 = .ok (.invokestatic 47, 3) := by decide +kernel
theorem d48 : decode yB 48 = .ok (.putfield 15, 3) := by decide +kernel
theorem d51 : decode yB 51 = .ok (.aload_n 0, 1) := by decide +kernel
theorem d52 : decode yB 52 = .ok (.aload 5, 2) := by decide +kernel
theorem d54 : decode yB 54 = .ok (.putfield 9, 3) := by decide +kernel
theorem d57 : decode yB 57 = .ok (.return_, 1) := by decide +kernel
def site : List Cond := [.fieldLink "java/lang/String" 38 "java/lang/String" "COMPACT_STRINGS" "Z", Cmp3.tab, CodL.tab, .laysFinal "java/lang/String" "java/lang/String" "value" "[B", .fieldLink "java/lang/String" 9 "java/lang/String" "value" "[B", .laysFinal "java/lang/String" "java/lang/String" "coder" "B", .fieldLink "java/lang/String" 15 "java/lang/String" "coder" "B"] ++ objW "java/lang/String" 1 ++ staticW "java/lang/String" 177 Cmp3.yN ++ staticW "java/lang/String" 47 CodL.yN
def tab : Cond := tabOf yN yB 6 none site
def P (a : Addr) (D : Cell) (fV fC : Field) (b : Addr) (A : Cell) (z : Int32) (o len : Nat) (args : Array Value) (s : State) : Prop := args = #[.ref a, .ref b, .int (Int32.ofNat o), .int (Int32.ofNat len), .null] ∧ Blank "java/lang/String" a D s ∧ Found "java/lang/String" "value" "[B" fV s ∧ Found "java/lang/String" "coder" "B" fC s ∧ Ch b A s ∧ StaticIs s "java/lang/String" "COMPACT_STRINGS" "Z" (.int z) ∧ ¬ z = 0 ∧ 0 < len ∧ o + len ≤ A.slots.size ∧ len ≤ 536870912 ∧ ∀ i, i < len → ¬ 255 < cv A (o + i)
def E (a : Addr) (D : Cell) (fV fC : Field) (A : Cell) (o len : Nat) (r : Option Value) (s u : State) : Prop := Got a D fV fC A o len r s u
/-- len > 0, no char of the range above 255: a Latin-1 String of their low bytes -/
theorem law (l : Launch) (a : Addr) (D : Cell) (fV fC : Field) (b : Addr) (A : Cell) (z : Int32) (o len : Nat) : Law l yN 5 4 2 35 yB 6 none site (P a D fV fC b A z o len) (E a D fV fC A o len) [⟨a, fC.slot⟩, ⟨a, fV.slot⟩] 1 len := by
  refine Law.of_walk (plainFor_of_name (by decide +kernel)) (by decide +kernel) (by decide +kernel) (by decide) (fun _ _ h => by rw [h.1]; rfl) (fun _ U U' hal hh h => ⟨h.1, h.2.1.mv hal hh, h.2.2.1.al hal, h.2.2.2.1.al hal, h.2.2.2.2.1.mv hal hh, h.2.2.2.2.2.1.there hal hh, h.2.2.2.2.2.2⟩) (fun r U U' V V' h1 hal h2 h => Got.mv r U U' V V' h1 hal h2 h) ?_
  intro p e s m args below meth c s₁ X0 hexec hbytes hml hret hlk hnm hown hh0 W hP
  obtain ⟨rfl, hB, f1, f2, hA, s1, hz, l0, l1, l2, hp⟩ := hP
  have a31 := hA.1.2.2.2
  have c1 : Steps p.tables e below (s₁.setTop (entryFrame m #[.ref a, .ref b, .int (Int32.ofNat o), .int (Int32.ofNat len), .null] 6)) (s₁.setTop (mkF m 0 #[.val (.ref a), .val (.ref b), .val (.int (Int32.ofNat o)), .val (.int (Int32.ofNat len)), .val .null, .unset] [])) := entry rfl
  have c2 : Steps p.tables e below (s₁.setTop (entryFrame m #[.ref a, .ref b, .int (Int32.ofNat o), .int (Int32.ofNat len), .null] 6)) (s₁.setTop (mkF m 1 #[.val (.ref a), .val (.ref b), .val (.int (Int32.ofNat o)), .val (.int (Int32.ofNat len)), .val .null, .unset] [.ref a])) := c1.trans (by
    refine XS.aloadN X0.here hexec rfl (hb hbytes d0) rfl rfl ?_
    exact Steps.refl _)
  obtain ⟨T3, X3, q3, st3⟩ := X0.oinit hexec hown (wks W (objW "java/lang/String" 1)) (g := (mkF m 1 #[.val (.ref a), .val (.ref b), .val (.int (Int32.ofNat o)), .val (.int (Int32.ofNat len)), .val .null, .unset] [.ref a])) rfl (by rw [hml]; rfl) (rest := []) rfl (hb hbytes d1) (W := 0) (by show 2 * 0 + 0 ≤ _; decide) (Nat.le_of_ble_eq_true rfl) (Nat.le_of_ble_eq_true rfl)
  have hh3 := q3.trans hh0
  have c4 : Steps p.tables e below (s₁.setTop (entryFrame m #[.ref a, .ref b, .int (Int32.ofNat o), .int (Int32.ofNat len), .null] 6)) (T3.setTop (mkF m 27 #[.val (.ref a), .val (.ref b), .val (.int (Int32.ofNat o)), .val (.int (Int32.ofNat len)), .val .null, .unset] [])) := (c2.trans (st3 _ (Steps.refl _))).trans (by
    refine XS.iloadN X3.here hexec rfl (hb hbytes d4) rfl ?_
    refine XS.ifYes X3.here hexec rfl (pc0 := 5) rfl (hb hbytes d5) rfl (i0_ne_t (nz32 (by omega) l0)) (by decide) rfl ?_
    exact Steps.refl _)
  obtain ⟨T5, X5, q5, st5⟩ := X3.sget hexec hown (wk W (.fieldLink "java/lang/String" 38 "java/lang/String" "COMPACT_STRINGS" "Z")) s1 (fun _ _ h => by rw [hh3]; exact h) (g := (mkF m 27 #[.val (.ref a), .val (.ref b), .val (.int (Int32.ofNat o)), .val (.int (Int32.ofNat len)), .val .null, .unset] [])) rfl (hb hbytes d27)
  have hh5 := q5.trans hh3
  have c6 : Steps p.tables e below (s₁.setTop (entryFrame m #[.ref a, .ref b, .int (Int32.ofNat o), .int (Int32.ofNat len), .null] 6)) (T5.setTop (mkF m 30 #[.val (.ref a), .val (.ref b), .val (.int (Int32.ofNat o)), .val (.int (Int32.ofNat len)), .val .null, .unset] [.int z])) := c4.trans (st5 _ (Steps.refl _))
  have c7 : Steps p.tables e below (s₁.setTop (entryFrame m #[.ref a, .ref b, .int (Int32.ofNat o), .int (Int32.ofNat len), .null] 6)) (T5.setTop (mkF m 36 #[.val (.ref a), .val (.ref b), .val (.int (Int32.ofNat o)), .val (.int (Int32.ofNat len)), .val .null, .unset] [.int (Int32.ofNat len), .int (Int32.ofNat o), .ref b])) := c6.trans (by
    refine XS.ifNo X5.here hexec rfl (hb hbytes d30) rfl (i0_eq_f hz) ?_
    refine XS.aloadN X5.here hexec rfl (hb hbytes d33) rfl rfl ?_
    refine XS.iloadN X5.here hexec rfl (hb hbytes d34) rfl ?_
    refine XS.iloadN X5.here hexec rfl (hb hbytes d35) rfl ?_
    exact Steps.refl _)
  obtain ⟨v8, T8, X8, E8, g8⟩ := X5.callS hexec (Cmp3.law l b A o len) hown (wks W (staticW "java/lang/String" 177 Cmp3.yN)) (wk W Cmp3.tab) (W := 0) (Nat.le_of_ble_eq_true rfl) (Nat.le_of_ble_eq_true rfl) (Nat.le_refl _) (by show 0 + len ≤ len; omega) (g := (mkF m 36 #[.val (.ref a), .val (.ref b), .val (.int (Int32.ofNat o)), .val (.int (Int32.ofNat len)), .val .null, .unset] [.int (Int32.ofNat len), .int (Int32.ofNat o), .ref b])) rfl (by rw [hml]; rfl) c7 (argsL := [.ref b, .int (Int32.ofNat o), .int (Int32.ofNat len)]) (rest := []) rfl rfl (by show 2 * 0 + 0 ≤ _; decide) (hb hbytes d36) (⟨rfl, hA.mv X5.warmed.alike hh5, l1, l2, hp⟩)
  obtain ⟨e8, z8⟩ := E8
  obtain ⟨rfl, N, n1, n2, n3, n4, n5, n6⟩ := NewArr.mv _ T5 s _ _ hh5.symm (Vm.Alike.refl _) rfl e8
  rw [hh5] at z8
  have hB1 := hB.keep X8.warmed.alike (n6 _ _ hB.1)
  have hne : s.heap.size ≠ a := (Nat.ne_of_lt (Array.getElem?_eq_some_iff.mp hB.1).1).symm
  have c9 : Steps p.tables e below (s₁.setTop (entryFrame m #[.ref a, .ref b, .int (Int32.ofNat o), .int (Int32.ofNat len), .null] 6)) (T8.setTop (mkF m 39 #[.val (.ref a), .val (.ref b), .val (.int (Int32.ofNat o)), .val (.int (Int32.ofNat len)), .val .null, .unset] [.ref s.heap.size])) := g8
  have c10 : Steps p.tables e below (s₁.setTop (entryFrame m #[.ref a, .ref b, .int (Int32.ofNat o), .int (Int32.ofNat len), .null] 6)) (T8.setTop (mkF m 45 #[.val (.ref a), .val (.ref b), .val (.int (Int32.ofNat o)), .val (.int (Int32.ofNat len)), .val .null, .val (.ref s.heap.size)] [.int (Int32.ofNat N.slots.size), .ref s.heap.size, .ref a])) := by
    have hc : Steps p.tables e below (s₁.setTop (entryFrame m #[.ref a, .ref b, .int (Int32.ofNat o), .int (Int32.ofNat len), .null] 6)) (T8.setTop (mkF m 45 #[.val (.ref a), .val (.ref b), .val (.int (Int32.ofNat o)), .val (.int (Int32.ofNat len)), .val .null, .val (.ref s.heap.size)] [.int (Int32.ofNat len), .ref s.heap.size, .ref a])) := c9.trans (by
      refine XS.astore X8.here hexec rfl (hb hbytes d39) rfl rfl rfl ?_
      refine XS.aloadN X8.here hexec rfl (hb hbytes d41) rfl rfl ?_
      refine XS.aload X8.here hexec rfl (hb hbytes d42) rfl rfl ?_
      refine XS.iloadN X8.here hexec rfl (hb hbytes d44) rfl ?_
      exact Steps.refl _)
    rw [n4]; exact hc
  obtain ⟨v11, T11, X11, E11, g11⟩ := X8.callS hexec (CodL.law l s.heap.size N) hown (wks W (staticW "java/lang/String" 47 CodL.yN)) (wk W CodL.tab) (W := 1) (Nat.le_of_ble_eq_true rfl) (Nat.le_of_ble_eq_true rfl) (Nat.le_refl _) (by show 0 + len + 0 ≤ len; omega) (g := (mkF m 45 #[.val (.ref a), .val (.ref b), .val (.int (Int32.ofNat o)), .val (.int (Int32.ofNat len)), .val .null, .val (.ref s.heap.size)] [.int (Int32.ofNat N.slots.size), .ref s.heap.size, .ref a])) rfl (by rw [hml]; rfl) c10 (argsL := [.ref s.heap.size, .int (Int32.ofNat N.slots.size)]) (rest := [.ref a]) rfl rfl (by show 2 * 0 + (1 + 0) ≤ _; decide) (hb hbytes d45) (⟨rfl, n1⟩)
  obtain ⟨rfl, q11⟩ := E11
  have hB11 := hB1.mv (X8.warmed.alike.symm.trans X11.warmed.alike) q11
  have c12 : Steps p.tables e below (s₁.setTop (entryFrame m #[.ref a, .ref b, .int (Int32.ofNat o), .int (Int32.ofNat len), .null] 6)) (T11.setTop (mkF m 48 #[.val (.ref a), .val (.ref b), .val (.int (Int32.ofNat o)), .val (.int (Int32.ofNat len)), .val .null, .val (.ref s.heap.size)] [.int 0, .ref a])) := g11
  obtain ⟨T13, X13, p13, bl13, sl13, st13⟩ := X11.finit hexec hown (wk W (.fieldLink "java/lang/String" 15 "java/lang/String" "coder" "B")) (Or.inr ⟨_, (wk W (.laysFinal "java/lang/String" "java/lang/String" "coder" "B"))⟩) (Or.inl ⟨rfl, hnm⟩) f2 (Or.inl rfl) hB11 (t := .byte) (by decide +kernel) rfl (g := (mkF m 48 #[.val (.ref a), .val (.ref b), .val (.int (Int32.ofNat o)), .val (.int (Int32.ofNat len)), .val .null, .val (.ref s.heap.size)] [.int 0, .ref a])) rfl (rest := []) rfl (hb hbytes d48)
  have c14 : Steps p.tables e below (s₁.setTop (entryFrame m #[.ref a, .ref b, .int (Int32.ofNat o), .int (Int32.ofNat len), .null] 6)) (T13.setTop (mkF m 54 #[.val (.ref a), .val (.ref b), .val (.int (Int32.ofNat o)), .val (.int (Int32.ofNat len)), .val .null, .val (.ref s.heap.size)] [.ref s.heap.size, .ref a])) := (c12.trans (st13 _ (Steps.refl _))).trans (by
    refine XS.aloadN X13.here hexec rfl (hb hbytes d51) rfl rfl ?_
    refine XS.aload X13.here hexec rfl (hb hbytes d52) rfl rfl ?_
    exact Steps.refl _)
  obtain ⟨T15, X15, p15, bl15, sl15, st15⟩ := X13.finit hexec hown (wk W (.fieldLink "java/lang/String" 9 "java/lang/String" "value" "[B")) (Or.inr ⟨_, (wk W (.laysFinal "java/lang/String" "java/lang/String" "value" "[B"))⟩) (Or.inl ⟨rfl, hnm⟩) f1 (Or.inl rfl) bl13 (t := (.array .byte)) (by decide +kernel) rfl (g := (mkF m 54 #[.val (.ref a), .val (.ref b), .val (.int (Int32.ofNat o)), .val (.int (Int32.ofNat len)), .val .null, .val (.ref s.heap.size)] [.ref s.heap.size, .ref a])) rfl (rest := []) rfl (hb hbytes d54)
  have c16 : Steps p.tables e below (s₁.setTop (entryFrame m #[.ref a, .ref b, .int (Int32.ofNat o), .int (Int32.ofNat len), .null] 6)) (T15.setTop (mkF m 57 #[.val (.ref a), .val (.ref b), .val (.int (Int32.ofNat o)), .val (.int (Int32.ofNat len)), .val .null, .val (.ref s.heap.size)] [])) := c14.trans (st15 _ (Steps.refl _))
  have ap := apart (Or.inr ⟨_, (wk W (.laysFinal "java/lang/String" "java/lang/String" "value" "[B"))⟩) (Or.inr ⟨_, (wk W (.laysFinal "java/lang/String" "java/lang/String" "coder" "B"))⟩) f1 f2 (t₁ := .array .byte) (t₂ := .byte) (by decide +kernel) (by decide +kernel) (by decide)
  have al := X8.warmed.alike.symm.trans X15.warmed.alike
  have n7 : T11.heap[s.heap.size]? = some N := by rw [q11]; exact n1.1
  exact ⟨T15, none, _, _, _, X15, by simp, rfl, by omega, (fun _ => rfl), ⟨rfl, _, N, bl15, ((Same.refl D _).set _ (by simp)).set _ (by simp), sl15, (Cell.slots_setSlot_ne _ ap).trans sl13, n1.keep al (p15.other hne (p13.other hne n7)), n2, by rw [al.findClass]; exact n3, n4, n5, fun y c h1 h2 => p15.other h1 (p13.other h1 (by rw [q11]; exact n6 y c h2)), by rw [p15.2.2, p13.2.2, q11]; exact z8⟩, fun fs hl => c16.trans (X15.returnOut hexec hret (hb hbytes d57) hl)⟩
end New4
namespace New1
def yN : MethodName := ⟨"java/lang/String", "<init>", "([C)V"⟩
abbrev yB : ByteArray := jdk_42_method_3_code
theorem d0 : decode yB 0 = .ok (.aload_n 0, 1) := by decide +kernel
theorem d1 : decode yB 1 = .ok (.aload_n 1, 1) := by decide +kernel
theorem d2 : decode yB 2 = .ok (.iconst 0, 1) := by decide +kernel
theorem d3 : decode yB 3 = .ok (.aload_n 1, 1) := by decide +kernel
theorem d4 : decode yB 4 = .ok (.arraylength, 1) := by decide +kernel
theorem d5 : decode yB 5 = .ok (.aconst_null, 1) := by decide +kernel
theorem d6 : decode yB 6 = .ok (.invokespecial 27, 3) := by decide +kernel
theorem d9 : decode yB 9 = .ok (.return_, 1) := by decide +kernel
def site : List Cond := [New4.tab] ++ initW "java/lang/String" 27 New4.yN
def tab : Cond := tabOf yN yB 2 none site
def P (a : Addr) (D : Cell) (fV fC : Field) (b : Addr) (A : Cell) (z : Int32) (args : Array Value) (s : State) : Prop := args = #[.ref a, .ref b] ∧ Blank "java/lang/String" a D s ∧ Found "java/lang/String" "value" "[B" fV s ∧ Found "java/lang/String" "coder" "B" fC s ∧ Ch b A s ∧ StaticIs s "java/lang/String" "COMPACT_STRINGS" "Z" (.int z) ∧ ¬ z = 0 ∧ 0 < A.slots.size ∧ A.slots.size ≤ 536870912 ∧ ∀ i, i < A.slots.size → ¬ 255 < cv A i
def E (a : Addr) (D : Cell) (fV fC : Field) (A : Cell) (r : Option Value) (s u : State) : Prop := Got a D fV fC A 0 A.slots.size r s u
/-- new String(chars), not empty, no char above 255: a Latin-1 String of their low bytes -/
theorem law (l : Launch) (a : Addr) (D : Cell) (fV fC : Field) (b : Addr) (A : Cell) (z : Int32) : Law l yN 2 1 3 52 yB 2 none site (P a D fV fC b A z) (E a D fV fC A) [⟨a, fC.slot⟩, ⟨a, fV.slot⟩] 1 A.slots.size := by
  refine Law.of_walk (plainFor_of_name (by decide +kernel)) (by decide +kernel) (by decide +kernel) (by decide) (fun _ _ h => by rw [h.1]; rfl) (fun _ U U' hal hh h => ⟨h.1, h.2.1.mv hal hh, h.2.2.1.al hal, h.2.2.2.1.al hal, h.2.2.2.2.1.mv hal hh, h.2.2.2.2.2.1.there hal hh, h.2.2.2.2.2.2⟩) (fun r U U' V V' h1 hal h2 h => Got.mv r U U' V V' h1 hal h2 h) ?_
  intro p e s m args below meth c s₁ X0 hexec hbytes hml hret hlk hnm hown hh0 W hP
  obtain ⟨rfl, hB, f1, f2, hA, s1, hz, l0, l2, hp⟩ := hP
  have c1 : Steps p.tables e below (s₁.setTop (entryFrame m #[.ref a, .ref b] 2)) (s₁.setTop (mkF m 0 #[.val (.ref a), .val (.ref b)] [])) := entry rfl
  have c2 : Steps p.tables e below (s₁.setTop (entryFrame m #[.ref a, .ref b] 2)) (s₁.setTop (mkF m 6 #[.val (.ref a), .val (.ref b)] [.null, .int (Int32.ofNat A.slots.size), .int 0, .ref b, .ref a])) := c1.trans (by
    refine XS.aloadN X0.here hexec rfl (hb hbytes d0) rfl rfl ?_
    refine XS.aloadN X0.here hexec rfl (hb hbytes d1) rfl rfl ?_
    refine iconstV X0.here hexec rfl 0 (hb hbytes d2) (by decide) ?_
    refine XS.aloadN X0.here hexec rfl (hb hbytes d3) rfl rfl ?_
    refine X0.alen hexec (hA.1.mv X0.warmed.alike hh0) rfl rfl (hb hbytes d4) ?_
    refine XS.aconstNull X0.here hexec rfl (hb hbytes d5) ?_
    exact Steps.refl _)
  obtain ⟨v3, T3, X3, E3, g3⟩ := X0.callN hexec (New4.law l a D fV fC b A z 0 A.slots.size) rfl hown (wks W (initW "java/lang/String" 27 New4.yN)) (W New4.tab (by simp only [site, List.mem_cons, List.mem_append, true_or, or_true])) (W := 0) (Nat.le_of_ble_eq_true rfl) (Nat.le_of_ble_eq_true rfl) (Nat.le_refl _) (by show 0 + A.slots.size ≤ A.slots.size; omega) (g := (mkF m 6 #[.val (.ref a), .val (.ref b)] [.null, .int (Int32.ofNat A.slots.size), .int (Int32.ofNat 0), .ref b, .ref a])) rfl (by rw [hml]; rfl) c2 (argsL := [.ref b, .int (Int32.ofNat 0), .int (Int32.ofNat A.slots.size), .null]) (rest := []) rfl rfl (by show 2 * 0 + 0 ≤ _; decide) (hb hbytes d6) (⟨rfl, hB.mv X0.warmed.alike hh0, f1.al X0.warmed.alike, f2.al X0.warmed.alike, hA.mv X0.warmed.alike hh0, s1.there X0.warmed.alike hh0, hz, l0, by omega, l2, fun i hi => by rw [Nat.zero_add]; exact hp i hi⟩)
  have e0 := Got.mv _ s₁ s _ _ hh0.symm (Vm.Alike.refl _) rfl E3
  obtain rfl := e0.1
  have c4 : Steps p.tables e below (s₁.setTop (entryFrame m #[.ref a, .ref b] 2)) (T3.setTop (mkF m 9 #[.val (.ref a), .val (.ref b)] [])) := g3
  exact ⟨T3, none, _, _, _, X3, by simp, rfl, by omega, (fun _ => rfl), e0, fun fs hl => c4.trans (X3.returnOut hexec hret (hb hbytes d9) hl)⟩
theorem pays {l : Launch} {R : Room} {p : Program} {e : Env} {below : List Frame} {s : State} {sargs : Array Value} {len W : Nat} (a : Addr) (D : Cell) (fV fC : Field) (b : Addr) (A : Cell) (z : Int32) (htab : tab.before sargs s = true) (hfr : 4 ≤ R.frames) (hlo : W + 65 ≤ R.locals) :
    Back l R p e below s sargs yN len W (fun A₁ a₁ => A₁.cells + 1 ≤ R.cells ∧ A₁.slots + A.slots.size ≤ R.slots ∧ P a D fV fC b A z a₁ A₁.U) (fun A₁ _ v₁ B₁ => E a D fV fC A v₁ A₁.U B₁.U ∧ B₁.locs = A₁.locs ++ [⟨a, fC.slot⟩, ⟨a, fV.slot⟩] ∧ B₁.cells = A₁.cells + 1 ∧ B₁.slots = A₁.slots + A.slots.size) :=
  (law l a D fV fC b A z).pays htab hfr (by omega)
end New1
end StrChars
namespace StrChars.Road
open Jvm Sem ClassFile Op Lib Jvm.Stand Jvm.Free Jvm.Free.XT
open Jvm.Lib.Cold (StaticIs)
abbrev ST : String := "java/lang/String"
/-- every table word that New1's law asks, flat -/
abbrev words : List Jvm.Cond := [.code New1.yN New1.yB 2 none, .initialized ST, .methodLink ST 27 New4.yN, .instanceMethod New4.yN,
  .code New4.yN New4.yB 6 none, .fieldLink ST 38 ST "COMPACT_STRINGS" "Z", .laysFinal ST ST "value" "[B", .fieldLink ST 9 ST "value" "[B", .laysFinal ST ST "coder" "B", .fieldLink ST 15 ST "coder" "B",
  .methodLink ST 1 Lib.objectInit, .instanceMethod Lib.objectInit, .code Lib.objectInit ⟨#[0xb1]⟩ 1 none, .methodLink ST 177 Cmp3.yN, .static Cmp3.yN, .methodLink ST 47 CodL.yN, .static CodL.yN,
  .code Cmp3.yN Cmp3.yB 6 (some (.array .byte)), .initialized U16, .arrayClass .byte, .methodLink U16 115 Cmp5.yN, .static Cmp5.yN, .code Cmp5.yN Cmp5.yB 7 (some .int), .code CodL.yN CodL.yB 2 (some .byte)]
theorem tab_of {a : Array Value} {s : State} (h : ∀ w ∈ words, w.before a s = true) : New1.tab.before a s = true := by
  have h5 : Cmp5.tab.before a s = true := unparts (wk h (.code Cmp5.yN Cmp5.yB 7 (some .int))) (wks h (.initialized Cmp5.yN.cls :: Cmp5.site))
  have hc : CodL.tab.before a s = true := unparts (wk h (.code CodL.yN CodL.yB 2 (some .byte))) (wks h (.initialized CodL.yN.cls :: CodL.site))
  have q5 : ∀ w ∈ Cmp5.tab :: words, w.before a s = true := fun w hw => (List.mem_cons.mp hw).elim (fun e => e ▸ h5) (h w)
  have h3 : Cmp3.tab.before a s = true := unparts (wk q5 (.code Cmp3.yN Cmp3.yB 6 (some (.array .byte)))) (wks q5 (.initialized Cmp3.yN.cls :: Cmp3.site))
  have q3 : ∀ w ∈ Cmp3.tab :: CodL.tab :: words, w.before a s = true := fun w hw => (List.mem_cons.mp hw).elim (fun e => e ▸ h3) fun hw => (List.mem_cons.mp hw).elim (fun e => e ▸ hc) (h w)
  have h4 : New4.tab.before a s = true := unparts (wk q3 (.code New4.yN New4.yB 6 none)) (wks q3 (.initialized New4.yN.cls :: New4.site))
  have q4 : ∀ w ∈ New4.tab :: words, w.before a s = true := fun w hw => (List.mem_cons.mp hw).elim (fun e => e ▸ h4) (h w)
  exact unparts (wk q4 (.code New1.yN New1.yB 2 none)) (wks q4 (.initialized New1.yN.cls :: New1.site))
/-- the words ride from the start Z to the walk's own state -/
theorem moved {Z s : State} {a0 args : Array Value} (hZ : Z.Warmed39 s.vm) (hw : ∀ d ∈ words, d.before a0 Z = true) : ∀ d ∈ words, d.before args s = true := fun d hd => by
  have q := hw d hd
  have t : ∀ d ∈ words, d = .arrayClass .byte ∨ (d.onTables && d.keepsFace) = true := by decide +kernel
  rcases t d hd with rfl | t
  · exact RoadKit.mvA hZ q
  · exact RoadKit.mv hZ q t
/-- WHAT COMES BACK, over the tables of the start Z: h the heap at the call, h' behind it -/
def Q (Z : State) (x : Addr) (A : Cell) (h : Heap) (v : Option Value) (h' : Heap) (L : List Loc) : Prop := v = none ∧ (∀ y ∈ L, y.base = x) ∧ RoadKit.Keep h h' [x] ∧ h'.size = h.size + 1 ∧ RoadKit.Exa Z h' x ST ∧ RoadKit.Fld Z h' x ST "value" "[B" (.ref h.size) ∧ RoadKit.Fld Z h' x ST "coder" "B" (.int 0) ∧
  (∃ V : Cell, RoadKit.Arr Z h' h.size V .byte ∧ V.vm = .none ∧ Z.vm.findClass "[B" = some V.cls ∧ V.slots.size = A.slots.size ∧ ∀ j, j < A.slots.size → V.slots[j]? = some (.int (lo8 (cv A j)))) ∧
  ∀ (O n d : String) (w : Value), RoadKit.Fld Z h x O n d w → RoadKit.slotOf Z O n d ≠ RoadKit.slotOf Z ST "value" "[B" → RoadKit.slotOf Z O n d ≠ RoadKit.slotOf Z ST "coder" "B" → RoadKit.Fld Z h' x O n d w
/-- **new String(chars) AT A CALL, IN THE ROAD'S FORM**: for specialBack behind newO: x the fresh String, b the char[] with the cell A -/
theorem back {p : Program} {l : Launch} {e : Env} {R : Room} {s : State} {args : Array Value} {below : List Frame} {len W : Nat} {Z : State} {a0 : Array Value} {h : Heap} (hZ : Z.Warmed39 s.vm) (hw : ∀ d ∈ words, d.before a0 Z = true) {kI : Nat} (wi : (Jvm.Cond.instantiable ST kI).before a0 Z = true)
    {x b : Addr} {A : Cell} {z : Int32} {v0 c0 : Value} (E : RoadKit.Exa Z h x ST) (V : RoadKit.Fld Z h x ST "value" "[B" v0) (C : RoadKit.Fld Z h x ST "coder" "B" c0) (K : RoadKit.Arr Z h b A .char) (hty : Typed .char A) (S : RoadKit.Sta Z h ST "COMPACT_STRINGS" "Z" (.int z)) (hz : ¬ z = 0)
    (l0 : 0 < A.slots.size) (l2 : A.slots.size ≤ 536870912) (hp : ∀ i, i < A.slots.size → ¬ 255 < cv A i) (hfr : 4 ≤ R.frames) (hlo : W + 65 ≤ R.locals) :
    Back l R p e below s args New1.yN len W (fun P a => a = #[.ref x, .ref b] ∧ P.U.heap = h ∧ P.cells + 1 ≤ R.cells ∧ P.slots + A.slots.size ≤ R.slots)
      (fun P _ v B => ∃ L, Q Z x A h v B.U.heap L ∧ B.locs = P.locs ++ L ∧ B.cells = P.cells + 1 ∧ B.slots = P.slots + A.slots.size) := by
  intro m meth c P g ig mk a X hg hsize hdg hW hn hp'
  obtain ⟨rfl, rfl, r1, r2⟩ := hp'
  have al : Z.vm.Alike P.U.vm := hZ.alike.trans X.warmed.alike
  obtain ⟨D, cfV, kV, iV, fV, hD, gV, stV, knV, obV, asV, slV⟩ := id V
  obtain ⟨D', cfC, kC, iC, fC, hD', gC, stC, -, -, asC, slC⟩ := id C
  cases hD.symm.trans hD'
  obtain ⟨D2, kD, e1, e2, e3, e4, e5⟩ := id E
  cases hD.symm.trans e1
  obtain ⟨c2, k2, i1, i2, i3, -⟩ := Cond.instantiable_spec wi
  cases e2.symm.trans i1
  cases e3.symm.trans i2
  obtain ⟨kU, u1, u2⟩ := al.2.2 _ _ e3
  have hB : Blank ST x D P.U := ⟨hD, ⟨knV, fun q hq => by rw [hq] at obV; cases obV⟩, by rw [al.findClass]; exact e2, kU, u1, by rw [u2]; exact i3, by rw [u2]; exact e5 i3⟩
  have F1 : Found ST "value" "[B" fV P.U := ⟨SBG.found_only al ⟨cfV, kV, iV, gV⟩, stV⟩
  have F2 : Found ST "coder" "B" fC P.U := ⟨SBG.found_only al ⟨cfC, kC, iC, gC⟩, stC⟩
  have hA : Ch b A P.U := ⟨⟨K.1, State.isArrayOf_alike al K.2.1, K.2.2, by omega⟩, hty⟩
  have hS : StaticIs P.U ST "COMPACT_STRINGS" "Z" (.int z) := by
    obtain ⟨cfS, iS, kS, fS, st, cS, t1, t2, t3, t4, t5, t6, t7⟩ := S
    exact StaticIs.there (s := { Z with heap := P.U.heap }) ⟨cfS, iS, kS, fS, st, cS, t1, t2, t3, t4, t5, (fun q => by rw [q] at t6; cases t6), t7⟩ al rfl
  obtain ⟨v, B, X', ⟨⟨hv, E', V', q1, q2, q3, q4, q5, q6, q7, q8, q9, q10, q11⟩, hl, hc, hs⟩, st⟩ := New1.pays x D fV fC b A z (tab_of (moved hZ hw)) hfr hlo m meth c P g ig mk _ X hg hsize hdg hW hn ⟨r1, r2, rfl, hB, F1, F2, hA, hS, hz, l0, l2, hp⟩
  have al' : Z.vm.Alike B.U.vm := hZ.alike.trans X'.warmed.alike
  have hsz : E'.slots.size = D.slots.size := by
    obtain ⟨-, -, -, kB, w1, w2, w3⟩ := q1
    obtain ⟨kB', y1, y2⟩ := al'.2.2 _ _ e3
    rw [q2.2.1] at w1
    cases w1.symm.trans y1
    rw [w3, e5 i3, y2]
  refine ⟨v, B, X', ⟨_, ⟨hv, ?_, ⟨by omega, fun y cy hy hn' => q10 y cy (by simpa using hn') hy, fun y cy hy => ?_⟩, q11, ⟨E', _, q1.1, by rw [q2.2.1]; exact e2, by rw [q2.2.1]; exact e3, by rw [q2.1]; exact obV, fun _ => by rw [hsz]; exact e5 i3⟩,
    ⟨E', cfV, kV, iV, fV, q1.1, gV, stV, by rw [q2.1]; exact knV, by rw [q2.1]; exact obV, by rw [q2.2.1]; exact asV, q3⟩, ⟨E', cfC, kC, iC, fC, q1.1, gC, stC, by rw [q2.1]; exact knV, by rw [q2.1]; exact obV, by rw [q2.2.1]; exact asC, q4⟩,
    ⟨V', ⟨q5.1, State.isArrayOf_alike al'.symm q5.2.1, q5.2.2.1⟩, q6, by rw [← al'.findClass]; exact q7, q8, fun j hj => by have := q9 j hj; rwa [Nat.zero_add] at this⟩, fun O n d w F n1 n2 => ?_⟩, hl, hc, hs⟩, st⟩
  · intro y hy
    simp only [List.mem_cons, List.not_mem_nil, or_false] at hy
    rcases hy with rfl | rfl <;> rfl
  · by_cases q : y = x
    · subst q
      cases hD.symm.trans hy
      exact ⟨E', q1.1, q2.2.1, q2.1, hsz⟩
    · exact ⟨cy, q10 y cy q hy, rfl, rfl, rfl⟩
  · obtain ⟨D3, cf, k, i, f, g1, g2, g3, g4, g5, g6, g7⟩ := F
    cases hD.symm.trans g1
    simp only [RoadKit.slotOf, g2, gV, gC, Option.map_some, Option.getD_some] at n1 n2
    exact ⟨E', cf, k, i, f, q1.1, g2, g3, by rw [q2.1]; exact g4, by rw [q2.1]; exact g5, by rw [q2.2.1]; exact g6, by rw [q2.2.2 f.slot (by simp [n1, n2])]; exact g7⟩
end StrChars.Road
namespace StrChars.Road
open Jvm Sem ClassFile Op Lib Jvm.Stand Jvm.Free Jvm.Free.XT
/-- WHAT COMES BACK, the byte[] as a list of values -/
def QA (Z : State) (x : Addr) (zn : Int32) (cs : List Int32) (h : Heap) (v : Option Value) (h' : Heap) (L : List Loc) : Prop := v = none ∧ (∀ y ∈ L, y.base = x) ∧ RoadKit.Keep h h' [x] ∧ h'.size = h.size + 1 ∧ RoadKit.Exa Z h' x ST ∧ RoadKit.Fld Z h' x ST "value" "[B" (.ref h.size) ∧ RoadKit.Fld Z h' x ST "coder" "B" (.int 0) ∧
  (∃ kb, Z.vm.findClass "[B" = some kb ∧ RoadKit.Arv Z h' h.size kb .byte zn (cs.map fun c => .int (lo8 c)) (.int 0)) ∧
  ∀ (O n d : String) (w : Value), RoadKit.Fld Z h x O n d w → RoadKit.slotOf Z O n d ≠ RoadKit.slotOf Z ST "value" "[B" → RoadKit.slotOf Z O n d ≠ RoadKit.slotOf Z ST "coder" "B" → RoadKit.Fld Z h' x O n d w
/-- **new String(chars) AT A CALL, THE ARRAYS AS LISTS**: the char[] at b holds cs, not empty, no char above 255 -/
theorem backArv {p : Program} {l : Launch} {e : Env} {R : Room} {s : State} {args : Array Value} {below : List Frame} {len W : Nat} {Z : State} {a0 : Array Value} {h : Heap} (hZ : Z.Warmed39 s.vm) (hw : ∀ d ∈ words, d.before a0 Z = true) {kI : Nat} (wi : (Jvm.Cond.instantiable ST kI).before a0 Z = true)
    {x b : Addr} {k : ClassId} {zn z : Int32} {cs : List Int32} {dv v0 c0 : Value} (E : RoadKit.Exa Z h x ST) (V : RoadKit.Fld Z h x ST "value" "[B" v0) (C : RoadKit.Fld Z h x ST "coder" "B" c0) (K : RoadKit.Arv Z h b k .char zn (cs.map Value.int) dv) (S : RoadKit.Sta Z h ST "COMPACT_STRINGS" "Z" (.int z)) (hz : ¬ z = 0)
    (hlen : zn.toNatClampNeg = cs.length) (h0 : 0 < cs.length) (hbig : cs.length ≤ 536870912) (hall : ∀ c ∈ cs, ¬ 255 < c) (hfr : 4 ≤ R.frames) (hlo : W + 65 ≤ R.locals) :
    Back l R p e below s args New1.yN len W (fun P a => a = #[.ref x, .ref b] ∧ P.U.heap = h ∧ P.cells + 1 ≤ R.cells ∧ P.slots + cs.length ≤ R.slots)
      (fun P _ v B => ∃ L, QA Z x zn cs h v B.U.heap L ∧ B.locs = P.locs ++ L ∧ B.cells = P.cells + 1 ∧ B.slots = P.slots + cs.length) := by
  obtain ⟨A, K1, K2, K3, K4, K5, K6⟩ := K
  have e : A.slots.size = cs.length := K3.trans hlen
  have hat : ∀ (i : Nat) (hi : i < cs.length), A.slots[i]? = some (.int cs[i]) := fun i hi => by rw [K5 i (by omega)]; simp [List.getD_eq_getElem?_getD, hi]
  have hcv : ∀ (i : Nat) (hi : i < cs.length), cv A i = cs[i] := fun i hi => by unfold cv; rw [hat i hi]
  have hty : Typed .char A := fun i v hv => by
    have hi : i < A.slots.size := (Array.getElem?_eq_some_iff.mp hv).1
    have q := K5 i hi
    rw [hv] at q
    rw [Option.some.inj q]
    exact K6 i hi
  refine Back.mono (back hZ hw wi E V C K1 hty S hz (by omega) (by omega) (fun i hi => by rw [hcv i (by omega)]; exact hall _ (List.getElem_mem _)) hfr hlo) (fun P a hp => ⟨hp.1, hp.2.1, hp.2.2.1, by rw [e]; exact hp.2.2.2⟩) (fun P a v B hp hq => ?_)
  obtain ⟨L, ⟨q1, q2, q3, q4, q5, q6, q7, ⟨V', v1, v2, v3, v4, v5⟩, q9⟩, hl, hc, hs⟩ := hq
  refine ⟨L, ⟨q1, q2, q3, q4, q5, q6, q7, ⟨V'.cls, v3, V', v1, rfl, by rw [v4, e, hlen], K4, fun i hi => ?_, fun i hi => ?_⟩, q9⟩, hl, hc, by rw [hs, e]⟩
  · have hi' : i < cs.length := by omega
    rw [v5 i (by omega), hcv i hi']; simp [List.getD_eq_getElem?_getD, hi']
  · have hi' : i < cs.length := by omega
    simp only [List.getD_eq_getElem?_getD, List.getElem?_map, List.getElem?_eq_getElem hi', Option.map_some, Option.getD_some]
    exact fits_lo8 _
end StrChars.Road
namespace StrChars.Road
open Jvm Sem ClassFile Op Lib Jvm.Stand Jvm.Free Jvm.Free.XT
/-- WHAT COMES BACK, in the writer's own shape -/
def QV (Z : State) (x : Addr) (N : Int32) (bs : List Int32) (h : Heap) (n0 : Nat) (v : Option Value) (h' : Heap) (L : List Loc) : Prop := v = none ∧ RoadKit.Fr n0 L ∧ RoadKit.Keep h h' [x] ∧ RoadKit.Exa Z h' x ST ∧ RoadKit.Fld Z h' x ST "coder" "B" (.int 0) ∧
  ∃ (t : Addr) (kb : ClassId), n0 ≤ t ∧ h.size ≤ t ∧ ¬ t = x ∧ RoadKit.Fld Z h' x ST "value" "[B" (.ref t) ∧ RoadKit.Arv Z h' t kb .byte N (bs.map Value.int) (.int 0)
/-- **new String(chars) AT A CALL, FOR THE WRITER**: a char[] of n known ints, each 0 to 255 -/
theorem backV {p : Program} {l : Launch} {e : Env} {R : Room} {s : State} {args : Array Value} {below : List Frame} {len W : Nat} {Z : State} {a0 : Array Value} {h : Heap} (hZ : Z.Warmed39 s.vm) (hw : ∀ d ∈ words, d.before a0 Z = true) {kI : Nat} (wi : (Jvm.Cond.instantiable ST kI).before a0 Z = true)
    {x b : Addr} {kC : ClassId} {cs bs : List Int32} {d v0 c0 : Value} {z N : Int32} {n n0 : Nat} (hx0 : n0 ≤ x) (hh0 : n0 ≤ h.size) (E : RoadKit.Exa Z h x ST) (V : RoadKit.Fld Z h x ST "value" "[B" v0) (C : RoadKit.Fld Z h x ST "coder" "B" c0) (K : RoadKit.Arv Z h b kC .char N (cs.map Value.int) d) (S : RoadKit.Sta Z h ST "COMPACT_STRINGS" "Z" (.int z)) (hz : ¬ z = 0)
    (hn : cs.length = n) (hN : N = Int32.ofNat n) (l0 : 0 < n) (l2 : n ≤ 4000) (hp : ∀ c ∈ cs, ¬ c < 0 ∧ ¬ (255 : Int32) < c) (hb : bs = cs.map (fun c => c.toInt8.toInt32)) (hfr : 4 ≤ R.frames) (hlo : W + 65 ≤ R.locals) :
    Back l R p e below s args (⟨"java/lang/String", "<init>", "([C)V"⟩ : MethodName) len W (fun P a => a = #[.ref x, .ref b] ∧ P.U.heap = h ∧ P.cells + 1 ≤ R.cells ∧ P.slots + n ≤ R.slots)
      (fun P _ v B => ∃ L, QV Z x N bs h n0 v B.U.heap L ∧ B.locs = P.locs ++ L ∧ B.cells = P.cells + 1 ∧ B.slots = P.slots + n) := by
  subst hn hN hb
  refine Back.mono (backArv hZ hw wi E V C K S hz (n32 (by omega)) l0 (by omega) (fun c hc => (hp c hc).2) hfr hlo) (fun P a hp => hp) (fun P a v B hp hq => ?_)
  obtain ⟨L, ⟨q1, q2, q3, q4, q5, q6, q7, ⟨kb, v1, v2⟩, q9⟩, hl, hc, hs⟩ := hq
  exact ⟨L, ⟨q1, fun y hy => by rw [q2 y hy]; exact hx0, q3, q5, q7, h.size, kb, hh0, Nat.le_refl _, Nat.ne_of_gt E.lt, q6, by rw [List.map_map]; exact v2⟩, hl, hc, hs⟩
end StrChars.Road
end Jvm.Pilot.@@N@@

namespace Jvm.Pilot.@@N@@
open Jvm Jvm.ClassFile Sem Op Lib Jvm.Free Jvm.Stand Jvm.LawKit Jvm.RoadKit Bundle Jvm.Pilot.@@N@@.Jvm.D

/-! ## OWN LAYER: weakest preconditions over the walk -/
abbrev Cx : Type := (Program × Launch × Env × Room) × (State × MethodId × Array Value × List Frame) × (Method × Code) × (Option Value → Heap → Prop) × Nat
abbrev Sd (K : Cx) (T : State) (locs : List Loc) (cells slots : Nat) : Prop := Stand K.1.1 K.1.2.1 K.1.2.2.1 K.1.2.2.2 K.2.1.1 K.2.1.2.1 K.2.1.2.2.1 K.2.1.2.2.2 K.2.2.1.1 K.2.2.1.2 T locs cells slots
abbrev Stp (K : Cx) (A B : State) : Prop := Steps K.1.1.tables K.1.2.2.1 K.2.1.2.2.2 A B
abbrev Tp (K : Cx) (T : State) (pc : Nat) (L : Array Slot) (st : List Value) : State := T.setTop (mkF K.2.1.2.1 pc L st)
/-- from every state that stands at pc with these locals, this stack and this heap the run ends as K says -/
def W (K : Cx) (h : Heap) (cells slots pc : Nat) (L : Array Slot) (st : List Value) : Prop :=
  ∀ T locs, Sd K T locs cells slots → T.heap = h → Fr K.2.2.2.2 locs →
    ∃ s₂ o, Stp K (Tp K T pc L st) s₂ ∧ s₂.status = .running ∧ Ended s₂ K.2.1.2.2.2 o ∧ ∃ v Ls, o = .returned v ∧ (K.2.2.2.1 v s₂.heap ∧ Fr K.2.2.2.2 Ls) ∧ FrameEnd K.2.1.1 o s₂ Ls K.1.2.2.2.cells K.1.2.2.2.slots
def Ok (K : Cx) (l : Launch) (Z : State) (a0 : Array Value) (ts : List Jvm.Cond) (B : ByteArray) (ml : Nat) (rt : Option FieldType) (own nm : String) (R : Room) (n0 : Nat) (Q : Option Value → Heap → Prop) : Prop :=
  K.1.1.tables.exec = Jvm.exec ∧ K.2.2.1.2.code = B ∧ K.2.2.1.2.maxLocals = ml ∧ K.2.1.1.vm.findClass own = some K.2.1.2.1.cls ∧ K.2.2.1.1.name = nm ∧ K.2.2.1.1.sig.returnType = rt ∧ K.2.2.1.1.locks = false ∧ Z.Warmed39 K.2.1.1.vm ∧ (∀ d ∈ ts, d.before a0 Z = true) ∧ n0 ≤ K.2.1.1.heap.size ∧ K.1.2.1 = l ∧ K.1.2.2.2 = R ∧ K.2.2.2.2 = n0 ∧ K.2.2.2.1 = Q
/-- a body's contract -/
def Con (l : Launch) (Z : State) (y : MethodName) (B : ByteArray) (ml : Nat) (rt : Option FieldType) (rm : Room) (as : List Value) (h : Heap) (n0 : Nat) (Q : Option Value → Heap → Prop) : Prop :=
  n0 ≤ h.size → ∀ ws, MetFree l y (head1 (Jvm.Cond.code y B ml rt :: ws) rm) (fun a U => a = as.toArray ∧ Z.Warmed39 U.vm ∧ U.heap = h) (fun _ _ _ _ _ => True) (fun _ U o U' => ∃ v L, o = .returned v ∧ (Q v U'.heap ∧ Fr n0 L) ∧ FrameEnd U o U' L rm.cells rm.slots)
def RetI (P : Int32 → Heap → Prop) (v : Option Value) (h : Heap) : Prop := ∃ r, v = some (.int r) ∧ P r h
def RetL (P : Int64 → Heap → Prop) (v : Option Value) (h : Heap) : Prop := ∃ r, v = some (.long r) ∧ P r h
def RetA (P : Value → Heap → Prop) (v : Option Value) (h : Heap) : Prop := ∃ r, v = some r ∧ r.isRef = true ∧ P r h
def RetV (P : Heap → Prop) (v : Option Value) (h : Heap) : Prop := v = none ∧ P h
section OwnW
variable {K : Cx} {l : Launch} {Z : State} {a0 : Array Value} {ts : List Jvm.Cond} {B : ByteArray} {ml : Nat} {rt : Option FieldType} {own nm : String} {R : Room} {n0 : Nat} {Q : Option Value → Heap → Prop} {h : Heap} {cl sl pc pc' : Nat} {L L' : Array Slot} {st st' : List Value}
theorem W.step (f : ∀ T locs, Sd K T locs cl sl → T.heap = h → ∀ t, Stp K (Tp K T pc' L' st') t → Stp K (Tp K T pc L st) t) (k : W K h cl sl pc' L' st') : W K h cl sl pc L st := fun T locs X e N => by
  obtain ⟨s2, o, h1, r⟩ := k T locs X e N
  exact ⟨s2, o, f T locs X e _ h1, r⟩
theorem W.stepT (f : ∀ T locs, Sd K T locs cl sl → T.heap = h → ∃ T', Sd K T' locs cl sl ∧ T'.heap = h ∧ ∀ t, Stp K (Tp K T' pc' L' st') t → Stp K (Tp K T pc L st) t) (k : W K h cl sl pc' L' st') : W K h cl sl pc L st := fun T locs X e N => by
  obtain ⟨T', X', e', g⟩ := f T locs X e
  obtain ⟨s2, o, h1, r⟩ := k T' locs X' e' N
  exact ⟨s2, o, g _ h1, r⟩
theorem W.stepW {a : Addr} {i : Nat} {v : Value} (f : ∀ T locs, Sd K T locs cl sl → T.heap = h → ∃ T' h', Sd K T' (locs ++ [⟨a, i⟩]) cl sl ∧ T'.heap = h' ∧ Wr h h' a i v ∧ ∀ t, Stp K (Tp K T' pc' L' st') t → Stp K (Tp K T pc L st) t) (ha : K.2.2.2.2 ≤ a) (k : ∀ h', Wr h h' a i v → W K h' cl sl pc' L' st') : W K h cl sl pc L st := fun T locs X e N => by
  obtain ⟨T', h', X', e', w, g⟩ := f T locs X e
  obtain ⟨s2, o, h1, r⟩ := k h' w T' _ X' e' (Fr.snoc X' N ha)
  exact ⟨s2, o, g _ h1, r⟩
theorem W.mono {cl' sl' : Nat} (hc : cl ≤ cl') (hs : sl ≤ sl') (k : W K h cl' sl' pc L st) : W K h cl sl pc L st := fun T locs X e N => k T locs (X.mono hc hs) e N
theorem Sd.size {T : State} {locs : List Loc} (X : Sd K T locs cl sl) : K.2.1.1.heap.size ≤ T.heap.size := X.same.2.1
theorem cI {cl' sl' : Nat} {P : Int32 → Heap → Prop} (k : ∀ r h', P r h' → W K h' cl' sl' pc' L (.int r :: st)) : ∀ v h', RetI P v h' → W K h' cl' sl' pc' L (v.toList ++ st) := by
  rintro _ h' ⟨r, rfl, hp⟩; exact k r h' hp
theorem cL {cl' sl' : Nat} {P : Int64 → Heap → Prop} (k : ∀ r h', P r h' → W K h' cl' sl' pc' L (.long r :: st)) : ∀ v h', RetL P v h' → W K h' cl' sl' pc' L (v.toList ++ st) := by
  rintro _ h' ⟨r, rfl, hp⟩; exact k r h' hp
theorem cA {cl' sl' : Nat} {P : Value → Heap → Prop} (k : ∀ r h', r.isRef = true → P r h' → W K h' cl' sl' pc' L (r :: st)) : ∀ v h', RetA P v h' → W K h' cl' sl' pc' L (v.toList ++ st) := by
  rintro _ h' ⟨r, rfl, hr, hp⟩; exact k r h' hr hp
theorem cV {cl' sl' : Nat} {P : Heap → Prop} (k : ∀ h', P h' → W K h' cl' sl' pc' L st) : ∀ v h', RetV P v h' → W K h' cl' sl' pc' L (v.toList ++ st) := by
  rintro _ h' ⟨rfl, hp⟩; exact k h' hp
theorem Con.weak {y : MethodName} {rm : Room} {as : List Value} {Q' : Option Value → Heap → Prop} (c : Con l Z y B ml rt rm as h n0 Q) (q : ∀ v h', Q v h' → Q' v h') : Con l Z y B ml rt rm as h n0 Q' := fun hn ws p e ha hc hk s m args below hf happ hP hK => by
  obtain ⟨n, o, h1, h2, h3, v, L, e1, ⟨h4, h5⟩, h6⟩ := c hn ws p e ha hc hk s m args below hf happ hP hK
  exact ⟨n, o, h1, h2, h3, v, L, e1, ⟨q _ _ h4, h5⟩, h6⟩
theorem Con.body {y : MethodName} {rm : Room} {as : List Value} {L0 : Array Slot} (hw : ∀ d ∈ ts, d.before a0 Z = true) (pn : plainFor y = true) (ef : ∀ m, entryFrame m as.toArray ml = mkF m 0 L0 [])
    (b : ∀ K, Ok K l Z a0 ts B ml rt y.cls y.name rm n0 Q → W K h 0 0 0 L0 []) : Con l Z y B ml rt rm as h n0 Q := by
  intro hn ws
  refine MetFree.of_bodySF pn hisR ?_
  intro p e s m args below meth c s₁ Bd hml0 hP hK
  obtain ⟨rfl, hZ, hh⟩ := hP
  have hown : s.vm.findClass y.cls = some m.cls := findClass_of_methodNamed Bd.named
  have hnm := (name_of_methodNamed Bd.named Bd.method).1
  have X0 : Stand p l e rm s m as.toArray below meth c s₁ [] 0 0 := Stand.of_body Bd
  have e0 : s₁.heap = h := by rw [← hh, Bd.state]; rfl
  have q := b ((p, l, e, rm), (s, m, as.toArray, below), (meth, c), Q, n0) ⟨Bd.exec, Bd.bytes, hml0, hown, hnm, Bd.returns, Bd.notSynchronized, hZ, hw, by rw [← hh] at hn; exact hn, rfl, rfl, rfl, rfl⟩ s₁ [] X0 e0 (Fr.nil _)
  obtain ⟨s2, o, h1, h2, h3, h4⟩ := q
  exact ⟨s2, o, castTop (ef m) h1, h2, h3, h4⟩

theorem w_iloadN (O : Ok K l Z a0 ts B ml rt own nm R n0 Q) {i : Fin 4} {v : Int32} (hd : decode B pc = .ok (.iload_n i, 1)) (hp : pc + 1 = pc') (hl : L[i.val]? = some (.val (.int v))) (k : W K h cl sl pc' L (.int v :: st)) : W K h cl sl pc L (st) := by
  subst hp; exact W.step (fun T locs X e t q => XS.iloadN X.here O.1 rfl (hb O.2.1 hd) hl q) k
theorem w_iload (O : Ok K l Z a0 ts B ml rt own nm R n0 Q) {i : Nat} {v : Int32} (hd : decode B pc = .ok (.iload i, 2)) (hp : pc + 2 = pc') (hl : L[i]? = some (.val (.int v))) (k : W K h cl sl pc' L (.int v :: st)) : W K h cl sl pc L (st) := by
  subst hp; exact W.step (fun T locs X e t q => XS.iload X.here O.1 rfl (hb O.2.1 hd) hl q) k
theorem w_lloadN (O : Ok K l Z a0 ts B ml rt own nm R n0 Q) {i : Fin 4} {v : Int64} (hd : decode B pc = .ok (.lload_n i, 1)) (hp : pc + 1 = pc') (hl : L[i.val]? = some (.val (.long v))) (k : W K h cl sl pc' L (.long v :: st)) : W K h cl sl pc L (st) := by
  subst hp; exact W.step (fun T locs X e t q => XS.lloadN X.here O.1 rfl (hb O.2.1 hd) hl q) k
theorem w_lload (O : Ok K l Z a0 ts B ml rt own nm R n0 Q) {i : Nat} {v : Int64} (hd : decode B pc = .ok (.lload i, 2)) (hp : pc + 2 = pc') (hl : L[i]? = some (.val (.long v))) (k : W K h cl sl pc' L (.long v :: st)) : W K h cl sl pc L (st) := by
  subst hp; exact W.step (fun T locs X e t q => XS.lload X.here O.1 rfl (hb O.2.1 hd) hl q) k
theorem w_aloadN (O : Ok K l Z a0 ts B ml rt own nm R n0 Q) {i : Fin 4} {v : Value} (hd : decode B pc = .ok (.aload_n i, 1)) (hp : pc + 1 = pc') (hl : L[i.val]? = some (.val v)) (hv : v.isRef = true) (k : W K h cl sl pc' L (v :: st)) : W K h cl sl pc L (st) := by
  subst hp; exact W.step (fun T locs X e t q => XS.aloadN X.here O.1 rfl (hb O.2.1 hd) hl hv q) k
theorem w_aload (O : Ok K l Z a0 ts B ml rt own nm R n0 Q) {i : Nat} {v : Value} (hd : decode B pc = .ok (.aload i, 2)) (hp : pc + 2 = pc') (hl : L[i]? = some (.val v)) (hv : v.isRef = true) (k : W K h cl sl pc' L (v :: st)) : W K h cl sl pc L (st) := by
  subst hp; exact W.step (fun T locs X e t q => XS.aload X.here O.1 rfl (hb O.2.1 hd) hl hv q) k
theorem w_istoreN (O : Ok K l Z a0 ts B ml rt own nm R n0 Q) {i : Fin 4} {v : Int32} (hd : decode B pc = .ok (.istore_n i, 1)) (hp : pc + 1 = pc') (hl : storeLocals L i.val (.int v) = some L') (k : W K h cl sl pc' L' st) : W K h cl sl pc L (.int v :: st) := by
  subst hp; exact W.step (fun T locs X e t q => XS.istoreN X.here O.1 rfl (hb O.2.1 hd) rfl hl q) k
theorem w_istoreNG (O : Ok K l Z a0 ts B ml rt own nm R n0 Q) {i : Fin 4} {v : Int32} {L' : Int32 → Array Slot} (hd : decode B pc = .ok (.istore_n i, 1)) (hp : pc + 1 = pc') (hl : ∀ z, storeLocals L i.val (.int z) = some (L' z)) (k : ∀ z, z = v → W K h cl sl pc' (L' z) st) : W K h cl sl pc L (.int v :: st) := w_istoreN O hd hp (hl v) (k v rfl)
theorem w_istore (O : Ok K l Z a0 ts B ml rt own nm R n0 Q) {i : Nat} {v : Int32} (hd : decode B pc = .ok (.istore i, 2)) (hp : pc + 2 = pc') (hl : storeLocals L i (.int v) = some L') (k : W K h cl sl pc' L' st) : W K h cl sl pc L (.int v :: st) := by
  subst hp; exact W.step (fun T locs X e t q => XS.istore X.here O.1 rfl (hb O.2.1 hd) rfl hl q) k
theorem w_istoreG (O : Ok K l Z a0 ts B ml rt own nm R n0 Q) {i : Nat} {v : Int32} {L' : Int32 → Array Slot} (hd : decode B pc = .ok (.istore i, 2)) (hp : pc + 2 = pc') (hl : ∀ z, storeLocals L i (.int z) = some (L' z)) (k : ∀ z, z = v → W K h cl sl pc' (L' z) st) : W K h cl sl pc L (.int v :: st) := w_istore O hd hp (hl v) (k v rfl)
theorem w_lstoreN (O : Ok K l Z a0 ts B ml rt own nm R n0 Q) {i : Fin 4} {v : Int64} (hd : decode B pc = .ok (.lstore_n i, 1)) (hp : pc + 1 = pc') (hl : storeLocals L i.val (.long v) = some L') (k : W K h cl sl pc' L' st) : W K h cl sl pc L (.long v :: st) := by
  subst hp; exact W.step (fun T locs X e t q => XS.lstoreN X.here O.1 rfl (hb O.2.1 hd) rfl hl q) k
theorem w_lstoreNG (O : Ok K l Z a0 ts B ml rt own nm R n0 Q) {i : Fin 4} {v : Int64} {L' : Int64 → Array Slot} (hd : decode B pc = .ok (.lstore_n i, 1)) (hp : pc + 1 = pc') (hl : ∀ z, storeLocals L i.val (.long z) = some (L' z)) (k : ∀ z, z = v → W K h cl sl pc' (L' z) st) : W K h cl sl pc L (.long v :: st) := w_lstoreN O hd hp (hl v) (k v rfl)
theorem w_lstore (O : Ok K l Z a0 ts B ml rt own nm R n0 Q) {i : Nat} {v : Int64} (hd : decode B pc = .ok (.lstore i, 2)) (hp : pc + 2 = pc') (hl : storeLocals L i (.long v) = some L') (k : W K h cl sl pc' L' st) : W K h cl sl pc L (.long v :: st) := by
  subst hp; exact W.step (fun T locs X e t q => XS.lstore X.here O.1 rfl (hb O.2.1 hd) rfl hl q) k
theorem w_lstoreG (O : Ok K l Z a0 ts B ml rt own nm R n0 Q) {i : Nat} {v : Int64} {L' : Int64 → Array Slot} (hd : decode B pc = .ok (.lstore i, 2)) (hp : pc + 2 = pc') (hl : ∀ z, storeLocals L i (.long z) = some (L' z)) (k : ∀ z, z = v → W K h cl sl pc' (L' z) st) : W K h cl sl pc L (.long v :: st) := w_lstore O hd hp (hl v) (k v rfl)
theorem w_astoreN (O : Ok K l Z a0 ts B ml rt own nm R n0 Q) {i : Fin 4} {v : Value} (hd : decode B pc = .ok (.astore_n i, 1)) (hp : pc + 1 = pc') (hv : v.isRef = true) (hl : storeLocals L i.val v = some L') (k : W K h cl sl pc' L' st) : W K h cl sl pc L (v :: st) := by
  subst hp; exact W.step (fun T locs X e t q => XS.astoreN X.here O.1 rfl (hb O.2.1 hd) rfl hv hl q) k
theorem w_astore (O : Ok K l Z a0 ts B ml rt own nm R n0 Q) {i : Nat} {v : Value} (hd : decode B pc = .ok (.astore i, 2)) (hp : pc + 2 = pc') (hv : v.isRef = true) (hl : storeLocals L i v = some L') (k : W K h cl sl pc' L' st) : W K h cl sl pc L (v :: st) := by
  subst hp; exact W.step (fun T locs X e t q => XS.astore X.here O.1 rfl (hb O.2.1 hd) rfl hv hl q) k
theorem w_iinc (O : Ok K l Z a0 ts B ml rt own nm R n0 Q) {i : Nat} {cst : Int} {x z : Int32} (hd : decode B pc = .ok (.iinc i cst, 3)) (hp : pc + 3 = pc') (hl : L[i]? = some (.val (.int x))) (hz : x + Int32.ofInt cst = z) (hl' : storeLocals L i (.int z) = some L') (k : W K h cl sl pc' L' st) : W K h cl sl pc L st := by
  subst hp; subst hz; exact W.step (fun T locs X e t q => XS.iinc X.here O.1 rfl (hb O.2.1 hd) hl hl' q) k
theorem w_iincG (O : Ok K l Z a0 ts B ml rt own nm R n0 Q) {i : Nat} {cst : Int} {x y : Int32} {L' : Int32 → Array Slot} (hd : decode B pc = .ok (.iinc i cst, 3)) (hp : pc + 3 = pc') (hl : L[i]? = some (.val (.int x))) (hz : Int32.ofInt cst = y) (hl' : ∀ z, storeLocals L i (.int z) = some (L' z)) (k : ∀ z, z = x + y → W K h cl sl pc' (L' z) st) : W K h cl sl pc L st := by
  subst hz; exact w_iinc O hd hp hl rfl (hl' _) (k _ rfl)
theorem w_iconst (O : Ok K l Z a0 ts B ml rt own nm R n0 Q) {i : Int} {z : Int32} (hd : decode B pc = .ok (.iconst i, 1)) (hp : pc + 1 = pc') (hz : Int32.ofInt i = z) (k : W K h cl sl pc' L (.int z :: st)) : W K h cl sl pc L (st) := by
  subst hp; exact W.step (fun T locs X e t q => XS.iconst X.here O.1 rfl (hb O.2.1 hd) (by rw [hz]; exact q)) k
theorem w_bipush (O : Ok K l Z a0 ts B ml rt own nm R n0 Q) {i : Int} {z : Int32} (hd : decode B pc = .ok (.bipush i, 2)) (hp : pc + 2 = pc') (hz : (Int8.ofInt i).toInt32 = z) (k : W K h cl sl pc' L (.int z :: st)) : W K h cl sl pc L (st) := by
  subst hp; exact W.step (fun T locs X e t q => XS.bipush X.here O.1 rfl (hb O.2.1 hd) (by rw [hz]; exact q)) k
theorem w_sipush (O : Ok K l Z a0 ts B ml rt own nm R n0 Q) {i : Int} {z : Int32} (hd : decode B pc = .ok (.sipush i, 3)) (hp : pc + 3 = pc') (hz : (Int16.ofInt i).toInt32 = z) (k : W K h cl sl pc' L (.int z :: st)) : W K h cl sl pc L (st) := by
  subst hp; exact W.step (fun T locs X e t q => XS.sipush X.here O.1 rfl (hb O.2.1 hd) (by rw [hz]; exact q)) k
theorem w_lconst (O : Ok K l Z a0 ts B ml rt own nm R n0 Q) {i : Fin 2} {z : Int64} (hd : decode B pc = .ok (.lconst i, 1)) (hp : pc + 1 = pc') (hz : Int64.ofNat i = z) (k : W K h cl sl pc' L (.long z :: st)) : W K h cl sl pc L (st) := by
  subst hp; exact W.step (fun T locs X e t q => XS.lconst X.here O.1 rfl (hb O.2.1 hd) (by rw [hz]; exact q)) k
theorem w_anull (O : Ok K l Z a0 ts B ml rt own nm R n0 Q)  (hd : decode B pc = .ok (.aconst_null, 1)) (hp : pc + 1 = pc') (k : W K h cl sl pc' L (.null :: st)) : W K h cl sl pc L (st) := by
  subst hp; exact W.step (fun T locs X e t q => XS.aconstNull X.here O.1 rfl (hb O.2.1 hd) q) k
theorem w_ldc (O : Ok K l Z a0 ts B ml rt own nm R n0 Q) {i : Nat} {v : Int32} (hd : decode B pc = .ok (.ldc i, 2)) (hp : pc + 2 = pc') (w : Jvm.Cond.constant own i v ∈ ts) (k : W K h cl sl pc' L (.int v :: st)) : W K h cl sl pc L (st) := by
  subst hp; exact W.step (fun T locs X e t q => X.ldcInt O.1 O.2.2.2.1 (mvT O.2.2.2.2.2.2.2.1 (O.2.2.2.2.2.2.2.2.1 _ w)) (g := mkF K.2.1.2.1 pc L st) rfl (hb O.2.1 hd) _ q) k
theorem w_ldc2 (O : Ok K l Z a0 ts B ml rt own nm R n0 Q) {i : Nat} {v : Int64} (hd : decode B pc = .ok (.ldc2_w i, 3)) (hp : pc + 3 = pc') (w : Jvm.Cond.constantLong own i v ∈ ts) (k : W K h cl sl pc' L (.long v :: st)) : W K h cl sl pc L (st) := by
  subst hp; exact W.step (fun T locs X e t q => X.ldc2Long O.1 O.2.2.2.1 (mvT O.2.2.2.2.2.2.2.1 (O.2.2.2.2.2.2.2.2.1 _ w)) (g := mkF K.2.1.2.1 pc L st) rfl (hb O.2.1 hd) _ q) k
theorem w_iadd (O : Ok K l Z a0 ts B ml rt own nm R n0 Q) {x y : Int32} (hd : decode B pc = .ok (.iadd, 1)) (hp : pc + 1 = pc') (k : W K h cl sl pc' L (.int (x + y) :: st)) : W K h cl sl pc L (.int y :: .int x :: st) := by
  subst hp; exact W.step (fun T locs X e t q => XS.iadd X.here O.1 rfl (hb O.2.1 hd) rfl q) k
theorem w_isub (O : Ok K l Z a0 ts B ml rt own nm R n0 Q) {x y : Int32} (hd : decode B pc = .ok (.isub, 1)) (hp : pc + 1 = pc') (k : W K h cl sl pc' L (.int (x - y) :: st)) : W K h cl sl pc L (.int y :: .int x :: st) := by
  subst hp; exact W.step (fun T locs X e t q => XS.isub X.here O.1 rfl (hb O.2.1 hd) rfl q) k
theorem w_imul (O : Ok K l Z a0 ts B ml rt own nm R n0 Q) {x y : Int32} (hd : decode B pc = .ok (.imul, 1)) (hp : pc + 1 = pc') (k : W K h cl sl pc' L (.int (x * y) :: st)) : W K h cl sl pc L (.int y :: .int x :: st) := by
  subst hp; exact W.step (fun T locs X e t q => XS.imul X.here O.1 rfl (hb O.2.1 hd) rfl q) k
theorem w_iand (O : Ok K l Z a0 ts B ml rt own nm R n0 Q) {x y : Int32} (hd : decode B pc = .ok (.iand, 1)) (hp : pc + 1 = pc') (k : W K h cl sl pc' L (.int (x &&& y) :: st)) : W K h cl sl pc L (.int y :: .int x :: st) := by
  subst hp; exact W.step (fun T locs X e t q => XS.iand X.here O.1 rfl (hb O.2.1 hd) rfl q) k
theorem w_ior (O : Ok K l Z a0 ts B ml rt own nm R n0 Q) {x y : Int32} (hd : decode B pc = .ok (.ior, 1)) (hp : pc + 1 = pc') (k : W K h cl sl pc' L (.int (x ||| y) :: st)) : W K h cl sl pc L (.int y :: .int x :: st) := by
  subst hp; exact W.step (fun T locs X e t q => XS.ior X.here O.1 rfl (hb O.2.1 hd) rfl q) k
theorem w_ixor (O : Ok K l Z a0 ts B ml rt own nm R n0 Q) {x y : Int32} (hd : decode B pc = .ok (.ixor, 1)) (hp : pc + 1 = pc') (k : W K h cl sl pc' L (.int (x ^^^ y) :: st)) : W K h cl sl pc L (.int y :: .int x :: st) := by
  subst hp; exact W.step (fun T locs X e t q => XS.ixor X.here O.1 rfl (hb O.2.1 hd) rfl q) k
theorem w_ishl (O : Ok K l Z a0 ts B ml rt own nm R n0 Q) {x y : Int32} (hd : decode B pc = .ok (.ishl, 1)) (hp : pc + 1 = pc') (k : W K h cl sl pc' L (.int (x <<< (y &&& 31)) :: st)) : W K h cl sl pc L (.int y :: .int x :: st) := by
  subst hp; exact W.step (fun T locs X e t q => XS.ishl X.here O.1 rfl (hb O.2.1 hd) rfl q) k
theorem w_ishr (O : Ok K l Z a0 ts B ml rt own nm R n0 Q) {x y : Int32} (hd : decode B pc = .ok (.ishr, 1)) (hp : pc + 1 = pc') (k : W K h cl sl pc' L (.int (x >>> (y &&& 31)) :: st)) : W K h cl sl pc L (.int y :: .int x :: st) := by
  subst hp; exact W.step (fun T locs X e t q => XS.ishr X.here O.1 rfl (hb O.2.1 hd) rfl q) k
theorem w_iushr (O : Ok K l Z a0 ts B ml rt own nm R n0 Q) {x y : Int32} (hd : decode B pc = .ok (.iushr, 1)) (hp : pc + 1 = pc') (k : W K h cl sl pc' L (.int ((x.toUInt32 >>> (y &&& 31).toUInt32).toInt32) :: st)) : W K h cl sl pc L (.int y :: .int x :: st) := by
  subst hp; exact W.step (fun T locs X e t q => XS.iushr X.here O.1 rfl (hb O.2.1 hd) rfl q) k
theorem w_ladd (O : Ok K l Z a0 ts B ml rt own nm R n0 Q) {x y : Int64} (hd : decode B pc = .ok (.ladd, 1)) (hp : pc + 1 = pc') (k : W K h cl sl pc' L (.long (x + y) :: st)) : W K h cl sl pc L (.long y :: .long x :: st) := by
  subst hp; exact W.step (fun T locs X e t q => XS.ladd X.here O.1 rfl (hb O.2.1 hd) rfl q) k
theorem w_lsub (O : Ok K l Z a0 ts B ml rt own nm R n0 Q) {x y : Int64} (hd : decode B pc = .ok (.lsub, 1)) (hp : pc + 1 = pc') (k : W K h cl sl pc' L (.long (x - y) :: st)) : W K h cl sl pc L (.long y :: .long x :: st) := by
  subst hp; exact W.step (fun T locs X e t q => XS.lsub X.here O.1 rfl (hb O.2.1 hd) rfl q) k
theorem w_lmul (O : Ok K l Z a0 ts B ml rt own nm R n0 Q) {x y : Int64} (hd : decode B pc = .ok (.lmul, 1)) (hp : pc + 1 = pc') (k : W K h cl sl pc' L (.long (x * y) :: st)) : W K h cl sl pc L (.long y :: .long x :: st) := by
  subst hp; exact W.step (fun T locs X e t q => XS.lmul X.here O.1 rfl (hb O.2.1 hd) rfl q) k
theorem w_land (O : Ok K l Z a0 ts B ml rt own nm R n0 Q) {x y : Int64} (hd : decode B pc = .ok (.land, 1)) (hp : pc + 1 = pc') (k : W K h cl sl pc' L (.long (x &&& y) :: st)) : W K h cl sl pc L (.long y :: .long x :: st) := by
  subst hp; exact W.step (fun T locs X e t q => XS.land X.here O.1 rfl (hb O.2.1 hd) rfl q) k
theorem w_lor (O : Ok K l Z a0 ts B ml rt own nm R n0 Q) {x y : Int64} (hd : decode B pc = .ok (.lor, 1)) (hp : pc + 1 = pc') (k : W K h cl sl pc' L (.long (x ||| y) :: st)) : W K h cl sl pc L (.long y :: .long x :: st) := by
  subst hp; exact W.step (fun T locs X e t q => XS.lor X.here O.1 rfl (hb O.2.1 hd) rfl q) k
theorem w_lxor (O : Ok K l Z a0 ts B ml rt own nm R n0 Q) {x y : Int64} (hd : decode B pc = .ok (.lxor, 1)) (hp : pc + 1 = pc') (k : W K h cl sl pc' L (.long (x ^^^ y) :: st)) : W K h cl sl pc L (.long y :: .long x :: st) := by
  subst hp; exact W.step (fun T locs X e t q => XS.lxor X.here O.1 rfl (hb O.2.1 hd) rfl q) k
theorem w_lshl (O : Ok K l Z a0 ts B ml rt own nm R n0 Q) {x : Int64} {y : Int32} (hd : decode B pc = .ok (.lshl, 1)) (hp : pc + 1 = pc') (k : W K h cl sl pc' L (.long (x <<< (y &&& 0x3f).toInt64) :: st)) : W K h cl sl pc L (.int y :: .long x :: st) := by
  subst hp; exact W.step (fun T locs X e t q => XS.lshl X.here O.1 rfl (hb O.2.1 hd) rfl q) k
theorem w_lshr (O : Ok K l Z a0 ts B ml rt own nm R n0 Q) {x : Int64} {y : Int32} (hd : decode B pc = .ok (.lshr, 1)) (hp : pc + 1 = pc') (k : W K h cl sl pc' L (.long (x >>> (y &&& 0x3f).toInt64) :: st)) : W K h cl sl pc L (.int y :: .long x :: st) := by
  subst hp; exact W.step (fun T locs X e t q => XS.lshr X.here O.1 rfl (hb O.2.1 hd) rfl q) k
theorem w_lushr (O : Ok K l Z a0 ts B ml rt own nm R n0 Q) {x : Int64} {y : Int32} (hd : decode B pc = .ok (.lushr, 1)) (hp : pc + 1 = pc') (k : W K h cl sl pc' L (.long ((x.toUInt64 >>> (y &&& 0x3f).toInt64.toUInt64).toInt64) :: st)) : W K h cl sl pc L (.int y :: .long x :: st) := by
  subst hp; exact W.step (fun T locs X e t q => XS.lushr X.here O.1 rfl (hb O.2.1 hd) rfl q) k
theorem w_idiv (O : Ok K l Z a0 ts B ml rt own nm R n0 Q) {x y : Int32} (hd : decode B pc = .ok (.idiv, 1)) (hp : pc + 1 = pc') (hy : y ≠ 0) (k : W K h cl sl pc' L (.int (x / y) :: st)) : W K h cl sl pc L (.int y :: .int x :: st) := by
  subst hp; exact W.step (fun T locs X e t q => XS.idiv X.here O.1 rfl (hb O.2.1 hd) rfl hy q) k
theorem w_irem (O : Ok K l Z a0 ts B ml rt own nm R n0 Q) {x y : Int32} (hd : decode B pc = .ok (.irem, 1)) (hp : pc + 1 = pc') (hy : y ≠ 0) (k : W K h cl sl pc' L (.int (x % y) :: st)) : W K h cl sl pc L (.int y :: .int x :: st) := by
  subst hp; exact W.step (fun T locs X e t q => iremM X O.1 rfl (hb O.2.1 hd) rfl hy q) k
theorem w_ldiv (O : Ok K l Z a0 ts B ml rt own nm R n0 Q) {x y : Int64} (hd : decode B pc = .ok (.ldiv, 1)) (hp : pc + 1 = pc') (hy : y ≠ 0) (k : W K h cl sl pc' L (.long (x / y) :: st)) : W K h cl sl pc L (.long y :: .long x :: st) := by
  subst hp; exact W.step (fun T locs X e t q => XS.ldiv X.here O.1 rfl (hb O.2.1 hd) rfl hy q) k
theorem w_lrem (O : Ok K l Z a0 ts B ml rt own nm R n0 Q) {x y : Int64} (hd : decode B pc = .ok (.lrem, 1)) (hp : pc + 1 = pc') (hy : y ≠ 0) (k : W K h cl sl pc' L (.long (x % y) :: st)) : W K h cl sl pc L (.long y :: .long x :: st) := by
  subst hp; exact W.step (fun T locs X e t q => XS.lrem X.here O.1 rfl (hb O.2.1 hd) rfl hy (by rw [lrem_mod]; exact q)) k
theorem w_ineg (O : Ok K l Z a0 ts B ml rt own nm R n0 Q) {x : Int32} (hd : decode B pc = .ok (.ineg, 1)) (hp : pc + 1 = pc') (k : W K h cl sl pc' L (.int (-x) :: st)) : W K h cl sl pc L (.int x :: st) := by
  subst hp; exact W.step (fun T locs X e t q => XS.ineg X.here O.1 rfl (hb O.2.1 hd) rfl q) k
theorem w_lneg (O : Ok K l Z a0 ts B ml rt own nm R n0 Q) {x : Int64} (hd : decode B pc = .ok (.lneg, 1)) (hp : pc + 1 = pc') (k : W K h cl sl pc' L (.long (-x) :: st)) : W K h cl sl pc L (.long x :: st) := by
  subst hp; exact W.step (fun T locs X e t q => XS.lneg X.here O.1 rfl (hb O.2.1 hd) rfl q) k
theorem w_i2l (O : Ok K l Z a0 ts B ml rt own nm R n0 Q) {x : Int32} (hd : decode B pc = .ok (.i2l, 1)) (hp : pc + 1 = pc') (k : W K h cl sl pc' L (.long (x.toInt64) :: st)) : W K h cl sl pc L (.int x :: st) := by
  subst hp; exact W.step (fun T locs X e t q => XS.i2l X.here O.1 rfl (hb O.2.1 hd) rfl q) k
theorem w_l2i (O : Ok K l Z a0 ts B ml rt own nm R n0 Q) {x : Int64} (hd : decode B pc = .ok (.l2i, 1)) (hp : pc + 1 = pc') (k : W K h cl sl pc' L (.int (x.toInt32) :: st)) : W K h cl sl pc L (.long x :: st) := by
  subst hp; exact W.step (fun T locs X e t q => XS.l2i X.here O.1 rfl (hb O.2.1 hd) rfl q) k
theorem w_i2b (O : Ok K l Z a0 ts B ml rt own nm R n0 Q) {x : Int32} (hd : decode B pc = .ok (.i2b, 1)) (hp : pc + 1 = pc') (k : W K h cl sl pc' L (.int (x.toInt8.toInt32) :: st)) : W K h cl sl pc L (.int x :: st) := by
  subst hp; exact W.step (fun T locs X e t q => XS.i2b X.here O.1 rfl (hb O.2.1 hd) rfl q) k
theorem w_i2s (O : Ok K l Z a0 ts B ml rt own nm R n0 Q) {x : Int32} (hd : decode B pc = .ok (.i2s, 1)) (hp : pc + 1 = pc') (k : W K h cl sl pc' L (.int (x.toInt16.toInt32) :: st)) : W K h cl sl pc L (.int x :: st) := by
  subst hp; exact W.step (fun T locs X e t q => XS.i2s X.here O.1 rfl (hb O.2.1 hd) rfl q) k
theorem w_i2c (O : Ok K l Z a0 ts B ml rt own nm R n0 Q) {x : Int32} (hd : decode B pc = .ok (.i2c, 1)) (hp : pc + 1 = pc') (k : W K h cl sl pc' L (.int (x.toUInt32.toUInt16.toUInt32.toInt32) :: st)) : W K h cl sl pc L (.int x :: st) := by
  subst hp; exact W.step (fun T locs X e t q => XS.i2c X.here O.1 rfl (hb O.2.1 hd) rfl q) k
theorem w_dup (O : Ok K l Z a0 ts B ml rt own nm R n0 Q) {x : Value} (hd : decode B pc = .ok (.dup, 1)) (hp : pc + 1 = pc') (hc : x.category = 1) (k : W K h cl sl pc' L (x :: x :: st)) : W K h cl sl pc L (x :: st) := by
  subst hp; exact W.step (fun T locs X e t q => XS.dup X.here O.1 rfl (hb O.2.1 hd) rfl hc q) k
theorem w_pop (O : Ok K l Z a0 ts B ml rt own nm R n0 Q) {x : Value} (hd : decode B pc = .ok (.pop, 1)) (hp : pc + 1 = pc') (hc : x.category = 1) (k : W K h cl sl pc' L (st)) : W K h cl sl pc L (x :: st) := by
  subst hp; exact W.step (fun T locs X e t q => XS.pop X.here O.1 rfl (hb O.2.1 hd) rfl hc q) k
theorem w_dupX1 (O : Ok K l Z a0 ts B ml rt own nm R n0 Q) {x y : Value} (hd : decode B pc = .ok (.dup_x1, 1)) (hp : pc + 1 = pc') (hc : x.category = 1) (hc2 : y.category = 1) (k : W K h cl sl pc' L (x :: y :: x :: st)) : W K h cl sl pc L (x :: y :: st) := by
  subst hp; exact W.step (fun T locs X e t q => XS.dupX1 X.here O.1 rfl (hb O.2.1 hd) rfl hc hc2 q) k
theorem w_goto (O : Ok K l Z a0 ts B ml rt own nm R n0 Q) {o : Int} (hd : decode B pc = .ok (.goto o, 3)) (ho : 0 ≤ (pc : Int) + o) (hp : ((pc : Int) + o).toNat = pc') (k : W K h cl sl pc' L st) : W K h cl sl pc L st := W.step (fun T locs X e t q => XS.goto X.here O.1 rfl rfl (hb O.2.1 hd) ho hp q) k
theorem w_icmp_eq (O : Ok K l Z a0 ts B ml rt own nm R n0 Q) {o : Int} {x y : Int32} {pt pn : Nat} (hd : decode B pc = .ok (.if_icmp .eq o, 3)) (hn : pc + 3 = pn) (ho : 0 ≤ (pc : Int) + o) (ht : ((pc : Int) + o).toNat = pt) (ky : x.toInt = y.toInt → W K h cl sl pt L st) (kn : ¬ x.toInt = y.toInt → W K h cl sl pn L st) : W K h cl sl pc L (.int y :: .int x :: st) := by
  by_cases q : x = y
  · exact W.step (fun T locs X e t z => XS.icmpYes X.here O.1 rfl rfl (hb O.2.1 hd) rfl (teq q).1 ho ht z) (ky (Int32.toInt_inj.mpr q))
  · exact W.step (fun T locs X e t z => XS.icmpNo X.here O.1 rfl (hb O.2.1 hd) rfl (feq q).1 (by rw [← hn] at z; exact z)) (kn fun w => q (Int32.toInt_inj.mp w))
theorem w_if_eq (O : Ok K l Z a0 ts B ml rt own nm R n0 Q) {o : Int} {x : Int32} {pt pn : Nat} (hd : decode B pc = .ok (.ifCond .eq o, 3)) (hn : pc + 3 = pn) (ho : 0 ≤ (pc : Int) + o) (ht : ((pc : Int) + o).toNat = pt) (ky : x.toInt = 0 → W K h cl sl pt L st) (kn : ¬ x.toInt = 0 → W K h cl sl pn L st) : W K h cl sl pc L (.int x :: st) := by
  have e0 : (0 : Int32).toInt = 0 := by decide
  by_cases q : x = 0
  · exact W.step (fun T locs X e t z => XS.ifYes X.here O.1 rfl rfl (hb O.2.1 hd) rfl ((if0 _ _).trans (teq q).1) ho ht z) (ky (by rw [← e0]; exact (Int32.toInt_inj.mpr q)))
  · exact W.step (fun T locs X e t z => XS.ifNo X.here O.1 rfl (hb O.2.1 hd) rfl ((if0 _ _).trans (feq q).1) (by rw [← hn] at z; exact z)) (kn fun w => q (by rw [← e0] at w; exact (Int32.toInt_inj.mp w)))
theorem lcb_eq {x y : Int64} : (lcmpW x y).toInt = 0 ↔ x.toInt = y.toInt := by
  have e0 : (0 : Int32).toInt = 0 := by decide
  rw [← e0]
  exact Int32.toInt_inj.trans ((lw_eq x y).trans Int64.toInt_inj.symm)
theorem w_lcmp_eq (O : Ok K l Z a0 ts B ml rt own nm R n0 Q) {o : Int} {x y : Int64} {pi pt pn : Nat} (hd : decode B pc = .ok (.lcmp, 1)) (hi : pc + 1 = pi) (hd2 : decode B pi = .ok (.ifCond .eq o, 3)) (hn : pi + 3 = pn) (ho : 0 ≤ (pi : Int) + o) (ht : ((pi : Int) + o).toNat = pt) (ky : x.toInt = y.toInt → W K h cl sl pt L st) (kn : ¬ x.toInt = y.toInt → W K h cl sl pn L st) : W K h cl sl pc L (.long y :: .long x :: st) := by
  subst hi
  exact W.step (fun T locs X e t q => XS.lcmp X.here O.1 rfl (hb O.2.1 hd) rfl q) (w_if_eq O hd2 hn ho ht (fun q => ky (lcb_eq.mp q)) (fun q => kn fun w => q (lcb_eq.mpr w)))
theorem w_icmp_ne (O : Ok K l Z a0 ts B ml rt own nm R n0 Q) {o : Int} {x y : Int32} {pt pn : Nat} (hd : decode B pc = .ok (.if_icmp .ne o, 3)) (hn : pc + 3 = pn) (ho : 0 ≤ (pc : Int) + o) (ht : ((pc : Int) + o).toNat = pt) (ky : ¬ x.toInt = y.toInt → W K h cl sl pt L st) (kn : x.toInt = y.toInt → W K h cl sl pn L st) : W K h cl sl pc L (.int y :: .int x :: st) := by
  by_cases q : x = y
  · exact W.step (fun T locs X e t z => XS.icmpNo X.here O.1 rfl (hb O.2.1 hd) rfl (teq q).2 (by rw [← hn] at z; exact z)) (kn (Int32.toInt_inj.mpr q))
  · exact W.step (fun T locs X e t z => XS.icmpYes X.here O.1 rfl rfl (hb O.2.1 hd) rfl (feq q).2 ho ht z) (ky fun w => q (Int32.toInt_inj.mp w))
theorem w_if_ne (O : Ok K l Z a0 ts B ml rt own nm R n0 Q) {o : Int} {x : Int32} {pt pn : Nat} (hd : decode B pc = .ok (.ifCond .ne o, 3)) (hn : pc + 3 = pn) (ho : 0 ≤ (pc : Int) + o) (ht : ((pc : Int) + o).toNat = pt) (ky : ¬ x.toInt = 0 → W K h cl sl pt L st) (kn : x.toInt = 0 → W K h cl sl pn L st) : W K h cl sl pc L (.int x :: st) := by
  have e0 : (0 : Int32).toInt = 0 := by decide
  by_cases q : x = 0
  · exact W.step (fun T locs X e t z => XS.ifNo X.here O.1 rfl (hb O.2.1 hd) rfl ((if0 _ _).trans (teq q).2) (by rw [← hn] at z; exact z)) (kn (by rw [← e0]; exact (Int32.toInt_inj.mpr q)))
  · exact W.step (fun T locs X e t z => XS.ifYes X.here O.1 rfl rfl (hb O.2.1 hd) rfl ((if0 _ _).trans (feq q).2) ho ht z) (ky fun w => q (by rw [← e0] at w; exact (Int32.toInt_inj.mp w)))
theorem lcb_ne {x y : Int64} : (lcmpW x y).toInt = 0 ↔ x.toInt = y.toInt := by
  have e0 : (0 : Int32).toInt = 0 := by decide
  rw [← e0]
  exact Int32.toInt_inj.trans ((lw_eq x y).trans Int64.toInt_inj.symm)
theorem w_lcmp_ne (O : Ok K l Z a0 ts B ml rt own nm R n0 Q) {o : Int} {x y : Int64} {pi pt pn : Nat} (hd : decode B pc = .ok (.lcmp, 1)) (hi : pc + 1 = pi) (hd2 : decode B pi = .ok (.ifCond .ne o, 3)) (hn : pi + 3 = pn) (ho : 0 ≤ (pi : Int) + o) (ht : ((pi : Int) + o).toNat = pt) (ky : ¬ x.toInt = y.toInt → W K h cl sl pt L st) (kn : x.toInt = y.toInt → W K h cl sl pn L st) : W K h cl sl pc L (.long y :: .long x :: st) := by
  subst hi
  exact W.step (fun T locs X e t q => XS.lcmp X.here O.1 rfl (hb O.2.1 hd) rfl q) (w_if_ne O hd2 hn ho ht (fun q => ky fun w => q (lcb_ne.mpr w)) (fun q => kn (lcb_ne.mp q)))
theorem w_icmp_lt (O : Ok K l Z a0 ts B ml rt own nm R n0 Q) {o : Int} {x y : Int32} {pt pn : Nat} (hd : decode B pc = .ok (.if_icmp .lt o, 3)) (hn : pc + 3 = pn) (ho : 0 ≤ (pc : Int) + o) (ht : ((pc : Int) + o).toNat = pt) (ky : x.toInt < y.toInt → W K h cl sl pt L st) (kn : ¬ x.toInt < y.toInt → W K h cl sl pn L st) : W K h cl sl pc L (.int y :: .int x :: st) := by
  by_cases q : x < y
  · exact W.step (fun T locs X e t z => XS.icmpYes X.here O.1 rfl rfl (hb O.2.1 hd) rfl (tlt q).1 ho ht z) (ky (Int32.lt_iff_toInt_lt.mp q))
  · exact W.step (fun T locs X e t z => XS.icmpNo X.here O.1 rfl (hb O.2.1 hd) rfl (flt q).1 (by rw [← hn] at z; exact z)) (kn fun w => q (Int32.lt_iff_toInt_lt.mpr w))
theorem w_if_lt (O : Ok K l Z a0 ts B ml rt own nm R n0 Q) {o : Int} {x : Int32} {pt pn : Nat} (hd : decode B pc = .ok (.ifCond .lt o, 3)) (hn : pc + 3 = pn) (ho : 0 ≤ (pc : Int) + o) (ht : ((pc : Int) + o).toNat = pt) (ky : x.toInt < 0 → W K h cl sl pt L st) (kn : ¬ x.toInt < 0 → W K h cl sl pn L st) : W K h cl sl pc L (.int x :: st) := by
  have e0 : (0 : Int32).toInt = 0 := by decide
  by_cases q : x < 0
  · exact W.step (fun T locs X e t z => XS.ifYes X.here O.1 rfl rfl (hb O.2.1 hd) rfl ((if0 _ _).trans (tlt q).1) ho ht z) (ky (by rw [← e0]; exact (Int32.lt_iff_toInt_lt.mp q)))
  · exact W.step (fun T locs X e t z => XS.ifNo X.here O.1 rfl (hb O.2.1 hd) rfl ((if0 _ _).trans (flt q).1) (by rw [← hn] at z; exact z)) (kn fun w => q (by rw [← e0] at w; exact (Int32.lt_iff_toInt_lt.mpr w)))
theorem lcb_lt {x y : Int64} : (lcmpW x y).toInt < 0 ↔ x.toInt < y.toInt := by
  have e0 : (0 : Int32).toInt = 0 := by decide
  rw [← e0]
  exact (Int32.lt_iff_toInt_lt.symm).trans ((lw_lt x y).trans Int64.lt_iff_toInt_lt)
theorem w_lcmp_lt (O : Ok K l Z a0 ts B ml rt own nm R n0 Q) {o : Int} {x y : Int64} {pi pt pn : Nat} (hd : decode B pc = .ok (.lcmp, 1)) (hi : pc + 1 = pi) (hd2 : decode B pi = .ok (.ifCond .lt o, 3)) (hn : pi + 3 = pn) (ho : 0 ≤ (pi : Int) + o) (ht : ((pi : Int) + o).toNat = pt) (ky : x.toInt < y.toInt → W K h cl sl pt L st) (kn : ¬ x.toInt < y.toInt → W K h cl sl pn L st) : W K h cl sl pc L (.long y :: .long x :: st) := by
  subst hi
  exact W.step (fun T locs X e t q => XS.lcmp X.here O.1 rfl (hb O.2.1 hd) rfl q) (w_if_lt O hd2 hn ho ht (fun q => ky (lcb_lt.mp q)) (fun q => kn fun w => q (lcb_lt.mpr w)))
theorem w_icmp_ge (O : Ok K l Z a0 ts B ml rt own nm R n0 Q) {o : Int} {x y : Int32} {pt pn : Nat} (hd : decode B pc = .ok (.if_icmp .ge o, 3)) (hn : pc + 3 = pn) (ho : 0 ≤ (pc : Int) + o) (ht : ((pc : Int) + o).toNat = pt) (ky : ¬ x.toInt < y.toInt → W K h cl sl pt L st) (kn : x.toInt < y.toInt → W K h cl sl pn L st) : W K h cl sl pc L (.int y :: .int x :: st) := by
  by_cases q : x < y
  · exact W.step (fun T locs X e t z => XS.icmpNo X.here O.1 rfl (hb O.2.1 hd) rfl (tlt q).2.1 (by rw [← hn] at z; exact z)) (kn (Int32.lt_iff_toInt_lt.mp q))
  · exact W.step (fun T locs X e t z => XS.icmpYes X.here O.1 rfl rfl (hb O.2.1 hd) rfl (flt q).2.1 ho ht z) (ky fun w => q (Int32.lt_iff_toInt_lt.mpr w))
theorem w_if_ge (O : Ok K l Z a0 ts B ml rt own nm R n0 Q) {o : Int} {x : Int32} {pt pn : Nat} (hd : decode B pc = .ok (.ifCond .ge o, 3)) (hn : pc + 3 = pn) (ho : 0 ≤ (pc : Int) + o) (ht : ((pc : Int) + o).toNat = pt) (ky : ¬ x.toInt < 0 → W K h cl sl pt L st) (kn : x.toInt < 0 → W K h cl sl pn L st) : W K h cl sl pc L (.int x :: st) := by
  have e0 : (0 : Int32).toInt = 0 := by decide
  by_cases q : x < 0
  · exact W.step (fun T locs X e t z => XS.ifNo X.here O.1 rfl (hb O.2.1 hd) rfl ((if0 _ _).trans (tlt q).2.1) (by rw [← hn] at z; exact z)) (kn (by rw [← e0]; exact (Int32.lt_iff_toInt_lt.mp q)))
  · exact W.step (fun T locs X e t z => XS.ifYes X.here O.1 rfl rfl (hb O.2.1 hd) rfl ((if0 _ _).trans (flt q).2.1) ho ht z) (ky fun w => q (by rw [← e0] at w; exact (Int32.lt_iff_toInt_lt.mpr w)))
theorem lcb_ge {x y : Int64} : (lcmpW x y).toInt < 0 ↔ x.toInt < y.toInt := by
  have e0 : (0 : Int32).toInt = 0 := by decide
  rw [← e0]
  exact (Int32.lt_iff_toInt_lt.symm).trans ((lw_lt x y).trans Int64.lt_iff_toInt_lt)
theorem w_lcmp_ge (O : Ok K l Z a0 ts B ml rt own nm R n0 Q) {o : Int} {x y : Int64} {pi pt pn : Nat} (hd : decode B pc = .ok (.lcmp, 1)) (hi : pc + 1 = pi) (hd2 : decode B pi = .ok (.ifCond .ge o, 3)) (hn : pi + 3 = pn) (ho : 0 ≤ (pi : Int) + o) (ht : ((pi : Int) + o).toNat = pt) (ky : ¬ x.toInt < y.toInt → W K h cl sl pt L st) (kn : x.toInt < y.toInt → W K h cl sl pn L st) : W K h cl sl pc L (.long y :: .long x :: st) := by
  subst hi
  exact W.step (fun T locs X e t q => XS.lcmp X.here O.1 rfl (hb O.2.1 hd) rfl q) (w_if_ge O hd2 hn ho ht (fun q => ky fun w => q (lcb_ge.mpr w)) (fun q => kn (lcb_ge.mp q)))
theorem w_icmp_gt (O : Ok K l Z a0 ts B ml rt own nm R n0 Q) {o : Int} {x y : Int32} {pt pn : Nat} (hd : decode B pc = .ok (.if_icmp .gt o, 3)) (hn : pc + 3 = pn) (ho : 0 ≤ (pc : Int) + o) (ht : ((pc : Int) + o).toNat = pt) (ky : y.toInt < x.toInt → W K h cl sl pt L st) (kn : ¬ y.toInt < x.toInt → W K h cl sl pn L st) : W K h cl sl pc L (.int y :: .int x :: st) := by
  by_cases q : y < x
  · exact W.step (fun T locs X e t z => XS.icmpYes X.here O.1 rfl rfl (hb O.2.1 hd) rfl (tlt q).2.2.1 ho ht z) (ky (Int32.lt_iff_toInt_lt.mp q))
  · exact W.step (fun T locs X e t z => XS.icmpNo X.here O.1 rfl (hb O.2.1 hd) rfl (flt q).2.2.1 (by rw [← hn] at z; exact z)) (kn fun w => q (Int32.lt_iff_toInt_lt.mpr w))
theorem w_if_gt (O : Ok K l Z a0 ts B ml rt own nm R n0 Q) {o : Int} {x : Int32} {pt pn : Nat} (hd : decode B pc = .ok (.ifCond .gt o, 3)) (hn : pc + 3 = pn) (ho : 0 ≤ (pc : Int) + o) (ht : ((pc : Int) + o).toNat = pt) (ky : 0 < x.toInt → W K h cl sl pt L st) (kn : ¬ 0 < x.toInt → W K h cl sl pn L st) : W K h cl sl pc L (.int x :: st) := by
  have e0 : (0 : Int32).toInt = 0 := by decide
  by_cases q : 0 < x
  · exact W.step (fun T locs X e t z => XS.ifYes X.here O.1 rfl rfl (hb O.2.1 hd) rfl ((if0 _ _).trans (tlt q).2.2.1) ho ht z) (ky (by rw [← e0]; exact (Int32.lt_iff_toInt_lt.mp q)))
  · exact W.step (fun T locs X e t z => XS.ifNo X.here O.1 rfl (hb O.2.1 hd) rfl ((if0 _ _).trans (flt q).2.2.1) (by rw [← hn] at z; exact z)) (kn fun w => q (by rw [← e0] at w; exact (Int32.lt_iff_toInt_lt.mpr w)))
theorem lcb_gt {x y : Int64} : 0 < (lcmpW x y).toInt ↔ y.toInt < x.toInt := by
  have e0 : (0 : Int32).toInt = 0 := by decide
  rw [← e0]
  exact (Int32.lt_iff_toInt_lt.symm).trans ((lw_gt x y).trans Int64.lt_iff_toInt_lt)
theorem w_lcmp_gt (O : Ok K l Z a0 ts B ml rt own nm R n0 Q) {o : Int} {x y : Int64} {pi pt pn : Nat} (hd : decode B pc = .ok (.lcmp, 1)) (hi : pc + 1 = pi) (hd2 : decode B pi = .ok (.ifCond .gt o, 3)) (hn : pi + 3 = pn) (ho : 0 ≤ (pi : Int) + o) (ht : ((pi : Int) + o).toNat = pt) (ky : y.toInt < x.toInt → W K h cl sl pt L st) (kn : ¬ y.toInt < x.toInt → W K h cl sl pn L st) : W K h cl sl pc L (.long y :: .long x :: st) := by
  subst hi
  exact W.step (fun T locs X e t q => XS.lcmp X.here O.1 rfl (hb O.2.1 hd) rfl q) (w_if_gt O hd2 hn ho ht (fun q => ky (lcb_gt.mp q)) (fun q => kn fun w => q (lcb_gt.mpr w)))
theorem w_icmp_le (O : Ok K l Z a0 ts B ml rt own nm R n0 Q) {o : Int} {x y : Int32} {pt pn : Nat} (hd : decode B pc = .ok (.if_icmp .le o, 3)) (hn : pc + 3 = pn) (ho : 0 ≤ (pc : Int) + o) (ht : ((pc : Int) + o).toNat = pt) (ky : ¬ y.toInt < x.toInt → W K h cl sl pt L st) (kn : y.toInt < x.toInt → W K h cl sl pn L st) : W K h cl sl pc L (.int y :: .int x :: st) := by
  by_cases q : y < x
  · exact W.step (fun T locs X e t z => XS.icmpNo X.here O.1 rfl (hb O.2.1 hd) rfl (tlt q).2.2.2 (by rw [← hn] at z; exact z)) (kn (Int32.lt_iff_toInt_lt.mp q))
  · exact W.step (fun T locs X e t z => XS.icmpYes X.here O.1 rfl rfl (hb O.2.1 hd) rfl (flt q).2.2.2 ho ht z) (ky fun w => q (Int32.lt_iff_toInt_lt.mpr w))
theorem w_if_le (O : Ok K l Z a0 ts B ml rt own nm R n0 Q) {o : Int} {x : Int32} {pt pn : Nat} (hd : decode B pc = .ok (.ifCond .le o, 3)) (hn : pc + 3 = pn) (ho : 0 ≤ (pc : Int) + o) (ht : ((pc : Int) + o).toNat = pt) (ky : ¬ 0 < x.toInt → W K h cl sl pt L st) (kn : 0 < x.toInt → W K h cl sl pn L st) : W K h cl sl pc L (.int x :: st) := by
  have e0 : (0 : Int32).toInt = 0 := by decide
  by_cases q : 0 < x
  · exact W.step (fun T locs X e t z => XS.ifNo X.here O.1 rfl (hb O.2.1 hd) rfl ((if0 _ _).trans (tlt q).2.2.2) (by rw [← hn] at z; exact z)) (kn (by rw [← e0]; exact (Int32.lt_iff_toInt_lt.mp q)))
  · exact W.step (fun T locs X e t z => XS.ifYes X.here O.1 rfl rfl (hb O.2.1 hd) rfl ((if0 _ _).trans (flt q).2.2.2) ho ht z) (ky fun w => q (by rw [← e0] at w; exact (Int32.lt_iff_toInt_lt.mpr w)))
theorem lcb_le {x y : Int64} : 0 < (lcmpW x y).toInt ↔ y.toInt < x.toInt := by
  have e0 : (0 : Int32).toInt = 0 := by decide
  rw [← e0]
  exact (Int32.lt_iff_toInt_lt.symm).trans ((lw_gt x y).trans Int64.lt_iff_toInt_lt)
theorem w_lcmp_le (O : Ok K l Z a0 ts B ml rt own nm R n0 Q) {o : Int} {x y : Int64} {pi pt pn : Nat} (hd : decode B pc = .ok (.lcmp, 1)) (hi : pc + 1 = pi) (hd2 : decode B pi = .ok (.ifCond .le o, 3)) (hn : pi + 3 = pn) (ho : 0 ≤ (pi : Int) + o) (ht : ((pi : Int) + o).toNat = pt) (ky : ¬ y.toInt < x.toInt → W K h cl sl pt L st) (kn : y.toInt < x.toInt → W K h cl sl pn L st) : W K h cl sl pc L (.long y :: .long x :: st) := by
  subst hi
  exact W.step (fun T locs X e t q => XS.lcmp X.here O.1 rfl (hb O.2.1 hd) rfl q) (w_if_le O hd2 hn ho ht (fun q => ky fun w => q (lcb_le.mpr w)) (fun q => kn (lcb_le.mp q)))
theorem w_ifnullY (O : Ok K l Z a0 ts B ml rt own nm R n0 Q) {o : Int} (hd : decode B pc = .ok (.ifnull o, 3)) (ho : 0 ≤ (pc : Int) + o) (ht : ((pc : Int) + o).toNat = pc') (k : W K h cl sl pc' L st) : W K h cl sl pc L (.null :: st) := W.step (fun T locs X e t q => XS.ifnullYes X.here O.1 rfl rfl (hb O.2.1 hd) rfl ho ht q) k
theorem w_ifnullN (O : Ok K l Z a0 ts B ml rt own nm R n0 Q) {o : Int} {b : Addr} (hd : decode B pc = .ok (.ifnull o, 3)) (hp : pc + 3 = pc') (k : W K h cl sl pc' L st) : W K h cl sl pc L (.ref b :: st) := by
  subst hp; exact W.step (fun T locs X e t q => XS.ifnullNo X.here O.1 rfl (hb O.2.1 hd) rfl q) k
theorem w_ifnonnullY (O : Ok K l Z a0 ts B ml rt own nm R n0 Q) {o : Int} {b : Addr} (hd : decode B pc = .ok (.ifnonnull o, 3)) (ho : 0 ≤ (pc : Int) + o) (ht : ((pc : Int) + o).toNat = pc') (k : W K h cl sl pc' L st) : W K h cl sl pc L (.ref b :: st) := W.step (fun T locs X e t q => XS.ifnonnullYes X.here O.1 rfl rfl (hb O.2.1 hd) rfl ho ht q) k
theorem w_ifnonnullN (O : Ok K l Z a0 ts B ml rt own nm R n0 Q) {o : Int} (hd : decode B pc = .ok (.ifnonnull o, 3)) (hp : pc + 3 = pc') (k : W K h cl sl pc' L st) : W K h cl sl pc L (.null :: st) := by
  subst hp; exact W.step (fun T locs X e t q => XS.ifnonnullNo X.here O.1 rfl (hb O.2.1 hd) rfl q) k
theorem w_acmp_eq (O : Ok K l Z a0 ts B ml rt own nm R n0 Q) {o : Int} {x y : Value} {pt pn : Nat} (hd : decode B pc = .ok (.if_acmp .eq o, 3)) (hx' : x.isRef = true) (hy' : y.isRef = true) (hn : pc + 3 = pn) (ho : 0 ≤ (pc : Int) + o) (ht : ((pc : Int) + o).toNat = pt) (ky : x = y → W K h cl sl pt L st) (kn : ¬ x = y → W K h cl sl pn L st) : W K h cl sl pc L (y :: x :: st) := by
  by_cases q : x = y
  · exact W.step (fun T locs X e t z => Jvm.RoadKit.acmp (g := mkF K.2.1.2.1 pc L (y :: x :: st)) X O.1 rfl hx' hy' (pc0 := pc) (pc' := pt) (same := true) rfl (hb O.2.1 hd) rfl (decide_eq_true q) ho (by simp [acV, ht, hn]) z) (ky q)
  · exact W.step (fun T locs X e t z => Jvm.RoadKit.acmp (g := mkF K.2.1.2.1 pc L (y :: x :: st)) X O.1 rfl hx' hy' (pc0 := pc) (pc' := pn) (same := false) rfl (hb O.2.1 hd) rfl (decide_eq_false q) ho (by simp [acV, ht, hn]) z) (kn q)
theorem w_acmp_ne (O : Ok K l Z a0 ts B ml rt own nm R n0 Q) {o : Int} {x y : Value} {pt pn : Nat} (hd : decode B pc = .ok (.if_acmp .ne o, 3)) (hx' : x.isRef = true) (hy' : y.isRef = true) (hn : pc + 3 = pn) (ho : 0 ≤ (pc : Int) + o) (ht : ((pc : Int) + o).toNat = pt) (ky : ¬ x = y → W K h cl sl pt L st) (kn : x = y → W K h cl sl pn L st) : W K h cl sl pc L (y :: x :: st) := by
  by_cases q : x = y
  · exact W.step (fun T locs X e t z => Jvm.RoadKit.acmp (g := mkF K.2.1.2.1 pc L (y :: x :: st)) X O.1 rfl hx' hy' (pc0 := pc) (pc' := pn) (same := true) rfl (hb O.2.1 hd) rfl (decide_eq_true q) ho (by simp [acV, ht, hn]) z) (kn q)
  · exact W.step (fun T locs X e t z => Jvm.RoadKit.acmp (g := mkF K.2.1.2.1 pc L (y :: x :: st)) X O.1 rfl hx' hy' (pc0 := pc) (pc' := pt) (same := false) rfl (hb O.2.1 hd) rfl (decide_eq_false q) ho (by simp [acV, ht, hn]) z) (ky q)
theorem w_getf (O : Ok K l Z a0 ts B ml rt own nm R n0 Q) {i : Nat} {C f d : String} {a : Addr} {v : Value} (hd : decode B pc = .ok (.getfield i, 3)) (hp : pc + 3 = pc') (w : Jvm.Cond.fieldLink own i C f d ∈ ts) (F : Fld Z h a C f d v) (k : W K h cl sl pc' L (v :: st)) : W K h cl sl pc L (.ref a :: st) := by
  subst hp
  exact W.stepT (fun T locs X e => getF X O.1 O.2.2.2.2.2.2.2.1 O.2.2.2.1 (host := "") (Or.inl (O.2.2.2.2.2.2.2.2.1 _ w)) Via.refl e F (g := mkF K.2.1.2.1 pc L (.ref a :: st)) rfl rfl (hb O.2.1 hd)) k
theorem w_gets (O : Ok K l Z a0 ts B ml rt own nm R n0 Q) {i : Nat} {C f d : String} {v : Value} (hd : decode B pc = .ok (.getstatic i, 3)) (hp : pc + 3 = pc') (w : Jvm.Cond.fieldLink own i C f d ∈ ts) (F : Sta Z h C f d v) (k : W K h cl sl pc' L (v :: st)) : W K h cl sl pc L st := by
  subst hp
  exact W.stepT (fun T locs X e => getS2 X O.1 O.2.2.2.2.2.2.2.1 O.2.2.2.1 (host := "") (Or.inl (O.2.2.2.2.2.2.2.2.1 _ w)) Via.refl e F (g := mkF K.2.1.2.1 pc L st) rfl (hb O.2.1 hd)) k
theorem w_putf (O : Ok K l Z a0 ts B ml rt own nm R n0 Q) {i kk : Nat} {C f d : String} {a : Addr} {v old : Value} {ty : FieldType} (hd : decode B pc = .ok (.putfield i, 3)) (hp : pc + 3 = pc') (w : Jvm.Cond.fieldLink own i C f d ∈ ts) (wi : Jvm.Cond.instantiable C kk ∈ ts) (Ly : Jvm.Cond.lays C C f d ∈ ts ∨ (Jvm.Cond.laysFinal C C f d ∈ ts ∧ own = C ∧ nm = "<init>")) (F : Fld Z h a C f d old) (E : Exa Z h a C) (ha : n0 ≤ a) (hty : parseFieldDescriptor d = some ty) (hn : narrow ty v = v) (hf : fits ty v = true)
    (k : ∀ h', Wr h h' a (Jvm.RoadKit.slotOf Z C f d) v → W K h' cl sl pc' L st) : W K h cl sl pc L (v :: .ref a :: st) := by
  subst hp
  have hw := O.2.2.2.2.2.2.2.2.1
  exact W.stepW (fun T locs X e => putF X O.1 O.2.2.2.2.2.2.2.1 O.2.2.2.1 (host := "") (Or.inl (hw _ w)) Via.refl e F E (Ly.imp (fun q => hw _ q) fun q => ⟨hw _ q.1, q.2.1, O.2.2.2.2.1.trans q.2.2⟩) (hw _ wi) hty hn hf (g := mkF K.2.1.2.1 pc L (v :: .ref a :: st)) rfl rfl (hb O.2.1 hd)) (by rw [O.2.2.2.2.2.2.2.2.2.2.2.2.1]; exact ha) k
theorem w_new (O : Ok K l Z a0 ts B ml rt own nm R n0 Q) {i n cl' sl' : Nat} {C : String} (hd : decode B pc = .ok (.new i, 3)) (hp : pc + 3 = pc') (w1 : Jvm.Cond.classLink own i C ∈ ts) (w2 : Jvm.Cond.instantiable C n ∈ ts) (w3 : Jvm.Cond.initialized C ∈ ts) (hc : cl + 1 = cl') (hs : sl + n = sl') (hc' : cl' ≤ R.cells) (hs' : sl' ≤ R.slots)
    (k : ∀ h' b, b = h.size → n0 ≤ b → Ext h h' → Exa Z h' b C → (∀ {Ow nf d : String} {ty : FieldType}, Laid Z a0 C Ow nf d → parseFieldDescriptor d = some ty → Fld Z h' b Ow nf d (defaultValue ty)) → W K h' cl' sl' pc' L (.ref b :: st)) : W K h cl sl pc L st := by
  obtain ⟨⟨p, l', e', R'⟩, ⟨s, m, args, below⟩, ⟨meth, c⟩, Q', n0'⟩ := K
  obtain ⟨hx, hby, hml, hown, hnm, hrt, hlk, hZ, hw, hn0, hl', hR', hn', hQ'⟩ := O
  dsimp only at hx hby hml hown hnm hrt hlk hZ hn0 hl' hR' hn' hQ'
  subst hl' hR' hn' hQ'
  subst hp hc hs
  intro T locs X eT N
  obtain ⟨T2, h2, X2, e2, E2, A2, D2, -, st2⟩ := newO X hx hZ hown (hw _ w1) (hw _ w2) (hw _ w3) eT (g := mkF m pc L st) rfl (hb hby hd) hc' hs'
  obtain ⟨s2, o, h1, r⟩ := k h2 h.size rfl (Nat.le_trans hn0 (by rw [← eT]; exact X.same.2.1)) E2 A2 D2 T2 _ X2 e2 N
  exact ⟨s2, o, st2 _ h1, r⟩
theorem w_objinit (O : Ok K l Z a0 ts B ml rt own nm R n0 Q) {i wt : Nat} {a : Addr} (hd : decode B pc = .ok (.invokespecial i, 3)) (hp : pc + 3 = pc') (w1 : Jvm.Cond.methodLink own i Lib.objectInit ∈ ts) (w2 : Jvm.Cond.instanceMethod Lib.objectInit ∈ ts) (w3 : Jvm.Cond.code Lib.objectInit ⟨#[0xb1]⟩ 1 none ∈ ts) (hsz : L.size = ml) (hwt : (st.map fun v => v.category).sum = wt) (hf : 1 ≤ R.frames) (hl : wt + 12 ≤ R.locals) (k : W K h cl sl pc' L st) : W K h cl sl pc L (.ref a :: st) := by
  obtain ⟨⟨p, l', e', R'⟩, ⟨s, m, args, below⟩, ⟨meth, c⟩, Q', n0'⟩ := K
  obtain ⟨hx, hby, hml, hown, hnm, hrt, hlk, hZ, hw, hn0, hl', hR', hn', hQ'⟩ := O
  dsimp only at hx hby hml hown hnm hrt hlk hZ hn0 hl' hR' hn' hQ'
  subst hl' hR' hn' hQ'
  subst hp hml
  exact W.stepT (fun T locs X e => initO X hx hZ hown (hw _ w1) (hw _ w2) (hw _ w3) e (g := mkF m pc L (.ref a :: st)) rfl hsz rfl (hb hby hd) hf (W := wt) (by show 2 * 0 + _ ≤ _; omega) hl) k
/-- an array of n places, the i-th holds f i -/
def Afn (Z : State) (h : Heap) (a : Addr) (ty : FieldType) (n : Nat) (f : Nat → Value) : Prop := ∃ c : Cell, Arr Z h a c ty ∧ c.slots.size = n ∧ n < 2147483648 ∧ ∀ i, i < n → c.slots[i]? = some (f i)
def upd (f : Nat → Value) (i : Nat) (v : Value) : Nat → Value := fun j => if j = i then v else f j
theorem Afn.lt {a : Addr} {ty : FieldType} {n : Nat} {f : Nat → Value} (A : Afn Z h a ty n f) : a < h.size := by obtain ⟨c, A, -⟩ := A; exact A.lt
theorem Afn.bound {a : Addr} {ty : FieldType} {n : Nat} {f : Nat → Value} (A : Afn Z h a ty n f) : n < 2147483648 := by obtain ⟨c, -, -, q, -⟩ := A; exact q
theorem upd_same (f : Nat → Value) (i : Nat) (v : Value) : upd f i v i = v := if_pos rfl
theorem upd_ne (f : Nat → Value) {i j : Nat} (v : Value) (q : ¬ j = i) : upd f i v j = f j := if_neg q
theorem Afn.ext {h' : Heap} {a : Addr} {ty : FieldType} {n : Nat} {f : Nat → Value} (A : Afn Z h a ty n f) (E : Ext h h') : Afn Z h' a ty n f := by obtain ⟨c, A, r⟩ := A; exact ⟨c, A.ext E, r⟩
theorem Afn.other {h' : Heap} {a b : Addr} {i : Nat} {v : Value} {ty : FieldType} {n : Nat} {f : Nat → Value} (A : Afn Z h b ty n f) (Wq : Wr h h' a i v) (q : b ≠ a) : Afn Z h' b ty n f := by obtain ⟨c, A, r⟩ := A; exact ⟨c, A.other Wq q, r⟩
theorem Afn.keep {h' : Heap} {a : Addr} {ws : List Addr} {ty : FieldType} {n : Nat} {f : Nat → Value} (A : Afn Z h a ty n f) (Kp : Keep h h' ws) (q : a ∉ ws) : Afn Z h' a ty n f := by obtain ⟨c, A, r⟩ := A; exact ⟨c, ⟨Kp.2.1 a c A.1 q, A.2⟩, r⟩
theorem Afn.congr {a : Addr} {ty : FieldType} {n : Nat} {f g : Nat → Value} (A : Afn Z h a ty n f) (q : ∀ i, i < n → f i = g i) : Afn Z h a ty n g := by obtain ⟨c, A, h1, h2, h3⟩ := A; exact ⟨c, A, h1, h2, fun i hi => by rw [← q i hi]; exact h3 i hi⟩
theorem Afn.set {h' : Heap} {a : Addr} {i : Nat} {v : Value} {ty : FieldType} {n : Nat} {f : Nat → Value} (A : Afn Z h a ty n f) (Wq : Wr h h' a i v) : Afn Z h' a ty n (upd f i v) := by
  obtain ⟨c, A, h1, h2, h3⟩ := A
  refine ⟨_, A.same Wq, by simp [Cell.setSlot, h1], h2, fun j hj => ?_⟩
  by_cases q : j = i
  · subst q
    simp [Cell.setSlot, upd, h1, hj]
  · simp only [upd, if_neg q]
    show (c.slots.setIfInBounds i v)[j]? = _
    rw [Array.getElem?_setIfInBounds_ne (fun z => q z.symm)]; exact h3 j hj
theorem tnc {j : Int32} {i : Nat} (hj : j.toInt = (i : Int)) : j.toNatClampNeg = i ∧ ¬ j < 0 := by
  have e0 : (0 : Int32).toInt = 0 := by decide
  have q : ¬ j < 0 := by rw [Int32.lt_iff_toInt_lt, e0]; omega
  have := nat_of q
  exact ⟨by omega, q⟩
theorem idxOk {c : Cell} {n : Nat} {j : Int32} {i : Nat} (hs : c.slots.size = n) (hj : j.toInt = (i : Int)) (hi : i < n) : ¬ (j < 0 ∨ c.slots.size ≤ j.toNatClampNeg) := by
  obtain ⟨q1, q2⟩ := tnc hj
  rintro (z | z)
  · exact q2 z
  · omega

theorem w_iaload (O : Ok K l Z a0 ts B ml rt own nm R n0 Q) {a : Addr} {n i : Nat} {f : Nat → Value} {j : Int32} {x : Int32} (hd : decode B pc = .ok (.iaload, 1)) (hp : pc + 1 = pc') (A : Afn Z h a .int n f) (hj : j.toInt = (i : Int)) (hi : i < n) (hv : f i = .int x) (k : W K h cl sl pc' L (.int x :: st)) : W K h cl sl pc L (.int j :: .ref a :: st) := by
  subst hp
  obtain ⟨c, A, h1, h2, h3⟩ := A
  refine W.step (fun T locs X e t q => X.iaload O.1 (j := j) (v := .int x) (by rw [e]; exact A.1) (State.isArrayOf_alike O.2.2.2.2.2.2.2.1.alike A.2.1) A.2.2 (idxOk h1 hj hi) (by rw [(tnc hj).1, h3 i hi, hv]) (g := mkF K.2.1.2.1 pc L (.int j :: .ref a :: st)) rfl rfl (hb O.2.1 hd) _ q) k
theorem w_laload (O : Ok K l Z a0 ts B ml rt own nm R n0 Q) {a : Addr} {n i : Nat} {f : Nat → Value} {j : Int32} {x : Int64} (hd : decode B pc = .ok (.laload, 1)) (hp : pc + 1 = pc') (A : Afn Z h a .long n f) (hj : j.toInt = (i : Int)) (hi : i < n) (hv : f i = .long x) (k : W K h cl sl pc' L (.long x :: st)) : W K h cl sl pc L (.int j :: .ref a :: st) := by
  subst hp
  obtain ⟨c, A, h1, h2, h3⟩ := A
  refine W.step (fun T locs X e t q => X.laload O.1 (j := j) (v := .long x) (by rw [e]; exact A.1) (State.isArrayOf_alike O.2.2.2.2.2.2.2.1.alike A.2.1) A.2.2 (idxOk h1 hj hi) (by rw [(tnc hj).1, h3 i hi, hv]) (g := mkF K.2.1.2.1 pc L (.int j :: .ref a :: st)) rfl rfl (hb O.2.1 hd) _ q) k
theorem w_baload (O : Ok K l Z a0 ts B ml rt own nm R n0 Q) {a : Addr} {n i : Nat} {f : Nat → Value} {j : Int32} {x : Int32} (hd : decode B pc = .ok (.baload, 1)) (hp : pc + 1 = pc') (A : Afn Z h a .byte n f) (hj : j.toInt = (i : Int)) (hi : i < n) (hv : f i = .int x) (k : W K h cl sl pc' L (.int x :: st)) : W K h cl sl pc L (.int j :: .ref a :: st) := by
  subst hp
  obtain ⟨c, A, h1, h2, h3⟩ := A
  refine W.step (fun T locs X e t q => X.baloadBytes O.1 (j := j) (v := .int x) (by rw [e]; exact A.1) (State.isArrayOf_alike O.2.2.2.2.2.2.2.1.alike A.2.1) A.2.2 (idxOk h1 hj hi) (by rw [(tnc hj).1, h3 i hi, hv]) (g := mkF K.2.1.2.1 pc L (.int j :: .ref a :: st)) rfl rfl (hb O.2.1 hd) _ q) k
theorem w_caload (O : Ok K l Z a0 ts B ml rt own nm R n0 Q) {a : Addr} {n i : Nat} {f : Nat → Value} {j : Int32} {x : Int32} (hd : decode B pc = .ok (.caload, 1)) (hp : pc + 1 = pc') (A : Afn Z h a .char n f) (hj : j.toInt = (i : Int)) (hi : i < n) (hv : f i = .int x) (k : W K h cl sl pc' L (.int x :: st)) : W K h cl sl pc L (.int j :: .ref a :: st) := by
  subst hp
  obtain ⟨c, A, h1, h2, h3⟩ := A
  refine W.step (fun T locs X e t q => X.caload O.1 (j := j) (v := .int x) (by rw [e]; exact A.1) (State.isArrayOf_alike O.2.2.2.2.2.2.2.1.alike A.2.1) A.2.2 (idxOk h1 hj hi) (by rw [(tnc hj).1, h3 i hi, hv]) (g := mkF K.2.1.2.1 pc L (.int j :: .ref a :: st)) rfl rfl (hb O.2.1 hd) _ q) k
theorem w_aaload (O : Ok K l Z a0 ts B ml rt own nm R n0 Q) {a : Addr} {n i : Nat} {f : Nat → Value} {j : Int32} {x : Value} {ty : FieldType} (hd : decode B pc = .ok (.aaload, 1)) (hp : pc + 1 = pc') (A : Afn Z h a ty n f) (hty : ty.isReference = true) (hj : j.toInt = (i : Int)) (hi : i < n) (hv : f i = x) (k : W K h cl sl pc' L (x :: st)) : W K h cl sl pc L (.int j :: .ref a :: st) := by
  subst hp
  obtain ⟨c, A, h1, h2, h3⟩ := A
  refine W.step (fun T locs X e t q => X.aaload O.1 (j := j) (v := x) (by rw [e]; exact A.1) (State.isArrayOf_alike O.2.2.2.2.2.2.2.1.alike A.2.1) hty A.2.2 (idxOk h1 hj hi) (by rw [(tnc hj).1, h3 i hi, hv]) (g := mkF K.2.1.2.1 pc L (.int j :: .ref a :: st)) rfl rfl (hb O.2.1 hd) _ q) k
theorem w_iastore (O : Ok K l Z a0 ts B ml rt own nm R n0 Q) {a : Addr} {n i : Nat} {f : Nat → Value} {j : Int32} {x : Int32} (hd : decode B pc = .ok (.iastore, 1)) (hp : pc + 1 = pc') (A : Afn Z h a .int n f) (hj : j.toInt = (i : Int)) (hi : i < n) (ha : n0 ≤ a) (k : ∀ h', Wr h h' a i (.int x) → W K h' cl sl pc' L st) : W K h cl sl pc L (.int x :: .int j :: .ref a :: st) := by
  subst hp
  obtain ⟨c, A, h1, h2, h3⟩ := A
  rw [← (tnc hj).1] at k
  exact W.stepW (fun T locs X e => stI X O.1 O.2.2.2.2.2.2.2.1 e A (j := j) (idxOk h1 hj hi) (g := mkF K.2.1.2.1 pc L (.int x :: .int j :: .ref a :: st)) rfl rfl (hb O.2.1 hd)) (by rw [O.2.2.2.2.2.2.2.2.2.2.2.2.1]; exact ha) k
theorem w_lastore (O : Ok K l Z a0 ts B ml rt own nm R n0 Q) {a : Addr} {n i : Nat} {f : Nat → Value} {j : Int32} {x : Int64} (hd : decode B pc = .ok (.lastore, 1)) (hp : pc + 1 = pc') (A : Afn Z h a .long n f) (hj : j.toInt = (i : Int)) (hi : i < n) (ha : n0 ≤ a) (k : ∀ h', Wr h h' a i (.long x) → W K h' cl sl pc' L st) : W K h cl sl pc L (.long x :: .int j :: .ref a :: st) := by
  subst hp
  obtain ⟨c, A, h1, h2, h3⟩ := A
  rw [← (tnc hj).1] at k
  exact W.stepW (fun T locs X e => stJ X O.1 O.2.2.2.2.2.2.2.1 e A (j := j) (idxOk h1 hj hi) (g := mkF K.2.1.2.1 pc L (.long x :: .int j :: .ref a :: st)) rfl rfl (hb O.2.1 hd)) (by rw [O.2.2.2.2.2.2.2.2.2.2.2.2.1]; exact ha) k
theorem w_bastore (O : Ok K l Z a0 ts B ml rt own nm R n0 Q) {a : Addr} {n i : Nat} {f : Nat → Value} {j : Int32} {x : Int32} (hd : decode B pc = .ok (.bastore, 1)) (hp : pc + 1 = pc') (A : Afn Z h a .byte n f) (hj : j.toInt = (i : Int)) (hi : i < n) (ha : n0 ≤ a) (k : ∀ h', Wr h h' a i (.int (nar .byte x)) → W K h' cl sl pc' L st) : W K h cl sl pc L (.int x :: .int j :: .ref a :: st) := by
  subst hp
  obtain ⟨c, A, h1, h2, h3⟩ := A
  rw [← (tnc hj).1] at k
  exact W.stepW (fun T locs X e => stB X O.1 O.2.2.2.2.2.2.2.1 e A (j := j) (idxOk h1 hj hi) (g := mkF K.2.1.2.1 pc L (.int x :: .int j :: .ref a :: st)) rfl rfl (hb O.2.1 hd)) (by rw [O.2.2.2.2.2.2.2.2.2.2.2.2.1]; exact ha) k
theorem w_castore (O : Ok K l Z a0 ts B ml rt own nm R n0 Q) {a : Addr} {n i : Nat} {f : Nat → Value} {j : Int32} {x : Int32} (hd : decode B pc = .ok (.castore, 1)) (hp : pc + 1 = pc') (A : Afn Z h a .char n f) (hj : j.toInt = (i : Int)) (hi : i < n) (ha : n0 ≤ a) (k : ∀ h', Wr h h' a i (.int (nar .char x)) → W K h' cl sl pc' L st) : W K h cl sl pc L (.int x :: .int j :: .ref a :: st) := by
  subst hp
  obtain ⟨c, A, h1, h2, h3⟩ := A
  rw [← (tnc hj).1] at k
  exact W.stepW (fun T locs X e => stC X O.1 O.2.2.2.2.2.2.2.1 e A (j := j) (idxOk h1 hj hi) (g := mkF K.2.1.2.1 pc L (.int x :: .int j :: .ref a :: st)) rfl rfl (hb O.2.1 hd)) (by rw [O.2.2.2.2.2.2.2.2.2.2.2.2.1]; exact ha) k
theorem w_alen (O : Ok K l Z a0 ts B ml rt own nm R n0 Q) {a : Addr} {n : Nat} {f : Nat → Value} {z : Int32} {ty : FieldType} (hd : decode B pc = .ok (.arraylength, 1)) (hp : pc + 1 = pc') (A : Afn Z h a ty n f) (hz : z.toInt = (n : Int)) (k : W K h cl sl pc' L (.int z :: st)) : W K h cl sl pc L (.ref a :: st) := by
  subst hp
  obtain ⟨c, A, h1, h2, h3⟩ := A
  have ez : c.slots.size.toInt32 = z := by
    have := (back32 (tnc hz).2).1
    rw [(tnc hz).1, ← h1] at this; exact this
  refine W.step (fun T locs X e t q => X.arraylength O.1 (by rw [e]; exact A.1) (State.isArrayOf_alike O.2.2.2.2.2.2.2.1.alike A.2.1) (g := mkF K.2.1.2.1 pc L (.ref a :: st)) rfl rfl (hb O.2.1 hd) _ (by rw [ez]; exact q)) k
theorem w_newarr (O : Ok K l Z a0 ts B ml rt own nm R n0 Q) {aty : ArrayType} {ty : FieldType} {dv : Value} {z : Int32} {n cap cl' sl' : Nat} (hd : decode B pc = .ok (.newarray aty, 2)) (hp : pc + 2 = pc') (hty : newarray.typeOf aty = ty) (hdv : defaultValue ty = dv) (w : Jvm.Cond.arrayClass ty ∈ ts) (hz : z.toInt = (n : Int)) (hcap : n ≤ cap) (hb8 : cap * 8 ≤ 536870912) (hc : cl + 1 = cl') (hs : sl + cap = sl') (hc' : cl' ≤ R.cells) (hs' : sl' ≤ R.slots)
    (k : ∀ h' b, b = h.size → n0 ≤ b → Ext h h' → Afn Z h' b ty n (fun _ => dv) → W K h' cl' sl' pc' L (.ref b :: st)) : W K h cl sl pc L (.int z :: st) := by
  obtain ⟨⟨p, l', e', R'⟩, ⟨s, m, args, below⟩, ⟨meth, c⟩, Q', n0'⟩ := K
  obtain ⟨hx, hby, hml, hown, hnm, hrt, hlk, hZ, hw, hn0, hl', hR', hn', hQ'⟩ := O
  dsimp only at hx hby hml hown hnm hrt hlk hZ hn0 hl' hR' hn' hQ'
  subst hl' hR' hn' hQ'
  subst hp hc hs hty hdv
  intro T locs X eT N
  obtain ⟨T2, h2, kA, X2, e2, E2, A2, st2⟩ := newP X hx hZ (hw _ w) eT (g := mkF m pc L (.int z :: st)) rfl (hb hby hd) rfl (tnc hz).2 (cap := cap) (by rw [(tnc hz).1]; exact hcap) hb8 hc' hs'
  have hsz : (newA kA (newarray.typeOf aty) z).slots.size = n := by rw [sz_new, (tnc hz).1]
  have hr := (rng32 z).2
  obtain ⟨s2, o, h1, r⟩ := k h2 h.size rfl (Nat.le_trans hn0 (by rw [← eT]; exact X.same.2.1)) E2 ⟨_, A2, hsz, by omega, fun i hi => by show (Array.replicate z.toNatClampNeg (defaultValue (newarray.typeOf aty)))[i]? = _; rw [Array.getElem?_replicate, if_pos (by rw [(tnc hz).1]; exact hi)]⟩ T2 _ X2 e2 N
  exact ⟨s2, o, st2 _ h1, r⟩
theorem w_newarrE (O : Ok K l Z a0 ts B ml rt own nm R n0 Q) {aty : ArrayType} {ty : FieldType} {ad : String} {dv : Value} {z : Int32} {n cap cl' sl' : Nat} (hd : decode B pc = .ok (.newarray aty, 2)) (hp : pc + 2 = pc') (hty : newarray.typeOf aty = ty) (hdv : defaultValue ty = dv) (had : "[" ++ (newarray.typeOf aty).toString = ad) (w : Jvm.Cond.arrayClass ty ∈ ts) (hz : z.toInt = (n : Int)) (hcap : n ≤ cap) (hb8 : cap * 8 ≤ 536870912) (hc : cl + 1 = cl') (hs : sl + cap = sl') (hc' : cl' ≤ R.cells) (hs' : sl' ≤ R.slots)
    (k : ∀ h' b, b = h.size → n0 ≤ b → Ext h h' → Afn Z h' b ty n (fun _ => dv) → Exa Z h' b ad → W K h' cl' sl' pc' L (.ref b :: st)) : W K h cl sl pc L (.int z :: st) := by
  obtain ⟨⟨p, l', e', R'⟩, ⟨s, m, args, below⟩, ⟨meth, c⟩, Q', n0'⟩ := K
  obtain ⟨hx, hby, hml, hown, hnm, hrt, hlk, hZ, hw, hn0, hl', hR', hn', hQ'⟩ := O
  dsimp only at hx hby hml hown hnm hrt hlk hZ hn0 hl' hR' hn' hQ'
  subst hl' hR' hn' hQ'
  subst hp hc hs hty hdv
  intro T locs X eT N
  obtain ⟨T2, h2, kA, X2, e2, E2, A2, Ex2, st2⟩ := newPE X hx hZ (hw _ w) eT (g := mkF m pc L (.int z :: st)) rfl (hb hby hd) rfl (tnc hz).2 (cap := cap) (by rw [(tnc hz).1]; exact hcap) hb8 hc' hs' had
  have hsz : (newA kA (newarray.typeOf aty) z).slots.size = n := by rw [sz_new, (tnc hz).1]
  have hr := (rng32 z).2
  obtain ⟨s2, o, h1, r⟩ := k h2 h.size rfl (Nat.le_trans hn0 (by rw [← eT]; exact X.same.2.1)) E2 ⟨_, A2, hsz, by omega, fun i hi => by show (Array.replicate z.toNatClampNeg (defaultValue (newarray.typeOf aty)))[i]? = _; rw [Array.getElem?_replicate, if_pos (by rw [(tnc hz).1]; exact hi)]⟩ Ex2 T2 _ X2 e2 N
  exact ⟨s2, o, st2 _ h1, r⟩
theorem w_clone (O : Ok K l Z a0 ts B ml rt own nm R n0 Q) {i wt n cap cl' sl' : Nat} {ad : String} {a : Addr} {ty : FieldType} {f : Nat → Value} (hd : decode B pc = .ok (.invokevirtual i, 3)) (hp : pc + 3 = pc') (w1 : Jvm.Cond.methodLink own i ⟨ad, "clone", "()Ljava/lang/Object;"⟩ ∈ ts) (w2 : Jvm.Cond.sameMethod ad "java/lang/Object" "clone" "()Ljava/lang/Object;" ∈ ts) (w3 : Jvm.Cond.native ⟨"java/lang/Object", "clone", "()Ljava/lang/Object;"⟩ ∈ ts) (w4 : Jvm.Cond.instanceMethod ⟨"java/lang/Object", "clone", "()Ljava/lang/Object;"⟩ ∈ ts) (w5 : Jvm.Cond.selects ad ⟨ad, "clone", "()Ljava/lang/Object;"⟩ ⟨"java/lang/Object", "clone", "()Ljava/lang/Object;"⟩ ∈ ts) (w6 : Jvm.Cond.castable ad "java/lang/Cloneable" ∈ ts)
    (A : Afn Z h a ty n f) (E : Exa Z h a ad) (hfit : ∀ i, i < n → fits ty (f i) = true) (hsz : L.size = ml) (hwt : (st.map fun v => v.category).sum = wt) (hf : 1 ≤ R.frames) (hl : wt + 14 ≤ R.locals) (hcap : n ≤ cap) (hc : cl + 1 = cl') (hs : sl + cap = sl') (hc' : cl' ≤ R.cells) (hs' : sl' ≤ R.slots)
    (k : ∀ h' b, b = h.size → n0 ≤ b → Ext h h' → Afn Z h' b ty n f → Exa Z h' b ad → W K h' cl' sl' pc' L (.ref b :: st)) : W K h cl sl pc L (.ref a :: st) := by
  obtain ⟨⟨p, l', e', R'⟩, ⟨s, m, args, below⟩, ⟨meth, c⟩, Q', n0'⟩ := K
  obtain ⟨hx, hby, hml, hown, hnm, hrt, hlk, hZ, hw, hn0, hl', hR', hn', hQ'⟩ := O
  dsimp only at hx hby hml hown hnm hrt hlk hZ hn0 hl' hR' hn' hQ'
  subst hl' hR' hn' hQ'
  subst hp hc hs hml
  intro T locs X eT N
  obtain ⟨cx, A1, h1, h2, h3⟩ := A
  have FC : FitC Z cx := fitC_of A1 fun i hi v hv => by rw [h1] at hi; rw [h3 i hi] at hv; cases hv; exact hfit i hi
  obtain ⟨T2, h4, X2, e2, E2, A2, Ex2, st2⟩ := cloneA X hx hZ hown (hw _ w1) (hw _ w2) (hw _ w3) (hw _ w4) (hw _ w5) (hw _ w6) eT A1 E FC (g := mkF m pc L (.ref a :: st)) rfl hsz rfl (hb hby hd) hf (W := wt) (cap := cap) (by show 2 * 0 + _ ≤ _; omega) hl (by rw [h1]; exact hcap) hc' hs'
  obtain ⟨s2, o, g1, r⟩ := k h4 h.size rfl (Nat.le_trans hn0 (by rw [← eT]; exact X.same.2.1)) E2 ⟨_, A2, h1, h2, h3⟩ Ex2 T2 _ X2 e2 N
  exact ⟨s2, o, st2 _ g1, r⟩
theorem w_cast (O : Ok K l Z a0 ts B ml rt own nm R n0 Q) {i : Nat} {C : String} {a : Addr} (hd : decode B pc = .ok (.checkcast i, 3)) (hp : pc + 3 = pc') (w : Jvm.Cond.classLink own i C ∈ ts) (I : Ins Z h a C true) (k : W K h cl sl pc' L (.ref a :: st)) : W K h cl sl pc L (.ref a :: st) := by
  subst hp
  exact W.stepT (fun T locs X e => castY X O.1 O.2.2.2.2.2.2.2.1 O.2.2.2.1 (O.2.2.2.2.2.2.2.2.1 _ w) e I (g := mkF K.2.1.2.1 pc L (.ref a :: st)) rfl rfl (hb O.2.1 hd)) k
/-- the array at a takes every C -/
def Tk (Z : State) (h : Heap) (a : Addr) (C : String) : Prop := ∃ (c : Cell) (k : Class) (comp : ClassId) (t : FieldType), h[a]? = some c ∧ Z.vm.classes[c.cls]? = some k ∧ k.kind = .array comp t ∧ Z.vm.findClass C = some comp
theorem Tk.lt {a : Addr} {C : String} (F : Tk Z h a C) : a < h.size := by obtain ⟨_, _, _, _, h1, -⟩ := F; exact (Array.getElem?_eq_some_iff.mp h1).1
theorem Tk.ext {h' : Heap} {a : Addr} {C : String} (F : Tk Z h a C) (E : Ext h h') : Tk Z h' a C := by obtain ⟨c, k, cp, t, h1, r⟩ := F; exact ⟨c, k, cp, t, E.2 _ _ h1, r⟩
theorem Tk.wr {h' : Heap} {a b : Addr} {C : String} {i : Nat} {v : Value} (F : Tk Z h a C) (Wq : Wr h h' b i v) : Tk Z h' a C := by
  obtain ⟨c, k, cp, t, h1, h2, r⟩ := F
  obtain ⟨d1, a1, a2, -⟩ := wr_at Wq h1
  exact ⟨d1, k, cp, t, a1, by rw [a2]; exact h2, r⟩
theorem Tk.keep {h' : Heap} {a : Addr} {C : String} {ws : List Addr} (F : Tk Z h a C) (Kp : Keep h h' ws) : Tk Z h' a C := by
  obtain ⟨c, k, cp, t, h1, h2, r⟩ := F
  obtain ⟨d1, a1, a2, -⟩ := Kp.2.2 a c h1
  exact ⟨d1, k, cp, t, a1, by rw [a2]; exact h2, r⟩
theorem Tk.sto {a y : Addr} {C : String} (F : Tk Z h a C) (I : Ins Z h y C true) : Sto Z h a (.ref y) := by
  obtain ⟨cl, k, comp, t, o0, o1, o2, o3⟩ := F
  obtain ⟨cv, cT, i1, i2, i3⟩ := I
  cases o3.symm.trans i2
  simp only [Bool.and_eq_true, Bool.not_eq_true'] at i3
  obtain ⟨kc, q⟩ := Vm.classAt_of_findClass o3
  obtain ⟨kv, q2⟩ := Vm.classAt_of_assignable i3.2 ⟨kc, q⟩
  exact Or.inr ⟨cl, cv, k, kv, kc, _, _, y, o0, o1, o2, q, rfl, i1, i3.1, q2, i3.2⟩
theorem w_anewarrA (O : Ok K l Z a0 ts B ml rt own nm R n0 Q) {i : Nat} {C ad : String} {ty : FieldType} {z : Int32} {n cap cl' sl' : Nat} (hd : decode B pc = .ok (.anewarray i, 3)) (hp : pc + 3 = pc') (hC : (FieldType.array ty).toString = C) (had : "[" ++ C = ad) (w1 : Jvm.Cond.classLink own i C ∈ ts) (w2 : Jvm.Cond.arrayOver (.array ty) ∈ ts) (hz : z.toInt = (n : Int)) (hcap : n ≤ cap) (hb8 : cap * 8 ≤ 536870912) (hc : cl + 1 = cl') (hs : sl + cap = sl') (hc' : cl' ≤ R.cells) (hs' : sl' ≤ R.slots)
    (k : ∀ h' b, b = h.size → n0 ≤ b → Ext h h' → Afn Z h' b (.array ty) n (fun _ => .null) → Exa Z h' b ad → Tk Z h' b C → W K h' cl' sl' pc' L (.ref b :: st)) : W K h cl sl pc L (.int z :: st) := by
  obtain ⟨⟨p, l', e', R'⟩, ⟨s, m, args, below⟩, ⟨meth, c⟩, Q', n0'⟩ := K
  obtain ⟨hx, hby, hml, hown, hnm, hrt, hlk, hZ, hw, hn0, hl', hR', hn', hQ'⟩ := O
  dsimp only at hx hby hml hown hnm hrt hlk hZ hn0 hl' hR' hn' hQ'
  subst hl' hR' hn' hQ'
  subst hp hc hs
  intro T locs X eT N
  obtain ⟨T2, h2, kA, X2, e2, E2, A2, Ex2, Ov2, st2⟩ := newRA X hx hZ hown hC (hw _ w1) (hw _ w2) eT (g := mkF m pc L (.int z :: st)) rfl (hb hby hd) rfl (tnc hz).2 (cap := cap) (by rw [(tnc hz).1]; exact hcap) hb8 hc' hs' had
  have hsz : (newA kA (.array ty) z).slots.size = n := by rw [sz_new, (tnc hz).1]
  have hr := (rng32 z).2
  obtain ⟨ko, cpo, o1, o2, o3⟩ := Ov2
  obtain ⟨s2, o, h1, r⟩ := k h2 h.size rfl (Nat.le_trans hn0 (by rw [← eT]; exact X.same.2.1)) E2 ⟨_, A2, hsz, by omega, fun i hi => by show (Array.replicate z.toNatClampNeg (defaultValue (.array ty)))[i]? = _; rw [Array.getElem?_replicate, if_pos (by rw [(tnc hz).1]; exact hi)]; rfl⟩ Ex2 ⟨_, ko, cpo, _, A2.1, o1, o2, o3⟩ T2 _ X2 e2 N
  exact ⟨s2, o, st2 _ h1, r⟩
theorem w_aastore (O : Ok K l Z a0 ts B ml rt own nm R n0 Q) {a : Addr} {n i : Nat} {f : Nat → Value} {j : Int32} {x : Value} {ty : FieldType} (hd : decode B pc = .ok (.aastore, 1)) (hp : pc + 1 = pc') (A : Afn Z h a ty n f) (hty : ty.isReference = true) (hj : j.toInt = (i : Int)) (hi : i < n) (ha : n0 ≤ a) (St : Sto Z h a x) (k : ∀ h', Wr h h' a i x → W K h' cl sl pc' L st) : W K h cl sl pc L (x :: .int j :: .ref a :: st) := by
  subst hp
  obtain ⟨c, A, h1, h2, h3⟩ := A
  rw [← (tnc hj).1] at k
  exact W.stepW (fun T locs X e => stR X O.1 O.2.2.2.2.2.2.2.1 e A (j := j) (idxOk h1 hj hi) hty St (g := mkF K.2.1.2.1 pc L (x :: .int j :: .ref a :: st)) rfl rfl (hb O.2.1 hd)) (by rw [O.2.2.2.2.2.2.2.2.2.2.2.2.1]; exact ha) k
theorem w_static (O : Ok K l Z a0 ts B ml rt own nm R n0 Q) {i ml' wt cl' sl' : Nat} {y : MethodName} {B' : ByteArray} {rt' : Option FieldType} {rm : Room} {as S : List Value} {Qc : Option Value → Heap → Prop} {sg : MethodDescriptor} (hd : decode B pc = .ok (.invokestatic i, 3)) (hp : pc + 3 = pc') (w1 : Jvm.Cond.methodLink own i y ∈ ts) (w2 : Jvm.Cond.static y ∈ ts) (w3 : Jvm.Cond.initialized y.cls ∈ ts) (w4 : Jvm.Cond.code y B' ml' rt' ∈ ts) (hy : y.cls ≠ "java/lang/invoke/MethodHandle" ∧ y.cls ≠ "java/lang/invoke/VarHandle")
    (con : Con l Z y B' ml' rt' rm as h n0 Qc) (hS : S = as.reverse ++ st) (hsg : parseMethodDescriptor y.desc = some sg) (hlen : as.length = sg.parameters.length) (hwt : (st.map fun v => v.category).sum = wt) (hsz : L.size = ml) (hf : rm.frames + 1 ≤ R.frames) (hl : wt + (ml' + 11) + rm.locals ≤ R.locals) (hc : cl + rm.cells = cl') (hs : sl + rm.slots = sl') (hc' : cl' ≤ R.cells) (hs' : sl' ≤ R.slots) (k : ∀ v h', Qc v h' → W K h' cl' sl' pc' L (v.toList ++ st)) : W K h cl sl pc L S := by
  obtain ⟨⟨p, l', e', R'⟩, ⟨s, m, args, below⟩, ⟨meth, c⟩, Q', n0'⟩ := K
  obtain ⟨hx, hby, hml, hown, hnm, hrt, hlk, hZ, hw, hn0, hl', hR', hn', hQ'⟩ := O
  dsimp only at hx hby hml hown hnm hrt hlk hZ hn0 hl' hR' hn' hQ'
  subst hl' hR' hn' hQ'
  subst hp hc hs hS hml
  intro T locs X eT N
  have hn1 : n0' ≤ h.size := Nat.le_trans hn0 (by rw [← eT]; exact X.same.2.1)
  obtain ⟨_, _, ⟨T', L', k', n'⟩, -, X', ⟨Lc, ⟨hQ, hFr⟩, l1, y1, z1⟩, st1⟩ := Jvm.LawKit.callS X hx (y := y) hown (mvT hZ (hw _ w1)) (mvT hZ (hw _ w2)) (mvT hZ (hw _ w3)) (mvT hZ (hw _ w4)) hy (backOf (W := wt) (Q := fun v h L => Qc v h ∧ Fr n0' L) (con hn1 []) hZ (hw _ w4) (hw _ w3) hf hl) (g := mkF m pc L (as.reverse ++ st)) rfl hsz (argsL := as) (rest := st) (lenOf hsg hlen) rfl (by show 2 * 0 + _ ≤ _; omega) (hb hby hd) (fun _ _ => ⟨rfl, eT, hc', hs'⟩)
  dsimp only [Pt.U, Pt.locs, Pt.cells, Pt.slots] at X' l1 y1 z1 st1 hQ
  subst l1 y1 z1
  obtain ⟨s2, o, h1, r⟩ := k _ T'.heap hQ T' _ X' rfl (Fr.app N hFr)
  exact ⟨s2, o, st1 _ h1, r⟩
theorem w_virtual (O : Ok K l Z a0 ts B ml rt own nm R n0 Q) {i ml' wt cl' sl' : Nat} {y : MethodName} {B' : ByteArray} {rt' : Option FieldType} {rm : Room} {as S : List Value} {Qc : Option Value → Heap → Prop} {sg : MethodDescriptor} {a : Addr} {C : String} (hd : decode B pc = .ok (.invokevirtual i, 3)) (hp : pc + 3 = pc') (w1 : Jvm.Cond.methodLink own i y ∈ ts) (w2 : Jvm.Cond.declares y ∈ ts) (w3 : Jvm.Cond.selects C y y ∈ ts) (w4 : Jvm.Cond.instanceMethod y ∈ ts) (w5 : Jvm.Cond.code y B' ml' rt' ∈ ts) (w6 : Jvm.Cond.initialized y.cls ∈ ts) (hy : y.cls ≠ "java/lang/invoke/MethodHandle" ∧ y.cls ≠ "java/lang/invoke/VarHandle") (E : Exa Z h a C)
    (con : Con l Z y B' ml' rt' rm (.ref a :: as) h n0 Qc) (hS : S = as.reverse ++ .ref a :: st) (hsg : parseMethodDescriptor y.desc = some sg) (hlen : as.length = sg.parameters.length) (hwt : (st.map fun v => v.category).sum = wt) (hsz : L.size = ml) (hf : rm.frames + 1 ≤ R.frames) (hl : wt + (ml' + 11) + rm.locals ≤ R.locals) (hc : cl + rm.cells = cl') (hs : sl + rm.slots = sl') (hc' : cl' ≤ R.cells) (hs' : sl' ≤ R.slots) (k : ∀ v h', Qc v h' → W K h' cl' sl' pc' L (v.toList ++ st)) : W K h cl sl pc L S := by
  obtain ⟨⟨p, l', e', R'⟩, ⟨s, m, args, below⟩, ⟨meth, c⟩, Q', n0'⟩ := K
  obtain ⟨hx, hby, hml, hown, hnm, hrt, hlk, hZ, hw, hn0, hl', hR', hn', hQ'⟩ := O
  dsimp only at hx hby hml hown hnm hrt hlk hZ hn0 hl' hR' hn' hQ'
  subst hl' hR' hn' hQ'
  subst hp hc hs hS hml
  intro T locs X eT N
  have hn1 : n0' ≤ h.size := Nat.le_trans hn0 (by rw [← eT]; exact X.same.2.1)
  obtain ⟨cq, kq, qa, qb, qc⟩ := isOf hZ eT E
  obtain ⟨_, _, ⟨T', L', k', n'⟩, -, X', ⟨Lc, ⟨hQ, hFr⟩, l1, y1, z1⟩, st1⟩ := X.virtualBack hx (y := y) (z := y) hown (mvT hZ (hw _ w1)) (mvT hZ (hw _ w2)) (notFace_of_selects (args := #[]) (mvT hZ (hw _ w3))) (mvT hZ (hw _ w3)) (mvT hZ (hw _ w4)) hy (backOf (W := wt) (Q := fun v h L => Qc v h ∧ Fr n0' L) (con hn1 []) hZ (hw _ w5) (hw _ w6) hf hl) qa qc (g := mkF m pc L (as.reverse ++ .ref a :: st)) rfl hsz (Steps.refl _) (argsL := as) (rest := st) (lenOf hsg hlen) rfl (by show 2 * 0 + _ ≤ _; omega) (hb hby hd) (fun _ _ => ⟨rfl, eT, hc', hs'⟩)
  dsimp only [Pt.U, Pt.locs, Pt.cells, Pt.slots] at X' l1 y1 z1 st1 hQ
  subst l1 y1 z1
  obtain ⟨s2, o, h1, r⟩ := k _ T'.heap hQ T' _ X' rfl (Fr.app N hFr)
  exact ⟨s2, o, st1.trans h1, r⟩
theorem w_private (O : Ok K l Z a0 ts B ml rt own nm R n0 Q) {i ml' wt cl' sl' : Nat} {y : MethodName} {B' : ByteArray} {rt' : Option FieldType} {rm : Room} {as S : List Value} {Qc : Option Value → Heap → Prop} {sg : MethodDescriptor} {kk : Nat} {a : Addr} {C : String} (hd : decode B pc = .ok (.invokevirtual i, 3)) (hp : pc + 3 = pc') (w1 : Jvm.Cond.methodLink own i y ∈ ts) (w2 : Jvm.Cond.instanceMethod y ∈ ts) (w3 : Jvm.Cond.privateMethod y ∈ ts) (w4 : Jvm.Cond.instantiable y.cls kk ∈ ts) (w5 : Jvm.Cond.code y B' ml' rt' ∈ ts) (w6 : Jvm.Cond.initialized y.cls ∈ ts) (hy : y.cls ≠ "java/lang/invoke/MethodHandle" ∧ y.cls ≠ "java/lang/invoke/VarHandle") (E : Exa Z h a C)
    (con : Con l Z y B' ml' rt' rm (.ref a :: as) h n0 Qc) (hS : S = as.reverse ++ .ref a :: st) (hsg : parseMethodDescriptor y.desc = some sg) (hlen : as.length = sg.parameters.length) (hwt : (st.map fun v => v.category).sum = wt) (hsz : L.size = ml) (hf : rm.frames + 1 ≤ R.frames) (hl : wt + (ml' + 11) + rm.locals ≤ R.locals) (hc : cl + rm.cells = cl') (hs : sl + rm.slots = sl') (hc' : cl' ≤ R.cells) (hs' : sl' ≤ R.slots) (k : ∀ v h', Qc v h' → W K h' cl' sl' pc' L (v.toList ++ st)) : W K h cl sl pc L S := by
  obtain ⟨⟨p, l', e', R'⟩, ⟨s, m, args, below⟩, ⟨meth, c⟩, Q', n0'⟩ := K
  obtain ⟨hx, hby, hml, hown, hnm, hrt, hlk, hZ, hw, hn0, hl', hR', hn', hQ'⟩ := O
  dsimp only at hx hby hml hown hnm hrt hlk hZ hn0 hl' hR' hn' hQ'
  subst hl' hR' hn' hQ'
  subst hp hc hs hS hml
  intro T locs X eT N
  have hn1 : n0' ≤ h.size := Nat.le_trans hn0 (by rw [← eT]; exact X.same.2.1)
  obtain ⟨cq, q1, q2⟩ := E.cell
  have hpr : s.PrivateAt y := Cond.privateMethod_at (mvP hZ (hw _ w3) (args := #[]))
  have hsel : (Jvm.Cond.selects y.cls y y).before args s = true := by
    obtain ⟨c1, k1, g1, g2, -, g3, -⟩ := Cond.instantiable_spec (mvT (args := args) hZ (hw _ w4))
    exact selects_self_of_private g1 g2 (by simp at g3; exact g3.1) hpr (mvT hZ (hw _ w2)) hy
  obtain ⟨_, _, ⟨T', L', k', n'⟩, -, X', ⟨Lc, ⟨hQ, hFr⟩, l1, y1, z1⟩, st1⟩ := X.privateBack hx (y := y) hown (mvT hZ (hw _ w1)) (mvT hZ (hw _ w2)) hsel hpr (mvT hZ (hw _ w5)) hy (backOf (W := wt) (Q := fun v h L => Qc v h ∧ Fr n0' L) (con hn1 []) hZ (hw _ w5) (hw _ w6) hf hl) (g := mkF m pc L (as.reverse ++ .ref a :: st)) rfl hsz (Steps.refl _) (a := a) (by rw [eT]; exact q1) q2 (argsL := as) (rest := st) (lenOf hsg hlen) rfl (by show 2 * 0 + _ ≤ _; omega) (hb hby hd) (fun _ _ => ⟨rfl, eT, hc', hs'⟩)
  dsimp only [Pt.U, Pt.locs, Pt.cells, Pt.slots] at X' l1 y1 z1 st1 hQ
  subst l1 y1 z1
  obtain ⟨s2, o, h1, r⟩ := k _ T'.heap hQ T' _ X' rfl (Fr.app N hFr)
  exact ⟨s2, o, st1.trans h1, r⟩
theorem w_init (O : Ok K l Z a0 ts B ml rt own nm R n0 Q) {i ml' wt cl' sl' : Nat} {y : MethodName} {B' : ByteArray} {rm : Room} {as S : List Value} {Qc : Option Value → Heap → Prop} {sg : MethodDescriptor} {a : Addr} (hd : decode B pc = .ok (.invokespecial i, 3)) (hp : pc + 3 = pc') (hin : y.name = "<init>") (w1 : Jvm.Cond.methodLink own i y ∈ ts) (w2 : Jvm.Cond.instanceMethod y ∈ ts) (w3 : Jvm.Cond.initialized y.cls ∈ ts) (w4 : Jvm.Cond.code y B' ml' none ∈ ts) (hy : y.cls ≠ "java/lang/invoke/MethodHandle" ∧ y.cls ≠ "java/lang/invoke/VarHandle")
    (con : Con l Z y B' ml' none rm (.ref a :: as) h n0 Qc) (hS : S = as.reverse ++ .ref a :: st) (hsg : parseMethodDescriptor y.desc = some sg) (hlen : as.length = sg.parameters.length) (hwt : (st.map fun v => v.category).sum = wt) (hsz : L.size = ml) (hf : rm.frames + 1 ≤ R.frames) (hl : wt + (ml' + 11) + rm.locals ≤ R.locals) (hc : cl + rm.cells = cl') (hs : sl + rm.slots = sl') (hc' : cl' ≤ R.cells) (hs' : sl' ≤ R.slots) (k : ∀ v h', Qc v h' → W K h' cl' sl' pc' L (v.toList ++ st)) : W K h cl sl pc L S := by
  obtain ⟨⟨p, l', e', R'⟩, ⟨s, m, args, below⟩, ⟨meth, c⟩, Q', n0'⟩ := K
  obtain ⟨hx, hby, hml, hown, hnm, hrt, hlk, hZ, hw, hn0, hl', hR', hn', hQ'⟩ := O
  dsimp only at hx hby hml hown hnm hrt hlk hZ hn0 hl' hR' hn' hQ'
  subst hl' hR' hn' hQ'
  subst hp hc hs hS hml
  intro T locs X eT N
  have hn1 : n0' ≤ h.size := Nat.le_trans hn0 (by rw [← eT]; exact X.same.2.1)
  obtain ⟨_, _, ⟨T', L', k', n'⟩, -, X', ⟨Lc, ⟨hQ, hFr⟩, l1, y1, z1⟩, st1⟩ := X.specialBack hx (y := y) hin hown (mvT hZ (hw _ w1)) (mvT hZ (hw _ w2)) (mvT hZ (hw _ w4)) hy (backOf (W := wt) (Q := fun v h L => Qc v h ∧ Fr n0' L) (con hn1 []) hZ (hw _ w4) (hw _ w3) hf hl) (g := mkF m pc L (as.reverse ++ .ref a :: st)) rfl hsz (Steps.refl _) (a := a) (argsL := as) (rest := st) (lenOf hsg hlen) rfl (by show 2 * 0 + _ ≤ _; omega) (hb hby hd) (fun _ _ => ⟨rfl, eT, hc', hs'⟩)
  dsimp only [Pt.U, Pt.locs, Pt.cells, Pt.slots] at X' l1 y1 z1 st1 hQ
  subst l1 y1 z1
  obtain ⟨s2, o, h1, r⟩ := k _ T'.heap hQ T' _ X' rfl (Fr.app N hFr)
  exact ⟨s2, o, st1.trans h1, r⟩
theorem w_initB (O : Ok K l Z a0 ts B ml rt own nm R n0 Q) {i ml' wt cl' sl' rc rs : Nat} {y : MethodName} {B' : ByteArray} {as S : List Value} {Qc : Option Value → Heap → List Loc → Prop} {sg : MethodDescriptor} {a : Addr} (hd : decode B pc = .ok (.invokespecial i, 3)) (hp : pc + 3 = pc') (hin : y.name = "<init>") (w1 : Jvm.Cond.methodLink own i y ∈ ts) (w2 : Jvm.Cond.instanceMethod y ∈ ts) (w4 : Jvm.Cond.code y B' ml' none ∈ ts) (hy : y.cls ≠ "java/lang/invoke/MethodHandle" ∧ y.cls ≠ "java/lang/invoke/VarHandle")
    (bk : n0 ≤ h.size → ∀ (p : Program) (e : Env) (below : List Frame) (s : State) (args : Array Value), Z.Warmed39 s.vm → Back l R p e below s args y 3 wt (fun P a' => a' = (Value.ref a :: as).toArray ∧ P.U.heap = h ∧ P.cells + rc ≤ R.cells ∧ P.slots + rs ≤ R.slots) (fun P _ v B => ∃ L, Qc v B.U.heap L ∧ B.locs = P.locs ++ L ∧ B.cells = P.cells + rc ∧ B.slots = P.slots + rs)) (hfr : ∀ v h' L, Qc v h' L → Fr n0 L)
    (hS : S = as.reverse ++ .ref a :: st) (hsg : parseMethodDescriptor y.desc = some sg) (hlen : as.length = sg.parameters.length) (hwt : (st.map fun v => v.category).sum = wt) (hsz : L.size = ml) (hc : cl + rc = cl') (hs : sl + rs = sl') (hc' : cl' ≤ R.cells) (hs' : sl' ≤ R.slots) (k : ∀ v h' Ls, Qc v h' Ls → W K h' cl' sl' pc' L (v.toList ++ st)) : W K h cl sl pc L S := by
  obtain ⟨⟨p, l', e', R'⟩, ⟨s, m, args, below⟩, ⟨meth, c⟩, Q', n0'⟩ := K
  obtain ⟨hx, hby, hml, hown, hnm, hrt, hlk, hZ, hw, hn0, hl', hR', hn', hQ'⟩ := O
  dsimp only at hx hby hml hown hnm hrt hlk hZ hn0 hl' hR' hn' hQ'
  subst hl' hR' hn' hQ'
  subst hp hc hs hS hml
  intro T locs X eT N
  have hn1 : n0' ≤ h.size := Nat.le_trans hn0 (by rw [← eT]; exact X.same.2.1)
  obtain ⟨_, _, ⟨T', L', k', n'⟩, -, X', ⟨Lc, hQ, l1, y1, z1⟩, st1⟩ := X.specialBack hx (y := y) hin hown (mvT hZ (hw _ w1)) (mvT hZ (hw _ w2)) (mvT hZ (hw _ w4)) hy (bk hn1 p e' below s args hZ) (g := mkF m pc L (as.reverse ++ .ref a :: st)) rfl hsz (Steps.refl _) (a := a) (argsL := as) (rest := st) (lenOf hsg hlen) rfl (by show 2 * 0 + _ ≤ _; omega) (hb hby hd) (fun _ _ => ⟨rfl, eT, hc', hs'⟩)
  dsimp only [Pt.U, Pt.locs, Pt.cells, Pt.slots] at X' l1 y1 z1 st1 hQ
  subst l1 y1 z1
  obtain ⟨s2, o, h1, r⟩ := k _ T'.heap _ hQ T' _ X' rfl (Fr.app N (hfr _ _ _ hQ))
  exact ⟨s2, o, st1.trans h1, r⟩
theorem Afn.arv {a : Addr} {ty : FieldType} {n : Nat} {f : Nat → Value} {N : Int32} {vs : List Value} {d : Value} (A : Afn Z h a ty n f) (hN : N.toInt = (n : Int)) (hv : ∀ i, i < n → vs.getD i d = f i) (hf : ∀ i, i < n → fits ty (f i) = true) : ∃ k, Arv Z h a k ty N vs d := by
  obtain ⟨c, A, h1, h2, h3⟩ := A
  refine ⟨c.cls, c, A, rfl, by rw [h1, (tnc hN).1], (tnc hN).2, fun i hi => ?_, fun i hi => ?_⟩
  · rw [h1] at hi; rw [hv i hi]; exact h3 i hi
  · rw [h1] at hi; rw [hv i hi]; exact hf i hi
theorem w_reti {x : Int32} (O : Ok K l Z a0 ts B ml (some .int) own nm R n0 Q) (hd : decode B pc = .ok (.ireturn, 1)) (hc : cl ≤ R.cells) (hs : sl ≤ R.slots) (hq : Q (some (.int x)) h) : W K h cl sl pc L (.int x :: st) := by
  obtain ⟨⟨p, l', e', R'⟩, ⟨s, m, args, below⟩, ⟨meth, c⟩, Q', n0'⟩ := K
  obtain ⟨hx, hby, hml, hown, hnm, hrt, hlk, hZ, hw, hn0, hl', hR', hn', hQ'⟩ := O
  dsimp only at hx hby hml hown hnm hrt hlk hZ hn0 hl' hR' hn' hQ'
  subst hl' hR' hn' hQ'
  intro T locs X eT N
  obtain ⟨fs, hr, hrun, hended, hW, hsame⟩ := X.leave (v := some (.int x)) (fun q => by rw [hrt] at q; cases q) hlk
  refine ⟨_, _, retOut X hx hrt rfl (Or.inl ⟨rfl, Or.inl rfl, _, rfl⟩) (hb hby hd) hr, hrun, hended, _, _, rfl, ⟨?_, N⟩, ⟨_, rfl⟩, hW, hsame.mono hc hs⟩
  show Q' _ T.heap
  rw [eT]; exact hq
theorem w_retz {x : Int32} (O : Ok K l Z a0 ts B ml (some .boolean) own nm R n0 Q) (hd : decode B pc = .ok (.ireturn, 1)) (hc : cl ≤ R.cells) (hs : sl ≤ R.slots) (hz : x = 0 ∨ x = 1) (hq : Q (some (.int x)) h) : W K h cl sl pc L (.int x :: st) := by
  have hna : narrow .boolean (.int x) = .int x := by rcases hz with rfl | rfl <;> rfl
  obtain ⟨⟨p, l', e', R'⟩, ⟨s, m, args, below⟩, ⟨meth, c⟩, Q', n0'⟩ := K
  obtain ⟨hx, hby, hml, hown, hnm, hrt, hlk, hZ, hw, hn0, hl', hR', hn', hQ'⟩ := O
  dsimp only at hx hby hml hown hnm hrt hlk hZ hn0 hl' hR' hn' hQ'
  subst hl' hR' hn' hQ'
  intro T locs X eT N
  obtain ⟨fs, hr, hrun, hended, hW, hsame⟩ := X.leave (v := some (.int x)) (fun q => by rw [hrt] at q; cases q) hlk
  refine ⟨_, _, retOut X hx hrt hna (Or.inl ⟨rfl, Or.inr (Or.inl rfl), _, rfl⟩) (hb hby hd) hr, hrun, hended, _, _, rfl, ⟨?_, N⟩, ⟨_, rfl⟩, hW, hsame.mono hc hs⟩
  show Q' _ T.heap
  rw [eT]; exact hq
theorem w_retl {x : Int64} (O : Ok K l Z a0 ts B ml (some .long) own nm R n0 Q) (hd : decode B pc = .ok (.lreturn, 1)) (hc : cl ≤ R.cells) (hs : sl ≤ R.slots) (hq : Q (some (.long x)) h) : W K h cl sl pc L (.long x :: st) := by
  obtain ⟨⟨p, l', e', R'⟩, ⟨s, m, args, below⟩, ⟨meth, c⟩, Q', n0'⟩ := K
  obtain ⟨hx, hby, hml, hown, hnm, hrt, hlk, hZ, hw, hn0, hl', hR', hn', hQ'⟩ := O
  dsimp only at hx hby hml hown hnm hrt hlk hZ hn0 hl' hR' hn' hQ'
  subst hl' hR' hn' hQ'
  intro T locs X eT N
  obtain ⟨fs, hr, hrun, hended, hW, hsame⟩ := X.leave (v := some (.long x)) (fun q => by rw [hrt] at q; cases q) hlk
  refine ⟨_, _, retOut X hx hrt rfl (Or.inr (Or.inl ⟨rfl, rfl, _, rfl⟩)) (hb hby hd) hr, hrun, hended, _, _, rfl, ⟨?_, N⟩, ⟨_, rfl⟩, hW, hsame.mono hc hs⟩
  show Q' _ T.heap
  rw [eT]; exact hq
theorem w_reta {x : Value} {t : FieldType} (O : Ok K l Z a0 ts B ml (some t) own nm R n0 Q) (hd : decode B pc = .ok (.areturn, 1)) (ht : t.isReference = true) (hna : narrow t x = x) (hx' : x.isRef = true) (hc : cl ≤ R.cells) (hs : sl ≤ R.slots) (hq : Q (some x) h) : W K h cl sl pc L (x :: st) := by
  obtain ⟨⟨p, l', e', R'⟩, ⟨s, m, args, below⟩, ⟨meth, c⟩, Q', n0'⟩ := K
  obtain ⟨hx, hby, hml, hown, hnm, hrt, hlk, hZ, hw, hn0, hl', hR', hn', hQ'⟩ := O
  dsimp only at hx hby hml hown hnm hrt hlk hZ hn0 hl' hR' hn' hQ'
  subst hl' hR' hn' hQ'
  intro T locs X eT N
  obtain ⟨fs, hr, hrun, hended, hW, hsame⟩ := X.leave (v := some x) (fun q => by rw [hrt] at q; cases q) hlk
  refine ⟨_, _, retOut X hx hrt hna (Or.inr (Or.inr (Or.inr (Or.inr ⟨rfl, ht, hx'⟩)))) (hb hby hd) hr, hrun, hended, _, _, rfl, ⟨?_, N⟩, ⟨_, rfl⟩, hW, hsame.mono hc hs⟩
  show Q' _ T.heap
  rw [eT]; exact hq
theorem w_retv (O : Ok K l Z a0 ts B ml none own nm R n0 Q) (hd : decode B pc = .ok (.return_, 1)) (hc : cl ≤ R.cells) (hs : sl ≤ R.slots) (hq : Q none h) : W K h cl sl pc L [] := by
  obtain ⟨⟨p, l', e', R'⟩, ⟨s, m, args, below⟩, ⟨meth, c⟩, Q', n0'⟩ := K
  obtain ⟨hx, hby, hml, hown, hnm, hrt, hlk, hZ, hw, hn0, hl', hR', hn', hQ'⟩ := O
  dsimp only at hx hby hml hown hnm hrt hlk hZ hn0 hl' hR' hn' hQ'
  subst hl' hR' hn' hQ'
  intro T locs X eT N
  obtain ⟨fs, hr, hrun, hended, hW, hsame⟩ := X.leave (v := none) (fun _ => rfl) hlk
  refine ⟨_, _, X.returnOut hx hrt (hb hby hd) hr, hrun, hended, _, _, rfl, ⟨?_, N⟩, ⟨_, rfl⟩, hW, hsame.mono hc hs⟩
  show Q' _ T.heap
  rw [eT]; exact hq
theorem nz32 {y : Int32} (q : ¬ y.toInt = 0) : y ≠ 0 := by rintro rfl; exact q (by decide)
theorem nz64 {y : Int64} (q : ¬ y.toInt = 0) : y ≠ 0 := by rintro rfl; exact q (by decide)
theorem of_nat32 {q : Int32} {n : Nat} (hn : q.toInt = (n : Int)) : q = Int32.ofNat n := by
  have h1 := rng32 q
  apply Int32.toInt_inj.mp
  rw [hn, Int32.toInt_ofNat_of_lt (by omega)]
theorem c_lremP (x y : Int64) (d : Int) (hy : y.toInt = d) : (0 ≤ x.toInt → (x % y).toInt = x.toInt % d) ∧ (x.toInt < 0 → (x % y).toInt = -((-x.toInt) % d)) := by rw [← lrem_mod]; exact c_lrem x y d hy
end OwnW

theorem mw {d : Jvm.Cond} (k : Nat) (q : tables_1[k]? = some d) : d ∈ tables_1 := List.mem_of_getElem? q
theorem d8_0 : decode jdk_30_method_1_code 0 = .ok (.aload_n 0, 1) := by decide +kernel
theorem d8_1 : decode jdk_30_method_1_code 1 = .ok (.invokespecial 1, 3) := by decide +kernel
theorem d8_4 : decode jdk_30_method_1_code 4 = .ok (.return_, 1) := by decide +kernel
theorem pn_8 : plainFor (⟨"java/lang/Record", "<init>", "()V"⟩ : MethodName) = true := plainFor_of_name (by first | (simp [plainName, overriddenIn]; done) | decide +kernel)
set_option maxRecDepth 65536 in
set_option maxHeartbeats 40000000 in
theorem con_rec (l : Launch) (Z : State) (a0 : Array Value) (hw : ∀ d ∈ tables_1, d.before a0 Z = true) (a : Addr) (h0 : Heap) (n0 : Nat)  :
    Con l Z (⟨"java/lang/Record", "<init>", "()V"⟩ : MethodName) jdk_30_method_1_code 1 none ⟨1, 0, 0, 12⟩ [(.ref a)] h0 n0 (RetV fun h => h = h0) := by
  refine Con.body (L0 := #[.val (.ref a)]) hw pn_8 (fun m => by first | (simp [entryFrame, mkF, argsToLocals, Value.category]; done) | rfl) (fun K O => ?_)
  refine w_aloadN O d8_0 (pc' := 1) rfl rfl rfl ?_
  refine w_objinit O d8_1 (wt := 0) (pc' := 4) rfl (mw 41 rfl) (mw 12 rfl) (mw 13 rfl) rfl rfl (by decide) (by decide) ?_
  refine w_retv O d8_4 (by decide) (by decide) ?_
  exact ⟨rfl, rfl⟩
def Dc (Z : State) (h : Heap) (a nm : Addr) (nc : Int32) (tx : Addr) (tc ln ul : Int32) : Prop := Exa Z h a "com/example/rulewright/rulewright/rules/Declarations$Declaration" ∧ Fld Z h a "com/example/rulewright/rulewright/rules/Declarations$Declaration" "name" "Ljava/lang/String;" (.ref nm) ∧ Fld Z h a "com/example/rulewright/rulewright/rules/Declarations$Declaration" "nameColumn" "I" (.int nc) ∧ Fld Z h a "com/example/rulewright/rulewright/rules/Declarations$Declaration" "text" "Ljava/lang/String;" (.ref tx) ∧ Fld Z h a "com/example/rulewright/rulewright/rules/Declarations$Declaration" "textColumn" "I" (.int tc) ∧ Fld Z h a "com/example/rulewright/rulewright/rules/Declarations$Declaration" "line" "I" (.int ln) ∧ Fld Z h a "com/example/rulewright/rulewright/rules/Declarations$Declaration" "useLine" "I" (.int ul)
theorem d7_0 : decode prog_52_method_2_code 0 = .ok (.aload_n 0, 1) := by decide +kernel
theorem d7_1 : decode prog_52_method_2_code 1 = .ok (.invokespecial 1, 3) := by decide +kernel
theorem d7_4 : decode prog_52_method_2_code 4 = .ok (.aload_n 0, 1) := by decide +kernel
theorem d7_5 : decode prog_52_method_2_code 5 = .ok (.aload_n 1, 1) := by decide +kernel
theorem d7_6 : decode prog_52_method_2_code 6 = .ok (.putfield 7, 3) := by decide +kernel
theorem d7_9 : decode prog_52_method_2_code 9 = .ok (.aload_n 0, 1) := by decide +kernel
theorem d7_10 : decode prog_52_method_2_code 10 = .ok (.iload_n 2, 1) := by decide +kernel
theorem d7_11 : decode prog_52_method_2_code 11 = .ok (.putfield 13, 3) := by decide +kernel
theorem d7_14 : decode prog_52_method_2_code 14 = .ok (.aload_n 0, 1) := by decide +kernel
theorem d7_15 : decode prog_52_method_2_code 15 = .ok (.aload_n 3, 1) := by decide +kernel
theorem d7_16 : decode prog_52_method_2_code 16 = .ok (.putfield 17, 3) := by decide +kernel
theorem d7_19 : decode prog_52_method_2_code 19 = .ok (.aload_n 0, 1) := by decide +kernel
theorem d7_20 : decode prog_52_method_2_code 20 = .ok (.iload 4, 2) := by decide +kernel
theorem d7_22 : decode prog_52_method_2_code 22 = .ok (.putfield 20, 3) := by decide +kernel
theorem d7_25 : decode prog_52_method_2_code 25 = .ok (.aload_n 0, 1) := by decide +kernel
theorem d7_26 : decode prog_52_method_2_code 26 = .ok (.iload 5, 2) := by decide +kernel
theorem d7_28 : decode prog_52_method_2_code 28 = .ok (.putfield 23, 3) := by decide +kernel
theorem d7_31 : decode prog_52_method_2_code 31 = .ok (.aload_n 0, 1) := by decide +kernel
theorem d7_32 : decode prog_52_method_2_code 32 = .ok (.iload 6, 2) := by decide +kernel
theorem d7_34 : decode prog_52_method_2_code 34 = .ok (.putfield 26, 3) := by decide +kernel
theorem d7_37 : decode prog_52_method_2_code 37 = .ok (.return_, 1) := by decide +kernel
theorem pn_7 : plainFor (⟨"com/example/rulewright/rulewright/rules/Declarations$Declaration", "<init>", "(Ljava/lang/String;ILjava/lang/String;III)V"⟩ : MethodName) = true := plainFor_of_name (by first | (simp [plainName, overriddenIn]; done) | decide +kernel)
theorem pd_0 : parseMethodDescriptor "()V" = some ⟨[], none⟩ := by decide +kernel
set_option maxRecDepth 65536 in
set_option maxHeartbeats 40000000 in
theorem con_di (l : Launch) (Z : State) (a0 : Array Value) (hw : ∀ d ∈ tables_1, d.before a0 Z = true) (a nm : Addr) (nc : Int32) (tx : Addr) (tc ln ul : Int32) (h0 : Heap) (n0 : Nat) (hE : Exa Z h0 a "com/example/rulewright/rulewright/rules/Declarations$Declaration") (h_name : Fld Z h0 a "com/example/rulewright/rulewright/rules/Declarations$Declaration" "name" "Ljava/lang/String;" .null) (h_nameColumn : Fld Z h0 a "com/example/rulewright/rulewright/rules/Declarations$Declaration" "nameColumn" "I" (.int (0 : Int32))) (h_text : Fld Z h0 a "com/example/rulewright/rulewright/rules/Declarations$Declaration" "text" "Ljava/lang/String;" .null) (h_textColumn : Fld Z h0 a "com/example/rulewright/rulewright/rules/Declarations$Declaration" "textColumn" "I" (.int (0 : Int32))) (h_line : Fld Z h0 a "com/example/rulewright/rulewright/rules/Declarations$Declaration" "line" "I" (.int (0 : Int32))) (h_useLine : Fld Z h0 a "com/example/rulewright/rulewright/rules/Declarations$Declaration" "useLine" "I" (.int (0 : Int32))) (ga : n0 ≤ a) :
    Con l Z (⟨"com/example/rulewright/rulewright/rules/Declarations$Declaration", "<init>", "(Ljava/lang/String;ILjava/lang/String;III)V"⟩ : MethodName) prog_52_method_2_code 7 none ⟨2, 0, 0, 24⟩ [(.ref a), (.ref nm), (.int nc), (.ref tx), (.int tc), (.int ln), (.int ul)] h0 n0 (RetV fun h => Dc Z h a nm nc tx tc ln ul ∧ Keep h0 h [a]) := by
  refine Con.body (L0 := #[.val (.ref a), .val (.ref nm), .val (.int nc), .val (.ref tx), .val (.int tc), .val (.int ln), .val (.int ul)]) hw pn_7 (fun m => by first | (simp [entryFrame, mkF, argsToLocals, Value.category]; done) | rfl) (fun K O => ?_)
  have hK := Keep.refl h0 [a]
  refine w_aloadN O d7_0 (pc' := 1) rfl rfl rfl ?_
  refine w_init O d7_1 (as := []) (st := []) (wt := 0) (cl' := 0) (sl' := 0) (pc' := 4) rfl rfl (mw 36 rfl) (mw 37 rfl) (mw 39 rfl) (mw 40 rfl) (by decide) (con_rec l Z a0 hw a h0 n0) rfl pd_0 rfl rfl rfl (by decide) (by decide) rfl rfl (by decide) (by decide) (cV fun _ qh => ?_)
  rw [qh]
  refine w_aloadN O d7_4 (pc' := 5) rfl rfl rfl ?_
  refine w_aloadN O d7_5 (pc' := 6) rfl rfl rfl ?_
  refine w_putf O d7_6 (pc' := 9) rfl (mw 42 rfl) (mw 31 rfl) (Or.inr ⟨(mw 43 rfl), rfl, rfl⟩) h_name hE ga (ty := (.object "java/lang/String")) (by decide) rfl rfl (fun h1 Wh1 => ?_)
  have hE_h1 := hE.wr Wh1
  have hK_h1 := hK.wr Wh1 (Or.inl (by simp))
  have h_name_h1 := Fld.same Wh1 h_name
  have h_nameColumn_h1 := Fld.other Wh1 h_nameColumn (Or.inr (Jvm.RoadKit.slot_ne (Or.inr (O.2.2.2.2.2.2.2.2.1 _ (mw 45 rfl))) (Or.inr (O.2.2.2.2.2.2.2.2.1 _ (mw 43 rfl))) (by decide) (t := .int) (t' := (.object "java/lang/String")) (by decide) (by decide)))
  have h_text_h1 := Fld.other Wh1 h_text (Or.inr (Jvm.RoadKit.slot_ne (Or.inr (O.2.2.2.2.2.2.2.2.1 _ (mw 47 rfl))) (Or.inr (O.2.2.2.2.2.2.2.2.1 _ (mw 43 rfl))) (by decide) (t := (.object "java/lang/String")) (t' := (.object "java/lang/String")) (by decide) (by decide)))
  have h_textColumn_h1 := Fld.other Wh1 h_textColumn (Or.inr (Jvm.RoadKit.slot_ne (Or.inr (O.2.2.2.2.2.2.2.2.1 _ (mw 49 rfl))) (Or.inr (O.2.2.2.2.2.2.2.2.1 _ (mw 43 rfl))) (by decide) (t := .int) (t' := (.object "java/lang/String")) (by decide) (by decide)))
  have h_line_h1 := Fld.other Wh1 h_line (Or.inr (Jvm.RoadKit.slot_ne (Or.inr (O.2.2.2.2.2.2.2.2.1 _ (mw 51 rfl))) (Or.inr (O.2.2.2.2.2.2.2.2.1 _ (mw 43 rfl))) (by decide) (t := .int) (t' := (.object "java/lang/String")) (by decide) (by decide)))
  have h_useLine_h1 := Fld.other Wh1 h_useLine (Or.inr (Jvm.RoadKit.slot_ne (Or.inr (O.2.2.2.2.2.2.2.2.1 _ (mw 53 rfl))) (Or.inr (O.2.2.2.2.2.2.2.2.1 _ (mw 43 rfl))) (by decide) (t := .int) (t' := (.object "java/lang/String")) (by decide) (by decide)))
  refine w_aloadN O d7_9 (pc' := 10) rfl rfl rfl ?_
  refine w_iloadN O d7_10 (pc' := 11) rfl rfl ?_
  refine w_putf O d7_11 (pc' := 14) rfl (mw 44 rfl) (mw 31 rfl) (Or.inr ⟨(mw 45 rfl), rfl, rfl⟩) h_nameColumn_h1 hE_h1 ga (ty := .int) (by decide) rfl rfl (fun h2 Wh2 => ?_)
  have hE_h2 := hE_h1.wr Wh2
  have hK_h2 := hK_h1.wr Wh2 (Or.inl (by simp))
  have h_name_h2 := Fld.other Wh2 h_name_h1 (Or.inr (Jvm.RoadKit.slot_ne (Or.inr (O.2.2.2.2.2.2.2.2.1 _ (mw 43 rfl))) (Or.inr (O.2.2.2.2.2.2.2.2.1 _ (mw 45 rfl))) (by decide) (t := (.object "java/lang/String")) (t' := .int) (by decide) (by decide)))
  have h_nameColumn_h2 := Fld.same Wh2 h_nameColumn_h1
  have h_text_h2 := Fld.other Wh2 h_text_h1 (Or.inr (Jvm.RoadKit.slot_ne (Or.inr (O.2.2.2.2.2.2.2.2.1 _ (mw 47 rfl))) (Or.inr (O.2.2.2.2.2.2.2.2.1 _ (mw 45 rfl))) (by decide) (t := (.object "java/lang/String")) (t' := .int) (by decide) (by decide)))
  have h_textColumn_h2 := Fld.other Wh2 h_textColumn_h1 (Or.inr (Jvm.RoadKit.slot_ne (Or.inr (O.2.2.2.2.2.2.2.2.1 _ (mw 49 rfl))) (Or.inr (O.2.2.2.2.2.2.2.2.1 _ (mw 45 rfl))) (by decide) (t := .int) (t' := .int) (by decide) (by decide)))
  have h_line_h2 := Fld.other Wh2 h_line_h1 (Or.inr (Jvm.RoadKit.slot_ne (Or.inr (O.2.2.2.2.2.2.2.2.1 _ (mw 51 rfl))) (Or.inr (O.2.2.2.2.2.2.2.2.1 _ (mw 45 rfl))) (by decide) (t := .int) (t' := .int) (by decide) (by decide)))
  have h_useLine_h2 := Fld.other Wh2 h_useLine_h1 (Or.inr (Jvm.RoadKit.slot_ne (Or.inr (O.2.2.2.2.2.2.2.2.1 _ (mw 53 rfl))) (Or.inr (O.2.2.2.2.2.2.2.2.1 _ (mw 45 rfl))) (by decide) (t := .int) (t' := .int) (by decide) (by decide)))
  refine w_aloadN O d7_14 (pc' := 15) rfl rfl rfl ?_
  refine w_aloadN O d7_15 (pc' := 16) rfl rfl rfl ?_
  refine w_putf O d7_16 (pc' := 19) rfl (mw 46 rfl) (mw 31 rfl) (Or.inr ⟨(mw 47 rfl), rfl, rfl⟩) h_text_h2 hE_h2 ga (ty := (.object "java/lang/String")) (by decide) rfl rfl (fun h3 Wh3 => ?_)
  have hE_h3 := hE_h2.wr Wh3
  have hK_h3 := hK_h2.wr Wh3 (Or.inl (by simp))
  have h_name_h3 := Fld.other Wh3 h_name_h2 (Or.inr (Jvm.RoadKit.slot_ne (Or.inr (O.2.2.2.2.2.2.2.2.1 _ (mw 43 rfl))) (Or.inr (O.2.2.2.2.2.2.2.2.1 _ (mw 47 rfl))) (by decide) (t := (.object "java/lang/String")) (t' := (.object "java/lang/String")) (by decide) (by decide)))
  have h_nameColumn_h3 := Fld.other Wh3 h_nameColumn_h2 (Or.inr (Jvm.RoadKit.slot_ne (Or.inr (O.2.2.2.2.2.2.2.2.1 _ (mw 45 rfl))) (Or.inr (O.2.2.2.2.2.2.2.2.1 _ (mw 47 rfl))) (by decide) (t := .int) (t' := (.object "java/lang/String")) (by decide) (by decide)))
  have h_text_h3 := Fld.same Wh3 h_text_h2
  have h_textColumn_h3 := Fld.other Wh3 h_textColumn_h2 (Or.inr (Jvm.RoadKit.slot_ne (Or.inr (O.2.2.2.2.2.2.2.2.1 _ (mw 49 rfl))) (Or.inr (O.2.2.2.2.2.2.2.2.1 _ (mw 47 rfl))) (by decide) (t := .int) (t' := (.object "java/lang/String")) (by decide) (by decide)))
  have h_line_h3 := Fld.other Wh3 h_line_h2 (Or.inr (Jvm.RoadKit.slot_ne (Or.inr (O.2.2.2.2.2.2.2.2.1 _ (mw 51 rfl))) (Or.inr (O.2.2.2.2.2.2.2.2.1 _ (mw 47 rfl))) (by decide) (t := .int) (t' := (.object "java/lang/String")) (by decide) (by decide)))
  have h_useLine_h3 := Fld.other Wh3 h_useLine_h2 (Or.inr (Jvm.RoadKit.slot_ne (Or.inr (O.2.2.2.2.2.2.2.2.1 _ (mw 53 rfl))) (Or.inr (O.2.2.2.2.2.2.2.2.1 _ (mw 47 rfl))) (by decide) (t := .int) (t' := (.object "java/lang/String")) (by decide) (by decide)))
  refine w_aloadN O d7_19 (pc' := 20) rfl rfl rfl ?_
  refine w_iload O d7_20 (pc' := 22) rfl rfl ?_
  refine w_putf O d7_22 (pc' := 25) rfl (mw 48 rfl) (mw 31 rfl) (Or.inr ⟨(mw 49 rfl), rfl, rfl⟩) h_textColumn_h3 hE_h3 ga (ty := .int) (by decide) rfl rfl (fun h4 Wh4 => ?_)
  have hE_h4 := hE_h3.wr Wh4
  have hK_h4 := hK_h3.wr Wh4 (Or.inl (by simp))
  have h_name_h4 := Fld.other Wh4 h_name_h3 (Or.inr (Jvm.RoadKit.slot_ne (Or.inr (O.2.2.2.2.2.2.2.2.1 _ (mw 43 rfl))) (Or.inr (O.2.2.2.2.2.2.2.2.1 _ (mw 49 rfl))) (by decide) (t := (.object "java/lang/String")) (t' := .int) (by decide) (by decide)))
  have h_nameColumn_h4 := Fld.other Wh4 h_nameColumn_h3 (Or.inr (Jvm.RoadKit.slot_ne (Or.inr (O.2.2.2.2.2.2.2.2.1 _ (mw 45 rfl))) (Or.inr (O.2.2.2.2.2.2.2.2.1 _ (mw 49 rfl))) (by decide) (t := .int) (t' := .int) (by decide) (by decide)))
  have h_text_h4 := Fld.other Wh4 h_text_h3 (Or.inr (Jvm.RoadKit.slot_ne (Or.inr (O.2.2.2.2.2.2.2.2.1 _ (mw 47 rfl))) (Or.inr (O.2.2.2.2.2.2.2.2.1 _ (mw 49 rfl))) (by decide) (t := (.object "java/lang/String")) (t' := .int) (by decide) (by decide)))
  have h_textColumn_h4 := Fld.same Wh4 h_textColumn_h3
  have h_line_h4 := Fld.other Wh4 h_line_h3 (Or.inr (Jvm.RoadKit.slot_ne (Or.inr (O.2.2.2.2.2.2.2.2.1 _ (mw 51 rfl))) (Or.inr (O.2.2.2.2.2.2.2.2.1 _ (mw 49 rfl))) (by decide) (t := .int) (t' := .int) (by decide) (by decide)))
  have h_useLine_h4 := Fld.other Wh4 h_useLine_h3 (Or.inr (Jvm.RoadKit.slot_ne (Or.inr (O.2.2.2.2.2.2.2.2.1 _ (mw 53 rfl))) (Or.inr (O.2.2.2.2.2.2.2.2.1 _ (mw 49 rfl))) (by decide) (t := .int) (t' := .int) (by decide) (by decide)))
  refine w_aloadN O d7_25 (pc' := 26) rfl rfl rfl ?_
  refine w_iload O d7_26 (pc' := 28) rfl rfl ?_
  refine w_putf O d7_28 (pc' := 31) rfl (mw 50 rfl) (mw 31 rfl) (Or.inr ⟨(mw 51 rfl), rfl, rfl⟩) h_line_h4 hE_h4 ga (ty := .int) (by decide) rfl rfl (fun h5 Wh5 => ?_)
  have hE_h5 := hE_h4.wr Wh5
  have hK_h5 := hK_h4.wr Wh5 (Or.inl (by simp))
  have h_name_h5 := Fld.other Wh5 h_name_h4 (Or.inr (Jvm.RoadKit.slot_ne (Or.inr (O.2.2.2.2.2.2.2.2.1 _ (mw 43 rfl))) (Or.inr (O.2.2.2.2.2.2.2.2.1 _ (mw 51 rfl))) (by decide) (t := (.object "java/lang/String")) (t' := .int) (by decide) (by decide)))
  have h_nameColumn_h5 := Fld.other Wh5 h_nameColumn_h4 (Or.inr (Jvm.RoadKit.slot_ne (Or.inr (O.2.2.2.2.2.2.2.2.1 _ (mw 45 rfl))) (Or.inr (O.2.2.2.2.2.2.2.2.1 _ (mw 51 rfl))) (by decide) (t := .int) (t' := .int) (by decide) (by decide)))
  have h_text_h5 := Fld.other Wh5 h_text_h4 (Or.inr (Jvm.RoadKit.slot_ne (Or.inr (O.2.2.2.2.2.2.2.2.1 _ (mw 47 rfl))) (Or.inr (O.2.2.2.2.2.2.2.2.1 _ (mw 51 rfl))) (by decide) (t := (.object "java/lang/String")) (t' := .int) (by decide) (by decide)))
  have h_textColumn_h5 := Fld.other Wh5 h_textColumn_h4 (Or.inr (Jvm.RoadKit.slot_ne (Or.inr (O.2.2.2.2.2.2.2.2.1 _ (mw 49 rfl))) (Or.inr (O.2.2.2.2.2.2.2.2.1 _ (mw 51 rfl))) (by decide) (t := .int) (t' := .int) (by decide) (by decide)))
  have h_line_h5 := Fld.same Wh5 h_line_h4
  have h_useLine_h5 := Fld.other Wh5 h_useLine_h4 (Or.inr (Jvm.RoadKit.slot_ne (Or.inr (O.2.2.2.2.2.2.2.2.1 _ (mw 53 rfl))) (Or.inr (O.2.2.2.2.2.2.2.2.1 _ (mw 51 rfl))) (by decide) (t := .int) (t' := .int) (by decide) (by decide)))
  refine w_aloadN O d7_31 (pc' := 32) rfl rfl rfl ?_
  refine w_iload O d7_32 (pc' := 34) rfl rfl ?_
  refine w_putf O d7_34 (pc' := 37) rfl (mw 52 rfl) (mw 31 rfl) (Or.inr ⟨(mw 53 rfl), rfl, rfl⟩) h_useLine_h5 hE_h5 ga (ty := .int) (by decide) rfl rfl (fun h6 Wh6 => ?_)
  have hE_h6 := hE_h5.wr Wh6
  have hK_h6 := hK_h5.wr Wh6 (Or.inl (by simp))
  have h_name_h6 := Fld.other Wh6 h_name_h5 (Or.inr (Jvm.RoadKit.slot_ne (Or.inr (O.2.2.2.2.2.2.2.2.1 _ (mw 43 rfl))) (Or.inr (O.2.2.2.2.2.2.2.2.1 _ (mw 53 rfl))) (by decide) (t := (.object "java/lang/String")) (t' := .int) (by decide) (by decide)))
  have h_nameColumn_h6 := Fld.other Wh6 h_nameColumn_h5 (Or.inr (Jvm.RoadKit.slot_ne (Or.inr (O.2.2.2.2.2.2.2.2.1 _ (mw 45 rfl))) (Or.inr (O.2.2.2.2.2.2.2.2.1 _ (mw 53 rfl))) (by decide) (t := .int) (t' := .int) (by decide) (by decide)))
  have h_text_h6 := Fld.other Wh6 h_text_h5 (Or.inr (Jvm.RoadKit.slot_ne (Or.inr (O.2.2.2.2.2.2.2.2.1 _ (mw 47 rfl))) (Or.inr (O.2.2.2.2.2.2.2.2.1 _ (mw 53 rfl))) (by decide) (t := (.object "java/lang/String")) (t' := .int) (by decide) (by decide)))
  have h_textColumn_h6 := Fld.other Wh6 h_textColumn_h5 (Or.inr (Jvm.RoadKit.slot_ne (Or.inr (O.2.2.2.2.2.2.2.2.1 _ (mw 49 rfl))) (Or.inr (O.2.2.2.2.2.2.2.2.1 _ (mw 53 rfl))) (by decide) (t := .int) (t' := .int) (by decide) (by decide)))
  have h_line_h6 := Fld.other Wh6 h_line_h5 (Or.inr (Jvm.RoadKit.slot_ne (Or.inr (O.2.2.2.2.2.2.2.2.1 _ (mw 51 rfl))) (Or.inr (O.2.2.2.2.2.2.2.2.1 _ (mw 53 rfl))) (by decide) (t := .int) (t' := .int) (by decide) (by decide)))
  have h_useLine_h6 := Fld.same Wh6 h_useLine_h5
  refine w_retv O d7_37 (by decide) (by decide) ?_
  exact ⟨rfl, ⟨hE_h6, h_name_h6, h_nameColumn_h6, h_text_h6, h_textColumn_h6, h_line_h6, h_useLine_h6⟩, hK_h6⟩
theorem d9_0 : decode prog_52_method_3_code 0 = .ok (.new 8, 3) := by decide +kernel
theorem d9_3 : decode prog_52_method_3_code 3 = .ok (.dup, 1) := by decide +kernel
theorem d9_4 : decode prog_52_method_3_code 4 = .ok (.aload_n 0, 1) := by decide +kernel
theorem d9_5 : decode prog_52_method_3_code 5 = .ok (.getfield 7, 3) := by decide +kernel
theorem d9_8 : decode prog_52_method_3_code 8 = .ok (.aload_n 0, 1) := by decide +kernel
theorem d9_9 : decode prog_52_method_3_code 9 = .ok (.getfield 13, 3) := by decide +kernel
theorem d9_12 : decode prog_52_method_3_code 12 = .ok (.aload_n 0, 1) := by decide +kernel
theorem d9_13 : decode prog_52_method_3_code 13 = .ok (.getfield 17, 3) := by decide +kernel
theorem d9_16 : decode prog_52_method_3_code 16 = .ok (.aload_n 0, 1) := by decide +kernel
theorem d9_17 : decode prog_52_method_3_code 17 = .ok (.getfield 20, 3) := by decide +kernel
theorem d9_20 : decode prog_52_method_3_code 20 = .ok (.aload_n 0, 1) := by decide +kernel
theorem d9_21 : decode prog_52_method_3_code 21 = .ok (.getfield 23, 3) := by decide +kernel
theorem d9_24 : decode prog_52_method_3_code 24 = .ok (.iload_n 1, 1) := by decide +kernel
theorem d9_25 : decode prog_52_method_3_code 25 = .ok (.invokespecial 29, 3) := by decide +kernel
theorem d9_28 : decode prog_52_method_3_code 28 = .ok (.areturn, 1) := by decide +kernel
theorem pn_9 : plainFor (⟨"com/example/rulewright/rulewright/rules/Declarations$Declaration", "usedAt", "(I)Lcom/example/rulewright/rulewright/rules/Declarations$Declaration;"⟩ : MethodName) = true := plainFor_of_name (by first | (simp [plainName, overriddenIn]; done) | decide +kernel)
theorem pd_1 : parseMethodDescriptor "(Ljava/lang/String;ILjava/lang/String;III)V" = some ⟨[(.object "java/lang/String"), .int, (.object "java/lang/String"), .int, .int, .int], none⟩ := by decide +kernel
set_option maxRecDepth 65536 in
set_option maxHeartbeats 40000000 in
theorem con_ua (l : Launch) (Z : State) (a0 : Array Value) (hw : ∀ d ∈ tables_1, d.before a0 Z = true) (a : Addr) (at_ : Int32) (nm : Addr) (nc : Int32) (tx : Addr) (tc ln ul : Int32) (h0 : Heap) (n0 : Nat) (S : Dc Z h0 a nm nc tx tc ln ul) :
    Con l Z (⟨"com/example/rulewright/rulewright/rules/Declarations$Declaration", "usedAt", "(I)Lcom/example/rulewright/rulewright/rules/Declarations$Declaration;"⟩ : MethodName) prog_52_method_3_code 2 (some (.object "com/example/rulewright/rulewright/rules/Declarations$Declaration")) ⟨3, 1, 6, 44⟩ [(.ref a), (.int at_)] h0 n0 (RetA fun v h => ∃ b, v = .ref b ∧ Dc Z h b nm nc tx tc ln at_ ∧ Keep h0 h []) := by
  refine Con.body (L0 := #[.val (.ref a), .val (.int at_)]) hw pn_9 (fun m => by first | (simp [entryFrame, mkF, argsToLocals, Value.category]; done) | rfl) (fun K O => ?_)
  have hK := Keep.refl h0 []
  refine w_new O d9_0 (cl' := 1) (sl' := 6) (pc' := 3) rfl (mw 59 rfl) (mw 31 rfl) (mw 32 rfl) rfl rfl (by decide) (by decide) (fun h1 b qb g_b Eh1 E_b Db => ?_)
  have ne_a_b : a ≠ b := Nat.ne_of_lt (by rw [qb]; exact S.1.lt)
  have F3_h1 := Exa.ext Eh1 S.1
  have hK_h1 := hK.ext Eh1
  have F4_h1 := Fld.ext Eh1 S.2.1
  have F5_h1 := Fld.ext Eh1 S.2.2.1
  have F6_h1 := Fld.ext Eh1 S.2.2.2.1
  have F7_h1 := Fld.ext Eh1 S.2.2.2.2.1
  have F8_h1 := Fld.ext Eh1 S.2.2.2.2.2.1
  have F9_h1 := Fld.ext Eh1 S.2.2.2.2.2.2
  have F_name_b : Fld Z h1 b "com/example/rulewright/rulewright/rules/Declarations$Declaration" "name" "Ljava/lang/String;" .null := Db (Or.inr (O.2.2.2.2.2.2.2.2.1 _ (mw 43 rfl))) (ty := (.object "java/lang/String")) (by decide)
  have F_nameColumn_b : Fld Z h1 b "com/example/rulewright/rulewright/rules/Declarations$Declaration" "nameColumn" "I" (.int (0 : Int32)) := Db (Or.inr (O.2.2.2.2.2.2.2.2.1 _ (mw 45 rfl))) (ty := .int) (by decide)
  have F_text_b : Fld Z h1 b "com/example/rulewright/rulewright/rules/Declarations$Declaration" "text" "Ljava/lang/String;" .null := Db (Or.inr (O.2.2.2.2.2.2.2.2.1 _ (mw 47 rfl))) (ty := (.object "java/lang/String")) (by decide)
  have F_textColumn_b : Fld Z h1 b "com/example/rulewright/rulewright/rules/Declarations$Declaration" "textColumn" "I" (.int (0 : Int32)) := Db (Or.inr (O.2.2.2.2.2.2.2.2.1 _ (mw 49 rfl))) (ty := .int) (by decide)
  have F_line_b : Fld Z h1 b "com/example/rulewright/rulewright/rules/Declarations$Declaration" "line" "I" (.int (0 : Int32)) := Db (Or.inr (O.2.2.2.2.2.2.2.2.1 _ (mw 51 rfl))) (ty := .int) (by decide)
  have F_useLine_b : Fld Z h1 b "com/example/rulewright/rulewright/rules/Declarations$Declaration" "useLine" "I" (.int (0 : Int32)) := Db (Or.inr (O.2.2.2.2.2.2.2.2.1 _ (mw 53 rfl))) (ty := .int) (by decide)
  have szb : h0.size ≤ b := Nat.le_of_eq qb.symm
  refine w_dup O d9_3 (pc' := 4) rfl rfl ?_
  refine w_aloadN O d9_4 (pc' := 5) rfl rfl rfl ?_
  refine w_getf O d9_5 (pc' := 8) rfl (mw 42 rfl) F4_h1 ?_
  refine w_aloadN O d9_8 (pc' := 9) rfl rfl rfl ?_
  refine w_getf O d9_9 (pc' := 12) rfl (mw 44 rfl) F5_h1 ?_
  refine w_aloadN O d9_12 (pc' := 13) rfl rfl rfl ?_
  refine w_getf O d9_13 (pc' := 16) rfl (mw 46 rfl) F6_h1 ?_
  refine w_aloadN O d9_16 (pc' := 17) rfl rfl rfl ?_
  refine w_getf O d9_17 (pc' := 20) rfl (mw 48 rfl) F7_h1 ?_
  refine w_aloadN O d9_20 (pc' := 21) rfl rfl rfl ?_
  refine w_getf O d9_21 (pc' := 24) rfl (mw 50 rfl) F8_h1 ?_
  refine w_iloadN O d9_24 (pc' := 25) rfl rfl ?_
  refine w_init O d9_25 (as := [(.ref nm), (.int nc), (.ref tx), (.int tc), (.int ln), (.int at_)]) (st := [(.ref b)]) (wt := 1) (cl' := 1) (sl' := 6) (pc' := 28) rfl rfl (mw 60 rfl) (mw 34 rfl) (mw 32 rfl) (mw 35 rfl) (by decide) (con_di l Z a0 hw b nm nc tx tc ln at_ h1 n0 E_b F_name_b F_nameColumn_b F_text_b F_textColumn_b F_line_b F_useLine_b g_b) rfl pd_1 rfl rfl rfl (by decide) (by decide) rfl rfl (by decide) (by decide) (cV fun h10 ⟨Dh10, Kh10⟩ => ?_)
  have F3_h10 := F3_h1.keep Kh10
  have hK_h10 := hK_h1.trans Kh10 (fun x hx => by cases List.mem_singleton.mp hx; exact Or.inr szb)
  have F4_h10 := F4_h1.keep Kh10 (ninS ne_a_b nin0)
  have F5_h10 := F5_h1.keep Kh10 (ninS ne_a_b nin0)
  have F6_h10 := F6_h1.keep Kh10 (ninS ne_a_b nin0)
  have F7_h10 := F7_h1.keep Kh10 (ninS ne_a_b nin0)
  have F8_h10 := F8_h1.keep Kh10 (ninS ne_a_b nin0)
  have F9_h10 := F9_h1.keep Kh10 (ninS ne_a_b nin0)
  refine w_reta O d9_28 rfl rfl rfl (by decide) (by decide) ?_
  exact ⟨_, rfl, rfl, b, rfl, ⟨Dh10.1, Dh10.2.1, Dh10.2.2.1, Dh10.2.2.2.1, Dh10.2.2.2.2.1, Dh10.2.2.2.2.2.1, Dh10.2.2.2.2.2.2⟩, hK_h10⟩
theorem d10_0 : decode prog_52_method_7_code 0 = .ok (.aload_n 0, 1) := by decide +kernel
theorem d10_1 : decode prog_52_method_7_code 1 = .ok (.getfield 7, 3) := by decide +kernel
theorem d10_4 : decode prog_52_method_7_code 4 = .ok (.areturn, 1) := by decide +kernel
theorem pn_10 : plainFor (⟨"com/example/rulewright/rulewright/rules/Declarations$Declaration", "name", "()Ljava/lang/String;"⟩ : MethodName) = true := plainFor_of_name (by first | (simp [plainName, overriddenIn]; done) | decide +kernel)
set_option maxRecDepth 65536 in
set_option maxHeartbeats 40000000 in
theorem con_name (l : Launch) (Z : State) (a0 : Array Value) (hw : ∀ d ∈ tables_1, d.before a0 Z = true) (a : Addr) (x : Addr) (h0 : Heap) (n0 : Nat) (F : Fld Z h0 a "com/example/rulewright/rulewright/rules/Declarations$Declaration" "name" "Ljava/lang/String;" (.ref x)) :
    Con l Z (⟨"com/example/rulewright/rulewright/rules/Declarations$Declaration", "name", "()Ljava/lang/String;"⟩ : MethodName) prog_52_method_7_code 1 (some (.object "java/lang/String")) ⟨0, 0, 0, 0⟩ [(.ref a)] h0 n0 (RetA fun v h => h = h0 ∧ v = .ref x) := by
  refine Con.body (L0 := #[.val (.ref a)]) hw pn_10 (fun m => by first | (simp [entryFrame, mkF, argsToLocals, Value.category]; done) | rfl) (fun K O => ?_)
  refine w_aloadN O d10_0 (pc' := 1) rfl rfl rfl ?_
  refine w_getf O d10_1 (pc' := 4) rfl (mw 42 rfl) F ?_
  refine w_reta O d10_4 rfl rfl rfl (by decide) (by decide) ?_
  exact ⟨_, rfl, rfl, rfl, rfl⟩
theorem d12_0 : decode prog_52_method_8_code 0 = .ok (.aload_n 0, 1) := by decide +kernel
theorem d12_1 : decode prog_52_method_8_code 1 = .ok (.getfield 13, 3) := by decide +kernel
theorem d12_4 : decode prog_52_method_8_code 4 = .ok (.ireturn, 1) := by decide +kernel
theorem pn_12 : plainFor (⟨"com/example/rulewright/rulewright/rules/Declarations$Declaration", "nameColumn", "()I"⟩ : MethodName) = true := plainFor_of_name (by first | (simp [plainName, overriddenIn]; done) | decide +kernel)
set_option maxRecDepth 65536 in
set_option maxHeartbeats 40000000 in
theorem con_nameColumn (l : Launch) (Z : State) (a0 : Array Value) (hw : ∀ d ∈ tables_1, d.before a0 Z = true) (a : Addr) (x : Int32) (h0 : Heap) (n0 : Nat) (F : Fld Z h0 a "com/example/rulewright/rulewright/rules/Declarations$Declaration" "nameColumn" "I" (.int x)) :
    Con l Z (⟨"com/example/rulewright/rulewright/rules/Declarations$Declaration", "nameColumn", "()I"⟩ : MethodName) prog_52_method_8_code 1 (some .int) ⟨0, 0, 0, 0⟩ [(.ref a)] h0 n0 (RetI fun r h => h = h0 ∧ r = x) := by
  refine Con.body (L0 := #[.val (.ref a)]) hw pn_12 (fun m => by first | (simp [entryFrame, mkF, argsToLocals, Value.category]; done) | rfl) (fun K O => ?_)
  refine w_aloadN O d12_0 (pc' := 1) rfl rfl rfl ?_
  refine w_getf O d12_1 (pc' := 4) rfl (mw 44 rfl) F ?_
  refine w_reti O d12_4 (by decide) (by decide) ?_
  exact ⟨_, rfl, rfl, rfl⟩
theorem d13_0 : decode prog_52_method_9_code 0 = .ok (.aload_n 0, 1) := by decide +kernel
theorem d13_1 : decode prog_52_method_9_code 1 = .ok (.getfield 17, 3) := by decide +kernel
theorem d13_4 : decode prog_52_method_9_code 4 = .ok (.areturn, 1) := by decide +kernel
theorem pn_13 : plainFor (⟨"com/example/rulewright/rulewright/rules/Declarations$Declaration", "text", "()Ljava/lang/String;"⟩ : MethodName) = true := plainFor_of_name (by first | (simp [plainName, overriddenIn]; done) | decide +kernel)
set_option maxRecDepth 65536 in
set_option maxHeartbeats 40000000 in
theorem con_text (l : Launch) (Z : State) (a0 : Array Value) (hw : ∀ d ∈ tables_1, d.before a0 Z = true) (a : Addr) (x : Addr) (h0 : Heap) (n0 : Nat) (F : Fld Z h0 a "com/example/rulewright/rulewright/rules/Declarations$Declaration" "text" "Ljava/lang/String;" (.ref x)) :
    Con l Z (⟨"com/example/rulewright/rulewright/rules/Declarations$Declaration", "text", "()Ljava/lang/String;"⟩ : MethodName) prog_52_method_9_code 1 (some (.object "java/lang/String")) ⟨0, 0, 0, 0⟩ [(.ref a)] h0 n0 (RetA fun v h => h = h0 ∧ v = .ref x) := by
  refine Con.body (L0 := #[.val (.ref a)]) hw pn_13 (fun m => by first | (simp [entryFrame, mkF, argsToLocals, Value.category]; done) | rfl) (fun K O => ?_)
  refine w_aloadN O d13_0 (pc' := 1) rfl rfl rfl ?_
  refine w_getf O d13_1 (pc' := 4) rfl (mw 46 rfl) F ?_
  refine w_reta O d13_4 rfl rfl rfl (by decide) (by decide) ?_
  exact ⟨_, rfl, rfl, rfl, rfl⟩
theorem d14_0 : decode prog_52_method_10_code 0 = .ok (.aload_n 0, 1) := by decide +kernel
theorem d14_1 : decode prog_52_method_10_code 1 = .ok (.getfield 20, 3) := by decide +kernel
theorem d14_4 : decode prog_52_method_10_code 4 = .ok (.ireturn, 1) := by decide +kernel
theorem pn_14 : plainFor (⟨"com/example/rulewright/rulewright/rules/Declarations$Declaration", "textColumn", "()I"⟩ : MethodName) = true := plainFor_of_name (by first | (simp [plainName, overriddenIn]; done) | decide +kernel)
set_option maxRecDepth 65536 in
set_option maxHeartbeats 40000000 in
theorem con_textColumn (l : Launch) (Z : State) (a0 : Array Value) (hw : ∀ d ∈ tables_1, d.before a0 Z = true) (a : Addr) (x : Int32) (h0 : Heap) (n0 : Nat) (F : Fld Z h0 a "com/example/rulewright/rulewright/rules/Declarations$Declaration" "textColumn" "I" (.int x)) :
    Con l Z (⟨"com/example/rulewright/rulewright/rules/Declarations$Declaration", "textColumn", "()I"⟩ : MethodName) prog_52_method_10_code 1 (some .int) ⟨0, 0, 0, 0⟩ [(.ref a)] h0 n0 (RetI fun r h => h = h0 ∧ r = x) := by
  refine Con.body (L0 := #[.val (.ref a)]) hw pn_14 (fun m => by first | (simp [entryFrame, mkF, argsToLocals, Value.category]; done) | rfl) (fun K O => ?_)
  refine w_aloadN O d14_0 (pc' := 1) rfl rfl rfl ?_
  refine w_getf O d14_1 (pc' := 4) rfl (mw 48 rfl) F ?_
  refine w_reti O d14_4 (by decide) (by decide) ?_
  exact ⟨_, rfl, rfl, rfl⟩
theorem d15_0 : decode prog_52_method_11_code 0 = .ok (.aload_n 0, 1) := by decide +kernel
theorem d15_1 : decode prog_52_method_11_code 1 = .ok (.getfield 23, 3) := by decide +kernel
theorem d15_4 : decode prog_52_method_11_code 4 = .ok (.ireturn, 1) := by decide +kernel
theorem pn_15 : plainFor (⟨"com/example/rulewright/rulewright/rules/Declarations$Declaration", "line", "()I"⟩ : MethodName) = true := plainFor_of_name (by first | (simp [plainName, overriddenIn]; done) | decide +kernel)
set_option maxRecDepth 65536 in
set_option maxHeartbeats 40000000 in
theorem con_line (l : Launch) (Z : State) (a0 : Array Value) (hw : ∀ d ∈ tables_1, d.before a0 Z = true) (a : Addr) (x : Int32) (h0 : Heap) (n0 : Nat) (F : Fld Z h0 a "com/example/rulewright/rulewright/rules/Declarations$Declaration" "line" "I" (.int x)) :
    Con l Z (⟨"com/example/rulewright/rulewright/rules/Declarations$Declaration", "line", "()I"⟩ : MethodName) prog_52_method_11_code 1 (some .int) ⟨0, 0, 0, 0⟩ [(.ref a)] h0 n0 (RetI fun r h => h = h0 ∧ r = x) := by
  refine Con.body (L0 := #[.val (.ref a)]) hw pn_15 (fun m => by first | (simp [entryFrame, mkF, argsToLocals, Value.category]; done) | rfl) (fun K O => ?_)
  refine w_aloadN O d15_0 (pc' := 1) rfl rfl rfl ?_
  refine w_getf O d15_1 (pc' := 4) rfl (mw 50 rfl) F ?_
  refine w_reti O d15_4 (by decide) (by decide) ?_
  exact ⟨_, rfl, rfl, rfl⟩
theorem d16_0 : decode prog_52_method_12_code 0 = .ok (.aload_n 0, 1) := by decide +kernel
theorem d16_1 : decode prog_52_method_12_code 1 = .ok (.getfield 26, 3) := by decide +kernel
theorem d16_4 : decode prog_52_method_12_code 4 = .ok (.ireturn, 1) := by decide +kernel
theorem pn_16 : plainFor (⟨"com/example/rulewright/rulewright/rules/Declarations$Declaration", "useLine", "()I"⟩ : MethodName) = true := plainFor_of_name (by first | (simp [plainName, overriddenIn]; done) | decide +kernel)
set_option maxRecDepth 65536 in
set_option maxHeartbeats 40000000 in
theorem con_useLine (l : Launch) (Z : State) (a0 : Array Value) (hw : ∀ d ∈ tables_1, d.before a0 Z = true) (a : Addr) (x : Int32) (h0 : Heap) (n0 : Nat) (F : Fld Z h0 a "com/example/rulewright/rulewright/rules/Declarations$Declaration" "useLine" "I" (.int x)) :
    Con l Z (⟨"com/example/rulewright/rulewright/rules/Declarations$Declaration", "useLine", "()I"⟩ : MethodName) prog_52_method_12_code 1 (some .int) ⟨0, 0, 0, 0⟩ [(.ref a)] h0 n0 (RetI fun r h => h = h0 ∧ r = x) := by
  refine Con.body (L0 := #[.val (.ref a)]) hw pn_16 (fun m => by first | (simp [entryFrame, mkF, argsToLocals, Value.category]; done) | rfl) (fun K O => ?_)
  refine w_aloadN O d16_0 (pc' := 1) rfl rfl rfl ?_
  refine w_getf O d16_1 (pc' := 4) rfl (mw 52 rfl) F ?_
  refine w_reti O d16_4 (by decide) (by decide) ?_
  exact ⟨_, rfl, rfl, rfl⟩
theorem d11_0 : decode jdk_42_method_66_code 0 = .ok (.aload_n 0, 1) := by decide +kernel
theorem d11_1 : decode jdk_42_method_66_code 1 = .ok (.aload_n 1, 1) := by decide +kernel
theorem d11_2 : decode jdk_42_method_66_code 2 = .ok (.if_acmp .ne 5, 3) := by decide +kernel
theorem d11_5 : decode jdk_42_method_66_code 5 = .ok (.iconst 1, 1) := by decide +kernel
theorem d11_6 : decode jdk_42_method_66_code 6 = .ok (.ireturn, 1) := by decide +kernel
theorem d11_7 : decode jdk_42_method_66_code 7 = .ok (.aload_n 1, 1) := by decide +kernel
theorem d11_8 : decode jdk_42_method_66_code 8 = .ok (.instanceof 10, 3) := by decide +kernel
theorem d11_11 : decode jdk_42_method_66_code 11 = .ok (.ifCond .eq 43, 3) := by decide +kernel
theorem d11_14 : decode jdk_42_method_66_code 14 = .ok (.aload_n 1, 1) := by decide +kernel
theorem d11_15 : decode jdk_42_method_66_code 15 = .ok (.checkcast 10, 3) := by decide +kernel
theorem d11_18 : decode jdk_42_method_66_code 18 = .ok (.astore_n 2, 1) := by decide +kernel
theorem d11_19 : decode jdk_42_method_66_code 19 = .ok (.getstatic 38, 3) := by decide +kernel
theorem d11_22 : decode jdk_42_method_66_code 22 = .ok (.ifCond .eq 14, 3) := by decide +kernel
theorem d11_25 : decode jdk_42_method_66_code 25 = .ok (.aload_n 0, 1) := by decide +kernel
theorem d11_26 : decode jdk_42_method_66_code 26 = .ok (.getfield 15, 3) := by decide +kernel
theorem d11_29 : decode jdk_42_method_66_code 29 = .ok (.aload_n 2, 1) := by decide +kernel
theorem d11_30 : decode jdk_42_method_66_code 30 = .ok (.getfield 15, 3) := by decide +kernel
theorem d11_33 : decode jdk_42_method_66_code 33 = .ok (.if_icmp .ne 21, 3) := by decide +kernel
theorem d11_36 : decode jdk_42_method_66_code 36 = .ok (.aload_n 0, 1) := by decide +kernel
theorem d11_37 : decode jdk_42_method_66_code 37 = .ok (.getfield 9, 3) := by decide +kernel
theorem d11_40 : decode jdk_42_method_66_code 40 = .ok (.aload_n 2, 1) := by decide +kernel
theorem d11_41 : decode jdk_42_method_66_code 41 = .ok (.getfield 9, 3) := by decide +kernel
theorem d11_44 : decode jdk_42_method_66_code 44 = .ok (.invokestatic 541, 3) := by decide +kernel
theorem d11_47 : decode jdk_42_method_66_code 47 = .ok (.ifCond .eq 7, 3) := by decide +kernel
theorem d11_50 : decode jdk_42_method_66_code 50 = .ok (.iconst 1, 1) := by decide +kernel
theorem d11_51 : decode jdk_42_method_66_code 51 = .ok (.goto 4, 3) := by decide +kernel
theorem d11_54 : decode jdk_42_method_66_code 54 = .ok (.iconst 0, 1) := by decide +kernel
theorem d11_55 : decode jdk_42_method_66_code 55 = .ok (.ireturn, 1) := by decide +kernel
theorem pn_11 : plainFor (⟨"java/lang/String", "equals", "(Ljava/lang/Object;)Z"⟩ : MethodName) = true := plainFor_of_name (by first | (simp [plainName, overriddenIn]; done) | decide +kernel)
set_option maxRecDepth 65536 in
set_option maxHeartbeats 40000000 in
theorem con_eq (l : Launch) (Z : State) (a0 : Array Value) (hw : ∀ d ∈ tables_1, d.before a0 Z = true) (a : Addr) (h0 : Heap) (n0 : Nat)  :
    Con l Z (⟨"java/lang/String", "equals", "(Ljava/lang/Object;)Z"⟩ : MethodName) jdk_42_method_66_code 3 (some .boolean) ⟨0, 0, 0, 0⟩ [(.ref a), (.ref a)] h0 n0 (RetI fun r h => h = h0 ∧ r = 1) := by
  refine Con.body (L0 := #[.val (.ref a), .val (.ref a), .unset]) hw pn_11 (fun m => by first | (simp [entryFrame, mkF, argsToLocals, Value.category]; done) | rfl) (fun K O => ?_)
  refine w_aloadN O d11_0 (pc' := 1) rfl rfl rfl ?_
  refine w_aloadN O d11_1 (pc' := 2) rfl rfl rfl ?_
  refine w_acmp_ne O d11_2 rfl rfl (pn := 5) (pt := 7) rfl (by decide) rfl (fun q => absurd rfl q) (fun _ => ?_)
  refine w_iconst O d11_5 (z := (1 : Int32)) (pc' := 6) rfl rfl ?_
  refine w_retz O d11_6 (by decide) (by decide) (Or.inr rfl) ?_
  exact ⟨_, rfl, rfl, rfl⟩
theorem own_ch (x : Int32) : ¬ (nar .char ((x &&& (255 : Int32)).toUInt32.toUInt16.toUInt32.toInt32)) < 0 ∧ ¬ (255 : Int32) < (nar .char ((x &&& (255 : Int32)).toUInt32.toUInt16.toUInt32.toInt32)) := by
  rw [show nar .char ((x &&& (255 : Int32)).toUInt32.toUInt16.toUInt32.toInt32) = x &&& 255 from by simp only [nar, i2c_mask]]
  have a : (x &&& (255 : Int32)).toInt = x.toInt % 256 := c_mask x (255 : Int32) 8 (by decide) (by decide)
  have e0 : (0 : Int32).toInt = 0 := by decide
  have e1 : (255 : Int32).toInt = 255 := by decide
  exact ⟨by rw [Int32.lt_iff_toInt_lt]; omega, by rw [Int32.lt_iff_toInt_lt]; omega⟩
theorem own_stakeep {Z : State} {h h' : Heap} {C n d : String} {v : Value} {x : Addr} (F : Sta Z h C n d v) (Kp : Keep h h' [x]) (q : ∀ st c, h[st]? = some c → c.vm.isStatics = true → st ≠ x) : Sta Z h' C n d v := by
  obtain ⟨cf, i, k, f, st, cell, h1, h2, h3, h4, h5, h6, h7⟩ := F
  exact ⟨cf, i, k, f, st, cell, h1, h2, h3, h4, Kp.2.1 st cell h5 (ninS (q st cell h5 h6) nin0), h6, h7⟩
theorem ninS_sta {Z : State} {h : Heap} {C n d K : String} {v : Value} {x : Addr} (F : Sta Z h C n d v) (E : Exa Z h x K) : ∀ st c, h[st]? = some c → c.vm.isStatics = true → st ≠ x := fun st c hc hs e => by
  subst e
  obtain ⟨cell, k, g1, -, -, g4, -⟩ := E
  cases hc.symm.trans g1
  rw [hs] at g4; cases g4
theorem pn_0 : plainFor x = true := plainFor_of_name (by first | (simp [plainName, overriddenIn]; done) | decide +kernel)
theorem pd_2 : parseMethodDescriptor "([C)V" = some ⟨[(.array .char)], none⟩ := by decide +kernel
theorem pd_3 : parseMethodDescriptor "(I)Lcom/example/rulewright/rulewright/rules/Declarations$Declaration;" = some ⟨[.int], some (.object "com/example/rulewright/rulewright/rules/Declarations$Declaration")⟩ := by decide +kernel
theorem pd_4 : parseMethodDescriptor "()Ljava/lang/String;" = some ⟨[], some (.object "java/lang/String")⟩ := by decide +kernel
theorem pd_5 : parseMethodDescriptor "(Ljava/lang/Object;)Z" = some ⟨[(.object "java/lang/Object")], some .boolean⟩ := by decide +kernel
theorem pd_6 : parseMethodDescriptor "()I" = some ⟨[], some .int⟩ := by decide +kernel
set_option maxRecDepth 65536 in
set_option maxHeartbeats 40000000 in
theorem law_con (l : Launch) (Z : State) (a0 : Array Value) (hw : ∀ d ∈ tables_1, d.before a0 Z = true) (u0 u1 u2 u3 u4 u5 z0 : Int32) (h0 : Heap) (n0 : Nat) (SC : Sta Z h0 "java/lang/String" "COMPACT_STRINGS" "Z" (.int z0)) (hz0 : ¬ z0 = 0) :
    Con l Z x code maxLocals ret room_1 [(.int u0), (.int u1), (.int u2), (.int u3), (.int u4), (.int u5)] h0 n0 (RetI fun r _ => r = 1) := by
  refine Con.body (L0 := #[.val (.int u0), .val (.int u1), .val (.int u2), .val (.int u3), .val (.int u4), .val (.int u5), .unset, .unset, .unset, .unset, .unset, .unset, .unset, .unset, .unset, .unset, .unset, .unset]) hw pn_0 (fun m => by first | (simp [entryFrame, mkF, argsToLocals, Value.category, maxLocals]; done) | rfl) (fun K O => ?_)
  replace O : Ok K l Z a0 tables_1 code 18 (some .boolean) "com/example/rulewright/rulewright/rules/DeclarationUsedAtPinLaw" "law" room_1 n0 _ := O
  have hws : ∀ d ∈ StrChars.Road.words, d.before a0 Z = true := fun d hd => hw d ((by decide +kernel : ∀ d ∈ StrChars.Road.words, d ∈ tables_1) d hd)
  refine w_iconst O at_0 (z := (2 : Int32)) (pc' := 1) rfl rfl ?_
  refine w_newarr O at_1 (ty := .char) (dv := (.int (0 : Int32))) (n := 2) (cap := 2) (cl' := 1) (sl' := 2) (pc' := 3) rfl rfl rfl (mw 0 rfl) (by decide) (by decide) (by decide) rfl rfl (by decide) (by decide) (fun h1 ca qca g_ca Eh1 A_ca => ?_)
  have SC_h1 := Sta.ext Eh1 SC
  refine w_dup O at_3 (pc' := 4) rfl rfl ?_
  refine w_iconst O at_4 (z := (0 : Int32)) (pc' := 5) rfl rfl ?_
  refine w_iloadN O at_5 (pc' := 6) rfl rfl ?_
  refine w_sipush O at_6 (z := (255 : Int32)) (pc' := 9) rfl rfl ?_
  refine w_iand O at_9 (pc' := 10) rfl ?_
  refine w_i2c O at_10 (pc' := 11) rfl ?_
  refine w_castore O at_11 (i := 0) (pc' := 12) rfl A_ca (by decide) (by decide) g_ca (fun h3 Wh3 => ?_)
  have SC_h3 := SC_h1.wr Wh3
  have A_ca_h3 := A_ca.set Wh3
  refine w_dup O at_12 (pc' := 13) rfl rfl ?_
  refine w_iconst O at_13 (z := (1 : Int32)) (pc' := 14) rfl rfl ?_
  refine w_iloadN O at_14 (pc' := 15) rfl rfl ?_
  refine w_bipush O at_15 (z := (8 : Int32)) (pc' := 17) rfl rfl ?_
  refine w_iushr O at_17 (pc' := 18) rfl ?_
  refine w_sipush O at_18 (z := (255 : Int32)) (pc' := 21) rfl rfl ?_
  refine w_iand O at_21 (pc' := 22) rfl ?_
  refine w_i2c O at_22 (pc' := 23) rfl ?_
  refine w_castore O at_23 (i := 1) (pc' := 24) rfl A_ca_h3 (by decide) (by decide) g_ca (fun h4 Wh4 => ?_)
  have SC_h4 := SC_h3.wr Wh4
  have A_ca_h4 := A_ca_h3.set Wh4
  refine w_astore O at_24 (L' := #[.val (.int u0), .val (.int u1), .val (.int u2), .val (.int u3), .val (.int u4), .val (.int u5), .val (.ref ca), .unset, .unset, .unset, .unset, .unset, .unset, .unset, .unset, .unset, .unset, .unset]) (pc' := 26) rfl rfl rfl ?_
  refine w_iconst O at_26 (z := (2 : Int32)) (pc' := 27) rfl rfl ?_
  refine w_newarr O at_27 (ty := .char) (dv := (.int (0 : Int32))) (n := 2) (cap := 2) (cl' := 2) (sl' := 4) (pc' := 29) rfl rfl rfl (mw 0 rfl) (by decide) (by decide) (by decide) rfl rfl (by decide) (by decide) (fun h5 cb qcb g_cb Eh5 A_cb => ?_)
  have ne_ca_cb : ca ≠ cb := Nat.ne_of_lt (by rw [qcb]; exact A_ca_h4.lt)
  have SC_h5 := Sta.ext Eh5 SC_h4
  have A_ca_h5 := A_ca_h4.ext Eh5
  refine w_dup O at_29 (pc' := 30) rfl rfl ?_
  refine w_iconst O at_30 (z := (0 : Int32)) (pc' := 31) rfl rfl ?_
  refine w_iloadN O at_31 (pc' := 32) rfl rfl ?_
  refine w_bipush O at_32 (z := (16 : Int32)) (pc' := 34) rfl rfl ?_
  refine w_iushr O at_34 (pc' := 35) rfl ?_
  refine w_sipush O at_35 (z := (255 : Int32)) (pc' := 38) rfl rfl ?_
  refine w_iand O at_38 (pc' := 39) rfl ?_
  refine w_i2c O at_39 (pc' := 40) rfl ?_
  refine w_castore O at_40 (i := 0) (pc' := 41) rfl A_cb (by decide) (by decide) g_cb (fun h7 Wh7 => ?_)
  have SC_h7 := SC_h5.wr Wh7
  have A_ca_h7 := A_ca_h5.other Wh7 ne_ca_cb
  have A_cb_h7 := A_cb.set Wh7
  refine w_dup O at_41 (pc' := 42) rfl rfl ?_
  refine w_iconst O at_42 (z := (1 : Int32)) (pc' := 43) rfl rfl ?_
  refine w_iloadN O at_43 (pc' := 44) rfl rfl ?_
  refine w_bipush O at_44 (z := (24 : Int32)) (pc' := 46) rfl rfl ?_
  refine w_iushr O at_46 (pc' := 47) rfl ?_
  refine w_sipush O at_47 (z := (255 : Int32)) (pc' := 50) rfl rfl ?_
  refine w_iand O at_50 (pc' := 51) rfl ?_
  refine w_i2c O at_51 (pc' := 52) rfl ?_
  refine w_castore O at_52 (i := 1) (pc' := 53) rfl A_cb_h7 (by decide) (by decide) g_cb (fun h8 Wh8 => ?_)
  have SC_h8 := SC_h7.wr Wh8
  have A_ca_h8 := A_ca_h7.other Wh8 ne_ca_cb
  have A_cb_h8 := A_cb_h7.set Wh8
  refine w_astore O at_53 (L' := #[.val (.int u0), .val (.int u1), .val (.int u2), .val (.int u3), .val (.int u4), .val (.int u5), .val (.ref ca), .val (.ref cb), .unset, .unset, .unset, .unset, .unset, .unset, .unset, .unset, .unset, .unset]) (pc' := 55) rfl rfl rfl ?_
  refine w_new O at_55 (cl' := 3) (sl' := 8) (pc' := 58) rfl (mw 1 rfl) (mw 2 rfl) (mw 3 rfl) rfl rfl (by decide) (by decide) (fun h9 s1 qs1 g_s1 Eh9 E_s1 Ds1 => ?_)
  have ne_ca_s1 : ca ≠ s1 := Nat.ne_of_lt (by rw [qs1]; exact A_ca_h8.lt)
  have ne_cb_s1 : cb ≠ s1 := Nat.ne_of_lt (by rw [qs1]; exact A_cb_h8.lt)
  have SC_h9 := Sta.ext Eh9 SC_h8
  have A_ca_h9 := A_ca_h8.ext Eh9
  have A_cb_h9 := A_cb_h8.ext Eh9
  have F_coder_s1 : Fld Z h9 s1 "java/lang/String" "coder" "B" (.int (0 : Int32)) := Ds1 (Or.inr (O.2.2.2.2.2.2.2.2.1 _ (mw 27 rfl))) (ty := .byte) (by decide)
  have F_value_s1 : Fld Z h9 s1 "java/lang/String" "value" "[B" .null := Ds1 (Or.inr (O.2.2.2.2.2.2.2.2.1 _ (mw 29 rfl))) (ty := (.array .byte)) (by decide)
  refine w_dup O at_58 (pc' := 59) rfl rfl ?_
  refine w_aload O at_59 (pc' := 61) rfl rfl rfl ?_
  obtain ⟨kAh11, Vh11⟩ := Afn.arv (N := (2 : Int32)) (vs := ([(nar .char ((u0 &&& (255 : Int32)).toUInt32.toUInt16.toUInt32.toInt32)), (nar .char ((((u0.toUInt32 >>> ((8 : Int32) &&& 31).toUInt32).toInt32) &&& (255 : Int32)).toUInt32.toUInt16.toUInt32.toInt32))].map Value.int)) (d := .int 0) A_ca_h9 (by decide) (fun i hi => by have hi' : i = 0 ∨ i = 1 := (by omega); rcases hi' with rfl | rfl <;> rfl) (fun i hi => by have hi' : i = 0 ∨ i = 1 := (by omega); rcases hi' with rfl | rfl <;> exact fits_nar_char _)
  have hch11 : ∀ c ∈ [(nar .char ((u0 &&& (255 : Int32)).toUInt32.toUInt16.toUInt32.toInt32)), (nar .char ((((u0.toUInt32 >>> ((8 : Int32) &&& 31).toUInt32).toInt32) &&& (255 : Int32)).toUInt32.toUInt16.toUInt32.toInt32))], ¬ c < 0 ∧ ¬ (255 : Int32) < c := by
    intro c hc
    simp only [List.mem_cons, List.not_mem_nil, or_false] at hc
    rcases hc with rfl | rfl <;> exact own_ch _
  refine w_initB O at_61 (as := [(.ref ca)]) (st := [(.ref s1)]) (wt := 1) (rc := 1) (rs := 2) (cl' := 4) (sl' := 10) (Qc := StrChars.Road.QV Z s1 (2 : Int32) ([(nar .char ((u0 &&& (255 : Int32)).toUInt32.toUInt16.toUInt32.toInt32)), (nar .char ((((u0.toUInt32 >>> ((8 : Int32) &&& 31).toUInt32).toInt32) &&& (255 : Int32)).toUInt32.toUInt16.toUInt32.toInt32))].map fun c => c.toInt8.toInt32) h9 n0) (pc' := 64) rfl rfl (mw 4 rfl) (mw 5 rfl) (mw 6 rfl) (by decide) (fun hn1 p e below s args hZ => StrChars.Road.backV (W := 1) hZ hws (kI := 4) (hw _ (mw 2 rfl)) g_s1 hn1 E_s1 F_value_s1 F_coder_s1 Vh11 SC_h9 hz0 rfl rfl (by decide) (by decide) hch11 rfl (by decide) (by decide)) (fun _ _ _ q => q.2.1) rfl pd_2 rfl rfl rfl rfl rfl (by decide) (by decide) ?_
  rintro _ h11 Lsh11 ⟨rfl, -, Kh11, Eh11, -⟩
  have SC_h11 := own_stakeep SC_h9 Kh11 (ninS_sta SC_h9 E_s1)
  have A_ca_h11 := A_ca_h9.keep Kh11 (ninS ne_ca_s1 nin0)
  have A_cb_h11 := A_cb_h9.keep Kh11 (ninS ne_cb_s1 nin0)
  refine w_astore O at_64 (L' := #[.val (.int u0), .val (.int u1), .val (.int u2), .val (.int u3), .val (.int u4), .val (.int u5), .val (.ref ca), .val (.ref cb), .val (.ref s1), .unset, .unset, .unset, .unset, .unset, .unset, .unset, .unset, .unset]) (pc' := 66) rfl rfl rfl ?_
  refine w_new O at_66 (cl' := 5) (sl' := 14) (pc' := 69) rfl (mw 1 rfl) (mw 2 rfl) (mw 3 rfl) rfl rfl (by decide) (by decide) (fun h12 s2 qs2 g_s2 Eh12 E_s2 Ds2 => ?_)
  have ne_ca_s2 : ca ≠ s2 := Nat.ne_of_lt (by rw [qs2]; exact A_ca_h11.lt)
  have ne_cb_s2 : cb ≠ s2 := Nat.ne_of_lt (by rw [qs2]; exact A_cb_h11.lt)
  have ne_s1_s2 : s1 ≠ s2 := Nat.ne_of_lt (by rw [qs2]; exact Eh11.lt)
  have SC_h12 := Sta.ext Eh12 SC_h11
  have A_ca_h12 := A_ca_h11.ext Eh12
  have A_cb_h12 := A_cb_h11.ext Eh12
  have Eh11_h12 := Exa.ext Eh12 Eh11
  have F_coder_s2 : Fld Z h12 s2 "java/lang/String" "coder" "B" (.int (0 : Int32)) := Ds2 (Or.inr (O.2.2.2.2.2.2.2.2.1 _ (mw 27 rfl))) (ty := .byte) (by decide)
  have F_value_s2 : Fld Z h12 s2 "java/lang/String" "value" "[B" .null := Ds2 (Or.inr (O.2.2.2.2.2.2.2.2.1 _ (mw 29 rfl))) (ty := (.array .byte)) (by decide)
  refine w_dup O at_69 (pc' := 70) rfl rfl ?_
  refine w_aload O at_70 (pc' := 72) rfl rfl rfl ?_
  obtain ⟨kAh14, Vh14⟩ := Afn.arv (N := (2 : Int32)) (vs := ([(nar .char ((((u0.toUInt32 >>> ((16 : Int32) &&& 31).toUInt32).toInt32) &&& (255 : Int32)).toUInt32.toUInt16.toUInt32.toInt32)), (nar .char ((((u0.toUInt32 >>> ((24 : Int32) &&& 31).toUInt32).toInt32) &&& (255 : Int32)).toUInt32.toUInt16.toUInt32.toInt32))].map Value.int)) (d := .int 0) A_cb_h12 (by decide) (fun i hi => by have hi' : i = 0 ∨ i = 1 := (by omega); rcases hi' with rfl | rfl <;> rfl) (fun i hi => by have hi' : i = 0 ∨ i = 1 := (by omega); rcases hi' with rfl | rfl <;> exact fits_nar_char _)
  have hch14 : ∀ c ∈ [(nar .char ((((u0.toUInt32 >>> ((16 : Int32) &&& 31).toUInt32).toInt32) &&& (255 : Int32)).toUInt32.toUInt16.toUInt32.toInt32)), (nar .char ((((u0.toUInt32 >>> ((24 : Int32) &&& 31).toUInt32).toInt32) &&& (255 : Int32)).toUInt32.toUInt16.toUInt32.toInt32))], ¬ c < 0 ∧ ¬ (255 : Int32) < c := by
    intro c hc
    simp only [List.mem_cons, List.not_mem_nil, or_false] at hc
    rcases hc with rfl | rfl <;> exact own_ch _
  refine w_initB O at_72 (as := [(.ref cb)]) (st := [(.ref s2)]) (wt := 1) (rc := 1) (rs := 2) (cl' := 6) (sl' := 16) (Qc := StrChars.Road.QV Z s2 (2 : Int32) ([(nar .char ((((u0.toUInt32 >>> ((16 : Int32) &&& 31).toUInt32).toInt32) &&& (255 : Int32)).toUInt32.toUInt16.toUInt32.toInt32)), (nar .char ((((u0.toUInt32 >>> ((24 : Int32) &&& 31).toUInt32).toInt32) &&& (255 : Int32)).toUInt32.toUInt16.toUInt32.toInt32))].map fun c => c.toInt8.toInt32) h12 n0) (pc' := 75) rfl rfl (mw 4 rfl) (mw 5 rfl) (mw 6 rfl) (by decide) (fun hn1 p e below s args hZ => StrChars.Road.backV (W := 1) hZ hws (kI := 4) (hw _ (mw 2 rfl)) g_s2 hn1 E_s2 F_value_s2 F_coder_s2 Vh14 SC_h12 hz0 rfl rfl (by decide) (by decide) hch14 rfl (by decide) (by decide)) (fun _ _ _ q => q.2.1) rfl pd_2 rfl rfl rfl rfl rfl (by decide) (by decide) ?_
  rintro _ h14 Lsh14 ⟨rfl, -, Kh14, Eh14, -⟩
  have SC_h14 := own_stakeep SC_h12 Kh14 (ninS_sta SC_h12 E_s2)
  have A_ca_h14 := A_ca_h12.keep Kh14 (ninS ne_ca_s2 nin0)
  have A_cb_h14 := A_cb_h12.keep Kh14 (ninS ne_cb_s2 nin0)
  have Eh11_h14 := Eh11_h12.keep Kh14
  refine w_astore O at_75 (L' := #[.val (.int u0), .val (.int u1), .val (.int u2), .val (.int u3), .val (.int u4), .val (.int u5), .val (.ref ca), .val (.ref cb), .val (.ref s1), .val (.ref s2), .unset, .unset, .unset, .unset, .unset, .unset, .unset, .unset]) (pc' := 77) rfl rfl rfl ?_
  refine w_new O at_77 (cl' := 7) (sl' := 22) (pc' := 80) rfl (mw 30 rfl) (mw 31 rfl) (mw 32 rfl) rfl rfl (by decide) (by decide) (fun h15 dd qdd g_dd Eh15 E_dd Ddd => ?_)
  have ne_ca_dd : ca ≠ dd := Nat.ne_of_lt (by rw [qdd]; exact A_ca_h14.lt)
  have ne_cb_dd : cb ≠ dd := Nat.ne_of_lt (by rw [qdd]; exact A_cb_h14.lt)
  have ne_s1_dd : s1 ≠ dd := Nat.ne_of_lt (by rw [qdd]; exact Eh11_h14.lt)
  have ne_s2_dd : s2 ≠ dd := Nat.ne_of_lt (by rw [qdd]; exact Eh14.lt)
  have SC_h15 := Sta.ext Eh15 SC_h14
  have A_ca_h15 := A_ca_h14.ext Eh15
  have A_cb_h15 := A_cb_h14.ext Eh15
  have Eh11_h15 := Exa.ext Eh15 Eh11_h14
  have Eh14_h15 := Exa.ext Eh15 Eh14
  have F_name_dd : Fld Z h15 dd "com/example/rulewright/rulewright/rules/Declarations$Declaration" "name" "Ljava/lang/String;" .null := Ddd (Or.inr (O.2.2.2.2.2.2.2.2.1 _ (mw 43 rfl))) (ty := (.object "java/lang/String")) (by decide)
  have F_nameColumn_dd : Fld Z h15 dd "com/example/rulewright/rulewright/rules/Declarations$Declaration" "nameColumn" "I" (.int (0 : Int32)) := Ddd (Or.inr (O.2.2.2.2.2.2.2.2.1 _ (mw 45 rfl))) (ty := .int) (by decide)
  have F_text_dd : Fld Z h15 dd "com/example/rulewright/rulewright/rules/Declarations$Declaration" "text" "Ljava/lang/String;" .null := Ddd (Or.inr (O.2.2.2.2.2.2.2.2.1 _ (mw 47 rfl))) (ty := (.object "java/lang/String")) (by decide)
  have F_textColumn_dd : Fld Z h15 dd "com/example/rulewright/rulewright/rules/Declarations$Declaration" "textColumn" "I" (.int (0 : Int32)) := Ddd (Or.inr (O.2.2.2.2.2.2.2.2.1 _ (mw 49 rfl))) (ty := .int) (by decide)
  have F_line_dd : Fld Z h15 dd "com/example/rulewright/rulewright/rules/Declarations$Declaration" "line" "I" (.int (0 : Int32)) := Ddd (Or.inr (O.2.2.2.2.2.2.2.2.1 _ (mw 51 rfl))) (ty := .int) (by decide)
  have F_useLine_dd : Fld Z h15 dd "com/example/rulewright/rulewright/rules/Declarations$Declaration" "useLine" "I" (.int (0 : Int32)) := Ddd (Or.inr (O.2.2.2.2.2.2.2.2.1 _ (mw 53 rfl))) (ty := .int) (by decide)
  refine w_dup O at_80 (pc' := 81) rfl rfl ?_
  refine w_aload O at_81 (pc' := 83) rfl rfl rfl ?_
  refine w_iloadN O at_83 (pc' := 84) rfl rfl ?_
  refine w_aload O at_84 (pc' := 86) rfl rfl rfl ?_
  refine w_iloadN O at_86 (pc' := 87) rfl rfl ?_
  refine w_iloadN O at_87 (pc' := 88) rfl rfl ?_
  refine w_iload O at_88 (pc' := 90) rfl rfl ?_
  refine w_init O at_90 (as := [(.ref s1), (.int u1), (.ref s2), (.int u2), (.int u3), (.int u4)]) (st := [(.ref dd)]) (wt := 1) (cl' := 7) (sl' := 22) (pc' := 93) rfl rfl (mw 33 rfl) (mw 34 rfl) (mw 32 rfl) (mw 35 rfl) (by decide) (con_di l Z a0 hw dd s1 u1 s2 u2 u3 u4 h15 n0 E_dd F_name_dd F_nameColumn_dd F_text_dd F_textColumn_dd F_line_dd F_useLine_dd g_dd) rfl pd_1 rfl rfl rfl (by decide) (by decide) rfl rfl (by decide) (by decide) (cV fun h17 ⟨Dh17, Kh17⟩ => ?_)
  have A_ca_h17 := A_ca_h15.keep Kh17 (ninS ne_ca_dd nin0)
  have A_cb_h17 := A_cb_h15.keep Kh17 (ninS ne_cb_dd nin0)
  have Eh11_h17 := Eh11_h15.keep Kh17
  have Eh14_h17 := Eh14_h15.keep Kh17
  refine w_astore O at_93 (L' := #[.val (.int u0), .val (.int u1), .val (.int u2), .val (.int u3), .val (.int u4), .val (.int u5), .val (.ref ca), .val (.ref cb), .val (.ref s1), .val (.ref s2), .val (.ref dd), .unset, .unset, .unset, .unset, .unset, .unset, .unset]) (pc' := 95) rfl rfl rfl ?_
  refine w_aload O at_95 (pc' := 97) rfl rfl rfl ?_
  refine w_iload O at_97 (pc' := 99) rfl rfl ?_
  refine w_virtual O at_99 (as := [(.int u5)]) (st := []) (wt := 0) (cl' := 8) (sl' := 28) (pc' := 102) rfl (mw 54 rfl) (mw 55 rfl) (mw 57 rfl) (mw 56 rfl) (mw 58 rfl) (mw 32 rfl) (by decide) Dh17.1 (con_ua l Z a0 hw dd u5 s1 u1 s2 u2 u3 u4 h17 n0 ⟨Dh17.1, Dh17.2.1, Dh17.2.2.1, Dh17.2.2.2.1, Dh17.2.2.2.2.1, Dh17.2.2.2.2.2.1, Dh17.2.2.2.2.2.2⟩) rfl pd_3 rfl rfl rfl (by decide) (by decide) rfl rfl (by decide) (by decide) (cA fun v h18 hv ⟨rb, ev, Du, Ku⟩ => ?_)
  subst ev
  have A_ca_h18 := A_ca_h17.keep Ku nin0
  have A_cb_h18 := A_cb_h17.keep Ku nin0
  have Eh11_h18 := Eh11_h17.keep Ku
  have Eh14_h18 := Eh14_h17.keep Ku
  refine w_astore O at_102 (L' := #[.val (.int u0), .val (.int u1), .val (.int u2), .val (.int u3), .val (.int u4), .val (.int u5), .val (.ref ca), .val (.ref cb), .val (.ref s1), .val (.ref s2), .val (.ref dd), .val (.ref rb), .unset, .unset, .unset, .unset, .unset, .unset]) (pc' := 104) rfl rfl rfl ?_
  refine w_aload O at_104 (pc' := 106) rfl rfl rfl ?_
  refine w_virtual O at_106 (as := []) (st := []) (wt := 0) (cl' := 8) (sl' := 28) (pc' := 109) rfl (mw 61 rfl) (mw 62 rfl) (mw 64 rfl) (mw 63 rfl) (mw 65 rfl) (mw 32 rfl) (by decide) Du.1 (con_name l Z a0 hw rb s1 h18 n0 Du.2.1) rfl pd_4 rfl rfl rfl (by decide) (by decide) rfl rfl (by decide) (by decide) (cA fun g19 _ hvg19 ⟨qg19, eg19⟩ => ?_)
  rw [qg19]
  rw [eg19]
  refine w_aload O at_109 (pc' := 111) rfl rfl rfl ?_
  refine w_virtual O at_111 (as := [(.ref s1)]) (st := []) (wt := 0) (cl' := 8) (sl' := 28) (pc' := 114) rfl (mw 66 rfl) (mw 67 rfl) (mw 69 rfl) (mw 68 rfl) (mw 70 rfl) (mw 3 rfl) (by decide) Eh11_h18 (con_eq l Z a0 hw s1 h18 n0) rfl pd_5 rfl rfl rfl (by decide) (by decide) rfl rfl (by decide) (by decide) (cI fun g20 _ ⟨qg20, eg20⟩ => ?_)
  rw [qg20]
  rw [eg20]
  refine w_istore O at_114 (L' := #[.val (.int u0), .val (.int u1), .val (.int u2), .val (.int u3), .val (.int u4), .val (.int u5), .val (.ref ca), .val (.ref cb), .val (.ref s1), .val (.ref s2), .val (.ref dd), .val (.ref rb), .val (.int (1 : Int32)), .unset, .unset, .unset, .unset, .unset]) (pc' := 116) rfl rfl ?_
  refine w_aload O at_116 (pc' := 118) rfl rfl rfl ?_
  refine w_virtual O at_118 (as := []) (st := []) (wt := 0) (cl' := 8) (sl' := 28) (pc' := 121) rfl (mw 71 rfl) (mw 72 rfl) (mw 74 rfl) (mw 73 rfl) (mw 75 rfl) (mw 32 rfl) (by decide) Du.1 (con_nameColumn l Z a0 hw rb u1 h18 n0 Du.2.2.1) rfl pd_6 rfl rfl rfl (by decide) (by decide) rfl rfl (by decide) (by decide) (cI fun g21 _ ⟨qg21, eg21⟩ => ?_)
  rw [qg21]
  rw [eg21]
  refine w_iloadN O at_121 (pc' := 122) rfl rfl ?_
  refine w_icmp_ne O at_122 (pn := 125) (pt := 129) rfl (by decide) rfl (fun q => absurd q (by omega)) (fun c122 => ?_)
  refine w_iconst O at_125 (z := (1 : Int32)) (pc' := 126) rfl rfl ?_
  refine w_goto O at_126 (pc' := 130) (by decide) rfl ?_
  refine w_istore O at_130 (L' := #[.val (.int u0), .val (.int u1), .val (.int u2), .val (.int u3), .val (.int u4), .val (.int u5), .val (.ref ca), .val (.ref cb), .val (.ref s1), .val (.ref s2), .val (.ref dd), .val (.ref rb), .val (.int (1 : Int32)), .val (.int (1 : Int32)), .unset, .unset, .unset, .unset]) (pc' := 132) rfl rfl ?_
  refine w_aload O at_132 (pc' := 134) rfl rfl rfl ?_
  refine w_virtual O at_134 (as := []) (st := []) (wt := 0) (cl' := 8) (sl' := 28) (pc' := 137) rfl (mw 76 rfl) (mw 77 rfl) (mw 79 rfl) (mw 78 rfl) (mw 80 rfl) (mw 32 rfl) (by decide) Du.1 (con_text l Z a0 hw rb s2 h18 n0 Du.2.2.2.1) rfl pd_4 rfl rfl rfl (by decide) (by decide) rfl rfl (by decide) (by decide) (cA fun g22 _ hvg22 ⟨qg22, eg22⟩ => ?_)
  rw [qg22]
  rw [eg22]
  refine w_aload O at_137 (pc' := 139) rfl rfl rfl ?_
  refine w_virtual O at_139 (as := [(.ref s2)]) (st := []) (wt := 0) (cl' := 8) (sl' := 28) (pc' := 142) rfl (mw 66 rfl) (mw 67 rfl) (mw 69 rfl) (mw 68 rfl) (mw 70 rfl) (mw 3 rfl) (by decide) Eh14_h18 (con_eq l Z a0 hw s2 h18 n0) rfl pd_5 rfl rfl rfl (by decide) (by decide) rfl rfl (by decide) (by decide) (cI fun g23 _ ⟨qg23, eg23⟩ => ?_)
  rw [qg23]
  rw [eg23]
  refine w_istore O at_142 (L' := #[.val (.int u0), .val (.int u1), .val (.int u2), .val (.int u3), .val (.int u4), .val (.int u5), .val (.ref ca), .val (.ref cb), .val (.ref s1), .val (.ref s2), .val (.ref dd), .val (.ref rb), .val (.int (1 : Int32)), .val (.int (1 : Int32)), .val (.int (1 : Int32)), .unset, .unset, .unset]) (pc' := 144) rfl rfl ?_
  refine w_aload O at_144 (pc' := 146) rfl rfl rfl ?_
  refine w_virtual O at_146 (as := []) (st := []) (wt := 0) (cl' := 8) (sl' := 28) (pc' := 149) rfl (mw 81 rfl) (mw 82 rfl) (mw 84 rfl) (mw 83 rfl) (mw 85 rfl) (mw 32 rfl) (by decide) Du.1 (con_textColumn l Z a0 hw rb u2 h18 n0 Du.2.2.2.2.1) rfl pd_6 rfl rfl rfl (by decide) (by decide) rfl rfl (by decide) (by decide) (cI fun g24 _ ⟨qg24, eg24⟩ => ?_)
  rw [qg24]
  rw [eg24]
  refine w_iloadN O at_149 (pc' := 150) rfl rfl ?_
  refine w_icmp_ne O at_150 (pn := 153) (pt := 157) rfl (by decide) rfl (fun q => absurd q (by omega)) (fun c150 => ?_)
  refine w_iconst O at_153 (z := (1 : Int32)) (pc' := 154) rfl rfl ?_
  refine w_goto O at_154 (pc' := 158) (by decide) rfl ?_
  refine w_istore O at_158 (L' := #[.val (.int u0), .val (.int u1), .val (.int u2), .val (.int u3), .val (.int u4), .val (.int u5), .val (.ref ca), .val (.ref cb), .val (.ref s1), .val (.ref s2), .val (.ref dd), .val (.ref rb), .val (.int (1 : Int32)), .val (.int (1 : Int32)), .val (.int (1 : Int32)), .val (.int (1 : Int32)), .unset, .unset]) (pc' := 160) rfl rfl ?_
  refine w_aload O at_160 (pc' := 162) rfl rfl rfl ?_
  refine w_virtual O at_162 (as := []) (st := []) (wt := 0) (cl' := 8) (sl' := 28) (pc' := 165) rfl (mw 86 rfl) (mw 87 rfl) (mw 89 rfl) (mw 88 rfl) (mw 90 rfl) (mw 32 rfl) (by decide) Du.1 (con_line l Z a0 hw rb u3 h18 n0 Du.2.2.2.2.2.1) rfl pd_6 rfl rfl rfl (by decide) (by decide) rfl rfl (by decide) (by decide) (cI fun g25 _ ⟨qg25, eg25⟩ => ?_)
  rw [qg25]
  rw [eg25]
  refine w_iloadN O at_165 (pc' := 166) rfl rfl ?_
  refine w_icmp_ne O at_166 (pn := 169) (pt := 173) rfl (by decide) rfl (fun q => absurd q (by omega)) (fun c166 => ?_)
  refine w_iconst O at_169 (z := (1 : Int32)) (pc' := 170) rfl rfl ?_
  refine w_goto O at_170 (pc' := 174) (by decide) rfl ?_
  refine w_istore O at_174 (L' := #[.val (.int u0), .val (.int u1), .val (.int u2), .val (.int u3), .val (.int u4), .val (.int u5), .val (.ref ca), .val (.ref cb), .val (.ref s1), .val (.ref s2), .val (.ref dd), .val (.ref rb), .val (.int (1 : Int32)), .val (.int (1 : Int32)), .val (.int (1 : Int32)), .val (.int (1 : Int32)), .val (.int (1 : Int32)), .unset]) (pc' := 176) rfl rfl ?_
  refine w_aload O at_176 (pc' := 178) rfl rfl rfl ?_
  refine w_virtual O at_178 (as := []) (st := []) (wt := 0) (cl' := 8) (sl' := 28) (pc' := 181) rfl (mw 91 rfl) (mw 92 rfl) (mw 94 rfl) (mw 93 rfl) (mw 95 rfl) (mw 32 rfl) (by decide) Du.1 (con_useLine l Z a0 hw rb u5 h18 n0 Du.2.2.2.2.2.2) rfl pd_6 rfl rfl rfl (by decide) (by decide) rfl rfl (by decide) (by decide) (cI fun g26 _ ⟨qg26, eg26⟩ => ?_)
  rw [qg26]
  rw [eg26]
  refine w_iload O at_181 (pc' := 183) rfl rfl ?_
  refine w_icmp_ne O at_183 (pn := 186) (pt := 190) rfl (by decide) rfl (fun q => absurd q (by omega)) (fun c183 => ?_)
  refine w_iconst O at_186 (z := (1 : Int32)) (pc' := 187) rfl rfl ?_
  refine w_goto O at_187 (pc' := 191) (by decide) rfl ?_
  refine w_istore O at_191 (L' := #[.val (.int u0), .val (.int u1), .val (.int u2), .val (.int u3), .val (.int u4), .val (.int u5), .val (.ref ca), .val (.ref cb), .val (.ref s1), .val (.ref s2), .val (.ref dd), .val (.ref rb), .val (.int (1 : Int32)), .val (.int (1 : Int32)), .val (.int (1 : Int32)), .val (.int (1 : Int32)), .val (.int (1 : Int32)), .val (.int (1 : Int32))]) (pc' := 193) rfl rfl ?_
  refine w_iload O at_193 (pc' := 195) rfl rfl ?_
  refine w_if_eq O at_195 (pn := 198) (pt := 227) rfl (by decide) rfl (fun q => absurd q (by decide)) (fun c195 => ?_)
  refine w_iload O at_198 (pc' := 200) rfl rfl ?_
  refine w_if_eq O at_200 (pn := 203) (pt := 227) rfl (by decide) rfl (fun q => absurd q (by decide)) (fun c200 => ?_)
  refine w_iload O at_203 (pc' := 205) rfl rfl ?_
  refine w_if_eq O at_205 (pn := 208) (pt := 227) rfl (by decide) rfl (fun q => absurd q (by decide)) (fun c205 => ?_)
  refine w_iload O at_208 (pc' := 210) rfl rfl ?_
  refine w_if_eq O at_210 (pn := 213) (pt := 227) rfl (by decide) rfl (fun q => absurd q (by decide)) (fun c210 => ?_)
  refine w_iload O at_213 (pc' := 215) rfl rfl ?_
  refine w_if_eq O at_215 (pn := 218) (pt := 227) rfl (by decide) rfl (fun q => absurd q (by decide)) (fun c215 => ?_)
  refine w_iload O at_218 (pc' := 220) rfl rfl ?_
  refine w_if_eq O at_220 (pn := 223) (pt := 227) rfl (by decide) rfl (fun q => absurd q (by decide)) (fun c220 => ?_)
  refine w_iconst O at_223 (z := (1 : Int32)) (pc' := 224) rfl rfl ?_
  refine w_goto O at_224 (pc' := 228) (by decide) rfl ?_
  refine w_retz O at_228 (by decide) (by decide) (Or.inr rfl) ?_
  exact ⟨_, rfl, rfl⟩
set_option maxRecDepth 65536 in
set_option maxHeartbeats 40000000 in
theorem comes_1 {Post : Tables → Env → Array Value → State → Outcome → State → Prop} (hpost : ∀ tb e args s v u, (limb_1_1.after args s (.returned v) u = true ∧ limb_1_2.after args s (.returned v) u = true ∧ True) → FrameEnd s (.returned v) u (Jvm.fieldLocs frame_1_writes args s ++ Jvm.arrayLocs frame_1_arrays args s ++ Jvm.staticLocs frame_1_statics s) 24 128 → Post tb e args s (.returned v) u) :
    ArmFor flags0 classFile x code maxLocals ret World_1 tables_1 room_1 Calls_1 rest_1 Pre_1 Post := by
  intro l hfl _ _ p e ha hc hk s m args below hf hA hF happ hP
  obtain ⟨hcalls, hrest, hpre⟩ := hP
  obtain ⟨-, -, -, hnamed, -, -, -, hat⟩ := (Spec.applies_iff hf).mp happ
  obtain ⟨hg, hn⟩ := and_e (Cond.before_iff.mp (show (Jvm.Cond.and given_1 narrow_1).before args s = true from hpre))
  obtain ⟨g1, g2⟩ := and_e hg
  obtain ⟨g3, g4⟩ := and_e g2
  obtain ⟨g5, g6⟩ := and_e g4
  obtain ⟨g7, g8⟩ := and_e g6
  obtain ⟨g9, g10⟩ := and_e g8
  obtain ⟨g11, g12⟩ := and_e g10
  obtain ⟨w0, w1, w2, w3, w4, w5, rfl⟩ : ∃ w0 w1 w2 w3 w4 w5 : Value, args = #[w0, w1, w2, w3, w4, w5] := by
    have hs : args.size = 6 := by simpa [Cond.value, given_1] using g1
    obtain ⟨L⟩ := args
    match L, hs with
    | [w0, w1, w2, w3, w4, w5], _ => exact ⟨w0, w1, w2, w3, w4, w5, rfl⟩
  have hw := fun d (hd : d ∈ tables_1) => atoms_spec (ws := Jvm.Cond.code x code maxLocals ret :: tables_1) hat d (List.mem_cons_of_mem _ hd)
  have hfit : Fit s := fun {y c} hc i hi => by
    obtain ⟨ha, rfl⟩ := Array.getElem?_eq_some_iff.mp hc
    have q := List.all_eq_true.mp ((Array.all_eq_true_iff_forall_mem.mp hF) _ (Array.getElem_mem ha)) i (List.mem_range.mpr hi)
    simpa [Array.getElem?_eq_getElem hi] using q
  obtain ⟨hsets, hown0⟩ := atoms_of _ (rest_1_c_eq ▸ (show rest_1_c.before _ s = true from hrest))
  have hr0 := Cond.before_iff.mp hown0
  obtain ⟨i0, ei0⟩ := is_v g3
  obtain rfl : w0 = (.int i0) := Option.some.inj ei0
  obtain ⟨i1, ei1⟩ := is_v g5
  obtain rfl : w1 = (.int i1) := Option.some.inj ei1
  obtain ⟨i2, ei2⟩ := is_v g7
  obtain rfl : w2 = (.int i2) := Option.some.inj ei2
  obtain ⟨i3, ei3⟩ := is_v g9
  obtain rfl : w3 = (.int i3) := Option.some.inj ei3
  obtain ⟨i4, ei4⟩ := is_v g11
  obtain rfl : w4 = (.int i4) := Option.some.inj ei4
  obtain ⟨i5, ei5⟩ := is_v g12
  obtain rfl : w5 = (.int i5) := Option.some.inj ei5
  obtain ⟨z0, ez0⟩ := is_v (Cond.before_iff.mp (hsets _ (List.mem_of_getElem? (i := 1) rfl)))
  have SC := Sta.start ez0 (Or.inl (hsets _ (List.mem_of_getElem? (i := 0) rfl)))
  have hz0 : ¬ z0 = 0 := by
    intro q
    have hh := Cond.before_iff.mp (hsets _ (List.mem_of_getElem? (i := 2) rfl))
    subst q
    simp only [Cond.value, ez0] at hh
    simp [Term.eval] at hh
  obtain ⟨n, o, h1, h2, h3, _, L, rfl, ⟨⟨r, rfl, rfl⟩, N⟩, hq⟩ := (law_con l s _ hw i0 i1 i2 i3 i4 i5 z0 s.heap s.heap.size SC hz0) (Nat.le_refl _) tables_1 p e ha hc hk s m _ below hf ((Spec.applies_iff_loose hf).mp happ).1 ⟨rfl, State.Warmed39.refl s, rfl⟩ trivial
  refine ⟨n, _, h1, h2, h3, hpost _ _ _ _ _ _ ⟨Cond.after_iff.mpr rfl, Cond.after_iff.mpr (eq_i res_at (Term.int_eval (1)) rfl), trivial⟩ ⟨hq.1, hq.2.1, (hq.2.2.sift fun y hy => Or.inr (N y hy)).mono (by decide) (by decide)⟩⟩
theorem main_1_1 : Claimed_1_1 := comes_1 fun _ _ _ _ _ _ h hF => ⟨h.1, hF⟩
theorem main_1_2 : Claimed_1_2 := comes_1 fun _ _ _ _ _ _ h hF => ⟨h.2.1, hF⟩
end Jvm.Pilot.@@N@@
namespace Jvm.Pilot.@@N@@
open Jvm Jvm.ClassFile Sem Op Lib Jvm.Free Jvm.Stand Jvm.Pilot.@@N@@.Jvm.D
/-! MADE BY PROGRAM (witnessworld.py) out of the Statement's table words and the real class files: 21 classes; the members and pool entries that the words name. The judged class is class 1, her method 1. -/
namespace start1
open Jvm.ClassFile
def u (s : String) : CpInfo := .utf8 (stringToUtf16 s)
/-- a pool by its gaps: so many unusable entries, then the entry; so many at the end -/
def gap : Nat → List CpInfo → List CpInfo
  | 0, r => r
  | n + 1, r => .unusable :: gap n r
def poolList (es : List (Nat × CpInfo)) (last : Nat) : List CpInfo := es.foldr (fun e r => gap e.1 (e.2 :: r)) (gap last [])
def pool (es : List (Nat × CpInfo)) (last : Nat) : Array CpInfo := ⟨poolList es last⟩
def fileOf (pool : Array CpInfo) (this : Nat) (attrs : Array Attribute := #[]) (ms : Array MethodInfo := #[]) (fl : Nat := 33) (sup : Nat := 0) (ifs : Array Nat := #[]) (fds : Array FieldInfo := #[]) : ClassFile where
  minorVersion := 0
  majorVersion := 65
  constantPool := pool
  accessFlags := fl
  thisClass := this
  superClass := sup
  interfaces := ifs
  fields := fds
  methods := ms
  attributes := attrs
def plain (name : String) (sup : Option ClassId) : Class where
  name := name
  kind := .ordinary
  loader := none
  accessFlags := 33
  super := sup
  interfaces := #[]
  cf := none
  fields := #[]
  methods := #[]
  instanceTypes := #[]
  staticTypes := #[]
  resolved := #[]
  callSites := []
  init := .initialized
  statics := none
  mirror := none

def pool0 : Array CpInfo := pool [(5, u "<init>"), (0, u "()V"), (1, .class_ 10), (1, u "java/lang/Object")] 113

def k0c0 : Code := { maxStack := 0, maxLocals := 1, code := object_method_1_code, exceptionTable := #[], attributes := #[] }
def k0m0 : Method := { name := "<init>", desc := "()V", sig := { parameters := [], returnType := none }, accessFlags := 1, code := some k0c0 }
/-- java/lang/Object -/
def k0 : Class := { plain "java/lang/Object" none with
  accessFlags := 33
  interfaces := #[]
  cf := some (fileOf pool0 8 #[] #[{ accessFlags := 1, nameIndex := 5, descriptorIndex := 6, attributes := #[] }] 33 0 #[] #[])
  fields := #[]
  methods := #[k0m0]
  instanceTypes := #[]
  staticTypes := #[]
  resolved := Array.replicate 124 none
  statics := none }

def pool1 : Array CpInfo := pool [(2, .class_ 4), (1, u "java/lang/Object"), (0, u "<init>"), (0, u "()V"), (0, .class_ 8), (0, u "java/lang/String"), (0, .methodref 7 10), (0, .nameAndType 5 11), (0, u "([C)V"), (0, .class_ 13), (0, u "com/example/rulewright/rulewright/rules/Declarations$Declaration"), (0, .methodref 12 15), (0, .nameAndType 5 16), (0, u "(Ljava/lang/String;ILjava/lang/String;III)V"), (0, .methodref 12 18), (0, .nameAndType 19 20), (0, u "usedAt"), (0, u "(I)Lcom/example/rulewright/rulewright/rules/Declarations$Declaration;"), (0, .methodref 12 22), (0, .nameAndType 23 24), (0, u "name"), (0, u "()Ljava/lang/String;"), (0, .methodref 7 26), (0, .nameAndType 27 28), (0, u "equals"), (0, u "(Ljava/lang/Object;)Z"), (0, .methodref 12 30), (0, .nameAndType 31 32), (0, u "nameColumn"), (0, u "()I"), (0, .methodref 12 34), (0, .nameAndType 35 24), (0, u "text"), (0, .methodref 12 37), (0, .nameAndType 38 32), (0, u "textColumn"), (0, .methodref 12 40), (0, .nameAndType 41 32), (0, u "line"), (0, .methodref 12 43), (0, .nameAndType 44 32), (0, u "useLine"), (0, .class_ 46), (0, u "com/example/rulewright/rulewright/rules/DeclarationUsedAtPinLaw"), (2, u "law"), (0, u "(IIIIII)Z")] 9

def k1m0 : Method := { name := "<init>", desc := "()V", sig := { parameters := [], returnType := none }, accessFlags := 2, code := none }
def k1c1 : Code := { maxStack := 8, maxLocals := 18, code := code, exceptionTable := #[], attributes := #[] }
def k1m1 : Method := { name := "law", desc := "(IIIIII)Z", sig := { parameters := [.int, .int, .int, .int, .int, .int], returnType := some .boolean }, accessFlags := 9, code := some k1c1 }
/-- com/example/rulewright/rulewright/rules/DeclarationUsedAtPinLaw -/
def k1 : Class := { plain "com/example/rulewright/rulewright/rules/DeclarationUsedAtPinLaw" (some 0) with
  accessFlags := 49
  interfaces := #[]
  cf := some (fileOf pool1 45 #[] #[{ accessFlags := 2, nameIndex := 5, descriptorIndex := 6, attributes := #[] }, { accessFlags := 9, nameIndex := 49, descriptorIndex := 50, attributes := #[] }] 49 2 #[] #[])
  fields := #[]
  methods := #[k1m0, k1m1]
  instanceTypes := #[]
  staticTypes := #[]
  resolved := Array.replicate 60 none
  statics := none }

def pool2 : Array CpInfo := pool [(1, .class_ 2), (0, u "java/io/Serializable"), (0, .class_ 4), (0, u "java/lang/Object")] 2

/-- java/io/Serializable -/
def k2 : Class := { plain "java/io/Serializable" (some 0) with
  accessFlags := 1537
  interfaces := #[]
  cf := some (fileOf pool2 1 #[] #[] 1537 3 #[] #[])
  fields := #[]
  methods := #[]
  instanceTypes := #[]
  staticTypes := #[]
  resolved := Array.replicate 7 none
  statics := none }

def pool3 : Array CpInfo := pool [(1, .class_ 2), (0, u "java/lang/Comparable"), (0, .class_ 4), (0, u "java/lang/Object")] 7

/-- java/lang/Comparable -/
def k3 : Class := { plain "java/lang/Comparable" (some 0) with
  accessFlags := 1537
  interfaces := #[]
  cf := some (fileOf pool3 1 #[] #[] 1537 3 #[] #[])
  fields := #[]
  methods := #[]
  instanceTypes := #[]
  staticTypes := #[]
  resolved := Array.replicate 12 none
  statics := none }

def pool4 : Array CpInfo := pool [(2, .class_ 4), (1, u "java/lang/CharSequence"), (42, .class_ 48), (0, u "java/lang/CharSequence$1CodePointIterator"), (10, .class_ 60), (0, u "java/lang/CharSequence$1CharIterator"), (5, .class_ 67), (0, u "java/lang/Object")] 63

/-- java/lang/CharSequence -/
def k4 : Class := { plain "java/lang/CharSequence" (some 0) with
  accessFlags := 1537
  interfaces := #[]
  cf := some (fileOf pool4 2 #[.nestMembers #[47, 59]] #[] 1537 66 #[] #[])
  fields := #[]
  methods := #[]
  instanceTypes := #[]
  staticTypes := #[]
  resolved := Array.replicate 131 none
  statics := none }

def pool5 : Array CpInfo := pool [(1, .class_ 2), (0, u "java/lang/constant/Constable"), (0, .class_ 4), (0, u "java/lang/Object")] 6

/-- java/lang/constant/Constable -/
def k5 : Class := { plain "java/lang/constant/Constable" (some 0) with
  accessFlags := 1537
  interfaces := #[]
  cf := some (fileOf pool5 1 #[] #[] 1537 3 #[] #[])
  fields := #[]
  methods := #[]
  instanceTypes := #[]
  staticTypes := #[]
  resolved := Array.replicate 11 none
  statics := none }

def pool6 : Array CpInfo := pool [(1, .class_ 2), (0, u "java/lang/constant/ConstantDesc"), (0, .class_ 4), (0, u "java/lang/Object")] 32

/-- java/lang/constant/ConstantDesc -/
def k6 : Class := { plain "java/lang/constant/ConstantDesc" (some 0) with
  accessFlags := 1537
  interfaces := #[]
  cf := some (fileOf pool6 1 #[] #[] 1537 3 #[] #[])
  fields := #[]
  methods := #[]
  instanceTypes := #[]
  staticTypes := #[]
  resolved := Array.replicate 37 none
  statics := none }

def pool7 : Array CpInfo := pool [(1, .methodref 2 3), (0, .class_ 4), (0, .nameAndType 5 6), (0, u "java/lang/Object"), (0, u "<init>"), (0, u "()V"), (2, .fieldref 10 11), (0, .class_ 12), (0, .nameAndType 13 14), (0, u "java/lang/String"), (0, u "value"), (0, u "[B"), (0, .fieldref 10 16), (0, .nameAndType 17 18), (0, u "coder"), (0, u "B"), (2, u "hash"), (0, u "I"), (2, u "hashIsZero"), (0, u "Z"), (0, .methodref 10 28), (0, .nameAndType 5 29), (0, u "([CIILjava/lang/Void;)V"), (8, .fieldref 10 39), (0, .nameAndType 40 26), (0, u "COMPACT_STRINGS"), (1, .class_ 44), (1, u "java/lang/StringUTF16"), (0, u "compress"), (1, .methodref 42 48), (0, .nameAndType 49 50), (0, u "coderFromArrayLen"), (0, u "([BI)B"), (126, .methodref 42 178), (0, .nameAndType 45 179), (0, u "([CII)[B"), (363, u "equals"), (29, u "(Ljava/lang/Object;)Z"), (1, .class_ 576), (0, u "java/lang/CharSequence"), (22, u "CASE_INSENSITIVE_ORDER"), (0, u "Ljava/util/Comparator;"), (409, u "([C)V"), (90, u "serialPersistentFields"), (0, u "[Ljava/io/ObjectStreamField;"), (0, .class_ 1104), (0, u "java/lang/String$CaseInsensitiveComparator"), (1, .class_ 1107), (0, u "java/io/Serializable"), (0, .class_ 1109), (0, u "java/lang/Comparable"), (0, .class_ 1111), (0, u "java/lang/constant/Constable"), (0, .class_ 1113), (0, u "java/lang/constant/ConstantDesc"), (2, u "serialVersionUID"), (0, u "J"), (3, u "REPL"), (0, u "C"), (2, u "LATIN1"), (1, u "UTF16")] 323

def k7m0 : Method := { name := "<init>", desc := "()V", sig := { parameters := [], returnType := none }, accessFlags := 1, code := none }
def k7c1 : Code := { maxStack := 5, maxLocals := 2, code := jdk_42_method_3_code, exceptionTable := #[], attributes := #[] }
def k7m1 : Method := { name := "<init>", desc := "([C)V", sig := { parameters := [(.array .char)], returnType := none }, accessFlags := 1, code := some k7c1 }
def k7c2 : Code := { maxStack := 2, maxLocals := 3, code := jdk_42_method_66_code, exceptionTable := #[], attributes := #[] }
def k7m2 : Method := { name := "equals", desc := "(Ljava/lang/Object;)Z", sig := { parameters := [(.object "java/lang/Object")], returnType := some .boolean }, accessFlags := 1, code := some k7c2 }
def k7c3 : Code := { maxStack := 4, maxLocals := 6, code := jdk_42_method_149_code, exceptionTable := #[], attributes := #[] }
def k7m3 : Method := { name := "<init>", desc := "([CIILjava/lang/Void;)V", sig := { parameters := [(.array .char), .int, .int, (.object "java/lang/Void")], returnType := none }, accessFlags := 2, code := some k7c3 }
/-- java/lang/String -/
def k7 : Class := { plain "java/lang/String" (some 0) with
  accessFlags := 49
  interfaces := #[2, 3, 4, 5, 6]
  cf := some (fileOf pool7 10 #[.nestMembers #[1103]] #[{ accessFlags := 1, nameIndex := 5, descriptorIndex := 6, attributes := #[] }, { accessFlags := 1, nameIndex := 5, descriptorIndex := 1010, attributes := #[] }, { accessFlags := 1, nameIndex := 543, descriptorIndex := 573, attributes := #[] }, { accessFlags := 2, nameIndex := 5, descriptorIndex := 29, attributes := #[] }] 49 2 #[1106, 1108, 575, 1110, 1112] #[{ accessFlags := 18, nameIndex := 13, descriptorIndex := 14, attributes := #[] }, { accessFlags := 18, nameIndex := 17, descriptorIndex := 18, attributes := #[] }, { accessFlags := 2, nameIndex := 21, descriptorIndex := 22, attributes := #[] }, { accessFlags := 2, nameIndex := 25, descriptorIndex := 26, attributes := #[] }, { accessFlags := 26, nameIndex := 1116, descriptorIndex := 1117, attributes := #[] }, { accessFlags := 24, nameIndex := 40, descriptorIndex := 26, attributes := #[] }, { accessFlags := 26, nameIndex := 1101, descriptorIndex := 1102, attributes := #[] }, { accessFlags := 26, nameIndex := 1121, descriptorIndex := 1122, attributes := #[] }, { accessFlags := 25, nameIndex := 599, descriptorIndex := 600, attributes := #[] }, { accessFlags := 24, nameIndex := 1125, descriptorIndex := 18, attributes := #[] }, { accessFlags := 24, nameIndex := 1127, descriptorIndex := 18, attributes := #[] }])
  fields := #[{ name := "value", type := (.array .byte), accessFlags := 18, slot := 0, constantValue := 0 }, { name := "coder", type := .byte, accessFlags := 18, slot := 1, constantValue := 0 }, { name := "hash", type := .int, accessFlags := 2, slot := 2, constantValue := 0 }, { name := "hashIsZero", type := .boolean, accessFlags := 2, slot := 3, constantValue := 0 }, { name := "serialVersionUID", type := .long, accessFlags := 26, slot := 0, constantValue := 0 }, { name := "COMPACT_STRINGS", type := .boolean, accessFlags := 24, slot := 1, constantValue := 0 }, { name := "serialPersistentFields", type := (.array (.object "java/io/ObjectStreamField")), accessFlags := 26, slot := 2, constantValue := 0 }, { name := "REPL", type := .char, accessFlags := 26, slot := 3, constantValue := 0 }, { name := "CASE_INSENSITIVE_ORDER", type := (.object "java/util/Comparator"), accessFlags := 25, slot := 4, constantValue := 0 }, { name := "LATIN1", type := .byte, accessFlags := 24, slot := 5, constantValue := 0 }, { name := "UTF16", type := .byte, accessFlags := 24, slot := 6, constantValue := 0 }]
  methods := #[k7m0, k7m1, k7m2, k7m3]
  instanceTypes := #[(.array .byte), .byte, .int, .boolean]
  staticTypes := #[.long, .boolean, (.array (.object "java/io/ObjectStreamField")), .char, (.object "java/util/Comparator"), .byte, .byte]
  resolved := Array.replicate 1451 none
  statics := some 0 }

def pool8 : Array CpInfo := pool [(6, .class_ 8), (1, u "java/lang/Object"), (0, u "<init>"), (0, u "()V"), (1, .class_ 14), (1, u "java/lang/StringUTF16"), (31, u "$assertionsDisabled"), (0, u "Z"), (13, u "HI_BYTE_SHIFT"), (0, u "I"), (2, u "LO_BYTE_SHIFT"), (49, .methodref 12 116), (0, .nameAndType 117 118), (0, u "compress"), (0, u "([CI[BII)I"), (3, u "([CII)[B"), (138, u "coderFromArrayLen"), (0, u "([BI)B"), (106, .class_ 371), (1, u "java/lang/StringUTF16$LinesSpliterator"), (58, u "MAX_LENGTH"), (196, .class_ 628), (0, u "java/lang/StringUTF16$CodePointsSpliterator"), (0, .class_ 630), (0, u "java/lang/StringUTF16$CharsSpliterator")] 4

def k8m0 : Method := { name := "<init>", desc := "()V", sig := { parameters := [], returnType := none }, accessFlags := 0, code := none }
def k8c1 : Code := { maxStack := 2, maxLocals := 2, code := jdk_52_method_15_code, exceptionTable := #[], attributes := #[] }
def k8m1 : Method := { name := "coderFromArrayLen", desc := "([BI)B", sig := { parameters := [(.array .byte), .int], returnType := some .byte }, accessFlags := 8, code := some k8c1 }
def k8c2 : Code := { maxStack := 5, maxLocals := 6, code := jdk_52_method_16_code, exceptionTable := #[], attributes := #[] }
def k8m2 : Method := { name := "compress", desc := "([CII)[B", sig := { parameters := [(.array .char), .int, .int], returnType := some (.array .byte) }, accessFlags := 9, code := some k8c2 }
def k8c3 : Code := { maxStack := 3, maxLocals := 7, code := jdk_52_method_21_code, exceptionTable := #[], attributes := #[] }
def k8m3 : Method := { name := "compress", desc := "([CI[BII)I", sig := { parameters := [(.array .char), .int, (.array .byte), .int, .int], returnType := some .int }, accessFlags := 9, code := some k8c3 }
/-- java/lang/StringUTF16 -/
def k8 : Class := { plain "java/lang/StringUTF16" (some 0) with
  accessFlags := 48
  interfaces := #[]
  cf := some (fileOf pool8 12 #[.nestMembers #[627, 629, 369]] #[{ accessFlags := 0, nameIndex := 9, descriptorIndex := 10, attributes := #[] }, { accessFlags := 8, nameIndex := 261, descriptorIndex := 262, attributes := #[] }, { accessFlags := 9, nameIndex := 117, descriptorIndex := 122, attributes := #[] }, { accessFlags := 9, nameIndex := 117, descriptorIndex := 118, attributes := #[] }] 48 6 #[] #[{ accessFlags := 26, nameIndex := 61, descriptorIndex := 62, attributes := #[] }, { accessFlags := 26, nameIndex := 65, descriptorIndex := 62, attributes := #[] }, { accessFlags := 24, nameIndex := 430, descriptorIndex := 62, attributes := #[] }, { accessFlags := 4120, nameIndex := 46, descriptorIndex := 47, attributes := #[] }])
  fields := #[{ name := "HI_BYTE_SHIFT", type := .int, accessFlags := 26, slot := 0, constantValue := 0 }, { name := "LO_BYTE_SHIFT", type := .int, accessFlags := 26, slot := 1, constantValue := 0 }, { name := "MAX_LENGTH", type := .int, accessFlags := 24, slot := 2, constantValue := 0 }, { name := "$assertionsDisabled", type := .boolean, accessFlags := 4120, slot := 3, constantValue := 0 }]
  methods := #[k8m0, k8m1, k8m2, k8m3]
  instanceTypes := #[]
  staticTypes := #[.int, .int, .int, .boolean]
  resolved := Array.replicate 635 none
  statics := none }

def pool9 : Array CpInfo := pool [(1, .methodref 2 3), (0, .class_ 4), (0, .nameAndType 5 6), (0, u "java/lang/Object"), (0, u "<init>"), (0, u "()V"), (0, .class_ 8), (0, u "java/lang/Record")] 13

def k9c0 : Code := { maxStack := 1, maxLocals := 1, code := jdk_30_method_1_code, exceptionTable := #[], attributes := #[] }
def k9m0 : Method := { name := "<init>", desc := "()V", sig := { parameters := [], returnType := none }, accessFlags := 4, code := some k9c0 }
/-- java/lang/Record -/
def k9 : Class := { plain "java/lang/Record" (some 0) with
  accessFlags := 1057
  interfaces := #[]
  cf := some (fileOf pool9 7 #[] #[{ accessFlags := 4, nameIndex := 5, descriptorIndex := 6, attributes := #[] }] 1057 2 #[] #[])
  fields := #[]
  methods := #[k9m0]
  instanceTypes := #[]
  staticTypes := #[]
  resolved := Array.replicate 22 none
  statics := none }

def pool10 : Array CpInfo := pool [(1, .methodref 2 3), (0, .class_ 4), (0, .nameAndType 5 6), (0, u "java/lang/Record"), (0, u "<init>"), (0, u "()V"), (0, .fieldref 8 9), (0, .class_ 10), (0, .nameAndType 11 12), (0, u "com/example/rulewright/rulewright/rules/Declarations$Declaration"), (0, u "name"), (0, u "Ljava/lang/String;"), (0, .fieldref 8 14), (0, .nameAndType 15 16), (0, u "nameColumn"), (0, u "I"), (0, .fieldref 8 18), (0, .nameAndType 19 12), (0, u "text"), (0, .fieldref 8 21), (0, .nameAndType 22 16), (0, u "textColumn"), (0, .fieldref 8 24), (0, .nameAndType 25 16), (0, u "line"), (0, .fieldref 8 27), (0, .nameAndType 28 16), (0, u "useLine"), (0, .methodref 8 30), (0, .nameAndType 5 31), (0, u "(Ljava/lang/String;ILjava/lang/String;III)V"), (16, u "usedAt"), (0, u "(I)Lcom/example/rulewright/rulewright/rules/Declarations$Declaration;"), (0, u "()Ljava/lang/String;"), (0, u "()I"), (4, .class_ 57), (0, u "com/example/rulewright/rulewright/rules/Declarations")] 24

def k10c0 : Code := { maxStack := 2, maxLocals := 7, code := prog_52_method_2_code, exceptionTable := #[], attributes := #[] }
def k10m0 : Method := { name := "<init>", desc := "(Ljava/lang/String;ILjava/lang/String;III)V", sig := { parameters := [(.object "java/lang/String"), .int, (.object "java/lang/String"), .int, .int, .int], returnType := none }, accessFlags := 0, code := some k10c0 }
def k10c1 : Code := { maxStack := 8, maxLocals := 2, code := prog_52_method_3_code, exceptionTable := #[], attributes := #[] }
def k10m1 : Method := { name := "usedAt", desc := "(I)Lcom/example/rulewright/rulewright/rules/Declarations$Declaration;", sig := { parameters := [.int], returnType := some (.object "com/example/rulewright/rulewright/rules/Declarations$Declaration") }, accessFlags := 0, code := some k10c1 }
def k10c2 : Code := { maxStack := 1, maxLocals := 1, code := prog_52_method_7_code, exceptionTable := #[], attributes := #[] }
def k10m2 : Method := { name := "name", desc := "()Ljava/lang/String;", sig := { parameters := [], returnType := some (.object "java/lang/String") }, accessFlags := 1, code := some k10c2 }
def k10c3 : Code := { maxStack := 1, maxLocals := 1, code := prog_52_method_8_code, exceptionTable := #[], attributes := #[] }
def k10m3 : Method := { name := "nameColumn", desc := "()I", sig := { parameters := [], returnType := some .int }, accessFlags := 1, code := some k10c3 }
def k10c4 : Code := { maxStack := 1, maxLocals := 1, code := prog_52_method_9_code, exceptionTable := #[], attributes := #[] }
def k10m4 : Method := { name := "text", desc := "()Ljava/lang/String;", sig := { parameters := [], returnType := some (.object "java/lang/String") }, accessFlags := 1, code := some k10c4 }
def k10c5 : Code := { maxStack := 1, maxLocals := 1, code := prog_52_method_10_code, exceptionTable := #[], attributes := #[] }
def k10m5 : Method := { name := "textColumn", desc := "()I", sig := { parameters := [], returnType := some .int }, accessFlags := 1, code := some k10c5 }
def k10c6 : Code := { maxStack := 1, maxLocals := 1, code := prog_52_method_11_code, exceptionTable := #[], attributes := #[] }
def k10m6 : Method := { name := "line", desc := "()I", sig := { parameters := [], returnType := some .int }, accessFlags := 1, code := some k10c6 }
def k10c7 : Code := { maxStack := 1, maxLocals := 1, code := prog_52_method_12_code, exceptionTable := #[], attributes := #[] }
def k10m7 : Method := { name := "useLine", desc := "()I", sig := { parameters := [], returnType := some .int }, accessFlags := 1, code := some k10c7 }
/-- com/example/rulewright/rulewright/rules/Declarations$Declaration -/
def k10 : Class := { plain "com/example/rulewright/rulewright/rules/Declarations$Declaration" (some 9) with
  accessFlags := 48
  interfaces := #[]
  cf := some (fileOf pool10 8 #[.nestHost 56] #[{ accessFlags := 0, nameIndex := 5, descriptorIndex := 31, attributes := #[] }, { accessFlags := 0, nameIndex := 48, descriptorIndex := 49, attributes := #[] }, { accessFlags := 1, nameIndex := 11, descriptorIndex := 50, attributes := #[] }, { accessFlags := 1, nameIndex := 15, descriptorIndex := 51, attributes := #[] }, { accessFlags := 1, nameIndex := 19, descriptorIndex := 50, attributes := #[] }, { accessFlags := 1, nameIndex := 22, descriptorIndex := 51, attributes := #[] }, { accessFlags := 1, nameIndex := 25, descriptorIndex := 51, attributes := #[] }, { accessFlags := 1, nameIndex := 28, descriptorIndex := 51, attributes := #[] }] 48 2 #[] #[{ accessFlags := 18, nameIndex := 11, descriptorIndex := 12, attributes := #[] }, { accessFlags := 18, nameIndex := 15, descriptorIndex := 16, attributes := #[] }, { accessFlags := 18, nameIndex := 19, descriptorIndex := 12, attributes := #[] }, { accessFlags := 18, nameIndex := 22, descriptorIndex := 16, attributes := #[] }, { accessFlags := 18, nameIndex := 25, descriptorIndex := 16, attributes := #[] }, { accessFlags := 18, nameIndex := 28, descriptorIndex := 16, attributes := #[] }])
  fields := #[{ name := "name", type := (.object "java/lang/String"), accessFlags := 18, slot := 0, constantValue := 0 }, { name := "nameColumn", type := .int, accessFlags := 18, slot := 1, constantValue := 0 }, { name := "text", type := (.object "java/lang/String"), accessFlags := 18, slot := 2, constantValue := 0 }, { name := "textColumn", type := .int, accessFlags := 18, slot := 3, constantValue := 0 }, { name := "line", type := .int, accessFlags := 18, slot := 4, constantValue := 0 }, { name := "useLine", type := .int, accessFlags := 18, slot := 5, constantValue := 0 }]
  methods := #[k10m0, k10m1, k10m2, k10m3, k10m4, k10m5, k10m6, k10m7]
  instanceTypes := #[(.object "java/lang/String"), .int, (.object "java/lang/String"), .int, .int, .int]
  staticTypes := #[]
  resolved := Array.replicate 82 none
  statics := none }

def pool11 : Array CpInfo := pool [(4, .class_ 6), (1, u "java/lang/Object"), (0, u "<init>"), (0, u "()V"), (5, .class_ 16), (1, u "java/lang/StringLatin1"), (104, u "$assertionsDisabled"), (0, u "Z"), (98, .class_ 223), (1, u "java/lang/StringLatin1$LinesSpliterator"), (166, .class_ 391), (0, u "java/lang/StringLatin1$CharsSpliterator")] 3

def k11m0 : Method := { name := "<init>", desc := "()V", sig := { parameters := [], returnType := none }, accessFlags := 0, code := none }
/-- java/lang/StringLatin1 -/
def k11 : Class := { plain "java/lang/StringLatin1" (some 0) with
  accessFlags := 48
  interfaces := #[]
  cf := some (fileOf pool11 14 #[.nestMembers #[390, 221]] #[{ accessFlags := 0, nameIndex := 7, descriptorIndex := 8, attributes := #[] }] 48 4 #[] #[{ accessFlags := 4120, nameIndex := 121, descriptorIndex := 122, attributes := #[] }])
  fields := #[{ name := "$assertionsDisabled", type := .boolean, accessFlags := 4120, slot := 0, constantValue := 0 }]
  methods := #[k11m0]
  instanceTypes := #[]
  staticTypes := #[.boolean]
  resolved := Array.replicate 395 none
  statics := none }

def pool12 : Array CpInfo := pool [(2, .class_ 4), (1, u "java/lang/Object"), (0, u "<init>"), (0, u "()V"), (17, .class_ 26), (1, u "jdk/internal/util/Preconditions"), (28, .class_ 56), (0, u "jdk/internal/util/Preconditions$4"), (57, .class_ 115), (0, u "jdk/internal/util/Preconditions$1"), (7, u "SIOOBE_FORMATTER"), (0, u "Ljava/util/function/BiFunction;"), (0, .class_ 126), (0, u "jdk/internal/util/Preconditions$2"), (3, u "AIOOBE_FORMATTER"), (0, .class_ 132), (0, u "jdk/internal/util/Preconditions$3"), (3, u "IOOBE_FORMATTER")] 57

def k12m0 : Method := { name := "<init>", desc := "()V", sig := { parameters := [], returnType := none }, accessFlags := 1, code := none }
/-- jdk/internal/util/Preconditions -/
def k12 : Class := { plain "jdk/internal/util/Preconditions" (some 0) with
  accessFlags := 33
  interfaces := #[]
  cf := some (fileOf pool12 24 #[.nestMembers #[55, 131, 125, 114]] #[{ accessFlags := 1, nameIndex := 5, descriptorIndex := 6, attributes := #[] }] 33 2 #[] #[{ accessFlags := 25, nameIndex := 123, descriptorIndex := 124, attributes := #[] }, { accessFlags := 25, nameIndex := 130, descriptorIndex := 124, attributes := #[] }, { accessFlags := 25, nameIndex := 136, descriptorIndex := 124, attributes := #[] }])
  fields := #[{ name := "SIOOBE_FORMATTER", type := (.object "java/util/function/BiFunction"), accessFlags := 25, slot := 0, constantValue := 0 }, { name := "AIOOBE_FORMATTER", type := (.object "java/util/function/BiFunction"), accessFlags := 25, slot := 1, constantValue := 0 }, { name := "IOOBE_FORMATTER", type := (.object "java/util/function/BiFunction"), accessFlags := 25, slot := 2, constantValue := 0 }]
  methods := #[k12m0]
  instanceTypes := #[]
  staticTypes := #[(.object "java/util/function/BiFunction"), (.object "java/util/function/BiFunction"), (.object "java/util/function/BiFunction")]
  resolved := Array.replicate 194 none
  statics := some 1 }

def pool13 : Array CpInfo := pool [(9, u "<init>"), (6, .class_ 18), (1, u "java/lang/Object"), (0, u "()V"), (1, .class_ 23), (1, u "jdk/internal/util/ArraysSupport"), (0, u "LOG2_ARRAY_LONG_INDEX_SCALE"), (0, u "I"), (2, u "U"), (0, u "Ljdk/internal/misc/Unsafe;"), (8, u "BIG_ENDIAN"), (0, u "Z"), (8, u "LOG2_BYTE_BIT_SIZE"), (4, u "LOG2_ARRAY_INT_INDEX_SCALE"), (54, u "JLA"), (0, u "Ljdk/internal/access/JavaLangAccess;"), (11, u "LOG2_ARRAY_BOOLEAN_INDEX_SCALE"), (9, u "LOG2_ARRAY_BYTE_INDEX_SCALE"), (5, u "LOG2_ARRAY_CHAR_INDEX_SCALE"), (5, u "LOG2_ARRAY_SHORT_INDEX_SCALE"), (18, u "LOG2_ARRAY_FLOAT_INDEX_SCALE"), (24, u "LOG2_ARRAY_DOUBLE_INDEX_SCALE"), (89, u "T_BOOLEAN"), (2, u "T_CHAR"), (1, u "T_FLOAT"), (1, u "T_DOUBLE"), (1, u "T_BYTE"), (1, u "T_SHORT"), (1, u "T_INT"), (1, u "T_LONG"), (1, u "SOFT_MAX_ARRAY_LENGTH")] 83

def k13m0 : Method := { name := "<init>", desc := "()V", sig := { parameters := [], returnType := none }, accessFlags := 2, code := none }
/-- jdk/internal/util/ArraysSupport -/
def k13 : Class := { plain "jdk/internal/util/ArraysSupport" (some 0) with
  accessFlags := 33
  interfaces := #[]
  cf := some (fileOf pool13 21 #[] #[{ accessFlags := 2, nameIndex := 9, descriptorIndex := 19, attributes := #[] }] 33 16 #[] #[{ accessFlags := 24, nameIndex := 28, descriptorIndex := 29, attributes := #[] }, { accessFlags := 26, nameIndex := 38, descriptorIndex := 39, attributes := #[] }, { accessFlags := 25, nameIndex := 121, descriptorIndex := 25, attributes := #[] }, { accessFlags := 25, nameIndex := 131, descriptorIndex := 25, attributes := #[] }, { accessFlags := 25, nameIndex := 137, descriptorIndex := 25, attributes := #[] }, { accessFlags := 25, nameIndex := 143, descriptorIndex := 25, attributes := #[] }, { accessFlags := 25, nameIndex := 53, descriptorIndex := 25, attributes := #[] }, { accessFlags := 25, nameIndex := 24, descriptorIndex := 25, attributes := #[] }, { accessFlags := 25, nameIndex := 162, descriptorIndex := 25, attributes := #[] }, { accessFlags := 25, nameIndex := 187, descriptorIndex := 25, attributes := #[] }, { accessFlags := 26, nameIndex := 48, descriptorIndex := 25, attributes := #[] }, { accessFlags := 25, nameIndex := 277, descriptorIndex := 25, attributes := #[] }, { accessFlags := 25, nameIndex := 280, descriptorIndex := 25, attributes := #[] }, { accessFlags := 25, nameIndex := 282, descriptorIndex := 25, attributes := #[] }, { accessFlags := 25, nameIndex := 284, descriptorIndex := 25, attributes := #[] }, { accessFlags := 25, nameIndex := 286, descriptorIndex := 25, attributes := #[] }, { accessFlags := 25, nameIndex := 288, descriptorIndex := 25, attributes := #[] }, { accessFlags := 25, nameIndex := 290, descriptorIndex := 25, attributes := #[] }, { accessFlags := 25, nameIndex := 292, descriptorIndex := 25, attributes := #[] }, { accessFlags := 26, nameIndex := 108, descriptorIndex := 109, attributes := #[] }, { accessFlags := 25, nameIndex := 294, descriptorIndex := 25, attributes := #[] }])
  fields := #[{ name := "U", type := (.object "jdk/internal/misc/Unsafe"), accessFlags := 24, slot := 0, constantValue := 0 }, { name := "BIG_ENDIAN", type := .boolean, accessFlags := 26, slot := 1, constantValue := 0 }, { name := "LOG2_ARRAY_BOOLEAN_INDEX_SCALE", type := .int, accessFlags := 25, slot := 2, constantValue := 0 }, { name := "LOG2_ARRAY_BYTE_INDEX_SCALE", type := .int, accessFlags := 25, slot := 3, constantValue := 0 }, { name := "LOG2_ARRAY_CHAR_INDEX_SCALE", type := .int, accessFlags := 25, slot := 4, constantValue := 0 }, { name := "LOG2_ARRAY_SHORT_INDEX_SCALE", type := .int, accessFlags := 25, slot := 5, constantValue := 0 }, { name := "LOG2_ARRAY_INT_INDEX_SCALE", type := .int, accessFlags := 25, slot := 6, constantValue := 0 }, { name := "LOG2_ARRAY_LONG_INDEX_SCALE", type := .int, accessFlags := 25, slot := 7, constantValue := 0 }, { name := "LOG2_ARRAY_FLOAT_INDEX_SCALE", type := .int, accessFlags := 25, slot := 8, constantValue := 0 }, { name := "LOG2_ARRAY_DOUBLE_INDEX_SCALE", type := .int, accessFlags := 25, slot := 9, constantValue := 0 }, { name := "LOG2_BYTE_BIT_SIZE", type := .int, accessFlags := 26, slot := 10, constantValue := 0 }, { name := "T_BOOLEAN", type := .int, accessFlags := 25, slot := 11, constantValue := 0 }, { name := "T_CHAR", type := .int, accessFlags := 25, slot := 12, constantValue := 0 }, { name := "T_FLOAT", type := .int, accessFlags := 25, slot := 13, constantValue := 0 }, { name := "T_DOUBLE", type := .int, accessFlags := 25, slot := 14, constantValue := 0 }, { name := "T_BYTE", type := .int, accessFlags := 25, slot := 15, constantValue := 0 }, { name := "T_SHORT", type := .int, accessFlags := 25, slot := 16, constantValue := 0 }, { name := "T_INT", type := .int, accessFlags := 25, slot := 17, constantValue := 0 }, { name := "T_LONG", type := .int, accessFlags := 25, slot := 18, constantValue := 0 }, { name := "JLA", type := (.object "jdk/internal/access/JavaLangAccess"), accessFlags := 26, slot := 19, constantValue := 0 }, { name := "SOFT_MAX_ARRAY_LENGTH", type := .int, accessFlags := 25, slot := 20, constantValue := 0 }]
  methods := #[k13m0]
  instanceTypes := #[]
  staticTypes := #[(.object "jdk/internal/misc/Unsafe"), .boolean, .int, .int, .int, .int, .int, .int, .int, .int, .int, .int, .int, .int, .int, .int, .int, .int, .int, (.object "jdk/internal/access/JavaLangAccess"), .int]
  resolved := Array.replicate 378 none
  statics := none }

def pool14 : Array CpInfo := pool [(1, u "java/lang/Cloneable"), (0, .class_ 1), (0, u "java/lang/Object"), (0, .class_ 3)] 3

/-- java/lang/Cloneable -/
def k14 : Class := { plain "java/lang/Cloneable" (some 0) with
  accessFlags := 1537
  interfaces := #[]
  cf := some (fileOf pool14 2 #[] #[] 1537 4 #[] #[])
  fields := #[]
  methods := #[]
  instanceTypes := #[]
  staticTypes := #[]
  resolved := Array.replicate 8 none
  statics := none }

/-- the primitive byte -/
def k15 : Class := { plain "byte" none with kind := .primitive 'B', accessFlags := 0x411 }
/-- [B -/
def k16 : Class := { plain "[B" (some 0) with kind := .array 15 .byte, interfaces := #[14, 2], accessFlags := 1041 }

/-- the primitive char -/
def k17 : Class := { plain "char" none with kind := .primitive 'C', accessFlags := 0x411 }
/-- [C -/
def k18 : Class := { plain "[C" (some 0) with kind := .array 17 .char, interfaces := #[14, 2], accessFlags := 1041 }

/-- the primitive int -/
def k19 : Class := { plain "int" none with kind := .primitive 'I', accessFlags := 0x411 }
/-- [I -/
def k20 : Class := { plain "[I" (some 0) with kind := .array 19 .int, interfaces := #[14, 2], accessFlags := 1041 }

def heap : Heap := #[{ cls := 7, slots := #[.long 0, .int 1, .null, .int 0, .null, .int 0, .int 0], vm := .statics 7 },
  { cls := 12, slots := #[.null, .null, .null], vm := .statics 12 }]
def classes : Array Class := #[k0, k1, k2, k3, k4, k5, k6, k7, k8, k9, k10, k11, k12, k13, k14, k15, k16, k17, k18, k19, k20]
def interned : List (Array UInt16 × Addr) := []
def slotsUsed : Nat := 10
def theMethod : MethodId := ⟨1, 1⟩
def args0 : Array Value := #[.int 7, .int 1, .int 2, .int 3, .int 4, .int 5]
def aboutOver (below : List Frame) : State where
  vm := { classes := classes, interned := interned.toArray }
  heap := heap
  slotsUsed := slotsUsed
  threads := #[{ frames := .invoking theMethod args0 :: below }]
def below0 : List Frame := [.native { method := ⟨0, 0⟩, args := #[] }]
def about1 : State := aboutOver below0
def p0 : Program := .bare "" "" ""
def e0 : Env := launch0.env 0 0 0
theorem w_frames : about1.frames = Frame.invoking theMethod args0 :: below0 := rfl
set_option maxRecDepth 65536 in
theorem w_args : argsFit about1.vm theMethod args0 = true := by decide +kernel
set_option maxRecDepth 65536 in
theorem w_heap : heapFits about1 = true := by decide +kernel
set_option maxRecDepth 65536 in
theorem w_runnable : about1.curStatus? = some .runnable := by decide +kernel
set_option maxRecDepth 65536 in
theorem w_alone : about1.alone = true := by decide +kernel
set_option maxRecDepth 65536 in
theorem w_named : about1.methodNamed? x = some theMethod := by decide +kernel
set_option maxRecDepth 65536 in
theorem w_hears : about1.hears theMethod below0 = true := by decide +kernel
set_option maxRecDepth 65536 in
theorem w_ripe : about1.ripe theMethod args0 below0 = true := by decide +kernel
theorem w_running : about1.status = .running := rfl
set_option maxRecDepth 65536 in
theorem w_room : about1.hasRoom e0.platform room_1 = true :=
  launch0.hasRoom_least _ room_1 (by decide +kernel) (by decide +kernel) (by decide +kernel) (by decide +kernel) (by decide +kernel) (by decide +kernel)
theorem allAtoms_all (ts : List Jvm.Cond) (a : Array Jvm.Value) (st : Jvm.State) : (allAtoms ts).before a st = ts.all (fun c => c.before a st) := by
  induction ts with
  | nil => rfl
  | cons c t ih =>
    show (Jvm.Cond.and c (allAtoms t)).before a st = _
    rw [Jvm.Cond.before_and, ih, List.all_cons]
def words1 : List Jvm.Cond := Jvm.Cond.code x code maxLocals ret :: tables_1
/-- a 'code' word, met by the world's own term for the bytes: nothing is compared byte by byte -/
theorem code_word {y : MethodName} {bytes : ByteArray} {mx : Nat} {rt : Option FieldType} {a : Array Value} {s : State} {m : MethodId} {meth : Method} {c : Code} (h1 : s.methodNamed? y = some m) (h2 : s.vm.method? m = some meth) (h3 : meth.code = some c) (h4 : c.code = bytes)
    (h5 : (c.maxLocals == mx && c.exceptionTable.isEmpty && decide (c.maxStack ≤ mostOperands) && decide (meth.sig.returnType = rt) && !meth.locks && decide (parseMethodDescriptor y.desc = some meth.sig)) = true) : (Jvm.Cond.code y bytes mx rt).before a s = true := by
  simp only [Bool.and_eq_true, beq_iff_eq, Bool.not_eq_true', decide_eq_true_eq] at h5
  obtain ⟨⟨⟨⟨⟨g1, g2⟩, g3⟩, g4⟩, g5⟩, g6⟩ := h5
  simp [Cond.before, Cond.holds, Cond.value, h1, h2, h3, h4, g1, g2, g3, g4, g5, g6]
def isCode : Jvm.Cond → Bool
  | .code _ _ _ _ => true
  | _ => false
theorem all_split {L : List Jvm.Cond} {P : Jvm.Cond → Bool} (h1 : L.all (fun c => isCode c || P c) = true) (h2 : ∀ c ∈ L.filter isCode, P c = true) : L.all P = true := by
  refine List.all_eq_true.mpr fun c hc => ?_
  have h := List.all_eq_true.mp h1 c hc
  rcases Bool.eq_false_or_eq_true (isCode c) with hi | hi
  · exact h2 c (List.mem_filter.mpr ⟨hc, hi⟩)
  · simpa [hi] using h
set_option maxRecDepth 65536 in
theorem w_c0 : (Jvm.Cond.code x code maxLocals ret).before args0 about1 = true := code_word (m := ⟨1, 1⟩) (meth := k1m1) (c := k1c1) (by decide +kernel) rfl rfl rfl (by decide +kernel)
set_option maxRecDepth 65536 in
theorem w_c1 : (Jvm.Cond.code ({ cls := "java/lang/String", name := "<init>", desc := "([C)V" } : Jvm.MethodName) jdk_42_method_3_code (2 : Nat) (Option.none : Option Jvm.ClassFile.FieldType)).before args0 about1 = true := code_word (m := ⟨7, 1⟩) (meth := k7m1) (c := k7c1) (by decide +kernel) rfl rfl rfl (by decide +kernel)
set_option maxRecDepth 65536 in
theorem w_c2 : (Jvm.Cond.code ({ cls := "java/lang/String", name := "<init>", desc := "([CIILjava/lang/Void;)V" } : Jvm.MethodName) jdk_42_method_149_code (6 : Nat) (Option.none : Option Jvm.ClassFile.FieldType)).before args0 about1 = true := code_word (m := ⟨7, 3⟩) (meth := k7m3) (c := k7c3) (by decide +kernel) rfl rfl rfl (by decide +kernel)
set_option maxRecDepth 65536 in
theorem w_c3 : (Jvm.Cond.code ({ cls := "java/lang/Object", name := "<init>", desc := "()V" } : Jvm.MethodName) object_method_1_code (1 : Nat) (Option.none : Option Jvm.ClassFile.FieldType)).before args0 about1 = true := code_word (m := ⟨0, 0⟩) (meth := k0m0) (c := k0c0) (by decide +kernel) rfl rfl rfl (by decide +kernel)
set_option maxRecDepth 65536 in
theorem w_c4 : (Jvm.Cond.code ({ cls := "java/lang/StringUTF16", name := "compress", desc := "([CII)[B" } : Jvm.MethodName) jdk_52_method_16_code (6 : Nat) (Option.some (Jvm.ClassFile.FieldType.array Jvm.ClassFile.FieldType.byte))).before args0 about1 = true := code_word (m := ⟨8, 2⟩) (meth := k8m2) (c := k8c2) (by decide +kernel) rfl rfl rfl (by decide +kernel)
set_option maxRecDepth 65536 in
theorem w_c5 : (Jvm.Cond.code ({ cls := "java/lang/StringUTF16", name := "compress", desc := "([CI[BII)I" } : Jvm.MethodName) jdk_52_method_21_code (7 : Nat) (Option.some Jvm.ClassFile.FieldType.int)).before args0 about1 = true := code_word (m := ⟨8, 3⟩) (meth := k8m3) (c := k8c3) (by decide +kernel) rfl rfl rfl (by decide +kernel)
set_option maxRecDepth 65536 in
theorem w_c6 : (Jvm.Cond.code ({ cls := "java/lang/StringUTF16", name := "coderFromArrayLen", desc := "([BI)B" } : Jvm.MethodName) jdk_52_method_15_code (2 : Nat) (Option.some Jvm.ClassFile.FieldType.byte)).before args0 about1 = true := code_word (m := ⟨8, 1⟩) (meth := k8m1) (c := k8c1) (by decide +kernel) rfl rfl rfl (by decide +kernel)
set_option maxRecDepth 65536 in
theorem w_c7 : (Jvm.Cond.code ({ cls := "com/example/rulewright/rulewright/rules/Declarations$Declaration", name := "<init>", desc := "(Ljava/lang/String;ILjava/lang/String;III)V" } : Jvm.MethodName) prog_52_method_2_code (7 : Nat) (Option.none : Option Jvm.ClassFile.FieldType)).before args0 about1 = true := code_word (m := ⟨10, 0⟩) (meth := k10m0) (c := k10c0) (by decide +kernel) rfl rfl rfl (by decide +kernel)
set_option maxRecDepth 65536 in
theorem w_c8 : (Jvm.Cond.code ({ cls := "java/lang/Record", name := "<init>", desc := "()V" } : Jvm.MethodName) jdk_30_method_1_code (1 : Nat) (Option.none : Option Jvm.ClassFile.FieldType)).before args0 about1 = true := code_word (m := ⟨9, 0⟩) (meth := k9m0) (c := k9c0) (by decide +kernel) rfl rfl rfl (by decide +kernel)
set_option maxRecDepth 65536 in
theorem w_c9 : (Jvm.Cond.code ({ cls := "com/example/rulewright/rulewright/rules/Declarations$Declaration", name := "usedAt", desc := "(I)Lcom/example/rulewright/rulewright/rules/Declarations$Declaration;" } : Jvm.MethodName) prog_52_method_3_code (2 : Nat) (Option.some (Jvm.ClassFile.FieldType.object "com/example/rulewright/rulewright/rules/Declarations$Declaration"))).before args0 about1 = true := code_word (m := ⟨10, 1⟩) (meth := k10m1) (c := k10c1) (by decide +kernel) rfl rfl rfl (by decide +kernel)
set_option maxRecDepth 65536 in
theorem w_c10 : (Jvm.Cond.code ({ cls := "com/example/rulewright/rulewright/rules/Declarations$Declaration", name := "name", desc := "()Ljava/lang/String;" } : Jvm.MethodName) prog_52_method_7_code (1 : Nat) (Option.some (Jvm.ClassFile.FieldType.object "java/lang/String"))).before args0 about1 = true := code_word (m := ⟨10, 2⟩) (meth := k10m2) (c := k10c2) (by decide +kernel) rfl rfl rfl (by decide +kernel)
set_option maxRecDepth 65536 in
theorem w_c11 : (Jvm.Cond.code ({ cls := "java/lang/String", name := "equals", desc := "(Ljava/lang/Object;)Z" } : Jvm.MethodName) jdk_42_method_66_code (3 : Nat) (Option.some Jvm.ClassFile.FieldType.boolean)).before args0 about1 = true := code_word (m := ⟨7, 2⟩) (meth := k7m2) (c := k7c2) (by decide +kernel) rfl rfl rfl (by decide +kernel)
set_option maxRecDepth 65536 in
theorem w_c12 : (Jvm.Cond.code ({ cls := "com/example/rulewright/rulewright/rules/Declarations$Declaration", name := "nameColumn", desc := "()I" } : Jvm.MethodName) prog_52_method_8_code (1 : Nat) (Option.some Jvm.ClassFile.FieldType.int)).before args0 about1 = true := code_word (m := ⟨10, 3⟩) (meth := k10m3) (c := k10c3) (by decide +kernel) rfl rfl rfl (by decide +kernel)
set_option maxRecDepth 65536 in
theorem w_c13 : (Jvm.Cond.code ({ cls := "com/example/rulewright/rulewright/rules/Declarations$Declaration", name := "text", desc := "()Ljava/lang/String;" } : Jvm.MethodName) prog_52_method_9_code (1 : Nat) (Option.some (Jvm.ClassFile.FieldType.object "java/lang/String"))).before args0 about1 = true := code_word (m := ⟨10, 4⟩) (meth := k10m4) (c := k10c4) (by decide +kernel) rfl rfl rfl (by decide +kernel)
set_option maxRecDepth 65536 in
theorem w_c14 : (Jvm.Cond.code ({ cls := "com/example/rulewright/rulewright/rules/Declarations$Declaration", name := "textColumn", desc := "()I" } : Jvm.MethodName) prog_52_method_10_code (1 : Nat) (Option.some Jvm.ClassFile.FieldType.int)).before args0 about1 = true := code_word (m := ⟨10, 5⟩) (meth := k10m5) (c := k10c5) (by decide +kernel) rfl rfl rfl (by decide +kernel)
set_option maxRecDepth 65536 in
theorem w_c15 : (Jvm.Cond.code ({ cls := "com/example/rulewright/rulewright/rules/Declarations$Declaration", name := "line", desc := "()I" } : Jvm.MethodName) prog_52_method_11_code (1 : Nat) (Option.some Jvm.ClassFile.FieldType.int)).before args0 about1 = true := code_word (m := ⟨10, 6⟩) (meth := k10m6) (c := k10c6) (by decide +kernel) rfl rfl rfl (by decide +kernel)
set_option maxRecDepth 65536 in
theorem w_c16 : (Jvm.Cond.code ({ cls := "com/example/rulewright/rulewright/rules/Declarations$Declaration", name := "useLine", desc := "()I" } : Jvm.MethodName) prog_52_method_12_code (1 : Nat) (Option.some Jvm.ClassFile.FieldType.int)).before args0 about1 = true := code_word (m := ⟨10, 7⟩) (meth := k10m7) (c := k10c7) (by decide +kernel) rfl rfl rfl (by decide +kernel)
def codes1 : List Jvm.Cond := [Jvm.Cond.code x code maxLocals ret, Jvm.Cond.code ({ cls := "java/lang/String", name := "<init>", desc := "([C)V" } : Jvm.MethodName) jdk_42_method_3_code (2 : Nat) (Option.none : Option Jvm.ClassFile.FieldType), Jvm.Cond.code ({ cls := "java/lang/String", name := "<init>", desc := "([CIILjava/lang/Void;)V" } : Jvm.MethodName) jdk_42_method_149_code (6 : Nat) (Option.none : Option Jvm.ClassFile.FieldType), Jvm.Cond.code ({ cls := "java/lang/Object", name := "<init>", desc := "()V" } : Jvm.MethodName) object_method_1_code (1 : Nat) (Option.none : Option Jvm.ClassFile.FieldType), Jvm.Cond.code ({ cls := "java/lang/StringUTF16", name := "compress", desc := "([CII)[B" } : Jvm.MethodName) jdk_52_method_16_code (6 : Nat) (Option.some (Jvm.ClassFile.FieldType.array Jvm.ClassFile.FieldType.byte)), Jvm.Cond.code ({ cls := "java/lang/StringUTF16", name := "compress", desc := "([CI[BII)I" } : Jvm.MethodName) jdk_52_method_21_code (7 : Nat) (Option.some Jvm.ClassFile.FieldType.int), Jvm.Cond.code ({ cls := "java/lang/StringUTF16", name := "coderFromArrayLen", desc := "([BI)B" } : Jvm.MethodName) jdk_52_method_15_code (2 : Nat) (Option.some Jvm.ClassFile.FieldType.byte), Jvm.Cond.code ({ cls := "com/example/rulewright/rulewright/rules/Declarations$Declaration", name := "<init>", desc := "(Ljava/lang/String;ILjava/lang/String;III)V" } : Jvm.MethodName) prog_52_method_2_code (7 : Nat) (Option.none : Option Jvm.ClassFile.FieldType), Jvm.Cond.code ({ cls := "java/lang/Record", name := "<init>", desc := "()V" } : Jvm.MethodName) jdk_30_method_1_code (1 : Nat) (Option.none : Option Jvm.ClassFile.FieldType), Jvm.Cond.code ({ cls := "com/example/rulewright/rulewright/rules/Declarations$Declaration", name := "usedAt", desc := "(I)Lcom/example/rulewright/rulewright/rules/Declarations$Declaration;" } : Jvm.MethodName) prog_52_method_3_code (2 : Nat) (Option.some (Jvm.ClassFile.FieldType.object "com/example/rulewright/rulewright/rules/Declarations$Declaration")), Jvm.Cond.code ({ cls := "com/example/rulewright/rulewright/rules/Declarations$Declaration", name := "name", desc := "()Ljava/lang/String;" } : Jvm.MethodName) prog_52_method_7_code (1 : Nat) (Option.some (Jvm.ClassFile.FieldType.object "java/lang/String")), Jvm.Cond.code ({ cls := "java/lang/String", name := "equals", desc := "(Ljava/lang/Object;)Z" } : Jvm.MethodName) jdk_42_method_66_code (3 : Nat) (Option.some Jvm.ClassFile.FieldType.boolean), Jvm.Cond.code ({ cls := "com/example/rulewright/rulewright/rules/Declarations$Declaration", name := "nameColumn", desc := "()I" } : Jvm.MethodName) prog_52_method_8_code (1 : Nat) (Option.some Jvm.ClassFile.FieldType.int), Jvm.Cond.code ({ cls := "com/example/rulewright/rulewright/rules/Declarations$Declaration", name := "text", desc := "()Ljava/lang/String;" } : Jvm.MethodName) prog_52_method_9_code (1 : Nat) (Option.some (Jvm.ClassFile.FieldType.object "java/lang/String")), Jvm.Cond.code ({ cls := "com/example/rulewright/rulewright/rules/Declarations$Declaration", name := "textColumn", desc := "()I" } : Jvm.MethodName) prog_52_method_10_code (1 : Nat) (Option.some Jvm.ClassFile.FieldType.int), Jvm.Cond.code ({ cls := "com/example/rulewright/rulewright/rules/Declarations$Declaration", name := "line", desc := "()I" } : Jvm.MethodName) prog_52_method_11_code (1 : Nat) (Option.some Jvm.ClassFile.FieldType.int), Jvm.Cond.code ({ cls := "com/example/rulewright/rulewright/rules/Declarations$Declaration", name := "useLine", desc := "()I" } : Jvm.MethodName) prog_52_method_12_code (1 : Nat) (Option.some Jvm.ClassFile.FieldType.int)]
set_option maxRecDepth 65536 in
theorem codes_eq : words1.filter isCode = codes1 := rfl
theorem w_codes : ∀ c ∈ words1.filter isCode, c.before args0 about1 = true := by
  rw [codes_eq]
  intro c hc
  simp only [codes1, List.mem_cons, List.not_mem_nil, or_false] at hc
  rcases hc with rfl | rfl | rfl | rfl | rfl | rfl | rfl | rfl | rfl | rfl | rfl | rfl | rfl | rfl | rfl | rfl | rfl
  · exact w_c0
  · exact w_c1
  · exact w_c2
  · exact w_c3
  · exact w_c4
  · exact w_c5
  · exact w_c6
  · exact w_c7
  · exact w_c8
  · exact w_c9
  · exact w_c10
  · exact w_c11
  · exact w_c12
  · exact w_c13
  · exact w_c14
  · exact w_c15
  · exact w_c16
set_option maxRecDepth 65536 in
theorem w_t1 : (words1.take 24).all (fun c => isCode c || c.before args0 about1) = true := by decide +kernel
set_option maxRecDepth 65536 in
theorem w_t2 : ((words1.drop 24).take 24).all (fun c => isCode c || c.before args0 about1) = true := by decide +kernel
set_option maxRecDepth 65536 in
theorem w_t3 : (((words1.drop 24).drop 24).take 24).all (fun c => isCode c || c.before args0 about1) = true := by decide +kernel
set_option maxRecDepth 65536 in
theorem w_t4 : ((((words1.drop 24).drop 24).drop 24).take 24).all (fun c => isCode c || c.before args0 about1) = true := by decide +kernel
set_option maxRecDepth 65536 in
theorem w_t5 : ((((words1.drop 24).drop 24).drop 24).drop 24).all (fun c => isCode c || c.before args0 about1) = true := by decide +kernel
theorem w_tables : (allAtoms (Jvm.Cond.code x code maxLocals ret :: tables_1)).before args0 about1 = true := by
  rw [allAtoms_all]
  show words1.all (fun c => c.before args0 about1) = true
  refine all_split ?_ w_codes
  rw [← List.take_append_drop 24 words1, List.all_append, w_t1, ← List.take_append_drop 24 (words1.drop 24), List.all_append, w_t2, ← List.take_append_drop 24 ((words1.drop 24).drop 24), List.all_append, w_t3, ← List.take_append_drop 24 (((words1.drop 24).drop 24).drop 24), List.all_append, w_t4, w_t5]
  rfl
set_option maxRecDepth 65536 in
theorem w_rest : rest_1_c.before args0 about1 = true := by decide +kernel
set_option maxRecDepth 65536 in
theorem w_case : (Jvm.Cond.and given_1 narrow_1).before args0 about1 = true := by decide +kernel
theorem w_applies : (headSpec (Jvm.Cond.code x code maxLocals ret :: tables_1) room_1).applies x e0.platform about1 = true :=
  (Spec.applies_iff w_frames).mpr ⟨w_running, w_runnable, w_alone, w_named, w_hears, w_ripe, w_room, w_tables⟩
theorem atStart : AtStart classFile x code maxLocals ret World_1 tables_1 room_1 Calls_1 rest_1 Pre_1 launch0 p0 e0 about1 theMethod args0 below0 :=
  ⟨lists_1, trivial, launch0.admits_env _ _ _, launch0.least_env, fairChoices_fair.cas, fairChoices_fair.clock, w_frames, w_args, w_heap, w_applies, trivial, w_rest, w_case⟩
end start1
theorem witness_1 : WitnessClaimed_1 := ⟨start1.p0, start1.e0, start1.about1, start1.theMethod, start1.args0, start1.below0, start1.atStart⟩
end Jvm.Pilot.@@N@@
