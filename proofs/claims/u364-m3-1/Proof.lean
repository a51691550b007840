import JvmDerived
import JvmDerived.Pilot.@@N@@Statement
import JvmDerived.Pilot.@@N@@Code
set_option linter.unusedVariables false
set_option linter.unusedSimpArgs false
/- laws to paste: Road.backV (cut by pick.py; bodies as the Statement names them) -/
namespace Jvm.Pilot.@@N@@
namespace StrChars
open Jvm Sem ClassFile Op Lib Jvm.Stand Jvm.Free.XT Jvm.Free.ALB Jvm.Free.JM Jvm.Free
open Jvm.Lib.Cold (StaticIs)
/-- a char array whose places are chars -/
def Ch (a : Addr) (A : Cell) (U : State) : Prop := Arr .char a A U ∧ Typed .char A
theorem Ch.mv {a : Addr} {A : Cell} {U U' : State} (h : Ch a A U) (hal : U.vm.Alike U'.vm) (hh : U'.heap = U.heap) : Ch a A U' := ⟨h.1.mv hal hh, h.2⟩
theorem Ch.keep {a : Addr} {A : Cell} {U U' : State} (h : Ch a A U) (hal : U.vm.Alike U'.vm) (hk : U'.heap[a]? = some A) : Ch a A U' := ⟨h.1.keep hal hk, h.2⟩
/-- what place i of a char[]'s cell holds -/
def cv (A : Cell) (i : Nat) : Int32 := match A.slots[i]? with | some (.int x) => x | _ => 0
theorem Ch.get {a : Addr} {A : Cell} {U : State} (h : Ch a A U) {i : Nat} (hi : i < A.slots.size) : A.slots[i]? = some (.int (cv A i)) := by
  have e := Array.getElem?_eq_getElem hi
  have f := h.2 i _ e
  unfold cv; rw [e]
  generalize A.slots[i] = v at f
  cases v <;> simp [fits] at f ⊢
/-- the byte that i2b leaves of a char -/
def lo8 (x : Int32) : Int32 := x.toInt8.toInt32
theorem fits_lo8 (y : Int32) : fits .byte (.int (lo8 y)) = true := by
  have h1 := y.toInt8.le_toInt
  have h2 := y.toInt8.toInt_lt
  simp only [lo8, fits, Bool.and_eq_true, decide_eq_true_eq, Int32.le_iff_toInt_le, Int8.toInt_toInt32, show (-128 : Int32).toInt = -128 from by decide, show (127 : Int32).toInt = 127 from by decide]
  omega
/-- A' is A but that each place j of lo .. hi - 1 holds f j -/
def Laid (A A' : Cell) (lo hi : Nat) (f : Nat → Value) : Prop := A'.cls = A.cls ∧ A'.vm = A.vm ∧ A'.slots.size = A.slots.size ∧ ∀ i, A'.slots[i]? = if lo ≤ i ∧ i < hi then some (f i) else A.slots[i]?
theorem Laid.zero (A : Cell) (lo : Nat) (f : Nat → Value) : Laid A A lo (lo + 0) f := ⟨rfl, rfl, rfl, fun i => by rw [if_neg (by omega)]⟩
theorem Laid.step {A Ak : Cell} {lo k : Nat} {f : Nat → Value} {v : Value} (h : Laid A Ak lo k f) (hlo : lo ≤ k) (hk : k < Ak.slots.size) (hv : v = f k) : Laid A (Ak.setSlot k v) lo (k + 1) f := by
  refine ⟨h.1, h.2.1, by simpa [Cell.setSlot] using h.2.2.1, fun i => ?_⟩
  by_cases e : k = i
  · subst e; rw [Cell.slots_setSlot_self v hk, if_pos (by omega), hv]
  · rw [Cell.slots_setSlot_ne v e, h.2.2.2 i]
    by_cases q : lo ≤ i ∧ i < k
    · rw [if_pos q, if_pos (by omega)]
    · rw [if_neg q, if_neg (by omega)]
def U16 : String := "java/lang/StringUTF16"
namespace Cmp5
def yN : MethodName := ⟨"java/lang/StringUTF16", "compress", "([CI[BII)I"⟩
abbrev yB : ByteArray := jdk_52_method_21_code
theorem d0 : decode yB 0 = .ok (.iconst 0, 1) := by decide +kernel
theorem d1 : decode yB 1 = .ok (.istore 5, 2) := by decide +kernel
theorem d3 : decode yB 3 = .ok (.iload 5, 2) := by decide +kernel
theorem d5 : decode yB 5 = .ok (.iload 4, 2) := by decide +kernel
theorem d7 : decode yB 7 = .ok (.if_icmp (.ge) 37, 3) := by decide +kernel
theorem d10 : decode yB 10 = .ok (.aload_n 0, 1) := by decide +kernel
theorem d11 : decode yB 11 = .ok (.iload_n 1, 1) := by decide +kernel
theorem d12 : decode yB 12 = .ok (.caload, 1) := by decide +kernel
theorem d13 : decode yB 13 = .ok (.istore 6, 2) := by decide +kernel
theorem d15 : decode yB 15 = .ok (.iload 6, 2) := by decide +kernel
theorem d17 : decode yB 17 = .ok (.sipush 255, 3) := by decide +kernel
theorem d20 : decode yB 20 = .ok (.if_icmp (.le) 6, 3) := by decide +kernel
theorem d26 : decode yB 26 = .ok (.aload_n 2, 1) := by decide +kernel
theorem d27 : decode yB 27 = .ok (.iload_n 3, 1) := by decide +kernel
theorem d28 : decode yB 28 = .ok (.iload 6, 2) := by decide +kernel
theorem d30 : decode yB 30 = .ok (.i2b, 1) := by decide +kernel
theorem d31 : decode yB 31 = .ok (.bastore, 1) := by decide +kernel
theorem d32 : decode yB 32 = .ok (.iinc 1 1, 3) := by decide +kernel
theorem d35 : decode yB 35 = .ok (.iinc 3 1, 3) := by decide +kernel
theorem d38 : decode yB 38 = .ok (.iinc 5 1, 3) := by decide +kernel
theorem d41 : decode yB 41 = .ok (.goto (-38), 3) := by decide +kernel
theorem d44 : decode yB 44 = .ok (.iload 4, 2) := by decide +kernel
theorem d46 : decode yB 46 = .ok (.ireturn, 1) := by decide +kernel
def site : List Cond := []
def tab : Cond := tabOf yN yB 7 (some .int) site
def P (b : Addr) (A : Cell) (d : Addr) (B : Cell) (o q len : Nat) (args : Array Value) (s : State) : Prop := args = #[.ref b, .int (Int32.ofNat o), .ref d, .int (Int32.ofNat q), .int (Int32.ofNat len)] ∧ Ch b A s ∧ Arr .byte d B s ∧ b ≠ d ∧ o + len ≤ A.slots.size ∧ q + len ≤ B.slots.size ∧ ∀ i, i < len → ¬ 255 < cv A (o + i)
def E (b : Addr) (A : Cell) (d : Addr) (B : Cell) (o q len : Nat) (r : Option Value) (s u : State) : Prop := r = some (.int (Int32.ofNat len)) ∧ ∃ B', Put d B' s u ∧ Laid B B' q (q + len) (fun j => Value.int (lo8 (cv A (o + (j - q)))))
/-- no char of the range above 255: len; the places written hold each char's low byte -/
theorem law (l : Launch) (b : Addr) (A : Cell) (d : Addr) (B : Cell) (o q len : Nat) : Law l yN 5 5 0 0 yB 7 (some .int) site (P b A d B o q len) (E b A d B o q len) (copyLocs d q len) 0 0 := by
  refine Law.of_walk (plainFor_of_name (by decide +kernel)) (by decide +kernel) (by decide +kernel) (by decide) (fun _ _ h => by rw [h.1]; rfl) (fun _ U U' hal hh h => ⟨h.1, h.2.1.mv hal hh, h.2.2.1.mv hal hh, h.2.2.2⟩) (fun r U U' V V' h1 hal h2 h => ⟨h.1, h.2.elim fun B' q => ⟨B', q.1.mv h1 h2, q.2⟩⟩) ?_
  intro p e s m args below meth c s₁ X0 hexec hbytes hml hret hlk hnm hown hh0 W hP
  obtain ⟨rfl, hA, hB, hne, l1, l2, hp⟩ := hP
  have c1 : Steps p.tables e below (s₁.setTop (entryFrame m #[.ref b, .int (Int32.ofNat o), .ref d, .int (Int32.ofNat q), .int (Int32.ofNat len)] 7)) (s₁.setTop (mkF m 0 #[.val (.ref b), .val (.int (Int32.ofNat o)), .val (.ref d), .val (.int (Int32.ofNat q)), .val (.int (Int32.ofNat len)), .unset, .unset] [])) := entry rfl
  have hA0 := hA.1.mv X0.warmed.alike hh0
  have hB0 := hB.mv X0.warmed.alike hh0
  have a31 := hA.1.2.2.2
  have c2 : Steps p.tables e below (s₁.setTop (entryFrame m #[.ref b, .int (Int32.ofNat o), .ref d, .int (Int32.ofNat q), .int (Int32.ofNat len)] 7)) (s₁.setTop (mkF m 3 #[.val (.ref b), .val (.int (Int32.ofNat o)), .val (.ref d), .val (.int (Int32.ofNat q)), .val (.int (Int32.ofNat len)), .val (.int 0), .unset] [])) := c1.trans (by
    refine iconstV X0.here hexec rfl 0 (hb hbytes d0) (by decide) ?_
    refine XS.istore X0.here hexec rfl (hb hbytes d1) rfl rfl ?_
    exact Steps.refl _)
  have loop : ∀ (r i : Nat), i + r = len → ∀ (z : Slot), (z = .unset ∨ ∃ w, z = .val w ∧ w.category = 1) → ∀ (Tl : State) (Bk : Cell), Stand p l e { frames := 0, locals := 0, cells := 0, slots := 0 } s m #[.ref b, .int (Int32.ofNat o), .ref d, .int (Int32.ofNat q), .int (Int32.ofNat len)] below meth c Tl ([] ++ copyLocs d q i) 0 0 → Put d Bk s₁ Tl → Laid B Bk q (q + i) (fun j => Value.int (lo8 (cv A (o + (j - q))))) →
      Steps p.tables e below (s₁.setTop (entryFrame m #[.ref b, .int (Int32.ofNat o), .ref d, .int (Int32.ofNat q), .int (Int32.ofNat len)] 7)) (Tl.setTop (mkF m 3 #[.val (.ref b), .val (.int (Int32.ofNat (o + i))), .val (.ref d), .val (.int (Int32.ofNat (q + i))), .val (.int (Int32.ofNat len)), .val (.int (Int32.ofNat i)), z] [])) → ∃ (T' : State) (B' : Cell) (z' : Slot), Stand p l e { frames := 0, locals := 0, cells := 0, slots := 0 } s m #[.ref b, .int (Int32.ofNat o), .ref d, .int (Int32.ofNat q), .int (Int32.ofNat len)] below meth c T' ([] ++ copyLocs d q len) 0 0 ∧ Put d B' s₁ T' ∧ Laid B B' q (q + len) (fun j => Value.int (lo8 (cv A (o + (j - q))))) ∧
      Steps p.tables e below (s₁.setTop (entryFrame m #[.ref b, .int (Int32.ofNat o), .ref d, .int (Int32.ofNat q), .int (Int32.ofNat len)] 7)) (T'.setTop (mkF m 3 #[.val (.ref b), .val (.int (Int32.ofNat (o + len))), .val (.ref d), .val (.int (Int32.ofNat (q + len))), .val (.int (Int32.ofNat len)), .val (.int (Int32.ofNat len)), z'] [])) := by
    intro r
    induction r with
    | zero =>
      intro i hi z hz Tl Bk Xl pl fl cl
      have hil : i = len := by omega
      rw [hil] at Xl fl cl
      exact ⟨Tl, Bk, z, Xl, pl, fl, cl⟩
    | succ r ih =>
      intro i hi z hz Tl Bk Xl pl fl cl
      have all := X0.warmed.alike.symm.trans Xl.warmed.alike
      have hAl := hA0.keep all (pl.other hne hA0.1)
      have hBk := hB0.like all pl.1 fl.1 fl.2.1 fl.2.2.1
      have hlt : q + i < Bk.slots.size := by rw [fl.2.2.1]; omega
      have c3 : Steps p.tables e below (s₁.setTop (entryFrame m #[.ref b, .int (Int32.ofNat o), .ref d, .int (Int32.ofNat q), .int (Int32.ofNat len)] 7)) (Tl.setTop (mkF m 12 #[.val (.ref b), .val (.int (Int32.ofNat (o + i))), .val (.ref d), .val (.int (Int32.ofNat (q + i))), .val (.int (Int32.ofNat len)), .val (.int (Int32.ofNat i)), z] [.int (Int32.ofNat (o + i)), .ref b])) := cl.trans (by
        refine XS.iload Xl.here hexec rfl (hb hbytes d3) rfl ?_
        refine XS.iload Xl.here hexec rfl (hb hbytes d5) rfl ?_
        refine XS.icmpNo Xl.here hexec rfl (hb hbytes d7) rfl (ii_ge_f (lt32 (by omega) (by omega))) ?_
        refine XS.aloadN Xl.here hexec rfl (hb hbytes d10) rfl rfl ?_
        refine XS.iloadN Xl.here hexec rfl (hb hbytes d11) rfl ?_
        exact Steps.refl _)
      have c4 : Steps p.tables e below (s₁.setTop (entryFrame m #[.ref b, .int (Int32.ofNat o), .ref d, .int (Int32.ofNat q), .int (Int32.ofNat len)] 7)) (Tl.setTop (mkF m 13 #[.val (.ref b), .val (.int (Int32.ofNat (o + i))), .val (.ref d), .val (.int (Int32.ofNat (q + i))), .val (.int (Int32.ofNat len)), .val (.int (Int32.ofNat i)), z] [.int (cv A (o + i))])) := c3.trans (by
        refine Xl.aget hexec hAl rfl (hA.get (i := o + i) (by omega)) rfl rfl (hb hbytes d12) ?_
        exact Steps.refl _)
      have c5 : Steps p.tables e below (s₁.setTop (entryFrame m #[.ref b, .int (Int32.ofNat o), .ref d, .int (Int32.ofNat q), .int (Int32.ofNat len)] 7)) (Tl.setTop (mkF m 15 #[.val (.ref b), .val (.int (Int32.ofNat (o + i))), .val (.ref d), .val (.int (Int32.ofNat (q + i))), .val (.int (Int32.ofNat len)), .val (.int (Int32.ofNat i)), .val (.int (cv A (o + i)))] [])) := c4.trans (by
        refine XS.istoreS Xl.here hexec rfl (hb hbytes d13) rfl rfl hz ?_
        exact Steps.refl _)
      have c6 : Steps p.tables e below (s₁.setTop (entryFrame m #[.ref b, .int (Int32.ofNat o), .ref d, .int (Int32.ofNat q), .int (Int32.ofNat len)] 7)) (Tl.setTop (mkF m 31 #[.val (.ref b), .val (.int (Int32.ofNat (o + i))), .val (.ref d), .val (.int (Int32.ofNat (q + i))), .val (.int (Int32.ofNat len)), .val (.int (Int32.ofNat i)), .val (.int (cv A (o + i)))] [.int (lo8 (cv A (o + i))), .int (Int32.ofNat (q + i)), .ref d])) := c5.trans (by
        refine XS.iload Xl.here hexec rfl (hb hbytes d15) rfl ?_
        refine sipushV Xl.here hexec rfl 255 (hb hbytes d17) (by decide) ?_
        refine XS.icmpYes Xl.here hexec rfl (pc0 := 20) rfl (hb hbytes d20) rfl (ii_le_t (hp i (by omega))) (by decide) rfl ?_
        refine XS.aloadN Xl.here hexec rfl (hb hbytes d26) rfl rfl ?_
        refine XS.iloadN Xl.here hexec rfl (hb hbytes d27) rfl ?_
        refine XS.iload Xl.here hexec rfl (hb hbytes d28) rfl ?_
        refine i2b Xl.here hexec rfl (hb hbytes d30) rfl ?_
        exact Steps.refl _)
      obtain ⟨T7, X7, p7, st7⟩ := Xl.aput hexec hBk rfl hlt rfl (fits_lo8 (cv A (o + i))) (g := (mkF m 31 #[.val (.ref b), .val (.int (Int32.ofNat (o + i))), .val (.ref d), .val (.int (Int32.ofNat (q + i))), .val (.int (Int32.ofNat len)), .val (.int (Int32.ofNat i)), .val (.int (cv A (o + i)))] [.int (lo8 (cv A (o + i))), .int (Int32.ofNat (q + i)), .ref d])) rfl (rest := []) rfl (hb hbytes d31)
      have c8 : Steps p.tables e below (s₁.setTop (entryFrame m #[.ref b, .int (Int32.ofNat o), .ref d, .int (Int32.ofNat q), .int (Int32.ofNat len)] 7)) (T7.setTop (mkF m 32 #[.val (.ref b), .val (.int (Int32.ofNat (o + i))), .val (.ref d), .val (.int (Int32.ofNat (q + i))), .val (.int (Int32.ofNat len)), .val (.int (Int32.ofNat i)), .val (.int (cv A (o + i)))] [])) := c6.trans (st7 _ (Steps.refl _))
      have c9 : Steps p.tables e below (s₁.setTop (entryFrame m #[.ref b, .int (Int32.ofNat o), .ref d, .int (Int32.ofNat q), .int (Int32.ofNat len)] 7)) (T7.setTop (mkF m 3 #[.val (.ref b), .val (.int (Int32.ofNat (o + i) + 1)), .val (.ref d), .val (.int (Int32.ofNat (q + i) + 1)), .val (.int (Int32.ofNat len)), .val (.int (Int32.ofNat i + 1)), .val (.int (cv A (o + i)))] [])) := c8.trans (by
        refine iincV X7.here hexec rfl 1 (hb hbytes d32) (by decide) rfl rfl ?_
        refine iincV X7.here hexec rfl 1 (hb hbytes d35) (by decide) rfl rfl ?_
        refine iincV X7.here hexec rfl 1 (hb hbytes d38) (by decide) rfl rfl ?_
        refine XS.goto X7.here hexec rfl (pc0 := 41) rfl (hb hbytes d41) (by decide) rfl ?_
        exact Steps.refl _)
      have c10 : Steps p.tables e below (s₁.setTop (entryFrame m #[.ref b, .int (Int32.ofNat o), .ref d, .int (Int32.ofNat q), .int (Int32.ofNat len)] 7)) (T7.setTop (mkF m 3 #[.val (.ref b), .val (.int (Int32.ofNat (o + (i + 1)))), .val (.ref d), .val (.int (Int32.ofNat (q + (i + 1)))), .val (.int (Int32.ofNat len)), .val (.int (Int32.ofNat (i + 1))), .val (.int (cv A (o + i)))] [])) := by
        have := c9
        rw [succ32, succ32, succ32] at this
        exact this
      exact ih (i + 1) (by omega) _ (Or.inr ⟨_, rfl, rfl⟩) T7 _ (by rw [copyLocs_step, ← List.append_assoc]; exact X7) (pl.trans p7) (fl.step (by omega) hlt (by simp)) c10
  obtain ⟨T9, B9, z9, X9, p9, f9, g9⟩ := loop len 0 (by omega) .unset (Or.inl rfl) s₁ B (by simpa [copyLocs] using X0) ⟨hB0.1, fun _ _ => rfl, rfl⟩ (Laid.zero _ _ _) c2
  have c11 : Steps p.tables e below (s₁.setTop (entryFrame m #[.ref b, .int (Int32.ofNat o), .ref d, .int (Int32.ofNat q), .int (Int32.ofNat len)] 7)) (T9.setTop (mkF m 46 #[.val (.ref b), .val (.int (Int32.ofNat (o + len))), .val (.ref d), .val (.int (Int32.ofNat (q + len))), .val (.int (Int32.ofNat len)), .val (.int (Int32.ofNat len)), z9] [.int (Int32.ofNat len)])) := g9.trans (by
    refine XS.iload X9.here hexec rfl (hb hbytes d3) rfl ?_
    refine XS.iload X9.here hexec rfl (hb hbytes d5) rfl ?_
    refine XS.icmpYes X9.here hexec rfl (pc0 := 7) rfl (hb hbytes d7) rfl (ii_ge_t (nlt32 (by omega) (Nat.le_refl _))) (by decide) rfl ?_
    refine XS.iload X9.here hexec rfl (hb hbytes d44) rfl ?_
    exact Steps.refl _)
  exact ⟨T9, some (.int (Int32.ofNat len)), _, _, _, X9, by simp, rfl, rfl, (fun h => by cases h), ⟨rfl, B9, p9.from hh0, f9⟩, fun fs hl => c11.trans (X9.ireturnOut hexec hret rfl (Or.inl rfl) (hb hbytes d46) hl)⟩
end Cmp5
namespace Cmp3
def yN : MethodName := ⟨"java/lang/StringUTF16", "compress", "([CII)[B"⟩
abbrev yB : ByteArray := jdk_52_method_16_code
theorem d0 : decode yB 0 = .ok (.iload_n 2, 1) := by decide +kernel
theorem d1 : decode yB 1 = .ok (.newarray .byte, 2) := by decide +kernel
theorem d3 : decode yB 3 = .ok (.astore_n 3, 1) := by decide +kernel
theorem d4 : decode yB 4 = .ok (.aload_n 0, 1) := by decide +kernel
theorem d5 : decode yB 5 = .ok (.iload_n 1, 1) := by decide +kernel
theorem d6 : decode yB 6 = .ok (.aload_n 3, 1) := by decide +kernel
theorem d7 : decode yB 7 = .ok (.iconst 0, 1) := by decide +kernel
theorem d8 : decode yB 8 = .ok (.iload_n 2, 1) := by decide +kernel
theorem d9 : decode yB 9 = .ok (.invokestatic 115, 3) := by decide +kernel
theorem d12 : decode yB 12 = .ok (.istore 4, 2) := by decide +kernel
theorem d14 : decode yB 14 = .ok (.iload 4, 2) := by decide +kernel
theorem d16 : decode yB 16 = .ok (.iload_n 2, 1) := by decide +kernel
theorem d17 : decode yB 17 = .ok (.if_icmp (.eq) 40, 3) := by decide +kernel
theorem d57 : decode yB 57 = .ok (.aload_n 3, 1) := by decide +kernel
theorem d58 : decode yB 58 = .ok (.areturn, 1) := by decide +kernel
def site : List Cond := [.arrayClass .byte, Cmp5.tab] ++ staticW U16 115 Cmp5.yN
def tab : Cond := tabOf yN yB 6 (some (.array .byte)) site
def P (b : Addr) (A : Cell) (o len : Nat) (args : Array Value) (s : State) : Prop := args = #[.ref b, .int (Int32.ofNat o), .int (Int32.ofNat len)] ∧ Ch b A s ∧ o + len ≤ A.slots.size ∧ len ≤ 536870912 ∧ ∀ i, i < len → ¬ 255 < cv A (o + i)
def E (b : Addr) (A : Cell) (o len : Nat) (r : Option Value) (s u : State) : Prop := NewArr .byte "[B" len (fun j => .int (lo8 (cv A (o + j)))) r s u ∧ u.heap.size = s.heap.size + 1
/-- no char of the range above 255: a new byte[] of their low bytes -/
theorem law (l : Launch) (b : Addr) (A : Cell) (o len : Nat) : Law l yN 3 3 1 18 yB 6 (some (.array .byte)) site (P b A o len) (E b A o len) [] 1 len := by
  refine Law.of_walk (plainFor_of_name (by decide +kernel)) (by decide +kernel) (by decide +kernel) (by decide) (fun _ _ h => by rw [h.1]; rfl) (fun _ U U' hal hh h => ⟨h.1, h.2.1.mv hal hh, h.2.2⟩) (fun r U U' V V' h1 hal h2 h => ⟨NewArr.mv r U U' V V' h1 hal h2 h.1, by rw [h1, h2]; exact h.2⟩) ?_
  intro p e s m args below meth c s₁ X0 hexec hbytes hml hret hlk hnm hown hh0 W hP
  obtain ⟨rfl, hA, l1, l2, hp⟩ := hP
  have a31 := hA.1.2.2.2
  have c1 : Steps p.tables e below (s₁.setTop (entryFrame m #[.ref b, .int (Int32.ofNat o), .int (Int32.ofNat len)] 6)) (s₁.setTop (mkF m 0 #[.val (.ref b), .val (.int (Int32.ofNat o)), .val (.int (Int32.ofNat len)), .unset, .unset, .unset] [])) := entry rfl
  have c2 : Steps p.tables e below (s₁.setTop (entryFrame m #[.ref b, .int (Int32.ofNat o), .int (Int32.ofNat len)] 6)) (s₁.setTop (mkF m 1 #[.val (.ref b), .val (.int (Int32.ofNat o)), .val (.int (Int32.ofNat len)), .unset, .unset, .unset] [.int (Int32.ofNat len)])) := c1.trans (by
    refine XS.iloadN X0.here hexec rfl (hb hbytes d0) rfl ?_
    exact Steps.refl _)
  obtain ⟨T3, B3, X3, ba3, bs3, bv3, bh3, bf3, st3⟩ := X0.anew hexec (atype := .byte) (wk W (.arrayClass .byte)) rfl (by show len * 1 ≤ _; omega) (by omega) (g := (mkF m 1 #[.val (.ref b), .val (.int (Int32.ofNat o)), .val (.int (Int32.ofNat len)), .unset, .unset, .unset] [.int (Int32.ofNat len)])) rfl (hb hbytes d1) (rest := []) rfl (Nat.le_refl _) (by show 0 + len ≤ len; omega)
  rw [hh0] at ba3 st3
  have kp3 : XT.Kept s T3 := (XT.Kept.of_eq hh0).push bh3
  have hA3 := hA.keep X3.warmed.alike (kp3 _ _ hA.1.1)
  have hne : b ≠ s.heap.size := hA.1.ne
  have c4 : Steps p.tables e below (s₁.setTop (entryFrame m #[.ref b, .int (Int32.ofNat o), .int (Int32.ofNat len)] 6)) (T3.setTop (mkF m 3 #[.val (.ref b), .val (.int (Int32.ofNat o)), .val (.int (Int32.ofNat len)), .unset, .unset, .unset] [.ref s.heap.size])) := c2.trans (st3 _ (Steps.refl _))
  have c5 : Steps p.tables e below (s₁.setTop (entryFrame m #[.ref b, .int (Int32.ofNat o), .int (Int32.ofNat len)] 6)) (T3.setTop (mkF m 9 #[.val (.ref b), .val (.int (Int32.ofNat o)), .val (.int (Int32.ofNat len)), .val (.ref s.heap.size), .unset, .unset] [.int (Int32.ofNat len), .int 0, .ref s.heap.size, .int (Int32.ofNat o), .ref b])) := c4.trans (by
    refine XS.astoreN X3.here hexec rfl (hb hbytes d3) rfl rfl rfl ?_
    refine XS.aloadN X3.here hexec rfl (hb hbytes d4) rfl rfl ?_
    refine XS.iloadN X3.here hexec rfl (hb hbytes d5) rfl ?_
    refine XS.aloadN X3.here hexec rfl (hb hbytes d6) rfl rfl ?_
    refine iconstV X3.here hexec rfl 0 (hb hbytes d7) (by decide) ?_
    refine XS.iloadN X3.here hexec rfl (hb hbytes d8) rfl ?_
    exact Steps.refl _)
  obtain ⟨v6, T6, X6, E6, g6⟩ := X3.callS hexec (Cmp5.law l b A s.heap.size B3 o 0 len) hown (wks W (staticW U16 115 Cmp5.yN)) (wk W Cmp5.tab) (W := 0) (Nat.le_of_ble_eq_true rfl) (Nat.le_of_ble_eq_true rfl) (Nat.le_refl _) (by show 0 + len + 0 ≤ len; omega) (g := (mkF m 9 #[.val (.ref b), .val (.int (Int32.ofNat o)), .val (.int (Int32.ofNat len)), .val (.ref s.heap.size), .unset, .unset] [.int (Int32.ofNat len), .int (Int32.ofNat 0), .ref s.heap.size, .int (Int32.ofNat o), .ref b])) rfl (by rw [hml]; rfl) c5 (argsL := [.ref b, .int (Int32.ofNat o), .ref s.heap.size, .int (Int32.ofNat 0), .int (Int32.ofNat len)]) (rest := []) rfl rfl (by show 2 * 0 + 0 ≤ _; decide) (hb hbytes d9) (⟨rfl, hA3, ba3, hne, l1, by rw [bs3]; simp, hp⟩)
  obtain ⟨rfl, B6, p6, f6⟩ := E6
  have c7 : Steps p.tables e below (s₁.setTop (entryFrame m #[.ref b, .int (Int32.ofNat o), .int (Int32.ofNat len)] 6)) (T6.setTop (mkF m 12 #[.val (.ref b), .val (.int (Int32.ofNat o)), .val (.int (Int32.ofNat len)), .val (.ref s.heap.size), .unset, .unset] [.int (Int32.ofNat len)])) := g6
  have c8 : Steps p.tables e below (s₁.setTop (entryFrame m #[.ref b, .int (Int32.ofNat o), .int (Int32.ofNat len)] 6)) (T6.setTop (mkF m 58 #[.val (.ref b), .val (.int (Int32.ofNat o)), .val (.int (Int32.ofNat len)), .val (.ref s.heap.size), .val (.int (Int32.ofNat len)), .unset] [.ref s.heap.size])) := c7.trans (by
    refine XS.istore X6.here hexec rfl (hb hbytes d12) rfl rfl ?_
    refine XS.iload X6.here hexec rfl (hb hbytes d14) rfl ?_
    refine XS.iloadN X6.here hexec rfl (hb hbytes d16) rfl ?_
    refine XS.icmpYes X6.here hexec rfl (pc0 := 17) rfl (hb hbytes d17) rfl (ii_eq_t rfl) (by decide) rfl ?_
    refine XS.aloadN X6.here hexec rfl (hb hbytes d57) rfl rfl ?_
    exact Steps.refl _)
  have X8 := X6.wide (L' := []) (cells' := 1) (slots' := len) (fun x hx hlt => by
    simp only [List.nil_append, copyLocs, List.mem_map, List.mem_range] at hx
    obtain ⟨i, -, rfl⟩ := hx
    exact absurd hlt (Nat.lt_irrefl _)) (Nat.le_refl _) (by omega)
  exact ⟨T6, some (.ref s.heap.size), _, _, _, X8, rfl, rfl, rfl, (fun h => by cases h), ⟨⟨rfl, B6, ba3.like (X3.warmed.alike.symm.trans X6.warmed.alike) p6.1 f6.1 f6.2.1 f6.2.2.1, f6.2.1.trans bv3, by rw [X6.warmed.alike.findClass, f6.1]; exact bf3, by rw [f6.2.2.1, bs3]; simp, fun j hj => by rw [f6.2.2.2 j, if_pos (by omega)]; rfl, kp3.put p6 (Nat.le_refl _)⟩, by rw [p6.2.2, bh3, hh0]; simp⟩, fun fs hl => c8.trans (X8.areturnOut hexec rfl hret rfl (hb hbytes d58) hl)⟩
end Cmp3
namespace CodL
def yN : MethodName := ⟨"java/lang/StringUTF16", "coderFromArrayLen", "([BI)B"⟩
abbrev yB : ByteArray := jdk_52_method_15_code
theorem d0 : decode yB 0 = .ok (.iload_n 1, 1) := by decide +kernel
theorem d1 : decode yB 1 = .ok (.aload_n 0, 1) := by decide +kernel
theorem d2 : decode yB 2 = .ok (.arraylength, 1) := by decide +kernel
theorem d3 : decode yB 3 = .ok (.isub, 1) := by decide +kernel
theorem d4 : decode yB 4 = .ok (.bipush 31, 2) := by decide +kernel
theorem d6 : decode yB 6 = .ok (.iushr, 1) := by decide +kernel
theorem d7 : decode yB 7 = .ok (.i2b, 1) := by decide +kernel
theorem d8 : decode yB 8 = .ok (.ireturn, 1) := by decide +kernel
def site : List Cond := []
def tab : Cond := tabOf yN yB 2 (some .byte) site
def P (d : Addr) (B : Cell) (args : Array Value) (s : State) : Prop := args = #[.ref d, .int (Int32.ofNat B.slots.size)] ∧ Arr .byte d B s
def E (r : Option Value) (s u : State) : Prop := XT.PureE (some (.int 0)) r s u
/-- an array as long as the number of chars: LATIN1 -/
theorem law (l : Launch) (d : Addr) (B : Cell) : Law l yN 2 2 0 0 yB 2 (some .byte) site (P d B) E [] 0 0 := by
  refine Law.of_walk (plainFor_of_name (by decide +kernel)) (by decide +kernel) (by decide +kernel) (by decide) (fun _ _ h => by rw [h.1]; rfl) (fun _ U U' hal hh h => ⟨h.1, h.2.mv hal hh⟩) (fun r U U' V V' h1 hal h2 h => XT.PureE.mv r U U' V V' h1 hal h2 h) ?_
  intro p e s m args below meth c s₁ X0 hexec hbytes hml hret hlk hnm hown hh0 W hP
  obtain ⟨rfl, hB⟩ := hP
  have hB0 := hB.mv X0.warmed.alike hh0
  have c1 : Steps p.tables e below (s₁.setTop (entryFrame m #[.ref d, .int (Int32.ofNat B.slots.size)] 2)) (s₁.setTop (mkF m 0 #[.val (.ref d), .val (.int (Int32.ofNat B.slots.size))] [])) := entry rfl
  have c2 : Steps p.tables e below (s₁.setTop (entryFrame m #[.ref d, .int (Int32.ofNat B.slots.size)] 2)) (s₁.setTop (mkF m 2 #[.val (.ref d), .val (.int (Int32.ofNat B.slots.size))] [.ref d, .int (Int32.ofNat B.slots.size)])) := c1.trans (by
    refine XS.iloadN X0.here hexec rfl (hb hbytes d0) rfl ?_
    refine XS.aloadN X0.here hexec rfl (hb hbytes d1) rfl rfl ?_
    exact Steps.refl _)
  have c3 : Steps p.tables e below (s₁.setTop (entryFrame m #[.ref d, .int (Int32.ofNat B.slots.size)] 2)) (s₁.setTop (mkF m 8 #[.val (.ref d), .val (.int (Int32.ofNat B.slots.size))] [.int (lo8 (ushr (Int32.ofNat B.slots.size - Int32.ofNat B.slots.size) 31))])) := c2.trans (by
    refine X0.alen hexec hB0 rfl rfl (hb hbytes d2) ?_
    refine XS.isub X0.here hexec rfl (hb hbytes d3) rfl ?_
    refine bipushV X0.here hexec rfl 31 (hb hbytes d4) (by decide) ?_
    refine iushr X0.here hexec rfl (hb hbytes d6) rfl ?_
    refine i2b X0.here hexec rfl (hb hbytes d7) rfl ?_
    exact Steps.refl _)
  have e0 : lo8 (ushr (Int32.ofNat B.slots.size - Int32.ofNat B.slots.size) 31) = 0 := by rw [Int32.sub_self]; decide
  rw [e0] at c3
  exact ⟨s₁, some (.int 0), _, _, _, X0, rfl, rfl, rfl, (fun h => by cases h), ⟨rfl, hh0⟩, fun fs hl => c3.trans (X0.ireturnOut hexec hret rfl (Or.inr (Or.inr (Or.inl rfl))) (hb hbytes d8) hl)⟩
end CodL
/-- the String at a is Latin-1 over a new byte[] (the heap's one new cell): the low bytes of the len chars of A from o on; every cell but a is kept -/
def Got (a : Addr) (D : Cell) (fV fC : Field) (A : Cell) (o len : Nat) (r : Option Value) (s u : State) : Prop := r = none ∧ ∃ D' V : Cell, Blank "java/lang/String" a D' u ∧ Same D D' [fV.slot, fC.slot] ∧ D'.slots[fV.slot]? = some (.ref s.heap.size) ∧ D'.slots[fC.slot]? = some (.int 0) ∧ Arr .byte s.heap.size V u ∧ V.vm = .none ∧ u.vm.findClass "[B" = some V.cls ∧ V.slots.size = len ∧ (∀ j, j < len → V.slots[j]? = some (.int (lo8 (cv A (o + j))))) ∧ (∀ (y : Addr) (c : Cell), y ≠ a → s.heap[y]? = some c → u.heap[y]? = some c) ∧ u.heap.size = s.heap.size + 1
theorem Got.mv {a : Addr} {D A : Cell} {fV fC : Field} {o len : Nat} : ∀ r (U U' V V' : State), U'.heap = U.heap → V.vm.Alike V'.vm → V'.heap = V.heap → Got a D fV fC A o len r U V → Got a D fV fC A o len r U' V' :=
  fun r U U' V V' h1 hal h2 ⟨e0, D', X, a1, a2, a3, a4, a5, a6, a7, a8, a9, a10, a11⟩ => ⟨e0, D', X, a1.mv hal h2, a2, by rw [h1]; exact a3, a4, by rw [h1]; exact a5.mv hal h2, a6, by rw [hal.findClass]; exact a7, a8, a9, by rw [h1, h2]; exact a10, by rw [h1, h2]; exact a11⟩
namespace New4
def yN : MethodName := ⟨"java/lang/String", "<init>", "([CIILjava/lang/Void;)V"⟩
abbrev yB : ByteArray := jdk_42_method_149_code
theorem d0 : decode yB 0 = .ok (.aload_n 0, 1) := by decide +kernel
theorem d1 : decode yB 1 = .ok (.invokespecial 1, 3) := by decide +kernel
theorem d4 : decode yB 4 = .ok (.iload_n 3, 1) := by decide +kernel
theorem d5 : decode yB 5 = .ok (.ifCond (.ne) 22, 3) := by decide +kernel
theorem d27 : decode yB 27 = .ok (.getstatic 38, 3) := by decide +kernel
theorem d30 : decode yB 30 = .ok (.ifCond (.eq) 28, 3) := by decide +kernel
theorem d33 : decode yB 33 = .ok (.aload_n 1, 1) := by decide +kernel
theorem d34 : decode yB 34 = .ok (.iload_n 2, 1) := by decide +kernel
theorem d35 : decode yB 35 = .ok (.iload_n 3, 1) := by decide +kernel
theorem d36 : decode yB 36 = .ok (.invokestatic 177, 3) := by decide +kernel
theorem d39 : decode yB 39 = .ok (.astore 5, 2) := by decide +kernel
theorem d41 : decode yB 41 = .ok (.aload_n 0, 1) := by decide +kernel
theorem d42 : decode yB 42 = .ok (.aload 5, 2) := by decide +kernel
theorem d44 : decode yB 44 = .ok (.iload_n 3, 1) := by decide +kernel
theorem d45 : decode yB 45 = .ok (.invokestatic 47, 3) := by decide +kernel
theorem d48 : decode yB 48 = .ok (.putfield 15, 3) := by decide +kernel
theorem d51 : decode yB 51 = .ok (.aload_n 0, 1) := by decide +kernel
theorem d52 : decode yB 52 = .ok (.aload 5, 2) := by decide +kernel
theorem d54 : decode yB 54 = .ok (.putfield 9, 3) := by decide +kernel
theorem d57 : decode yB 57 = .ok (.return_, 1) := by decide +kernel
def site : List Cond := [.fieldLink "java/lang/String" 38 "java/lang/String" "COMPACT_STRINGS" "Z", Cmp3.tab, CodL.tab, .laysFinal "java/lang/String" "java/lang/String" "value" "[B", .fieldLink "java/lang/String" 9 "java/lang/String" "value" "[B", .laysFinal "java/lang/String" "java/lang/String" "coder" "B", .fieldLink "java/lang/String" 15 "java/lang/String" "coder" "B"] ++ objW "java/lang/String" 1 ++ staticW "java/lang/String" 177 Cmp3.yN ++ staticW "java/lang/String" 47 CodL.yN
def tab : Cond := tabOf yN yB 6 none site
def P (a : Addr) (D : Cell) (fV fC : Field) (b : Addr) (A : Cell) (z : Int32) (o len : Nat) (args : Array Value) (s : State) : Prop := args = #[.ref a, .ref b, .int (Int32.ofNat o), .int (Int32.ofNat len), .null] ∧ Blank "java/lang/String" a D s ∧ Found "java/lang/String" "value" "[B" fV s ∧ Found "java/lang/String" "coder" "B" fC s ∧ Ch b A s ∧ StaticIs s "java/lang/String" "COMPACT_STRINGS" "Z" (.int z) ∧ ¬ z = 0 ∧ 0 < len ∧ o + len ≤ A.slots.size ∧ len ≤ 536870912 ∧ ∀ i, i < len → ¬ 255 < cv A (o + i)
def E (a : Addr) (D : Cell) (fV fC : Field) (A : Cell) (o len : Nat) (r : Option Value) (s u : State) : Prop := Got a D fV fC A o len r s u
/-- len > 0, no char of the range above 255: a Latin-1 String of their low bytes -/
theorem law (l : Launch) (a : Addr) (D : Cell) (fV fC : Field) (b : Addr) (A : Cell) (z : Int32) (o len : Nat) : Law l yN 5 4 2 35 yB 6 none site (P a D fV fC b A z o len) (E a D fV fC A o len) [⟨a, fC.slot⟩, ⟨a, fV.slot⟩] 1 len := by
  refine Law.of_walk (plainFor_of_name (by decide +kernel)) (by decide +kernel) (by decide +kernel) (by decide) (fun _ _ h => by rw [h.1]; rfl) (fun _ U U' hal hh h => ⟨h.1, h.2.1.mv hal hh, h.2.2.1.al hal, h.2.2.2.1.al hal, h.2.2.2.2.1.mv hal hh, h.2.2.2.2.2.1.there hal hh, h.2.2.2.2.2.2⟩) (fun r U U' V V' h1 hal h2 h => Got.mv r U U' V V' h1 hal h2 h) ?_
  intro p e s m args below meth c s₁ X0 hexec hbytes hml hret hlk hnm hown hh0 W hP
  obtain ⟨rfl, hB, f1, f2, hA, s1, hz, l0, l1, l2, hp⟩ := hP
  have a31 := hA.1.2.2.2
  have c1 : Steps p.tables e below (s₁.setTop (entryFrame m #[.ref a, .ref b, .int (Int32.ofNat o), .int (Int32.ofNat len), .null] 6)) (s₁.setTop (mkF m 0 #[.val (.ref a), .val (.ref b), .val (.int (Int32.ofNat o)), .val (.int (Int32.ofNat len)), .val .null, .unset] [])) := entry rfl
  have c2 : Steps p.tables e below (s₁.setTop (entryFrame m #[.ref a, .ref b, .int (Int32.ofNat o), .int (Int32.ofNat len), .null] 6)) (s₁.setTop (mkF m 1 #[.val (.ref a), .val (.ref b), .val (.int (Int32.ofNat o)), .val (.int (Int32.ofNat len)), .val .null, .unset] [.ref a])) := c1.trans (by
    refine XS.aloadN X0.here hexec rfl (hb hbytes d0) rfl rfl ?_
    exact Steps.refl _)
  obtain ⟨T3, X3, q3, st3⟩ := X0.oinit hexec hown (wks W (objW "java/lang/String" 1)) (g := (mkF m 1 #[.val (.ref a), .val (.ref b), .val (.int (Int32.ofNat o)), .val (.int (Int32.ofNat len)), .val .null, .unset] [.ref a])) rfl (by rw [hml]; rfl) (rest := []) rfl (hb hbytes d1) (W := 0) (by show 2 * 0 + 0 ≤ _; decide) (Nat.le_of_ble_eq_true rfl) (Nat.le_of_ble_eq_true rfl)
  have hh3 := q3.trans hh0
  have c4 : Steps p.tables e below (s₁.setTop (entryFrame m #[.ref a, .ref b, .int (Int32.ofNat o), .int (Int32.ofNat len), .null] 6)) (T3.setTop (mkF m 27 #[.val (.ref a), .val (.ref b), .val (.int (Int32.ofNat o)), .val (.int (Int32.ofNat len)), .val .null, .unset] [])) := (c2.trans (st3 _ (Steps.refl _))).trans (by
    refine XS.iloadN X3.here hexec rfl (hb hbytes d4) rfl ?_
    refine XS.ifYes X3.here hexec rfl (pc0 := 5) rfl (hb hbytes d5) rfl (i0_ne_t (nz32 (by omega) l0)) (by decide) rfl ?_
    exact Steps.refl _)
  obtain ⟨T5, X5, q5, st5⟩ := X3.sget hexec hown (wk W (.fieldLink "java/lang/String" 38 "java/lang/String" "COMPACT_STRINGS" "Z")) s1 (fun _ _ h => by rw [hh3]; exact h) (g := (mkF m 27 #[.val (.ref a), .val (.ref b), .val (.int (Int32.ofNat o)), .val (.int (Int32.ofNat len)), .val .null, .unset] [])) rfl (hb hbytes d27)
  have hh5 := q5.trans hh3
  have c6 : Steps p.tables e below (s₁.setTop (entryFrame m #[.ref a, .ref b, .int (Int32.ofNat o), .int (Int32.ofNat len), .null] 6)) (T5.setTop (mkF m 30 #[.val (.ref a), .val (.ref b), .val (.int (Int32.ofNat o)), .val (.int (Int32.ofNat len)), .val .null, .unset] [.int z])) := c4.trans (st5 _ (Steps.refl _))
  have c7 : Steps p.tables e below (s₁.setTop (entryFrame m #[.ref a, .ref b, .int (Int32.ofNat o), .int (Int32.ofNat len), .null] 6)) (T5.setTop (mkF m 36 #[.val (.ref a), .val (.ref b), .val (.int (Int32.ofNat o)), .val (.int (Int32.ofNat len)), .val .null, .unset] [.int (Int32.ofNat len), .int (Int32.ofNat o), .ref b])) := c6.trans (by
    refine XS.ifNo X5.here hexec rfl (hb hbytes d30) rfl (i0_eq_f hz) ?_
    refine XS.aloadN X5.here hexec rfl (hb hbytes d33) rfl rfl ?_
    refine XS.iloadN X5.here hexec rfl (hb hbytes d34) rfl ?_
    refine XS.iloadN X5.here hexec rfl (hb hbytes d35) rfl ?_
    exact Steps.refl _)
  obtain ⟨v8, T8, X8, E8, g8⟩ := X5.callS hexec (Cmp3.law l b A o len) hown (wks W (staticW "java/lang/String" 177 Cmp3.yN)) (wk W Cmp3.tab) (W := 0) (Nat.le_of_ble_eq_true rfl) (Nat.le_of_ble_eq_true rfl) (Nat.le_refl _) (by show 0 + len ≤ len; omega) (g := (mkF m 36 #[.val (.ref a), .val (.ref b), .val (.int (Int32.ofNat o)), .val (.int (Int32.ofNat len)), .val .null, .unset] [.int (Int32.ofNat len), .int (Int32.ofNat o), .ref b])) rfl (by rw [hml]; rfl) c7 (argsL := [.ref b, .int (Int32.ofNat o), .int (Int32.ofNat len)]) (rest := []) rfl rfl (by show 2 * 0 + 0 ≤ _; decide) (hb hbytes d36) (⟨rfl, hA.mv X5.warmed.alike hh5, l1, l2, hp⟩)
  obtain ⟨e8, z8⟩ := E8
  obtain ⟨rfl, N, n1, n2, n3, n4, n5, n6⟩ := NewArr.mv _ T5 s _ _ hh5.symm (Vm.Alike.refl _) rfl e8
  rw [hh5] at z8
  have hB1 := hB.keep X8.warmed.alike (n6 _ _ hB.1)
  have hne : s.heap.size ≠ a := (Nat.ne_of_lt (Array.getElem?_eq_some_iff.mp hB.1).1).symm
  have c9 : Steps p.tables e below (s₁.setTop (entryFrame m #[.ref a, .ref b, .int (Int32.ofNat o), .int (Int32.ofNat len), .null] 6)) (T8.setTop (mkF m 39 #[.val (.ref a), .val (.ref b), .val (.int (Int32.ofNat o)), .val (.int (Int32.ofNat len)), .val .null, .unset] [.ref s.heap.size])) := g8
  have c10 : Steps p.tables e below (s₁.setTop (entryFrame m #[.ref a, .ref b, .int (Int32.ofNat o), .int (Int32.ofNat len), .null] 6)) (T8.setTop (mkF m 45 #[.val (.ref a), .val (.ref b), .val (.int (Int32.ofNat o)), .val (.int (Int32.ofNat len)), .val .null, .val (.ref s.heap.size)] [.int (Int32.ofNat N.slots.size), .ref s.heap.size, .ref a])) := by
    have hc : Steps p.tables e below (s₁.setTop (entryFrame m #[.ref a, .ref b, .int (Int32.ofNat o), .int (Int32.ofNat len), .null] 6)) (T8.setTop (mkF m 45 #[.val (.ref a), .val (.ref b), .val (.int (Int32.ofNat o)), .val (.int (Int32.ofNat len)), .val .null, .val (.ref s.heap.size)] [.int (Int32.ofNat len), .ref s.heap.size, .ref a])) := c9.trans (by
      refine XS.astore X8.here hexec rfl (hb hbytes d39) rfl rfl rfl ?_
      refine XS.aloadN X8.here hexec rfl (hb hbytes d41) rfl rfl ?_
      refine XS.aload X8.here hexec rfl (hb hbytes d42) rfl rfl ?_
      refine XS.iloadN X8.here hexec rfl (hb hbytes d44) rfl ?_
      exact Steps.refl _)
    rw [n4]; exact hc
  obtain ⟨v11, T11, X11, E11, g11⟩ := X8.callS hexec (CodL.law l s.heap.size N) hown (wks W (staticW "java/lang/String" 47 CodL.yN)) (wk W CodL.tab) (W := 1) (Nat.le_of_ble_eq_true rfl) (Nat.le_of_ble_eq_true rfl) (Nat.le_refl _) (by show 0 + len + 0 ≤ len; omega) (g := (mkF m 45 #[.val (.ref a), .val (.ref b), .val (.int (Int32.ofNat o)), .val (.int (Int32.ofNat len)), .val .null, .val (.ref s.heap.size)] [.int (Int32.ofNat N.slots.size), .ref s.heap.size, .ref a])) rfl (by rw [hml]; rfl) c10 (argsL := [.ref s.heap.size, .int (Int32.ofNat N.slots.size)]) (rest := [.ref a]) rfl rfl (by show 2 * 0 + (1 + 0) ≤ _; decide) (hb hbytes d45) (⟨rfl, n1⟩)
  obtain ⟨rfl, q11⟩ := E11
  have hB11 := hB1.mv (X8.warmed.alike.symm.trans X11.warmed.alike) q11
  have c12 : Steps p.tables e below (s₁.setTop (entryFrame m #[.ref a, .ref b, .int (Int32.ofNat o), .int (Int32.ofNat len), .null] 6)) (T11.setTop (mkF m 48 #[.val (.ref a), .val (.ref b), .val (.int (Int32.ofNat o)), .val (.int (Int32.ofNat len)), .val .null, .val (.ref s.heap.size)] [.int 0, .ref a])) := g11
  obtain ⟨T13, X13, p13, bl13, sl13, st13⟩ := X11.finit hexec hown (wk W (.fieldLink "java/lang/String" 15 "java/lang/String" "coder" "B")) (Or.inr ⟨_, (wk W (.laysFinal "java/lang/String" "java/lang/String" "coder" "B"))⟩) (Or.inl ⟨rfl, hnm⟩) f2 (Or.inl rfl) hB11 (t := .byte) (by decide +kernel) rfl (g := (mkF m 48 #[.val (.ref a), .val (.ref b), .val (.int (Int32.ofNat o)), .val (.int (Int32.ofNat len)), .val .null, .val (.ref s.heap.size)] [.int 0, .ref a])) rfl (rest := []) rfl (hb hbytes d48)
  have c14 : Steps p.tables e below (s₁.setTop (entryFrame m #[.ref a, .ref b, .int (Int32.ofNat o), .int (Int32.ofNat len), .null] 6)) (T13.setTop (mkF m 54 #[.val (.ref a), .val (.ref b), .val (.int (Int32.ofNat o)), .val (.int (Int32.ofNat len)), .val .null, .val (.ref s.heap.size)] [.ref s.heap.size, .ref a])) := (c12.trans (st13 _ (Steps.refl _))).trans (by
    refine XS.aloadN X13.here hexec rfl (hb hbytes d51) rfl rfl ?_
    refine XS.aload X13.here hexec rfl (hb hbytes d52) rfl rfl ?_
    exact Steps.refl _)
  obtain ⟨T15, X15, p15, bl15, sl15, st15⟩ := X13.finit hexec hown (wk W (.fieldLink "java/lang/String" 9 "java/lang/String" "value" "[B")) (Or.inr ⟨_, (wk W (.laysFinal "java/lang/String" "java/lang/String" "value" "[B"))⟩) (Or.inl ⟨rfl, hnm⟩) f1 (Or.inl rfl) bl13 (t := (.array .byte)) (by decide +kernel) rfl (g := (mkF m 54 #[.val (.ref a), .val (.ref b), .val (.int (Int32.ofNat o)), .val (.int (Int32.ofNat len)), .val .null, .val (.ref s.heap.size)] [.ref s.heap.size, .ref a])) rfl (rest := []) rfl (hb hbytes d54)
  have c16 : Steps p.tables e below (s₁.setTop (entryFrame m #[.ref a, .ref b, .int (Int32.ofNat o), .int (Int32.ofNat len), .null] 6)) (T15.setTop (mkF m 57 #[.val (.ref a), .val (.ref b), .val (.int (Int32.ofNat o)), .val (.int (Int32.ofNat len)), .val .null, .val (.ref s.heap.size)] [])) := c14.trans (st15 _ (Steps.refl _))
  have ap := apart (Or.inr ⟨_, (wk W (.laysFinal "java/lang/String" "java/lang/String" "value" "[B"))⟩) (Or.inr ⟨_, (wk W (.laysFinal "java/lang/String" "java/lang/String" "coder" "B"))⟩) f1 f2 (t₁ := .array .byte) (t₂ := .byte) (by decide +kernel) (by decide +kernel) (by decide)
  have al := X8.warmed.alike.symm.trans X15.warmed.alike
  have n7 : T11.heap[s.heap.size]? = some N := by rw [q11]; exact n1.1
  exact ⟨T15, none, _, _, _, X15, by simp, rfl, by omega, (fun _ => rfl), ⟨rfl, _, N, bl15, ((Same.refl D _).set _ (by simp)).set _ (by simp), sl15, (Cell.slots_setSlot_ne _ ap).trans sl13, n1.keep al (p15.other hne (p13.other hne n7)), n2, by rw [al.findClass]; exact n3, n4, n5, fun y c h1 h2 => p15.other h1 (p13.other h1 (by rw [q11]; exact n6 y c h2)), by rw [p15.2.2, p13.2.2, q11]; exact z8⟩, fun fs hl => c16.trans (X15.returnOut hexec hret (hb hbytes d57) hl)⟩
end New4
namespace New1
def yN : MethodName := ⟨"java/lang/String", "<init>", "([C)V"⟩
abbrev yB : ByteArray := jdk_42_method_3_code
theorem d0 : decode yB 0 = .ok (.aload_n 0, 1) := by decide +kernel
theorem d1 : decode yB 1 = .ok (.aload_n 1, 1) := by decide +kernel
theorem d2 : decode yB 2 = .ok (.iconst 0, 1) := by decide +kernel
theorem d3 : decode yB 3 = .ok (.aload_n 1, 1) := by decide +kernel
theorem d4 : decode yB 4 = .ok (.arraylength, 1) := by decide +kernel
theorem d5 : decode yB 5 = .ok (.aconst_null, 1) := by decide +kernel
theorem d6 : decode yB 6 = .ok (.invokespecial 27, 3) := by decide +kernel
theorem d9 : decode yB 9 = .ok (.return_, 1) := by decide +kernel
def site : List Cond := [New4.tab] ++ initW "java/lang/String" 27 New4.yN
def tab : Cond := tabOf yN yB 2 none site
def P (a : Addr) (D : Cell) (fV fC : Field) (b : Addr) (A : Cell) (z : Int32) (args : Array Value) (s : State) : Prop := args = #[.ref a, .ref b] ∧ Blank "java/lang/String" a D s ∧ Found "java/lang/String" "value" "[B" fV s ∧ Found "java/lang/String" "coder" "B" fC s ∧ Ch b A s ∧ StaticIs s "java/lang/String" "COMPACT_STRINGS" "Z" (.int z) ∧ ¬ z = 0 ∧ 0 < A.slots.size ∧ A.slots.size ≤ 536870912 ∧ ∀ i, i < A.slots.size → ¬ 255 < cv A i
def E (a : Addr) (D : Cell) (fV fC : Field) (A : Cell) (r : Option Value) (s u : State) : Prop := Got a D fV fC A 0 A.slots.size r s u
/-- new String(chars), not empty, no char above 255: a Latin-1 String of their low bytes -/
theorem law (l : Launch) (a : Addr) (D : Cell) (fV fC : Field) (b : Addr) (A : Cell) (z : Int32) : Law l yN 2 1 3 52 yB 2 none site (P a D fV fC b A z) (E a D fV fC A) [⟨a, fC.slot⟩, ⟨a, fV.slot⟩] 1 A.slots.size := by
  refine Law.of_walk (plainFor_of_name (by decide +kernel)) (by decide +kernel) (by decide +kernel) (by decide) (fun _ _ h => by rw [h.1]; rfl) (fun _ U U' hal hh h => ⟨h.1, h.2.1.mv hal hh, h.2.2.1.al hal, h.2.2.2.1.al hal, h.2.2.2.2.1.mv hal hh, h.2.2.2.2.2.1.there hal hh, h.2.2.2.2.2.2⟩) (fun r U U' V V' h1 hal h2 h => Got.mv r U U' V V' h1 hal h2 h) ?_
  intro p e s m args below meth c s₁ X0 hexec hbytes hml hret hlk hnm hown hh0 W hP
  obtain ⟨rfl, hB, f1, f2, hA, s1, hz, l0, l2, hp⟩ := hP
  have c1 : Steps p.tables e below (s₁.setTop (entryFrame m #[.ref a, .ref b] 2)) (s₁.setTop (mkF m 0 #[.val (.ref a), .val (.ref b)] [])) := entry rfl
  have c2 : Steps p.tables e below (s₁.setTop (entryFrame m #[.ref a, .ref b] 2)) (s₁.setTop (mkF m 6 #[.val (.ref a), .val (.ref b)] [.null, .int (Int32.ofNat A.slots.size), .int 0, .ref b, .ref a])) := c1.trans (by
    refine XS.aloadN X0.here hexec rfl (hb hbytes d0) rfl rfl ?_
    refine XS.aloadN X0.here hexec rfl (hb hbytes d1) rfl rfl ?_
    refine iconstV X0.here hexec rfl 0 (hb hbytes d2) (by decide) ?_
    refine XS.aloadN X0.here hexec rfl (hb hbytes d3) rfl rfl ?_
    refine X0.alen hexec (hA.1.mv X0.warmed.alike hh0) rfl rfl (hb hbytes d4) ?_
    refine XS.aconstNull X0.here hexec rfl (hb hbytes d5) ?_
    exact Steps.refl _)
  obtain ⟨v3, T3, X3, E3, g3⟩ := X0.callN hexec (New4.law l a D fV fC b A z 0 A.slots.size) rfl hown (wks W (initW "java/lang/String" 27 New4.yN)) (W New4.tab (by simp only [site, List.mem_cons, List.mem_append, true_or, or_true])) (W := 0) (Nat.le_of_ble_eq_true rfl) (Nat.le_of_ble_eq_true rfl) (Nat.le_refl _) (by show 0 + A.slots.size ≤ A.slots.size; omega) (g := (mkF m 6 #[.val (.ref a), .val (.ref b)] [.null, .int (Int32.ofNat A.slots.size), .int (Int32.ofNat 0), .ref b, .ref a])) rfl (by rw [hml]; rfl) c2 (argsL := [.ref b, .int (Int32.ofNat 0), .int (Int32.ofNat A.slots.size), .null]) (rest := []) rfl rfl (by show 2 * 0 + 0 ≤ _; decide) (hb hbytes d6) (⟨rfl, hB.mv X0.warmed.alike hh0, f1.al X0.warmed.alike, f2.al X0.warmed.alike, hA.mv X0.warmed.alike hh0, s1.there X0.warmed.alike hh0, hz, l0, by omega, l2, fun i hi => by rw [Nat.zero_add]; exact hp i hi⟩)
  have e0 := Got.mv _ s₁ s _ _ hh0.symm (Vm.Alike.refl _) rfl E3
  obtain rfl := e0.1
  have c4 : Steps p.tables e below (s₁.setTop (entryFrame m #[.ref a, .ref b] 2)) (T3.setTop (mkF m 9 #[.val (.ref a), .val (.ref b)] [])) := g3
  exact ⟨T3, none, _, _, _, X3, by simp, rfl, by omega, (fun _ => rfl), e0, fun fs hl => c4.trans (X3.returnOut hexec hret (hb hbytes d9) hl)⟩
theorem pays {l : Launch} {R : Room} {p : Program} {e : Env} {below : List Frame} {s : State} {sargs : Array Value} {len W : Nat} (a : Addr) (D : Cell) (fV fC : Field) (b : Addr) (A : Cell) (z : Int32) (htab : tab.before sargs s = true) (hfr : 4 ≤ R.frames) (hlo : W + 65 ≤ R.locals) :
    Back l R p e below s sargs yN len W (fun A₁ a₁ => A₁.cells + 1 ≤ R.cells ∧ A₁.slots + A.slots.size ≤ R.slots ∧ P a D fV fC b A z a₁ A₁.U) (fun A₁ _ v₁ B₁ => E a D fV fC A v₁ A₁.U B₁.U ∧ B₁.locs = A₁.locs ++ [⟨a, fC.slot⟩, ⟨a, fV.slot⟩] ∧ B₁.cells = A₁.cells + 1 ∧ B₁.slots = A₁.slots + A.slots.size) :=
  (law l a D fV fC b A z).pays htab hfr (by omega)
end New1
end StrChars
namespace StrChars.Road
open Jvm Sem ClassFile Op Lib Jvm.Stand Jvm.Free Jvm.Free.XT
open Jvm.Lib.Cold (StaticIs)
abbrev ST : String := "java/lang/String"
/-- every table word that New1's law asks, flat -/
abbrev words : List Jvm.Cond := [.code New1.yN New1.yB 2 none, .initialized ST, .methodLink ST 27 New4.yN, .instanceMethod New4.yN,
  .code New4.yN New4.yB 6 none, .fieldLink ST 38 ST "COMPACT_STRINGS" "Z", .laysFinal ST ST "value" "[B", .fieldLink ST 9 ST "value" "[B", .laysFinal ST ST "coder" "B", .fieldLink ST 15 ST "coder" "B",
  .methodLink ST 1 Lib.objectInit, .instanceMethod Lib.objectInit, .code Lib.objectInit ⟨#[0xb1]⟩ 1 none, .methodLink ST 177 Cmp3.yN, .static Cmp3.yN, .methodLink ST 47 CodL.yN, .static CodL.yN,
  .code Cmp3.yN Cmp3.yB 6 (some (.array .byte)), .initialized U16, .arrayClass .byte, .methodLink U16 115 Cmp5.yN, .static Cmp5.yN, .code Cmp5.yN Cmp5.yB 7 (some .int), .code CodL.yN CodL.yB 2 (some .byte)]
theorem tab_of {a : Array Value} {s : State} (h : ∀ w ∈ words, w.before a s = true) : New1.tab.before a s = true := by
  have h5 : Cmp5.tab.before a s = true := unparts (wk h (.code Cmp5.yN Cmp5.yB 7 (some .int))) (wks h (.initialized Cmp5.yN.cls :: Cmp5.site))
  have hc : CodL.tab.before a s = true := unparts (wk h (.code CodL.yN CodL.yB 2 (some .byte))) (wks h (.initialized CodL.yN.cls :: CodL.site))
  have q5 : ∀ w ∈ Cmp5.tab :: words, w.before a s = true := fun w hw => (List.mem_cons.mp hw).elim (fun e => e ▸ h5) (h w)
  have h3 : Cmp3.tab.before a s = true := unparts (wk q5 (.code Cmp3.yN Cmp3.yB 6 (some (.array .byte)))) (wks q5 (.initialized Cmp3.yN.cls :: Cmp3.site))
  have q3 : ∀ w ∈ Cmp3.tab :: CodL.tab :: words, w.before a s = true := fun w hw => (List.mem_cons.mp hw).elim (fun e => e ▸ h3) fun hw => (List.mem_cons.mp hw).elim (fun e => e ▸ hc) (h w)
  have h4 : New4.tab.before a s = true := unparts (wk q3 (.code New4.yN New4.yB 6 none)) (wks q3 (.initialized New4.yN.cls :: New4.site))
  have q4 : ∀ w ∈ New4.tab :: words, w.before a s = true := fun w hw => (List.mem_cons.mp hw).elim (fun e => e ▸ h4) (h w)
  exact unparts (wk q4 (.code New1.yN New1.yB 2 none)) (wks q4 (.initialized New1.yN.cls :: New1.site))
/-- the words ride from the start Z to the walk's own state -/
theorem moved {Z s : State} {a0 args : Array Value} (hZ : Z.Warmed39 s.vm) (hw : ∀ d ∈ words, d.before a0 Z = true) : ∀ d ∈ words, d.before args s = true := fun d hd => by
  have q := hw d hd
  have t : ∀ d ∈ words, d = .arrayClass .byte ∨ (d.onTables && d.keepsFace) = true := by decide +kernel
  rcases t d hd with rfl | t
  · exact RoadKit.mvA hZ q
  · exact RoadKit.mv hZ q t
/-- WHAT COMES BACK, over the tables of the start Z: h the heap at the call, h' behind it -/
def Q (Z : State) (x : Addr) (A : Cell) (h : Heap) (v : Option Value) (h' : Heap) (L : List Loc) : Prop := v = none ∧ (∀ y ∈ L, y.base = x) ∧ RoadKit.Keep h h' [x] ∧ h'.size = h.size + 1 ∧ RoadKit.Exa Z h' x ST ∧ RoadKit.Fld Z h' x ST "value" "[B" (.ref h.size) ∧ RoadKit.Fld Z h' x ST "coder" "B" (.int 0) ∧
  (∃ V : Cell, RoadKit.Arr Z h' h.size V .byte ∧ V.vm = .none ∧ Z.vm.findClass "[B" = some V.cls ∧ V.slots.size = A.slots.size ∧ ∀ j, j < A.slots.size → V.slots[j]? = some (.int (lo8 (cv A j)))) ∧
  ∀ (O n d : String) (w : Value), RoadKit.Fld Z h x O n d w → RoadKit.slotOf Z O n d ≠ RoadKit.slotOf Z ST "value" "[B" → RoadKit.slotOf Z O n d ≠ RoadKit.slotOf Z ST "coder" "B" → RoadKit.Fld Z h' x O n d w
/-- **new String(chars) AT A CALL, IN THE ROAD'S FORM**: for specialBack behind newO: x the fresh String, b the char[] with the cell A -/
theorem back {p : Program} {l : Launch} {e : Env} {R : Room} {s : State} {args : Array Value} {below : List Frame} {len W : Nat} {Z : State} {a0 : Array Value} {h : Heap} (hZ : Z.Warmed39 s.vm) (hw : ∀ d ∈ words, d.before a0 Z = true) {kI : Nat} (wi : (Jvm.Cond.instantiable ST kI).before a0 Z = true)
    {x b : Addr} {A : Cell} {z : Int32} {v0 c0 : Value} (E : RoadKit.Exa Z h x ST) (V : RoadKit.Fld Z h x ST "value" "[B" v0) (C : RoadKit.Fld Z h x ST "coder" "B" c0) (K : RoadKit.Arr Z h b A .char) (hty : Typed .char A) (S : RoadKit.Sta Z h ST "COMPACT_STRINGS" "Z" (.int z)) (hz : ¬ z = 0)
    (l0 : 0 < A.slots.size) (l2 : A.slots.size ≤ 536870912) (hp : ∀ i, i < A.slots.size → ¬ 255 < cv A i) (hfr : 4 ≤ R.frames) (hlo : W + 65 ≤ R.locals) :
    Back l R p e below s args New1.yN len W (fun P a => a = #[.ref x, .ref b] ∧ P.U.heap = h ∧ P.cells + 1 ≤ R.cells ∧ P.slots + A.slots.size ≤ R.slots)
      (fun P _ v B => ∃ L, Q Z x A h v B.U.heap L ∧ B.locs = P.locs ++ L ∧ B.cells = P.cells + 1 ∧ B.slots = P.slots + A.slots.size) := by
  intro m meth c P g ig mk a X hg hsize hdg hW hn hp'
  obtain ⟨rfl, rfl, r1, r2⟩ := hp'
  have al : Z.vm.Alike P.U.vm := hZ.alike.trans X.warmed.alike
  obtain ⟨D, cfV, kV, iV, fV, hD, gV, stV, knV, obV, asV, slV⟩ := id V
  obtain ⟨D', cfC, kC, iC, fC, hD', gC, stC, -, -, asC, slC⟩ := id C
  cases hD.symm.trans hD'
  obtain ⟨D2, kD, e1, e2, e3, e4, e5⟩ := id E
  cases hD.symm.trans e1
  obtain ⟨c2, k2, i1, i2, i3, -⟩ := Cond.instantiable_spec wi
  cases e2.symm.trans i1
  cases e3.symm.trans i2
  obtain ⟨kU, u1, u2⟩ := al.2.2 _ _ e3
  have hB : Blank ST x D P.U := ⟨hD, ⟨knV, fun q hq => by rw [hq] at obV; cases obV⟩, by rw [al.findClass]; exact e2, kU, u1, by rw [u2]; exact i3, by rw [u2]; exact e5 i3⟩
  have F1 : Found ST "value" "[B" fV P.U := ⟨SBG.found_only al ⟨cfV, kV, iV, gV⟩, stV⟩
  have F2 : Found ST "coder" "B" fC P.U := ⟨SBG.found_only al ⟨cfC, kC, iC, gC⟩, stC⟩
  have hA : Ch b A P.U := ⟨⟨K.1, State.isArrayOf_alike al K.2.1, K.2.2, by omega⟩, hty⟩
  have hS : StaticIs P.U ST "COMPACT_STRINGS" "Z" (.int z) := by
    obtain ⟨cfS, iS, kS, fS, st, cS, t1, t2, t3, t4, t5, t6, t7⟩ := S
    exact StaticIs.there (s := { Z with heap := P.U.heap }) ⟨cfS, iS, kS, fS, st, cS, t1, t2, t3, t4, t5, (fun q => by rw [q] at t6; cases t6), t7⟩ al rfl
  obtain ⟨v, B, X', ⟨⟨hv, E', V', q1, q2, q3, q4, q5, q6, q7, q8, q9, q10, q11⟩, hl, hc, hs⟩, st⟩ := New1.pays x D fV fC b A z (tab_of (moved hZ hw)) hfr hlo m meth c P g ig mk _ X hg hsize hdg hW hn ⟨r1, r2, rfl, hB, F1, F2, hA, hS, hz, l0, l2, hp⟩
  have al' : Z.vm.Alike B.U.vm := hZ.alike.trans X'.warmed.alike
  have hsz : E'.slots.size = D.slots.size := by
    obtain ⟨-, -, -, kB, w1, w2, w3⟩ := q1
    obtain ⟨kB', y1, y2⟩ := al'.2.2 _ _ e3
    rw [q2.2.1] at w1
    cases w1.symm.trans y1
    rw [w3, e5 i3, y2]
  refine ⟨v, B, X', ⟨_, ⟨hv, ?_, ⟨by omega, fun y cy hy hn' => q10 y cy (by simpa using hn') hy, fun y cy hy => ?_⟩, q11, ⟨E', _, q1.1, by rw [q2.2.1]; exact e2, by rw [q2.2.1]; exact e3, by rw [q2.1]; exact obV, fun _ => by rw [hsz]; exact e5 i3⟩,
    ⟨E', cfV, kV, iV, fV, q1.1, gV, stV, by rw [q2.1]; exact knV, by rw [q2.1]; exact obV, by rw [q2.2.1]; exact asV, q3⟩, ⟨E', cfC, kC, iC, fC, q1.1, gC, stC, by rw [q2.1]; exact knV, by rw [q2.1]; exact obV, by rw [q2.2.1]; exact asC, q4⟩,
    ⟨V', ⟨q5.1, State.isArrayOf_alike al'.symm q5.2.1, q5.2.2.1⟩, q6, by rw [← al'.findClass]; exact q7, q8, fun j hj => by have := q9 j hj; rwa [Nat.zero_add] at this⟩, fun O n d w F n1 n2 => ?_⟩, hl, hc, hs⟩, st⟩
  · intro y hy
    simp only [List.mem_cons, List.not_mem_nil, or_false] at hy
    rcases hy with rfl | rfl <;> rfl
  · by_cases q : y = x
    · subst q
      cases hD.symm.trans hy
      exact ⟨E', q1.1, q2.2.1, q2.1, hsz⟩
    · exact ⟨cy, q10 y cy q hy, rfl, rfl, rfl⟩
  · obtain ⟨D3, cf, k, i, f, g1, g2, g3, g4, g5, g6, g7⟩ := F
    cases hD.symm.trans g1
    simp only [RoadKit.slotOf, g2, gV, gC, Option.map_some, Option.getD_some] at n1 n2
    exact ⟨E', cf, k, i, f, q1.1, g2, g3, by rw [q2.1]; exact g4, by rw [q2.1]; exact g5, by rw [q2.2.1]; exact g6, by rw [q2.2.2 f.slot (by simp [n1, n2])]; exact g7⟩
end StrChars.Road
namespace StrChars.Road
open Jvm Sem ClassFile Op Lib Jvm.Stand Jvm.Free Jvm.Free.XT
/-- WHAT COMES BACK, the byte[] as a list of values -/
def QA (Z : State) (x : Addr) (zn : Int32) (cs : List Int32) (h : Heap) (v : Option Value) (h' : Heap) (L : List Loc) : Prop := v = none ∧ (∀ y ∈ L, y.base = x) ∧ RoadKit.Keep h h' [x] ∧ h'.size = h.size + 1 ∧ RoadKit.Exa Z h' x ST ∧ RoadKit.Fld Z h' x ST "value" "[B" (.ref h.size) ∧ RoadKit.Fld Z h' x ST "coder" "B" (.int 0) ∧
  (∃ kb, Z.vm.findClass "[B" = some kb ∧ RoadKit.Arv Z h' h.size kb .byte zn (cs.map fun c => .int (lo8 c)) (.int 0)) ∧
  ∀ (O n d : String) (w : Value), RoadKit.Fld Z h x O n d w → RoadKit.slotOf Z O n d ≠ RoadKit.slotOf Z ST "value" "[B" → RoadKit.slotOf Z O n d ≠ RoadKit.slotOf Z ST "coder" "B" → RoadKit.Fld Z h' x O n d w
/-- **new String(chars) AT A CALL, THE ARRAYS AS LISTS**: the char[] at b holds cs, not empty, no char above 255 -/
theorem backArv {p : Program} {l : Launch} {e : Env} {R : Room} {s : State} {args : Array Value} {below : List Frame} {len W : Nat} {Z : State} {a0 : Array Value} {h : Heap} (hZ : Z.Warmed39 s.vm) (hw : ∀ d ∈ words, d.before a0 Z = true) {kI : Nat} (wi : (Jvm.Cond.instantiable ST kI).before a0 Z = true)
    {x b : Addr} {k : ClassId} {zn z : Int32} {cs : List Int32} {dv v0 c0 : Value} (E : RoadKit.Exa Z h x ST) (V : RoadKit.Fld Z h x ST "value" "[B" v0) (C : RoadKit.Fld Z h x ST "coder" "B" c0) (K : RoadKit.Arv Z h b k .char zn (cs.map Value.int) dv) (S : RoadKit.Sta Z h ST "COMPACT_STRINGS" "Z" (.int z)) (hz : ¬ z = 0)
    (hlen : zn.toNatClampNeg = cs.length) (h0 : 0 < cs.length) (hbig : cs.length ≤ 536870912) (hall : ∀ c ∈ cs, ¬ 255 < c) (hfr : 4 ≤ R.frames) (hlo : W + 65 ≤ R.locals) :
    Back l R p e below s args New1.yN len W (fun P a => a = #[.ref x, .ref b] ∧ P.U.heap = h ∧ P.cells + 1 ≤ R.cells ∧ P.slots + cs.length ≤ R.slots)
      (fun P _ v B => ∃ L, QA Z x zn cs h v B.U.heap L ∧ B.locs = P.locs ++ L ∧ B.cells = P.cells + 1 ∧ B.slots = P.slots + cs.length) := by
  obtain ⟨A, K1, K2, K3, K4, K5, K6⟩ := K
  have e : A.slots.size = cs.length := K3.trans hlen
  have hat : ∀ (i : Nat) (hi : i < cs.length), A.slots[i]? = some (.int cs[i]) := fun i hi => by rw [K5 i (by omega)]; simp [List.getD_eq_getElem?_getD, hi]
  have hcv : ∀ (i : Nat) (hi : i < cs.length), cv A i = cs[i] := fun i hi => by unfold cv; rw [hat i hi]
  have hty : Typed .char A := fun i v hv => by
    have hi : i < A.slots.size := (Array.getElem?_eq_some_iff.mp hv).1
    have q := K5 i hi
    rw [hv] at q
    rw [Option.some.inj q]
    exact K6 i hi
  refine Back.mono (back hZ hw wi E V C K1 hty S hz (by omega) (by omega) (fun i hi => by rw [hcv i (by omega)]; exact hall _ (List.getElem_mem _)) hfr hlo) (fun P a hp => ⟨hp.1, hp.2.1, hp.2.2.1, by rw [e]; exact hp.2.2.2⟩) (fun P a v B hp hq => ?_)
  obtain ⟨L, ⟨q1, q2, q3, q4, q5, q6, q7, ⟨V', v1, v2, v3, v4, v5⟩, q9⟩, hl, hc, hs⟩ := hq
  refine ⟨L, ⟨q1, q2, q3, q4, q5, q6, q7, ⟨V'.cls, v3, V', v1, rfl, by rw [v4, e, hlen], K4, fun i hi => ?_, fun i hi => ?_⟩, q9⟩, hl, hc, by rw [hs, e]⟩
  · have hi' : i < cs.length := by omega
    rw [v5 i (by omega), hcv i hi']; simp [List.getD_eq_getElem?_getD, hi']
  · have hi' : i < cs.length := by omega
    simp only [List.getD_eq_getElem?_getD, List.getElem?_map, List.getElem?_eq_getElem hi', Option.map_some, Option.getD_some]
    exact fits_lo8 _
end StrChars.Road
namespace StrChars.Road
open Jvm Sem ClassFile Op Lib Jvm.Stand Jvm.Free Jvm.Free.XT
/-- WHAT COMES BACK, in the writer's own shape -/
def QV (Z : State) (x : Addr) (N : Int32) (bs : List Int32) (h : Heap) (n0 : Nat) (v : Option Value) (h' : Heap) (L : List Loc) : Prop := v = none ∧ RoadKit.Fr n0 L ∧ RoadKit.Keep h h' [x] ∧ RoadKit.Exa Z h' x ST ∧ RoadKit.Fld Z h' x ST "coder" "B" (.int 0) ∧
  ∃ (t : Addr) (kb : ClassId), n0 ≤ t ∧ h.size ≤ t ∧ ¬ t = x ∧ RoadKit.Fld Z h' x ST "value" "[B" (.ref t) ∧ RoadKit.Arv Z h' t kb .byte N (bs.map Value.int) (.int 0)
/-- **new String(chars) AT A CALL, FOR THE WRITER**: a char[] of n known ints, each 0 to 255 -/
theorem backV {p : Program} {l : Launch} {e : Env} {R : Room} {s : State} {args : Array Value} {below : List Frame} {len W : Nat} {Z : State} {a0 : Array Value} {h : Heap} (hZ : Z.Warmed39 s.vm) (hw : ∀ d ∈ words, d.before a0 Z = true) {kI : Nat} (wi : (Jvm.Cond.instantiable ST kI).before a0 Z = true)
    {x b : Addr} {kC : ClassId} {cs bs : List Int32} {d v0 c0 : Value} {z N : Int32} {n n0 : Nat} (hx0 : n0 ≤ x) (hh0 : n0 ≤ h.size) (E : RoadKit.Exa Z h x ST) (V : RoadKit.Fld Z h x ST "value" "[B" v0) (C : RoadKit.Fld Z h x ST "coder" "B" c0) (K : RoadKit.Arv Z h b kC .char N (cs.map Value.int) d) (S : RoadKit.Sta Z h ST "COMPACT_STRINGS" "Z" (.int z)) (hz : ¬ z = 0)
    (hn : cs.length = n) (hN : N = Int32.ofNat n) (l0 : 0 < n) (l2 : n ≤ 4000) (hp : ∀ c ∈ cs, ¬ c < 0 ∧ ¬ (255 : Int32) < c) (hb : bs = cs.map (fun c => c.toInt8.toInt32)) (hfr : 4 ≤ R.frames) (hlo : W + 65 ≤ R.locals) :
    Back l R p e below s args (⟨"java/lang/String", "<init>", "([C)V"⟩ : MethodName) len W (fun P a => a = #[.ref x, .ref b] ∧ P.U.heap = h ∧ P.cells + 1 ≤ R.cells ∧ P.slots + n ≤ R.slots)
      (fun P _ v B => ∃ L, QV Z x N bs h n0 v B.U.heap L ∧ B.locs = P.locs ++ L ∧ B.cells = P.cells + 1 ∧ B.slots = P.slots + n) := by
  subst hn hN hb
  refine Back.mono (backArv hZ hw wi E V C K S hz (n32 (by omega)) l0 (by omega) (fun c hc => (hp c hc).2) hfr hlo) (fun P a hp => hp) (fun P a v B hp hq => ?_)
  obtain ⟨L, ⟨q1, q2, q3, q4, q5, q6, q7, ⟨kb, v1, v2⟩, q9⟩, hl, hc, hs⟩ := hq
  exact ⟨L, ⟨q1, fun y hy => by rw [q2 y hy]; exact hx0, q3, q5, q7, h.size, kb, hh0, Nat.le_refl _, Nat.ne_of_gt E.lt, q6, by rw [List.map_map]; exact v2⟩, hl, hc, hs⟩
end StrChars.Road
end Jvm.Pilot.@@N@@

namespace Jvm.RoadKit
open Sem ClassFile Op Lib Jvm.Stand Jvm.Free Jvm.LawKit
theorem own_dloadN {tb : Tables} [Ours tb] {e : Env} {below : List Frame} {T target : State} {m : MethodId} {c : Code} {g : JFrame} (h : At T m c below) (hx : tb.exec = Jvm.exec) (hg : g.method = m) {k : Fin 4} {v : UInt64} (hd : decode c.code g.pc = .ok (.dload_n k, 1)) (hl : g.locals[k.val]? = some (.val (.double v)))
    (hr : Steps tb e below (T.setTop { g with pc := g.pc + 1, stack := .double v :: g.stack }) target) : Steps tb e below (T.setTop g) target := by
  subst hg
  jvm_step h [h.top, hx, hd, hl]
  exact hr
theorem own_dload {tb : Tables} [Ours tb] {e : Env} {below : List Frame} {T target : State} {m : MethodId} {c : Code} {g : JFrame} (h : At T m c below) (hx : tb.exec = Jvm.exec) (hg : g.method = m) {k : Nat} {v : UInt64} (hd : decode c.code g.pc = .ok (.dload k, 2)) (hl : g.locals[k]? = some (.val (.double v)))
    (hr : Steps tb e below (T.setTop { g with pc := g.pc + 2, stack := .double v :: g.stack }) target) : Steps tb e below (T.setTop g) target := by
  subst hg
  jvm_step h [h.top, hx, hd, hl]
  exact hr
theorem own_dstoreN {tb : Tables} [Ours tb] {e : Env} {below : List Frame} {T target : State} {m : MethodId} {c : Code} {g : JFrame} (h : At T m c below) (hx : tb.exec = Jvm.exec) (hg : g.method = m) {k : Fin 4} {x : UInt64} {rest : List Value} {l' : Array Slot} (hd : decode c.code g.pc = .ok (.dstore_n k, 1)) (hs : g.stack = .double x :: rest) (hl : storeLocals g.locals k.val (.double x) = some l')
    (hr : Steps tb e below (T.setTop { g with pc := g.pc + 1, stack := rest, locals := l' }) target) : Steps tb e below (T.setTop g) target := by
  subst hg
  jvm_step h [h.top, hx, hd, hs, hl]
  exact hr
theorem own_dstore {tb : Tables} [Ours tb] {e : Env} {below : List Frame} {T target : State} {m : MethodId} {c : Code} {g : JFrame} (h : At T m c below) (hx : tb.exec = Jvm.exec) (hg : g.method = m) {k : Nat} {x : UInt64} {rest : List Value} {l' : Array Slot} (hd : decode c.code g.pc = .ok (.dstore k, 2)) (hs : g.stack = .double x :: rest) (hl : storeLocals g.locals k (.double x) = some l')
    (hr : Steps tb e below (T.setTop { g with pc := g.pc + 2, stack := rest, locals := l' }) target) : Steps tb e below (T.setTop g) target := by
  subst hg
  jvm_step h [h.top, hx, hd, hs, hl]
  exact hr
theorem own_dconst0 {tb : Tables} [Ours tb] {e : Env} {below : List Frame} {T target : State} {m : MethodId} {c : Code} {g : JFrame} (h : At T m c below) (hx : tb.exec = Jvm.exec) (hg : g.method = m) (hd : decode c.code g.pc = .ok (.dconst 0, 1))
    (hr : Steps tb e below (T.setTop { g with pc := g.pc + 1, stack := .double FP.dconst0 :: g.stack }) target) : Steps tb e below (T.setTop g) target := by
  subst hg
  jvm_step h [h.top, hx, hd]
  exact hr
theorem own_dconst1 {tb : Tables} [Ours tb] {e : Env} {below : List Frame} {T target : State} {m : MethodId} {c : Code} {g : JFrame} (h : At T m c below) (hx : tb.exec = Jvm.exec) (hg : g.method = m) (hd : decode c.code g.pc = .ok (.dconst 1, 1))
    (hr : Steps tb e below (T.setTop { g with pc := g.pc + 1, stack := .double FP.dconst1 :: g.stack }) target) : Steps tb e below (T.setTop g) target := by
  subst hg
  jvm_step h [h.top, hx, hd]
  exact hr
theorem own_i2d {tb : Tables} [Ours tb] {e : Env} {below : List Frame} {T target : State} {m : MethodId} {c : Code} {g : JFrame} (h : At T m c below) (hx : tb.exec = Jvm.exec) (hg : g.method = m) {x : Int32} {rest : List Value} (hd : decode c.code g.pc = .ok (.i2d, 1)) (hs : g.stack = .int x :: rest)
    (hr : Steps tb e below (T.setTop { g with pc := g.pc + 1, stack := .double (FP.i2d x) :: rest }) target) : Steps tb e below (T.setTop g) target := by
  subst hg
  jvm_step h [h.top, hx, hd, hs]
  exact hr
theorem own_l2d {tb : Tables} [Ours tb] {e : Env} {below : List Frame} {T target : State} {m : MethodId} {c : Code} {g : JFrame} (h : At T m c below) (hx : tb.exec = Jvm.exec) (hg : g.method = m) {x : Int64} {rest : List Value} (hd : decode c.code g.pc = .ok (.l2d, 1)) (hs : g.stack = .long x :: rest)
    (hr : Steps tb e below (T.setTop { g with pc := g.pc + 1, stack := .double (FP.l2d x) :: rest }) target) : Steps tb e below (T.setTop g) target := by
  subst hg
  jvm_step h [h.top, hx, hd, hs]
  exact hr
theorem own_d2l {tb : Tables} [Ours tb] {e : Env} {below : List Frame} {T target : State} {m : MethodId} {c : Code} {g : JFrame} (h : At T m c below) (hx : tb.exec = Jvm.exec) (hg : g.method = m) {x : UInt64} {rest : List Value} (hd : decode c.code g.pc = .ok (.d2l, 1)) (hs : g.stack = .double x :: rest)
    (hr : Steps tb e below (T.setTop { g with pc := g.pc + 1, stack := .long (FP.d2l x) :: rest }) target) : Steps tb e below (T.setTop g) target := by
  subst hg
  jvm_step h [h.top, hx, hd, hs]
  exact hr
theorem own_ddiv {tb : Tables} [Ours tb] {e : Env} {below : List Frame} {T target : State} {m : MethodId} {c : Code} {g : JFrame} (h : At T m c below) (hx : tb.exec = Jvm.exec) (hg : g.method = m) {x y : UInt64} {rest : List Value} (hd : decode c.code g.pc = .ok (.ddiv, 1)) (hs : g.stack = .double y :: .double x :: rest) (hn : FP.ddiv x y &&& 0x7fffffffffffffff ≤ 0x7ff0000000000000)
    (hr : Steps tb e below (T.setTop { g with pc := g.pc + 1, stack := .double (FP.ddiv x y) :: rest }) target) : Steps tb e below (T.setTop g) target := by
  subst hg
  jvm_step h [h.top, hx, hd, Op.ddiv.wp_number (s := T) (f := g) (by rw [h.top]) hs hn]
  exact hr
theorem own_dadd {tb : Tables} [Ours tb] {e : Env} {below : List Frame} {T target : State} {m : MethodId} {c : Code} {g : JFrame} (h : At T m c below) (hx : tb.exec = Jvm.exec) (hg : g.method = m) {x y : UInt64} {rest : List Value} (hd : decode c.code g.pc = .ok (.dadd, 1)) (hs : g.stack = .double y :: .double x :: rest) (hn : FP.dadd x y &&& 0x7fffffffffffffff ≤ 0x7ff0000000000000)
    (hr : Steps tb e below (T.setTop { g with pc := g.pc + 1, stack := .double (FP.dadd x y) :: rest }) target) : Steps tb e below (T.setTop g) target := by
  subst hg
  jvm_step h [h.top, hx, hd, Op.dadd.wp_number (s := T) (f := g) (by rw [h.top]) hs hn]
  exact hr
theorem own_dmul {tb : Tables} [Ours tb] {e : Env} {below : List Frame} {T target : State} {m : MethodId} {c : Code} {g : JFrame} (h : At T m c below) (hx : tb.exec = Jvm.exec) (hg : g.method = m) {x y : UInt64} {rest : List Value} (hd : decode c.code g.pc = .ok (.dmul, 1)) (hs : g.stack = .double y :: .double x :: rest) (hn : FP.dmul x y &&& 0x7fffffffffffffff ≤ 0x7ff0000000000000)
    (hr : Steps tb e below (T.setTop { g with pc := g.pc + 1, stack := .double (FP.dmul x y) :: rest }) target) : Steps tb e below (T.setTop g) target := by
  subst hg
  jvm_step h [h.top, hx, hd, Op.dmul.wp_number (s := T) (f := g) (by rw [h.top]) hs hn]
  exact hr
theorem own_dcmp {tb : Tables} [Ours tb] {e : Env} {below : List Frame} {T target : State} {m : MethodId} {c : Code} {g : JFrame} (h : At T m c below) (hx : tb.exec = Jvm.exec) (hg : g.method = m) {x y : UInt64} {op : CmpOp} {rest : List Value} (hd : decode c.code g.pc = .ok (.dcmp op, 1)) (hs : g.stack = .double y :: .double x :: rest)
    (hr : Steps tb e below (T.setTop { g with pc := g.pc + 1, stack := .int (cmpValue (FP.dcmp x y) op) :: rest }) target) : Steps tb e below (T.setTop g) target := by
  subst hg
  jvm_step h [h.top, hx, hd, hs]
  exact hr
end Jvm.RoadKit
namespace Jvm.RoadKit
open Sem ClassFile Op Lib Jvm.Stand Jvm.Free Jvm.LawKit
section New
variable {p : Program} {l : Launch} {e : Env} {R : Room} {s : State} {m : MethodId} {args : Array Value} {below : List Frame} {meth : Method} {c : Code} {T : State} {locs : List Loc} {cells slots : Nat}
theorem retI (X : Stand p l e R s m args below meth c T locs cells slots) (hx : p.tables.exec = Jvm.exec) {pc : Nat} {Ls : Array Slot} {z : Int32} {rest : List Value} (hret : meth.sig.returnType = some .int) (hd : decode c.code pc = .ok (.ireturn, 1)) {fs : List Frame}
    (hl : ∀ (f : JFrame) (acts : List Action), f.method = m → f.locked = none → f.entered = [] → (doReturn e (T.setTop f) acts (some (.int z))).1 = T.setFrames fs) : Steps p.tables e below (T.setTop (mkF m pc Ls (.int z :: rest))) (T.setFrames fs) := by
  have hm' : T.vm.method? m = some meth := X.method'
  have hn : narrow .int (.int z) = .int z := rfl
  show Steps p.tables e below (T.setTop { method := m, pc := pc, locals := Ls, stack := _ :: rest, locked := none }) _
  jvm_step X.here [X.here.top, hx, hd, hm', hret, hn]
  first | (intro acts; rw [hl _ acts rfl rfl rfl]) | rw [hl _ _ rfl rfl rfl]
  exact Steps.refl _
theorem own_lremM {g : JFrame} {target : State} (X : Stand p l e R s m args below meth c T locs cells slots) (hx : p.tables.exec = Jvm.exec) (hg : g.method = m) {x y : Int64} {rest : List Value} (hd : decode c.code g.pc = .ok (.lrem, 1)) (hs : g.stack = .long y :: .long x :: rest) (hy : y ≠ 0)
    (hr : Steps p.tables e below (T.setTop { g with pc := g.pc + 1, stack := .long (x % y) :: rest }) target) : Steps p.tables e below (T.setTop g) target := by
  have q : x - (x / y) * y = x % y := lrem_mod x y
  exact XS.lrem X.here hx hg hd hs hy (by rw [q]; exact hr)
end New
end Jvm.RoadKit
namespace Jvm.Pilot.@@N@@
open Jvm Jvm.ClassFile Sem Op Lib Jvm.Free Jvm.Stand Jvm.LawKit Jvm.RoadKit Bundle Jvm.Pilot.@@N@@.Jvm.D
theorem own_frmono {k k' : Nat} {L : List Loc} (h : k' ≤ k) (N : Fr k L) : Fr k' L := fun y hy => Nat.le_trans h (N y hy)
theorem own_notin0 {a : Addr} : a ∉ ([] : List Addr) := fun q => nomatch q
theorem own_notin1 {a b : Addr} (h : a ≠ b) : a ∉ [b] := fun q => h (List.mem_singleton.mp q)
theorem own_narb {x : Int32} (h : x = 0 ∨ x = 1) : nar .boolean x = x := by rcases h with rfl | rfl <;> rfl
theorem own_all0 {P : Addr → Prop} : ∀ x ∈ ([] : List Addr), P x := fun _ q => nomatch q
theorem own_all1 {P : Addr → Prop} {a : Addr} (h : P a) : ∀ x ∈ [a], P x := fun x q => by cases List.mem_singleton.mp q; exact h
theorem own_ibeq {Z s : State} {vm : Vm} {Ts : List String} (h : s.WarmedH vm) (I : IB Z s.vm Ts) : IB Z vm Ts := by
  obtain ⟨more, q1, q2⟩ := I
  exact ⟨more, by rw [h.interned_eq]; exact q1, q2⟩
theorem own_backOfS {p : Program} {l : Launch} {e : Env} {R : Room} {s : State} {args : Array Value} {below : List Frame} {Z : State} {a0 : Array Value} {h : Heap} {y : MethodName} {bytes : ByteArray} {maxL : Nat} {ret : Option FieldType} {rm : Room} {len W : Nat} {as' : Array Value} {Q : Option Value → Heap → Vm → List Loc → Prop} {Ts : List String}
    (hM : MetFree l y (head1 [Jvm.Cond.code y bytes maxL ret] rm) (fun a U => a = as' ∧ Z.Warmed39 U.vm ∧ U.heap = h ∧ IB Z U.vm Ts) (fun _ _ _ _ _ => True) (fun _ U o U' => ∃ v L, o = .returned v ∧ Q v U'.heap U'.vm L ∧ ReturnedEndW U o U' L rm.cells rm.slots))
    (hZ : Z.Warmed39 s.vm) (hI : IB Z s.vm Ts) (wc : (Jvm.Cond.code y bytes maxL ret).before a0 Z = true) (wz : (Jvm.Cond.initialized y.cls).before a0 Z = true) (hf : rm.frames + 1 ≤ R.frames) (hl : W + (maxL + 11) + rm.locals ≤ R.locals) :
    BackS l R p e below s args y len W (fun A a => a = as' ∧ A.U.heap = h ∧ A.cells + rm.cells ≤ R.cells ∧ A.slots + rm.slots ≤ R.slots)
      (fun A _ v B => ∃ L, Q v B.U.heap B.U.vm L ∧ B.locs = A.locs ++ L ∧ B.cells = A.cells + rm.cells ∧ B.slots = A.slots + rm.slots) :=
  BackS.of_freeW (bytes := bytes) (maxL := maxL) (ret := ret) (E := fun _ _ o t L k n => k = rm.cells ∧ n = rm.slots ∧ ∃ v, o = .returned v ∧ Q v t.heap t.vm L) hM hf hl
    (fun m meth c A a Y hp => have hU : Z.Warmed39 A.U.vm := wtrans hZ Y.warmed
      ⟨by show (Jvm.Cond.and _ .tt).before a A.U = true; rw [Cond.before_and, mv hU wc]; rfl, mv hU wc, mv hU wz, hp.2.2.1, hp.2.2.2⟩)
    (fun m meth c A a g mk Y hp => ⟨hp.1, wtrans hZ Y.warmed, hp.2.1, own_ibeq Y.warmed hI⟩) (fun _ _ _ _ _ _ _ _ _ => trivial)
    (fun _ _ _ _ ⟨v, L, h1, h2, h3⟩ => ⟨L, _, _, h3, rfl, rfl, v, h1, h2⟩)
    (fun m meth c A a g mk v t L k n Y hp _ _ ⟨e1, e2, v', e3, e4⟩ => by cases e3; subst e1 e2; exact ⟨L, e4, rfl, rfl, rfl⟩)
theorem own_wS {Z : State} {a0 : Array Value} (hw : ∀ d ∈ tables_1, d.before a0 Z = true) : ∀ a ∈ Bundle.stringAtoms, a.before a0 Z = true := fun a ha => by
  simp only [Bundle.stringAtoms, Bundle.sN, List.mem_cons, List.not_mem_nil, or_false] at ha
  rcases ha with rfl | rfl | rfl | rfl | rfl | rfl | rfl
  · exact hw _ (List.mem_of_getElem? (i := 2) rfl)
  · exact hw _ (List.mem_of_getElem? (i := 1) rfl)
  · exact hw _ (List.mem_of_getElem? (i := 15) rfl)
  · exact hw _ (List.mem_of_getElem? (i := 16) rfl)
  · exact hw _ (List.mem_of_getElem? (i := 17) rfl)
  · exact hw _ (List.mem_of_getElem? (i := 18) rfl)
  · exact hw _ (List.mem_of_getElem? (i := 19) rfl)
theorem own_dself (c : Int64) : (cmpValue (FP.dcmp (FP.l2d c) (FP.l2d c)) .l) = (0 : Int32) := by
  rw [show FP.dcmp (FP.l2d c) (FP.l2d c) = some .eq from FP.Core.dcmp_self ((FP.Core.notNaN_iff _).mp (FP.Core.l2d_fin c).notNaN)]; rfl
theorem own_exact (c : Int64) (h1 : ¬ c < (-9007199254740992 : Int64)) (h2 : ¬ (9007199254740992 : Int64) < c) : FP.d2l (FP.l2d c) = c := by
  have a := mt Int64.lt_iff_toInt_lt.mpr h1
  have b := mt Int64.lt_iff_toInt_lt.mpr h2
  have e1 : (-9007199254740992 : Int64).toInt = -9007199254740992 := rfl
  have e2 : (9007199254740992 : Int64).toInt = 9007199254740992 := rfl
  exact FP.Core.d2l_l2d (by have : (2 : Nat) ^ 53 = 9007199254740992 := by decide
                            omega)
def QR (Z : State) (a1 : Addr) (h0 : Heap) (n0 : Nat) (v : Option Value) (h : Heap) (L : List Loc) : Prop := v = none ∧ Fr n0 L ∧ h = h0
theorem ef_rmR (m : MethodId) (x0 : Addr) : entryFrame m #[(.ref x0)] 1 = mkF m 0 #[.val (.ref x0)] [] := by first | (simp [entryFrame, mkF, argsToLocals, Value.category]; done) | rfl
theorem pn_java_lang_Record : plainName "java/lang/Record" = true := by first | (simp [plainName, overriddenIn]; done) | decide +kernel
theorem d6_0 : decode jdk_30_method_1_code 0 = .ok (.aload_n 0, 1) := by decide +kernel
theorem d6_1 : decode jdk_30_method_1_code 1 = .ok (.invokespecial 1, 3) := by decide +kernel
theorem d6_4 : decode jdk_30_method_1_code 4 = .ok (.return_, 1) := by decide +kernel
set_option maxRecDepth 65536 in
set_option maxHeartbeats 40000000 in
theorem rmR (l : Launch) (Z : State) (a0 : Array Value) (hw : ∀ d ∈ tables_1, d.before a0 Z = true) (ws : List Jvm.Cond) (a1 : Addr) (h0 : Heap) (n0 : Nat) (Z0 : n0 ≤ h0.size)  :
    MetFree l (⟨"java/lang/Record", "<init>", "()V"⟩ : MethodName) (head1 (Jvm.Cond.code (⟨"java/lang/Record", "<init>", "()V"⟩ : MethodName) jdk_30_method_1_code 1 none :: ws) ({ frames := 1, cells := 0, slots := 0, locals := 12 } : Room)) (fun a U => a = #[(.ref a1)] ∧ Z.Warmed39 U.vm ∧ U.heap = h0) (fun _ _ _ _ _ => True) (fun _ U o U' => ∃ v L, o = .returned v ∧ QR Z a1 h0 n0 v U'.heap L ∧ FrameEnd U o U' L ({ frames := 1, cells := 0, slots := 0, locals := 12 } : Room).cells ({ frames := 1, cells := 0, slots := 0, locals := 12 } : Room).slots) := by
  refine MetFree.of_bodySF (plainFor_of_name pn_java_lang_Record) hisR ?_
  intro p e s m args below meth c s₁ Bd hml0 hP hK
  obtain ⟨rfl, hZ, hh⟩ := hP
  have hx := Bd.exec
  have hby := Bd.bytes
  have hml : c.maxLocals = 1 := hml0
  have hown : s.vm.findClass "java/lang/Record" = some m.cls := findClass_of_methodNamed Bd.named
  have hnm := (name_of_methodNamed Bd.named Bd.method).1
  have X0 : Stand p l e ({ frames := 1, cells := 0, slots := 0, locals := 12 } : Room) s m #[(.ref a1)] below meth c s₁ [] 0 0 := Stand.of_body Bd
  have e0 : s₁.heap = h0 := by rw [← hh, Bd.state]; rfl
  have N0 := Fr.nil n0
  have pre0 : ∀ t, Steps p.tables e below (s₁.setTop (mkF m 0 #[.val (.ref a1)] [])) t → Steps p.tables e below (s₁.setTop (entryFrame m #[(.ref a1)] 1)) t := fun t kt => castTop (ef_rmR m a1) kt
  have pre1 : ∀ t, Steps p.tables e below (s₁.setTop (mkF m 1 #[.val (.ref a1)] [(.ref a1)])) t → Steps p.tables e below (s₁.setTop (entryFrame m #[(.ref a1)] 1)) t := fun t kt => pre0 t (by
    refine XS.aloadN X0.here hx rfl (hb hby d6_0) rfl rfl ?_
    show Steps p.tables e below (s₁.setTop (mkF m 1 #[.val (.ref a1)] [(.ref a1)])) _
    exact kt)
  obtain ⟨T2, X2, e2, st2⟩ := initO X0 hx hZ hown (hw _ (List.mem_of_getElem? (i := 36) rfl)) (hw _ (List.mem_of_getElem? (i := 12) rfl)) (hw _ (List.mem_of_getElem? (i := 13) rfl)) e0 (g := (mkF m 1 #[.val (.ref a1)] [(.ref a1)])) rfl (by rw [hml]; rfl) rfl (hb hby d6_1) (by decide) (W := 0) (by show 2 * 0 + _ ≤ _; exact Nat.le_of_eq rfl) (by decide)
  have pre3 : ∀ t, Steps p.tables e below (T2.setTop (mkF m 4 #[.val (.ref a1)] [])) t → Steps p.tables e below (s₁.setTop (entryFrame m #[(.ref a1)] 1)) t := fun t kt => pre1 t (st2 _ kt)
  obtain ⟨fs, hr, hrun, hended, hW, hsame⟩ := X2.leave (v := none) (fun _ => rfl)
  refine ⟨_, _, pre3 _ ?_, hrun, hended, _, _, rfl, ?_, ⟨_, rfl⟩, hW, hsame.mono (by decide) (by decide)⟩
  · exact X2.returnOut hx Bd.returns (hb hby d6_4) hr
  · show QR Z a1 h0 n0 _ T2.heap _
    rw [e2]
    exact ⟨rfl, N0, rfl⟩
def QE (Z : State) (a1 : Addr) (h0 : Heap) (n0 : Nat) (v : Option Value) (h : Heap) (vm : Vm) (L : List Loc) : Prop := v = none ∧ Fr n0 L ∧ Keep h0 h [a1] ∧ Exa Z h a1 "java/lang/String"
theorem ef_rmE2 (m : MethodId) (x0 : Addr) (x1 : Addr) (x2 : Int32) (x3 : Int32) : entryFrame m #[(.ref x0), (.ref x1), (.int x2), (.int x3), .null] 6 = mkF m 0 #[.val (.ref x0), .val (.ref x1), .val (.int x2), .val (.int x3), .val .null, .unset] [] := by first | (simp [entryFrame, mkF, argsToLocals, Value.category]; done) | rfl
theorem pn_java_lang_String : plainName "java/lang/String" = true := by first | (simp [plainName, overriddenIn]; done) | decide +kernel
theorem d2_0 : decode jdk_42_method_149_code 0 = .ok (.aload_n 0, 1) := by decide +kernel
theorem d2_1 : decode jdk_42_method_149_code 1 = .ok (.invokespecial 1, 3) := by decide +kernel
theorem d2_4 : decode jdk_42_method_149_code 4 = .ok (.iload_n 3, 1) := by decide +kernel
theorem d2_5 : decode jdk_42_method_149_code 5 = .ok (.ifCond .ne 22, 3) := by decide +kernel
theorem d2_8 : decode jdk_42_method_149_code 8 = .ok (.aload_n 0, 1) := by decide +kernel
theorem d2_9 : decode jdk_42_method_149_code 9 = .ok (.ldc 7, 2) := by decide +kernel
theorem d2_11 : decode jdk_42_method_149_code 11 = .ok (.getfield 9, 3) := by decide +kernel
theorem d2_14 : decode jdk_42_method_149_code 14 = .ok (.putfield 9, 3) := by decide +kernel
theorem d2_17 : decode jdk_42_method_149_code 17 = .ok (.aload_n 0, 1) := by decide +kernel
theorem d2_18 : decode jdk_42_method_149_code 18 = .ok (.ldc 7, 2) := by decide +kernel
theorem d2_20 : decode jdk_42_method_149_code 20 = .ok (.getfield 15, 3) := by decide +kernel
theorem d2_23 : decode jdk_42_method_149_code 23 = .ok (.putfield 15, 3) := by decide +kernel
theorem d2_26 : decode jdk_42_method_149_code 26 = .ok (.return_, 1) := by decide +kernel
set_option maxRecDepth 65536 in
set_option maxHeartbeats 40000000 in
theorem rmE2 (l : Launch) (Z : State) (a0 : Array Value) (hw : ∀ d ∈ tables_1, d.before a0 Z = true) (ws : List Jvm.Cond) (Ts : List String) (a1 c1 : Addr) (u1 u2 : Value) (h0 : Heap) (n0 : Nat) (Z0 : n0 ≤ h0.size) (E1 : Exa Z h0 a1 "java/lang/String") (g1 : n0 ≤ a1) (F1 : Fld Z h0 a1 "java/lang/String" "value" "[B" u1) (F2 : Fld Z h0 a1 "java/lang/String" "coder" "B" u2) (O0 : Old Z n0 h0) (hC : Jvm.Lit.constHeld Z "java/lang/String" 7) (hcw : Jvm.Lit.compactW.before a0 Z = true) (hnot : "" ∉ Ts) :
    MetFree l (⟨"java/lang/String", "<init>", "([CIILjava/lang/Void;)V"⟩ : MethodName) (head1 (Jvm.Cond.code (⟨"java/lang/String", "<init>", "([CIILjava/lang/Void;)V"⟩ : MethodName) jdk_42_method_149_code 6 none :: ws) ({ frames := 1, cells := 2, slots := 4, locals := 12 } : Room)) (fun a U => a = #[(.ref a1), (.ref c1), (.int (0 : Int32)), (.int (0 : Int32)), .null] ∧ Z.Warmed39 U.vm ∧ U.heap = h0 ∧ IB Z U.vm Ts) (fun _ _ _ _ _ => True) (fun _ U o U' => ∃ v L, o = .returned v ∧ QE Z a1 h0 n0 v U'.heap U'.vm L ∧ ReturnedEndW U o U' L ({ frames := 1, cells := 2, slots := 4, locals := 12 } : Room).cells ({ frames := 1, cells := 2, slots := 4, locals := 12 } : Room).slots) := by
  refine MetFree.of_bodySF (plainFor_of_name pn_java_lang_String) hisR ?_
  intro p e s m args below meth c s₁ Bd hml0 hP hK
  obtain ⟨rfl, hZ, hh, hI⟩ := hP
  have hx := Bd.exec
  have hby := Bd.bytes
  have hml : c.maxLocals = 6 := hml0
  have hown : s.vm.findClass "java/lang/String" = some m.cls := findClass_of_methodNamed Bd.named
  have hnm := (name_of_methodNamed Bd.named Bd.method).1
  have X0 : Stand p l e ({ frames := 1, cells := 2, slots := 4, locals := 12 } : Room) s m #[(.ref a1), (.ref c1), (.int (0 : Int32)), (.int (0 : Int32)), .null] below meth c s₁ [] 0 0 := Stand.of_body Bd
  have e0 : s₁.heap = h0 := by rw [← hh, Bd.state]; rfl
  have N0 := Fr.nil n0
  have pre0 : ∀ t, Steps p.tables e below (s₁.setTop (mkF m 0 #[.val (.ref a1), .val (.ref c1), .val (.int (0 : Int32)), .val (.int (0 : Int32)), .val .null, .unset] [])) t → Steps p.tables e below (s₁.setTop (entryFrame m #[(.ref a1), (.ref c1), (.int (0 : Int32)), (.int (0 : Int32)), .null] 6)) t := fun t kt => castTop (ef_rmE2 m a1 c1 (0 : Int32) (0 : Int32)) kt
  have pre1 : ∀ t, Steps p.tables e below (s₁.setTop (mkF m 1 #[.val (.ref a1), .val (.ref c1), .val (.int (0 : Int32)), .val (.int (0 : Int32)), .val .null, .unset] [(.ref a1)])) t → Steps p.tables e below (s₁.setTop (entryFrame m #[(.ref a1), (.ref c1), (.int (0 : Int32)), (.int (0 : Int32)), .null] 6)) t := fun t kt => pre0 t (by
    refine XS.aloadN X0.here hx rfl (hb hby d2_0) rfl rfl ?_
    show Steps p.tables e below (s₁.setTop (mkF m 1 #[.val (.ref a1), .val (.ref c1), .val (.int (0 : Int32)), .val (.int (0 : Int32)), .val .null, .unset] [(.ref a1)])) _
    exact kt)
  obtain ⟨T2, X2, e2, st2⟩ := initO X0 hx hZ hown (hw _ (List.mem_of_getElem? (i := 11) rfl)) (hw _ (List.mem_of_getElem? (i := 12) rfl)) (hw _ (List.mem_of_getElem? (i := 13) rfl)) e0 (g := (mkF m 1 #[.val (.ref a1), .val (.ref c1), .val (.int (0 : Int32)), .val (.int (0 : Int32)), .val .null, .unset] [(.ref a1)])) rfl (by rw [hml]; rfl) rfl (hb hby d2_1) (by decide) (W := 0) (by show 2 * 0 + _ ≤ _; exact Nat.le_of_eq rfl) (by decide)
  have pre3 : ∀ t, Steps p.tables e below (T2.setTop (mkF m 4 #[.val (.ref a1), .val (.ref c1), .val (.int (0 : Int32)), .val (.int (0 : Int32)), .val .null, .unset] [])) t → Steps p.tables e below (s₁.setTop (entryFrame m #[(.ref a1), (.ref c1), (.int (0 : Int32)), (.int (0 : Int32)), .null] 6)) t := fun t kt => pre1 t (st2 _ kt)
  have hlt1 : a1 < h0.size := E1.lt
  have pre4 : ∀ t, Steps p.tables e below (T2.setTop (mkF m 9 #[.val (.ref a1), .val (.ref c1), .val (.int (0 : Int32)), .val (.int (0 : Int32)), .val .null, .unset] [(.ref a1)])) t → Steps p.tables e below (s₁.setTop (entryFrame m #[(.ref a1), (.ref c1), (.int (0 : Int32)), (.int (0 : Int32)), .null] 6)) t := fun t kt => pre3 t (by
    refine XS.iloadN X2.here hx rfl (hb hby d2_4) rfl ?_
    show Steps p.tables e below (T2.setTop (mkF m 5 #[.val (.ref a1), .val (.ref c1), .val (.int (0 : Int32)), .val (.int (0 : Int32)), .val .null, .unset] [(.int (0 : Int32))])) _
    refine XS.ifNo X2.here hx rfl (hb hby d2_5) rfl ((if0 _ _).trans (teq (by decide : (0 : Int32) = (0 : Int32))).2) ?_
    show Steps p.tables e below (T2.setTop (mkF m 8 #[.val (.ref a1), .val (.ref c1), .val (.int (0 : Int32)), .val (.int (0 : Int32)), .val .null, .unset] [])) _
    refine XS.aloadN X2.here hx rfl (hb hby d2_8) rfl rfl ?_
    show Steps p.tables e below (T2.setTop (mkF m 9 #[.val (.ref a1), .val (.ref c1), .val (.int (0 : Int32)), .val (.int (0 : Int32)), .val .null, .unset] [(.ref a1)])) _
    exact kt)
  obtain ⟨a5, T5, h5, k5, bb5, kk5, X5, e5, E5, hS5, hk5, hZ5, hO5, A5, Fc5, Fv5, Vv5, -, -, I5, Lt5, st5⟩ := ldcSVL (s := s) (vm0 := s.vm) X2 hx hZ hown (hw _ (List.mem_of_getElem? (i := 14) rfl)) (own_wS hw) e2 ((State.WarmedH.refl s).since 0) (Nat.zero_le _) (Fr.nil _) (fun b cl q => by rw [hh]; exact O0.2.2 b cl q) hI hnot hC hcw (vs := []) (z := (0 : Int32)) ⟨by decide, by decide⟩ (by decide) rfl (g := (mkF m 9 #[.val (.ref a1), .val (.ref c1), .val (.int (0 : Int32)), .val (.int (0 : Int32)), .val .null, .unset] [(.ref a1)])) rfl (hb hby d2_9) (n := 0) (by decide) (by decide) (by decide) (by decide)
  have f6 := (E1).ext E5
  have f7 := ((Keep.refl h0 [a1])).ext E5
  have f8 := (F1).ext E5
  have f9 := (F2).ext E5
  have Zf10 : n0 ≤ h5.size := Nat.le_trans Z0 E5.1
  have pre11 : ∀ t, Steps p.tables e below (T5.setTop (mkF m 11 #[.val (.ref a1), .val (.ref c1), .val (.int (0 : Int32)), .val (.int (0 : Int32)), .val .null, .unset] [(.ref a5), (.ref a1)])) t → Steps p.tables e below (s₁.setTop (entryFrame m #[(.ref a1), (.ref c1), (.int (0 : Int32)), (.int (0 : Int32)), .null] 6)) t := fun t kt => pre4 t (st5 _ kt)
  obtain ⟨T12, X12, e12, st12⟩ := getF X5 hx hZ5 hO5 (host := "") (Or.inl (hw _ (List.mem_of_getElem? (i := 20) rfl))) Via.refl e5 Fv5 (g := (mkF m 11 #[.val (.ref a1), .val (.ref c1), .val (.int (0 : Int32)), .val (.int (0 : Int32)), .val .null, .unset] [(.ref a5), (.ref a1)])) rfl rfl (hb hby d2_11)
  have pre13 : ∀ t, Steps p.tables e below (T12.setTop (mkF m 14 #[.val (.ref a1), .val (.ref c1), .val (.int (0 : Int32)), .val (.int (0 : Int32)), .val .null, .unset] [(.ref bb5), (.ref a1)])) t → Steps p.tables e below (s₁.setTop (entryFrame m #[(.ref a1), (.ref c1), (.int (0 : Int32)), (.int (0 : Int32)), .null] 6)) t := fun t kt => pre11 t (st12 _ kt)
  obtain ⟨T14, h14, X14, e14, W14, st14⟩ := putF X12 hx hZ5 hO5 (host := "") (Or.inl (hw _ (List.mem_of_getElem? (i := 20) rfl))) Via.refl e12 f8 f6 (Or.inr ⟨(hw _ (List.mem_of_getElem? (i := 16) rfl)), rfl, hnm⟩) (hw _ (List.mem_of_getElem? (i := 1) rfl)) (ty := (.array .byte)) (by decide) rfl rfl (g := (mkF m 14 #[.val (.ref a1), .val (.ref c1), .val (.int (0 : Int32)), .val (.int (0 : Int32)), .val .null, .unset] [(.ref bb5), (.ref a1)])) rfl rfl (hb hby d2_14)
  have f15 := (f6).wr W14
  have f16 := (f7).wr W14 (Or.inl (List.mem_singleton.mpr rfl))
  have f17 := (f9).other W14 (Or.inr (slot_ne (Or.inr (hw _ (List.mem_of_getElem? (i := 17) rfl))) (Or.inr (hw _ (List.mem_of_getElem? (i := 16) rfl))) (by decide) (t := .byte) (t' := (.array .byte)) (by decide) (by decide)))
  have f18 := (A5).wr W14
  have f19 := (Fc5).other W14 (Or.inr (slot_ne (Or.inr (hw _ (List.mem_of_getElem? (i := 17) rfl))) (Or.inr (hw _ (List.mem_of_getElem? (i := 16) rfl))) (by decide) (t := .byte) (t' := (.array .byte)) (by decide) (by decide)))
  have Fw14 := (f8).same W14
  have Nf20 := Fr.snoc X14 N0 g1
  have Zf21 : n0 ≤ h14.size := Nat.le_trans Zf10 (Keep.of_wr W14).1
  have Kf21 : k5 ≤ h14.size := Nat.le_trans hk5 (Keep.of_wr W14).1
  have pre22 : ∀ t, Steps p.tables e below (T14.setTop (mkF m 17 #[.val (.ref a1), .val (.ref c1), .val (.int (0 : Int32)), .val (.int (0 : Int32)), .val .null, .unset] [])) t → Steps p.tables e below (s₁.setTop (entryFrame m #[(.ref a1), (.ref c1), (.int (0 : Int32)), (.int (0 : Int32)), .null] 6)) t := fun t kt => pre13 t (st14 _ kt)
  have pre23 : ∀ t, Steps p.tables e below (T14.setTop (mkF m 18 #[.val (.ref a1), .val (.ref c1), .val (.int (0 : Int32)), .val (.int (0 : Int32)), .val .null, .unset] [(.ref a1)])) t → Steps p.tables e below (s₁.setTop (entryFrame m #[(.ref a1), (.ref c1), (.int (0 : Int32)), (.int (0 : Int32)), .null] 6)) t := fun t kt => pre22 t (by
    refine XS.aloadN X14.here hx rfl (hb hby d2_17) rfl rfl ?_
    show Steps p.tables e below (T14.setTop (mkF m 18 #[.val (.ref a1), .val (.ref c1), .val (.int (0 : Int32)), .val (.int (0 : Int32)), .val .null, .unset] [(.ref a1)])) _
    exact kt)
  have pre24 : ∀ t, Steps p.tables e below (T14.setTop (mkF m 20 #[.val (.ref a1), .val (.ref c1), .val (.int (0 : Int32)), .val (.int (0 : Int32)), .val .null, .unset] [(.ref a5), (.ref a1)])) t → Steps p.tables e below (s₁.setTop (entryFrame m #[(.ref a1), (.ref c1), (.int (0 : Int32)), (.int (0 : Int32)), .null] 6)) t := fun t kt => pre23 t (ldcAgain (s := s) (vm0 := T5.vm) X14 hx hZ5 hO5 (hw _ (List.mem_of_getElem? (i := 14) rfl)) Lt5 (g := (mkF m 18 #[.val (.ref a1), .val (.ref c1), .val (.int (0 : Int32)), .val (.int (0 : Int32)), .val .null, .unset] [(.ref a1)])) rfl (hb hby d2_18) _ kt)
  obtain ⟨T25, X25, e25, st25⟩ := getF X14 hx hZ5 hO5 (host := "") (Or.inl (hw _ (List.mem_of_getElem? (i := 21) rfl))) Via.refl e14 f19 (g := (mkF m 20 #[.val (.ref a1), .val (.ref c1), .val (.int (0 : Int32)), .val (.int (0 : Int32)), .val .null, .unset] [(.ref a5), (.ref a1)])) rfl rfl (hb hby d2_20)
  have pre26 : ∀ t, Steps p.tables e below (T25.setTop (mkF m 23 #[.val (.ref a1), .val (.ref c1), .val (.int (0 : Int32)), .val (.int (0 : Int32)), .val .null, .unset] [(.int (0 : Int32)), (.ref a1)])) t → Steps p.tables e below (s₁.setTop (entryFrame m #[(.ref a1), (.ref c1), (.int (0 : Int32)), (.int (0 : Int32)), .null] 6)) t := fun t kt => pre24 t (st25 _ kt)
  obtain ⟨T27, h27, X27, e27, W27, st27⟩ := putFN X25 hx hZ5 hO5 (hw _ (List.mem_of_getElem? (i := 21) rfl)) Via.refl e25 f17 f15 (Or.inr ⟨(hw _ (List.mem_of_getElem? (i := 17) rfl)), rfl, hnm⟩) (hw _ (List.mem_of_getElem? (i := 1) rfl)) (ty := .byte) (v' := (.int (0 : Int32))) (by decide) rfl rfl (g := (mkF m 23 #[.val (.ref a1), .val (.ref c1), .val (.int (0 : Int32)), .val (.int (0 : Int32)), .val .null, .unset] [(.int (0 : Int32)), (.ref a1)])) rfl rfl (hb hby d2_23)
  have f28 := (f15).wr W27
  have f29 := (f16).wr W27 (Or.inl (List.mem_singleton.mpr rfl))
  have f30 := (f18).wr W27
  have f31 := (Fw14).other W27 (Or.inr (slot_ne (Or.inr (hw _ (List.mem_of_getElem? (i := 16) rfl))) (Or.inr (hw _ (List.mem_of_getElem? (i := 17) rfl))) (by decide) (t := (.array .byte)) (t' := .byte) (by decide) (by decide)))
  have Fw27 := (f17).same W27
  have Nf32 := Fr.snoc X27 Nf20 g1
  have Zf33 : n0 ≤ h27.size := Nat.le_trans Zf21 (Keep.of_wr W27).1
  have Kf33 : k5 ≤ h27.size := Nat.le_trans Kf21 (Keep.of_wr W27).1
  have pre34 : ∀ t, Steps p.tables e below (T27.setTop (mkF m 26 #[.val (.ref a1), .val (.ref c1), .val (.int (0 : Int32)), .val (.int (0 : Int32)), .val .null, .unset] [])) t → Steps p.tables e below (s₁.setTop (entryFrame m #[(.ref a1), (.ref c1), (.int (0 : Int32)), (.int (0 : Int32)), .null] 6)) t := fun t kt => pre26 t (st27 _ kt)
  obtain ⟨fs, hr, hrun, hended, hRE⟩ := X27.leaveW hS5 (by rw [e27]; exact Kf33) (v := none) (fun _ => rfl)
  refine ⟨_, _, pre34 _ ?_, hrun, hended, _, _, rfl, ?_, hRE.1, hRE.2.1, hRE.2.2.1, hRE.2.2.2.mono (by decide) (by decide)⟩
  · exact X27.returnOut hx Bd.returns (hb hby d2_26) hr
  · show QE Z a1 h0 n0 _ T27.heap T27.vm _
    rw [e27]
    exact ⟨rfl, Nf32, f29, f28⟩
theorem ef_rmE1 (m : MethodId) (x0 : Addr) (x1 : Addr) : entryFrame m #[(.ref x0), (.ref x1)] 2 = mkF m 0 #[.val (.ref x0), .val (.ref x1)] [] := by first | (simp [entryFrame, mkF, argsToLocals, Value.category]; done) | rfl
theorem d1_0 : decode jdk_42_method_3_code 0 = .ok (.aload_n 0, 1) := by decide +kernel
theorem d1_1 : decode jdk_42_method_3_code 1 = .ok (.aload_n 1, 1) := by decide +kernel
theorem d1_2 : decode jdk_42_method_3_code 2 = .ok (.iconst 0, 1) := by decide +kernel
theorem d1_3 : decode jdk_42_method_3_code 3 = .ok (.aload_n 1, 1) := by decide +kernel
theorem d1_4 : decode jdk_42_method_3_code 4 = .ok (.arraylength, 1) := by decide +kernel
theorem d1_5 : decode jdk_42_method_3_code 5 = .ok (.aconst_null, 1) := by decide +kernel
theorem pd__28_5bCIILjava_2flang_2fVoid_3b_29V : parseMethodDescriptor "([CIILjava/lang/Void;)V" = some ⟨[(.array .char), .int, .int, (.object "java/lang/Void")], none⟩ := by decide +kernel
theorem d1_6 : decode jdk_42_method_3_code 6 = .ok (.invokespecial 27, 3) := by decide +kernel
theorem d1_9 : decode jdk_42_method_3_code 9 = .ok (.return_, 1) := by decide +kernel
set_option maxRecDepth 65536 in
set_option maxHeartbeats 40000000 in
theorem rmE1 (l : Launch) (Z : State) (a0 : Array Value) (hw : ∀ d ∈ tables_1, d.before a0 Z = true) (ws : List Jvm.Cond) (Ts : List String) (a1 c1 : Addr) (u1 u2 : Value) (kc : ClassId) (dc : Value) (h0 : Heap) (n0 : Nat) (Z0 : n0 ≤ h0.size) (E1 : Exa Z h0 a1 "java/lang/String") (g1 : n0 ≤ a1) (F1 : Fld Z h0 a1 "java/lang/String" "value" "[B" u1) (F2 : Fld Z h0 a1 "java/lang/String" "coder" "B" u2) (O0 : Old Z n0 h0) (hC : Jvm.Lit.constHeld Z "java/lang/String" 7) (hcw : Jvm.Lit.compactW.before a0 Z = true) (hnot : "" ∉ Ts) (V1 : Arv Z h0 c1 kc .char (0 : Int32) [] dc) :
    MetFree l (⟨"java/lang/String", "<init>", "([C)V"⟩ : MethodName) (head1 (Jvm.Cond.code (⟨"java/lang/String", "<init>", "([C)V"⟩ : MethodName) jdk_42_method_3_code 2 none :: ws) ({ frames := 2, cells := 2, slots := 4, locals := 29 } : Room)) (fun a U => a = #[(.ref a1), (.ref c1)] ∧ Z.Warmed39 U.vm ∧ U.heap = h0 ∧ IB Z U.vm Ts) (fun _ _ _ _ _ => True) (fun _ U o U' => ∃ v L, o = .returned v ∧ QE Z a1 h0 n0 v U'.heap U'.vm L ∧ ReturnedEndW U o U' L ({ frames := 2, cells := 2, slots := 4, locals := 29 } : Room).cells ({ frames := 2, cells := 2, slots := 4, locals := 29 } : Room).slots) := by
  refine MetFree.of_bodySF (plainFor_of_name pn_java_lang_String) hisR ?_
  intro p e s m args below meth c s₁ Bd hml0 hP hK
  obtain ⟨rfl, hZ, hh, hI⟩ := hP
  have hx := Bd.exec
  have hby := Bd.bytes
  have hml : c.maxLocals = 2 := hml0
  have hown : s.vm.findClass "java/lang/String" = some m.cls := findClass_of_methodNamed Bd.named
  have hnm := (name_of_methodNamed Bd.named Bd.method).1
  have X0 : Stand p l e ({ frames := 2, cells := 2, slots := 4, locals := 29 } : Room) s m #[(.ref a1), (.ref c1)] below meth c s₁ [] 0 0 := Stand.of_body Bd
  have e0 : s₁.heap = h0 := by rw [← hh, Bd.state]; rfl
  have N0 := Fr.nil n0
  have pre0 : ∀ t, Steps p.tables e below (s₁.setTop (mkF m 0 #[.val (.ref a1), .val (.ref c1)] [])) t → Steps p.tables e below (s₁.setTop (entryFrame m #[(.ref a1), (.ref c1)] 2)) t := fun t kt => castTop (ef_rmE1 m a1 c1) kt
  obtain ⟨cl1, Ar1, -, S1, M1, -⟩ := V1
  have pre1 : ∀ t, Steps p.tables e below (s₁.setTop (mkF m 6 #[.val (.ref a1), .val (.ref c1)] [.null, (.int (0 : Int32)), (.int (0 : Int32)), (.ref c1), (.ref a1)])) t → Steps p.tables e below (s₁.setTop (entryFrame m #[(.ref a1), (.ref c1)] 2)) t := fun t kt => pre0 t (by
    refine XS.aloadN X0.here hx rfl (hb hby d1_0) rfl rfl ?_
    show Steps p.tables e below (s₁.setTop (mkF m 1 #[.val (.ref a1), .val (.ref c1)] [(.ref a1)])) _
    refine XS.aloadN X0.here hx rfl (hb hby d1_1) rfl rfl ?_
    show Steps p.tables e below (s₁.setTop (mkF m 2 #[.val (.ref a1), .val (.ref c1)] [(.ref c1), (.ref a1)])) _
    refine XS.iconst X0.here hx rfl (hb hby d1_2) ?_
    show Steps p.tables e below (s₁.setTop (mkF m 3 #[.val (.ref a1), .val (.ref c1)] [(.int (0 : Int32)), (.ref c1), (.ref a1)])) _
    refine XS.aloadN X0.here hx rfl (hb hby d1_3) rfl rfl ?_
    show Steps p.tables e below (s₁.setTop (mkF m 4 #[.val (.ref a1), .val (.ref c1)] [(.ref c1), (.int (0 : Int32)), (.ref c1), (.ref a1)])) _
    refine X0.arraylength hx (by rw [e0]; exact Ar1.1) (State.isArrayOf_alike hZ.alike Ar1.2.1) (g := (mkF m 4 #[.val (.ref a1), .val (.ref c1)] [(.ref c1), (.int (0 : Int32)), (.ref c1), (.ref a1)])) rfl rfl (hb hby d1_4) _ ?_
    rw [len_of S1 M1]
    show Steps p.tables e below (s₁.setTop (mkF m 5 #[.val (.ref a1), .val (.ref c1)] [(.int (0 : Int32)), (.int (0 : Int32)), (.ref c1), (.ref a1)])) _
    refine XS.aconstNull X0.here hx rfl (hb hby d1_5) ?_
    show Steps p.tables e below (s₁.setTop (mkF m 6 #[.val (.ref a1), .val (.ref c1)] [.null, (.int (0 : Int32)), (.int (0 : Int32)), (.ref c1), (.ref a1)])) _
    exact kt)
  obtain ⟨_, _, ⟨T2, L2, k2, n2⟩, -, X2, hS2, hgr2, ⟨Lc2, hQ2, l2, y2, z2⟩, st2⟩ := X0.specialBackS hx (y := (⟨"java/lang/String", "<init>", "([CIILjava/lang/Void;)V"⟩ : MethodName)) rfl hown (mvT hZ (hw _ (List.mem_of_getElem? (i := 7) rfl))) (mvT hZ (hw _ (List.mem_of_getElem? (i := 8) rfl))) (mvT hZ (hw _ (List.mem_of_getElem? (i := 10) rfl))) (by decide) (own_backOfS (W := 0) (rmE2 l Z a0 hw [] Ts a1 c1 _ _ h0 n0 Z0 E1 g1 F1 F2 O0 hC hcw hnot) hZ hI (hw _ (List.mem_of_getElem? (i := 10) rfl)) (hw _ (List.mem_of_getElem? (i := 2) rfl)) (by decide) (by decide)) (g := (mkF m 6 #[.val (.ref a1), .val (.ref c1)] [.null, (.int (0 : Int32)), (.int (0 : Int32)), (.ref c1), (.ref a1)])) rfl (by rw [hml]; rfl) (Steps.refl _) (a := a1) (argsL := [(.ref c1), (.int (0 : Int32)), (.int (0 : Int32)), .null]) (rest := []) (lenOf pd__28_5bCIILjava_2flang_2fVoid_3b_29V rfl) rfl (by show 2 * 0 + _ ≤ _; exact Nat.le_of_eq rfl) (hb hby d1_6) (fun _ _ => ⟨rfl, e0, (by decide : 0 + 2 ≤ _), (by decide : 0 + 4 ≤ _)⟩)
  dsimp only [Pt.U, Pt.locs, Pt.cells, Pt.slots] at X2 l2 y2 z2 st2 hQ2
  subst l2 y2 z2
  dsimp only [Pt.U] at hS2 hgr2
  have hZ2 : Z.Warmed39 (s.setVm T2.vm).vm := State.Warmed39.trans hZ hS2.1
  have hO2 : (s.setVm T2.vm).vm.findClass "java/lang/String" = some m.cls := (hS2.1.alike.findClass _ _).trans hown
  obtain ⟨rfl, N2q, K2, E2x⟩ := hQ2
  have N2 := Fr.app N0 N2q
  have f3 := (E1).keep K2
  have f4 := ((Keep.refl h0 [a1])).trans K2 (own_all1 (Or.inl (List.mem_singleton.mpr rfl)))
  have f5 := (O0).keep K2 (own_all1 g1)
  have Zf6 : n0 ≤ T2.heap.size := Nat.le_trans Z0 (K2).1
  have pre7 : ∀ t, Steps p.tables e below (T2.setTop (mkF m 9 #[.val (.ref a1), .val (.ref c1)] [])) t → Steps p.tables e below (s₁.setTop (entryFrame m #[(.ref a1), (.ref c1)] 2)) t := fun t kt => pre1 t (st2.trans kt)
  obtain ⟨fs, hr, hrun, hended, hRE⟩ := X2.leaveW hS2 ((Nat.le_refl _)) (v := none) (fun _ => rfl)
  refine ⟨_, _, pre7 _ ?_, hrun, hended, _, _, rfl, ?_, hRE.1, hRE.2.1, hRE.2.2.1, hRE.2.2.2.mono (by decide) (by decide)⟩
  · exact X2.returnOut hx Bd.returns (hb hby d1_9) hr
  · show QE Z a1 h0 n0 _ T2.heap T2.vm _
    exact ⟨rfl, N2, f4, f3⟩
def QT (Z : State) (h0 : Heap) (n0 : Nat) (v : Option Value) (h : Heap) (L : List Loc) : Prop := v = some (.int (1 : Int32)) ∧ Fr n0 L ∧ h = h0
theorem ef_rmCE (m : MethodId) (x0 : Int32) : entryFrame m #[(.int x0)] 1 = mkF m 0 #[.val (.int x0)] [] := by first | (simp [entryFrame, mkF, argsToLocals, Value.category]; done) | rfl
theorem pn_java_lang_StringLatin1 : plainName "java/lang/StringLatin1" = true := by first | (simp [plainName, overriddenIn]; done) | decide +kernel
theorem d15_0 : decode jdk_43_method_3_code 0 = .ok (.iload_n 0, 1) := by decide +kernel
theorem d15_1 : decode jdk_43_method_3_code 1 = .ok (.sipush 255, 3) := by decide +kernel
theorem d15_4 : decode jdk_43_method_3_code 4 = .ok (.if_icmp .gt 7, 3) := by decide +kernel
theorem d15_7 : decode jdk_43_method_3_code 7 = .ok (.iconst 1, 1) := by decide +kernel
theorem d15_8 : decode jdk_43_method_3_code 8 = .ok (.goto 4, 3) := by decide +kernel
theorem d15_12 : decode jdk_43_method_3_code 12 = .ok (.ireturn, 1) := by decide +kernel
set_option maxRecDepth 65536 in
set_option maxHeartbeats 40000000 in
theorem rmCE (l : Launch) (Z : State) (a0 : Array Value) (hw : ∀ d ∈ tables_1, d.before a0 Z = true) (ws : List Jvm.Cond) (ch : Int32) (h0 : Heap) (n0 : Nat) (Z0 : n0 ≤ h0.size) (hc : ¬ (255 : Int32) < ch) :
    MetFree l (⟨"java/lang/StringLatin1", "canEncode", "(C)Z"⟩ : MethodName) (head1 (Jvm.Cond.code (⟨"java/lang/StringLatin1", "canEncode", "(C)Z"⟩ : MethodName) jdk_43_method_3_code 1 (some .boolean) :: ws) ({ frames := 0, cells := 0, slots := 0, locals := 0 } : Room)) (fun a U => a = #[(.int ch)] ∧ Z.Warmed39 U.vm ∧ U.heap = h0) (fun _ _ _ _ _ => True) (fun _ U o U' => ∃ v L, o = .returned v ∧ QT Z  h0 n0 v U'.heap L ∧ FrameEnd U o U' L ({ frames := 0, cells := 0, slots := 0, locals := 0 } : Room).cells ({ frames := 0, cells := 0, slots := 0, locals := 0 } : Room).slots) := by
  refine MetFree.of_bodySF (plainFor_of_name pn_java_lang_StringLatin1) hisR ?_
  intro p e s m args below meth c s₁ Bd hml0 hP hK
  obtain ⟨rfl, hZ, hh⟩ := hP
  have hx := Bd.exec
  have hby := Bd.bytes
  have hml : c.maxLocals = 1 := hml0
  have hown : s.vm.findClass "java/lang/StringLatin1" = some m.cls := findClass_of_methodNamed Bd.named
  have hnm := (name_of_methodNamed Bd.named Bd.method).1
  have X0 : Stand p l e ({ frames := 0, cells := 0, slots := 0, locals := 0 } : Room) s m #[(.int ch)] below meth c s₁ [] 0 0 := Stand.of_body Bd
  have e0 : s₁.heap = h0 := by rw [← hh, Bd.state]; rfl
  have N0 := Fr.nil n0
  have pre0 : ∀ t, Steps p.tables e below (s₁.setTop (mkF m 0 #[.val (.int ch)] [])) t → Steps p.tables e below (s₁.setTop (entryFrame m #[(.int ch)] 1)) t := fun t kt => castTop (ef_rmCE m ch) kt
  have pre1 : ∀ t, Steps p.tables e below (s₁.setTop (mkF m 12 #[.val (.int ch)] [(.int (1 : Int32))])) t → Steps p.tables e below (s₁.setTop (entryFrame m #[(.int ch)] 1)) t := fun t kt => pre0 t (by
    refine XS.iloadN X0.here hx rfl (hb hby d15_0) rfl ?_
    show Steps p.tables e below (s₁.setTop (mkF m 1 #[.val (.int ch)] [(.int ch)])) _
    refine XS.sipush X0.here hx rfl (hb hby d15_1) ?_
    show Steps p.tables e below (s₁.setTop (mkF m 4 #[.val (.int ch)] [(.int (255 : Int32)), (.int ch)])) _
    refine XS.icmpNo X0.here hx rfl (hb hby d15_4) rfl (flt (hc : ¬ ((255 : Int32) < ch))).2.2.1 ?_
    show Steps p.tables e below (s₁.setTop (mkF m 7 #[.val (.int ch)] [])) _
    refine XS.iconst X0.here hx rfl (hb hby d15_7) ?_
    show Steps p.tables e below (s₁.setTop (mkF m 8 #[.val (.int ch)] [(.int (1 : Int32))])) _
    refine XS.goto X0.here hx rfl (pc0 := 8) (pc' := 12) rfl (hb hby d15_8) (by decide) (by decide) ?_
    show Steps p.tables e below (s₁.setTop (mkF m 12 #[.val (.int ch)] [(.int (1 : Int32))])) _
    exact kt)
  obtain ⟨fs, hr, hrun, hended, hW, hsame⟩ := X0.leave (v := (some (.int (1 : Int32)))) (fun h => by rw [Bd.returns] at h; cases h)
  refine ⟨_, _, pre1 _ ?_, hrun, hended, _, _, rfl, ?_, ⟨_, rfl⟩, hW, hsame.mono (by decide) (by decide)⟩
  · exact retN X0 hx (t := .boolean) Bd.returns (by simp) (hb hby d15_12) hr
  · show QT Z  h0 n0 _ s₁.heap _
    rw [e0]
    exact ⟨rfl, N0, rfl⟩
def QY (Z : State) (h0 : Heap) (n0 : Nat) (v : Option Value) (h : Heap) (L : List Loc) : Prop := ∃ b : Addr, v = some (.ref b) ∧ Fr n0 L ∧ Keep h0 h []
theorem ef_rmTB (m : MethodId) (x0 : Int32) : entryFrame m #[(.int x0)] 1 = mkF m 0 #[.val (.int x0)] [] := by first | (simp [entryFrame, mkF, argsToLocals, Value.category]; done) | rfl
theorem d16_0 : decode jdk_43_method_46_code 0 = .ok (.iconst 1, 1) := by decide +kernel
theorem d16_1 : decode jdk_43_method_46_code 1 = .ok (.newarray .byte, 2) := by decide +kernel
theorem d16_3 : decode jdk_43_method_46_code 3 = .ok (.dup, 1) := by decide +kernel
theorem d16_4 : decode jdk_43_method_46_code 4 = .ok (.iconst 0, 1) := by decide +kernel
theorem d16_5 : decode jdk_43_method_46_code 5 = .ok (.iload_n 0, 1) := by decide +kernel
theorem d16_6 : decode jdk_43_method_46_code 6 = .ok (.i2b, 1) := by decide +kernel
theorem d16_7 : decode jdk_43_method_46_code 7 = .ok (.bastore, 1) := by decide +kernel
theorem d16_8 : decode jdk_43_method_46_code 8 = .ok (.areturn, 1) := by decide +kernel
set_option maxRecDepth 65536 in
set_option maxHeartbeats 40000000 in
theorem rmTB (l : Launch) (Z : State) (a0 : Array Value) (hw : ∀ d ∈ tables_1, d.before a0 Z = true) (ws : List Jvm.Cond) (ch : Int32) (h0 : Heap) (n0 : Nat) (Z0 : n0 ≤ h0.size)  :
    MetFree l (⟨"java/lang/StringLatin1", "toBytes", "(C)[B"⟩ : MethodName) (head1 (Jvm.Cond.code (⟨"java/lang/StringLatin1", "toBytes", "(C)[B"⟩ : MethodName) jdk_43_method_46_code 1 (some (.array .byte)) :: ws) ({ frames := 0, cells := 1, slots := 1, locals := 0 } : Room)) (fun a U => a = #[(.int ch)] ∧ Z.Warmed39 U.vm ∧ U.heap = h0) (fun _ _ _ _ _ => True) (fun _ U o U' => ∃ v L, o = .returned v ∧ QY Z  h0 n0 v U'.heap L ∧ FrameEnd U o U' L ({ frames := 0, cells := 1, slots := 1, locals := 0 } : Room).cells ({ frames := 0, cells := 1, slots := 1, locals := 0 } : Room).slots) := by
  refine MetFree.of_bodySF (plainFor_of_name pn_java_lang_StringLatin1) hisR ?_
  intro p e s m args below meth c s₁ Bd hml0 hP hK
  obtain ⟨rfl, hZ, hh⟩ := hP
  have hx := Bd.exec
  have hby := Bd.bytes
  have hml : c.maxLocals = 1 := hml0
  have hown : s.vm.findClass "java/lang/StringLatin1" = some m.cls := findClass_of_methodNamed Bd.named
  have hnm := (name_of_methodNamed Bd.named Bd.method).1
  have X0 : Stand p l e ({ frames := 0, cells := 1, slots := 1, locals := 0 } : Room) s m #[(.int ch)] below meth c s₁ [] 0 0 := Stand.of_body Bd
  have e0 : s₁.heap = h0 := by rw [← hh, Bd.state]; rfl
  have N0 := Fr.nil n0
  have pre0 : ∀ t, Steps p.tables e below (s₁.setTop (mkF m 0 #[.val (.int ch)] [])) t → Steps p.tables e below (s₁.setTop (entryFrame m #[(.int ch)] 1)) t := fun t kt => castTop (ef_rmTB m ch) kt
  have pre1 : ∀ t, Steps p.tables e below (s₁.setTop (mkF m 1 #[.val (.int ch)] [(.int (1 : Int32))])) t → Steps p.tables e below (s₁.setTop (entryFrame m #[(.int ch)] 1)) t := fun t kt => pre0 t (by
    refine XS.iconst X0.here hx rfl (hb hby d16_0) ?_
    show Steps p.tables e below (s₁.setTop (mkF m 1 #[.val (.int ch)] [(.int (1 : Int32))])) _
    exact kt)
  obtain ⟨T2, h2, k2, X2, e2, E2, A2, st2⟩ := newP X0 hx hZ (hw _ (List.mem_of_getElem? (i := 15) rfl)) e0 (g := (mkF m 1 #[.val (.int ch)] [(.int (1 : Int32))])) rfl (hb hby d16_1) rfl (by decide) (cap := 1) (by decide) (by decide) (by decide) (by decide)
  obtain ⟨b2, g2⟩ : ∃ z, z = h0.size := ⟨_, rfl⟩
  rw [← g2] at A2 st2
  have gz3 : n0 ≤ b2 := Nat.le_trans Z0 (Nat.le_of_eq g2.symm)
  have f5 := ((Keep.refl h0 [])).ext E2
  have Zf6 : n0 ≤ h2.size := Nat.le_trans Z0 E2.1
  have V2 : Arv Z h2 b2 k2 .byte (1 : Int32) [(.int (0 : Int32))] (.int (0 : Int32)) := (Arv.new A2 (by decide)).pad (pad_rep [] (.int (0 : Int32)) 1)
  have pre7 : ∀ t, Steps p.tables e below (T2.setTop (mkF m 3 #[.val (.int ch)] [(.ref b2)])) t → Steps p.tables e below (s₁.setTop (entryFrame m #[(.int ch)] 1)) t := fun t kt => pre1 t (st2 _ kt)
  have pre8 : ∀ t, Steps p.tables e below (T2.setTop (mkF m 7 #[.val (.int ch)] [(.int ch.toInt8.toInt32), (.int (0 : Int32)), (.ref b2), (.ref b2)])) t → Steps p.tables e below (s₁.setTop (entryFrame m #[(.int ch)] 1)) t := fun t kt => pre7 t (by
    refine XS.dup X2.here hx rfl (hb hby d16_3) rfl rfl ?_
    show Steps p.tables e below (T2.setTop (mkF m 4 #[.val (.int ch)] [(.ref b2), (.ref b2)])) _
    refine XS.iconst X2.here hx rfl (hb hby d16_4) ?_
    show Steps p.tables e below (T2.setTop (mkF m 5 #[.val (.int ch)] [(.int (0 : Int32)), (.ref b2), (.ref b2)])) _
    refine XS.iloadN X2.here hx rfl (hb hby d16_5) rfl ?_
    show Steps p.tables e below (T2.setTop (mkF m 6 #[.val (.int ch)] [(.int ch), (.int (0 : Int32)), (.ref b2), (.ref b2)])) _
    refine XS.i2b X2.here hx rfl (hb hby d16_6) rfl ?_
    show Steps p.tables e below (T2.setTop (mkF m 7 #[.val (.int ch)] [(.int ch.toInt8.toInt32), (.int (0 : Int32)), (.ref b2), (.ref b2)])) _
    exact kt)
  obtain ⟨cl9, Ar9, q9, S9, M9, H9, G9⟩ := V2
  have hin9 : ¬ ((0 : Int32) < 0 ∨ cl9.slots.size ≤ ((0 : Int32)).toNatClampNeg) := inb_of S9 ⟨by decide, by decide⟩
  obtain ⟨T9, h9, X9, e9, W9, st9⟩ := stB X2 hx hZ e2 Ar9 (j := (0 : Int32)) hin9 (g := (mkF m 7 #[.val (.int ch)] [(.int ch.toInt8.toInt32), (.int (0 : Int32)), (.ref b2), (.ref b2)])) rfl rfl (hb hby d16_7)
  have f10 := (f5).wr W9 ((Or.inr (Nat.le_trans ((Keep.refl h0 [])).1 (Nat.le_of_eq g2.symm))))
  have Va9 := Arv.set Ar9 q9 S9 M9 H9 G9 (fits_nar_byte _) W9 0 rfl (Nat.le_of_ble_eq_true rfl)
  have Nf9 := Fr.snoc X9 N0 gz3
  have Zf11 : n0 ≤ h9.size := Nat.le_trans Zf6 (Keep.of_wr W9).1
  have pre12 : ∀ t, Steps p.tables e below (T9.setTop (mkF m 8 #[.val (.int ch)] [(.ref b2)])) t → Steps p.tables e below (s₁.setTop (entryFrame m #[(.int ch)] 1)) t := fun t kt => pre8 t (st9 _ kt)
  obtain ⟨fs, hr, hrun, hended, hW, hsame⟩ := X9.leave (v := (some (.ref b2))) (fun h => by rw [Bd.returns] at h; cases h)
  refine ⟨_, _, pre12 _ ?_, hrun, hended, _, _, rfl, ?_, ⟨_, rfl⟩, hW, hsame.mono (by decide) (by decide)⟩
  · exact retOut X9 hx Bd.returns rfl (Or.inr (Or.inr (Or.inr (Or.inr ⟨rfl, rfl, rfl⟩)))) (hb hby d16_8) hr
  · show QY Z  h0 n0 _ T9.heap _
    rw [e9]
    exact ⟨_, rfl, Nf9, f10⟩
def QI (Z : State) (a1 : Addr) (h0 : Heap) (n0 : Nat) (v : Option Value) (h : Heap) (L : List Loc) : Prop := v = none ∧ Fr n0 L ∧ Keep h0 h [a1] ∧ Exa Z h a1 "java/lang/String"
theorem ef_rmIB (m : MethodId) (x0 : Addr) (x1 : Addr) (x2 : Int32) : entryFrame m #[(.ref x0), (.ref x1), (.int x2)] 3 = mkF m 0 #[.val (.ref x0), .val (.ref x1), .val (.int x2)] [] := by first | (simp [entryFrame, mkF, argsToLocals, Value.category]; done) | rfl
theorem d17_0 : decode jdk_42_method_151_code 0 = .ok (.aload_n 0, 1) := by decide +kernel
theorem d17_1 : decode jdk_42_method_151_code 1 = .ok (.invokespecial 1, 3) := by decide +kernel
theorem d17_4 : decode jdk_42_method_151_code 4 = .ok (.aload_n 0, 1) := by decide +kernel
theorem d17_5 : decode jdk_42_method_151_code 5 = .ok (.aload_n 1, 1) := by decide +kernel
theorem d17_6 : decode jdk_42_method_151_code 6 = .ok (.putfield 9, 3) := by decide +kernel
theorem d17_9 : decode jdk_42_method_151_code 9 = .ok (.aload_n 0, 1) := by decide +kernel
theorem d17_10 : decode jdk_42_method_151_code 10 = .ok (.iload_n 2, 1) := by decide +kernel
theorem d17_11 : decode jdk_42_method_151_code 11 = .ok (.putfield 15, 3) := by decide +kernel
theorem d17_14 : decode jdk_42_method_151_code 14 = .ok (.return_, 1) := by decide +kernel
set_option maxRecDepth 65536 in
set_option maxHeartbeats 40000000 in
theorem rmIB (l : Launch) (Z : State) (a0 : Array Value) (hw : ∀ d ∈ tables_1, d.before a0 Z = true) (ws : List Jvm.Cond) (a1 x1 : Addr) (u1 u2 : Value) (h0 : Heap) (n0 : Nat) (Z0 : n0 ≤ h0.size) (E1 : Exa Z h0 a1 "java/lang/String") (g1 : n0 ≤ a1) (F1 : Fld Z h0 a1 "java/lang/String" "value" "[B" u1) (F2 : Fld Z h0 a1 "java/lang/String" "coder" "B" u2) :
    MetFree l (⟨"java/lang/String", "<init>", "([BB)V"⟩ : MethodName) (head1 (Jvm.Cond.code (⟨"java/lang/String", "<init>", "([BB)V"⟩ : MethodName) jdk_42_method_151_code 3 none :: ws) ({ frames := 1, cells := 0, slots := 0, locals := 12 } : Room)) (fun a U => a = #[(.ref a1), (.ref x1), (.int (0 : Int32))] ∧ Z.Warmed39 U.vm ∧ U.heap = h0) (fun _ _ _ _ _ => True) (fun _ U o U' => ∃ v L, o = .returned v ∧ QI Z a1 h0 n0 v U'.heap L ∧ FrameEnd U o U' L ({ frames := 1, cells := 0, slots := 0, locals := 12 } : Room).cells ({ frames := 1, cells := 0, slots := 0, locals := 12 } : Room).slots) := by
  refine MetFree.of_bodySF (plainFor_of_name pn_java_lang_String) hisR ?_
  intro p e s m args below meth c s₁ Bd hml0 hP hK
  obtain ⟨rfl, hZ, hh⟩ := hP
  have hx := Bd.exec
  have hby := Bd.bytes
  have hml : c.maxLocals = 3 := hml0
  have hown : s.vm.findClass "java/lang/String" = some m.cls := findClass_of_methodNamed Bd.named
  have hnm := (name_of_methodNamed Bd.named Bd.method).1
  have X0 : Stand p l e ({ frames := 1, cells := 0, slots := 0, locals := 12 } : Room) s m #[(.ref a1), (.ref x1), (.int (0 : Int32))] below meth c s₁ [] 0 0 := Stand.of_body Bd
  have e0 : s₁.heap = h0 := by rw [← hh, Bd.state]; rfl
  have N0 := Fr.nil n0
  have pre0 : ∀ t, Steps p.tables e below (s₁.setTop (mkF m 0 #[.val (.ref a1), .val (.ref x1), .val (.int (0 : Int32))] [])) t → Steps p.tables e below (s₁.setTop (entryFrame m #[(.ref a1), (.ref x1), (.int (0 : Int32))] 3)) t := fun t kt => castTop (ef_rmIB m a1 x1 (0 : Int32)) kt
  have pre1 : ∀ t, Steps p.tables e below (s₁.setTop (mkF m 1 #[.val (.ref a1), .val (.ref x1), .val (.int (0 : Int32))] [(.ref a1)])) t → Steps p.tables e below (s₁.setTop (entryFrame m #[(.ref a1), (.ref x1), (.int (0 : Int32))] 3)) t := fun t kt => pre0 t (by
    refine XS.aloadN X0.here hx rfl (hb hby d17_0) rfl rfl ?_
    show Steps p.tables e below (s₁.setTop (mkF m 1 #[.val (.ref a1), .val (.ref x1), .val (.int (0 : Int32))] [(.ref a1)])) _
    exact kt)
  obtain ⟨T2, X2, e2, st2⟩ := initO X0 hx hZ hown (hw _ (List.mem_of_getElem? (i := 11) rfl)) (hw _ (List.mem_of_getElem? (i := 12) rfl)) (hw _ (List.mem_of_getElem? (i := 13) rfl)) e0 (g := (mkF m 1 #[.val (.ref a1), .val (.ref x1), .val (.int (0 : Int32))] [(.ref a1)])) rfl (by rw [hml]; rfl) rfl (hb hby d17_1) (by decide) (W := 0) (by show 2 * 0 + _ ≤ _; exact Nat.le_of_eq rfl) (by decide)
  have pre3 : ∀ t, Steps p.tables e below (T2.setTop (mkF m 4 #[.val (.ref a1), .val (.ref x1), .val (.int (0 : Int32))] [])) t → Steps p.tables e below (s₁.setTop (entryFrame m #[(.ref a1), (.ref x1), (.int (0 : Int32))] 3)) t := fun t kt => pre1 t (st2 _ kt)
  have pre4 : ∀ t, Steps p.tables e below (T2.setTop (mkF m 6 #[.val (.ref a1), .val (.ref x1), .val (.int (0 : Int32))] [(.ref x1), (.ref a1)])) t → Steps p.tables e below (s₁.setTop (entryFrame m #[(.ref a1), (.ref x1), (.int (0 : Int32))] 3)) t := fun t kt => pre3 t (by
    refine XS.aloadN X2.here hx rfl (hb hby d17_4) rfl rfl ?_
    show Steps p.tables e below (T2.setTop (mkF m 5 #[.val (.ref a1), .val (.ref x1), .val (.int (0 : Int32))] [(.ref a1)])) _
    refine XS.aloadN X2.here hx rfl (hb hby d17_5) rfl rfl ?_
    show Steps p.tables e below (T2.setTop (mkF m 6 #[.val (.ref a1), .val (.ref x1), .val (.int (0 : Int32))] [(.ref x1), (.ref a1)])) _
    exact kt)
  obtain ⟨T5, h5, X5, e5, W5, st5⟩ := putF X2 hx hZ hown (host := "") (Or.inl (hw _ (List.mem_of_getElem? (i := 20) rfl))) Via.refl e2 F1 E1 (Or.inr ⟨(hw _ (List.mem_of_getElem? (i := 16) rfl)), rfl, hnm⟩) (hw _ (List.mem_of_getElem? (i := 1) rfl)) (ty := (.array .byte)) (by decide) rfl rfl (g := (mkF m 6 #[.val (.ref a1), .val (.ref x1), .val (.int (0 : Int32))] [(.ref x1), (.ref a1)])) rfl rfl (hb hby d17_6)
  have f6 := (E1).wr W5
  have f7 := ((Keep.refl h0 [a1])).wr W5 (Or.inl (List.mem_singleton.mpr rfl))
  have f8 := (F2).other W5 (Or.inr (slot_ne (Or.inr (hw _ (List.mem_of_getElem? (i := 17) rfl))) (Or.inr (hw _ (List.mem_of_getElem? (i := 16) rfl))) (by decide) (t := .byte) (t' := (.array .byte)) (by decide) (by decide)))
  have Fw5 := (F1).same W5
  have Nf9 := Fr.snoc X5 N0 g1
  have Zf10 : n0 ≤ h5.size := Nat.le_trans Z0 (Keep.of_wr W5).1
  have pre11 : ∀ t, Steps p.tables e below (T5.setTop (mkF m 9 #[.val (.ref a1), .val (.ref x1), .val (.int (0 : Int32))] [])) t → Steps p.tables e below (s₁.setTop (entryFrame m #[(.ref a1), (.ref x1), (.int (0 : Int32))] 3)) t := fun t kt => pre4 t (st5 _ kt)
  have pre12 : ∀ t, Steps p.tables e below (T5.setTop (mkF m 11 #[.val (.ref a1), .val (.ref x1), .val (.int (0 : Int32))] [(.int (0 : Int32)), (.ref a1)])) t → Steps p.tables e below (s₁.setTop (entryFrame m #[(.ref a1), (.ref x1), (.int (0 : Int32))] 3)) t := fun t kt => pre11 t (by
    refine XS.aloadN X5.here hx rfl (hb hby d17_9) rfl rfl ?_
    show Steps p.tables e below (T5.setTop (mkF m 10 #[.val (.ref a1), .val (.ref x1), .val (.int (0 : Int32))] [(.ref a1)])) _
    refine XS.iloadN X5.here hx rfl (hb hby d17_10) rfl ?_
    show Steps p.tables e below (T5.setTop (mkF m 11 #[.val (.ref a1), .val (.ref x1), .val (.int (0 : Int32))] [(.int (0 : Int32)), (.ref a1)])) _
    exact kt)
  obtain ⟨T13, h13, X13, e13, W13, st13⟩ := putFN X5 hx hZ hown (hw _ (List.mem_of_getElem? (i := 21) rfl)) Via.refl e5 f8 f6 (Or.inr ⟨(hw _ (List.mem_of_getElem? (i := 17) rfl)), rfl, hnm⟩) (hw _ (List.mem_of_getElem? (i := 1) rfl)) (ty := .byte) (v' := (.int (0 : Int32))) (by decide) rfl rfl (g := (mkF m 11 #[.val (.ref a1), .val (.ref x1), .val (.int (0 : Int32))] [(.int (0 : Int32)), (.ref a1)])) rfl rfl (hb hby d17_11)
  have f14 := (f6).wr W13
  have f15 := (f7).wr W13 (Or.inl (List.mem_singleton.mpr rfl))
  have f16 := (Fw5).other W13 (Or.inr (slot_ne (Or.inr (hw _ (List.mem_of_getElem? (i := 16) rfl))) (Or.inr (hw _ (List.mem_of_getElem? (i := 17) rfl))) (by decide) (t := (.array .byte)) (t' := .byte) (by decide) (by decide)))
  have Fw13 := (f8).same W13
  have Nf17 := Fr.snoc X13 Nf9 g1
  have Zf18 : n0 ≤ h13.size := Nat.le_trans Zf10 (Keep.of_wr W13).1
  have pre19 : ∀ t, Steps p.tables e below (T13.setTop (mkF m 14 #[.val (.ref a1), .val (.ref x1), .val (.int (0 : Int32))] [])) t → Steps p.tables e below (s₁.setTop (entryFrame m #[(.ref a1), (.ref x1), (.int (0 : Int32))] 3)) t := fun t kt => pre12 t (st13 _ kt)
  obtain ⟨fs, hr, hrun, hended, hW, hsame⟩ := X13.leave (v := none) (fun _ => rfl)
  refine ⟨_, _, pre19 _ ?_, hrun, hended, _, _, rfl, ?_, ⟨_, rfl⟩, hW, hsame.mono (by decide) (by decide)⟩
  · exact X13.returnOut hx Bd.returns (hb hby d17_14) hr
  · show QI Z a1 h0 n0 _ T13.heap _
    rw [e13]
    exact ⟨rfl, Nf17, f15, f14⟩
def QV0 (Z : State) (h0 : Heap) (n0 : Nat) (v : Option Value) (h : Heap) (L : List Loc) : Prop := ∃ b : Addr, v = some (.ref b) ∧ Fr n0 L ∧ Keep h0 h [] ∧ n0 ≤ b ∧ h0.size ≤ b ∧ Exa Z h b "java/lang/String"
theorem ef_rmVO (m : MethodId) (x0 : Int32) : entryFrame m #[(.int x0)] 1 = mkF m 0 #[.val (.int x0)] [] := by first | (simp [entryFrame, mkF, argsToLocals, Value.category]; done) | rfl
theorem d14_0 : decode jdk_42_method_139_code 0 = .ok (.getstatic 38, 3) := by decide +kernel
theorem d14_3 : decode jdk_42_method_139_code 3 = .ok (.ifCond .eq 23, 3) := by decide +kernel
theorem d14_6 : decode jdk_42_method_139_code 6 = .ok (.iload_n 0, 1) := by decide +kernel
theorem pd__28C_29Z : parseMethodDescriptor "(C)Z" = some ⟨[.char], some .boolean⟩ := by decide +kernel
theorem d14_7 : decode jdk_42_method_139_code 7 = .ok (.invokestatic 1015, 3) := by decide +kernel
theorem d14_10 : decode jdk_42_method_139_code 10 = .ok (.ifCond .eq 16, 3) := by decide +kernel
theorem d14_13 : decode jdk_42_method_139_code 13 = .ok (.new 10, 3) := by decide +kernel
theorem d14_16 : decode jdk_42_method_139_code 16 = .ok (.dup, 1) := by decide +kernel
theorem d14_17 : decode jdk_42_method_139_code 17 = .ok (.iload_n 0, 1) := by decide +kernel
theorem pd__28C_29_5bB : parseMethodDescriptor "(C)[B" = some ⟨[.char], some (.array .byte)⟩ := by decide +kernel
theorem d14_18 : decode jdk_42_method_139_code 18 = .ok (.invokestatic 1018, 3) := by decide +kernel
theorem d14_21 : decode jdk_42_method_139_code 21 = .ok (.iconst 0, 1) := by decide +kernel
theorem pd__28_5bBB_29V : parseMethodDescriptor "([BB)V" = some ⟨[(.array .byte), .byte], none⟩ := by decide +kernel
theorem d14_22 : decode jdk_42_method_139_code 22 = .ok (.invokespecial 209, 3) := by decide +kernel
theorem d14_25 : decode jdk_42_method_139_code 25 = .ok (.areturn, 1) := by decide +kernel
set_option maxRecDepth 65536 in
set_option maxHeartbeats 40000000 in
theorem rmVO (l : Launch) (Z : State) (a0 : Array Value) (hw : ∀ d ∈ tables_1, d.before a0 Z = true) (ws : List Jvm.Cond) (ch z0 : Int32) (h0 : Heap) (n0 : Nat) (Z0 : n0 ≤ h0.size) (hc : ¬ (255 : Int32) < ch) (S0 : Sta Z h0 "java/lang/String" "COMPACT_STRINGS" "Z" (.int z0)) (hz : ¬ z0 = (0 : Int32)) :
    MetFree l (⟨"java/lang/String", "valueOf", "(C)Ljava/lang/String;"⟩ : MethodName) (head1 (Jvm.Cond.code (⟨"java/lang/String", "valueOf", "(C)Ljava/lang/String;"⟩ : MethodName) jdk_42_method_139_code 1 (some (.object "java/lang/String")) :: ws) ({ frames := 2, cells := 2, slots := 5, locals := 30 } : Room)) (fun a U => a = #[(.int ch)] ∧ Z.Warmed39 U.vm ∧ U.heap = h0) (fun _ _ _ _ _ => True) (fun _ U o U' => ∃ v L, o = .returned v ∧ QV0 Z  h0 n0 v U'.heap L ∧ FrameEnd U o U' L ({ frames := 2, cells := 2, slots := 5, locals := 30 } : Room).cells ({ frames := 2, cells := 2, slots := 5, locals := 30 } : Room).slots) := by
  refine MetFree.of_bodySF (plainFor_of_name pn_java_lang_String) hisR ?_
  intro p e s m args below meth c s₁ Bd hml0 hP hK
  obtain ⟨rfl, hZ, hh⟩ := hP
  have hx := Bd.exec
  have hby := Bd.bytes
  have hml : c.maxLocals = 1 := hml0
  have hown : s.vm.findClass "java/lang/String" = some m.cls := findClass_of_methodNamed Bd.named
  have hnm := (name_of_methodNamed Bd.named Bd.method).1
  have X0 : Stand p l e ({ frames := 2, cells := 2, slots := 5, locals := 30 } : Room) s m #[(.int ch)] below meth c s₁ [] 0 0 := Stand.of_body Bd
  have e0 : s₁.heap = h0 := by rw [← hh, Bd.state]; rfl
  have N0 := Fr.nil n0
  have pre0 : ∀ t, Steps p.tables e below (s₁.setTop (mkF m 0 #[.val (.int ch)] [])) t → Steps p.tables e below (s₁.setTop (entryFrame m #[(.int ch)] 1)) t := fun t kt => castTop (ef_rmVO m ch) kt
  obtain ⟨T1, X1, e1, st1⟩ := getS2 X0 hx hZ hown (host := "") (Or.inl (hw _ (List.mem_of_getElem? (i := 65) rfl))) Via.refl e0 S0 (g := (mkF m 0 #[.val (.int ch)] [])) rfl (hb hby d14_0)
  have pre2 : ∀ t, Steps p.tables e below (T1.setTop (mkF m 3 #[.val (.int ch)] [(.int z0)])) t → Steps p.tables e below (s₁.setTop (entryFrame m #[(.int ch)] 1)) t := fun t kt => pre0 t (st1 _ kt)
  have pre3 : ∀ t, Steps p.tables e below (T1.setTop (mkF m 7 #[.val (.int ch)] [(.int ch)])) t → Steps p.tables e below (s₁.setTop (entryFrame m #[(.int ch)] 1)) t := fun t kt => pre2 t (by
    refine XS.ifNo X1.here hx rfl (hb hby d14_3) rfl ((if0 _ _).trans (feq (hz : ¬ (z0 = (0 : Int32)))).1) ?_
    show Steps p.tables e below (T1.setTop (mkF m 6 #[.val (.int ch)] [])) _
    refine XS.iloadN X1.here hx rfl (hb hby d14_6) rfl ?_
    show Steps p.tables e below (T1.setTop (mkF m 7 #[.val (.int ch)] [(.int ch)])) _
    exact kt)
  obtain ⟨_, _, ⟨T4, L4, k4, n4⟩, -, X4, ⟨Lc4, hQ4, l4, y4, z4⟩, st4⟩ := Jvm.LawKit.callS X1 hx (y := (⟨"java/lang/StringLatin1", "canEncode", "(C)Z"⟩ : MethodName)) hown (mvT hZ (hw _ (List.mem_of_getElem? (i := 79) rfl))) (mvT hZ (hw _ (List.mem_of_getElem? (i := 80) rfl))) (mvT hZ (hw _ (List.mem_of_getElem? (i := 81) rfl))) (mvT hZ (hw _ (List.mem_of_getElem? (i := 82) rfl))) (by decide) (backOf (W := 0) (rmCE l Z a0 hw [] ch h0 n0 Z0 hc) hZ (hw _ (List.mem_of_getElem? (i := 82) rfl)) (hw _ (List.mem_of_getElem? (i := 81) rfl)) (by decide) (by decide)) (g := (mkF m 7 #[.val (.int ch)] [(.int ch)])) rfl (by rw [hml]; rfl) (argsL := [(.int ch)]) (rest := []) (lenOf pd__28C_29Z rfl) rfl (by show 2 * 0 + _ ≤ _; exact Nat.le_of_eq rfl) (hb hby d14_7) (fun _ _ => ⟨rfl, e1, (by decide : 0 + 0 ≤ _), (by decide : 0 + 0 ≤ _)⟩)
  dsimp only [Pt.U, Pt.locs, Pt.cells, Pt.slots] at X4 l4 y4 z4 st4 hQ4
  subst l4 y4 z4
  obtain ⟨rfl, N4q, e4q⟩ := hQ4
  have N4 := Fr.app N0 N4q
  have pre5 : ∀ t, Steps p.tables e below (T4.setTop (mkF m 10 #[.val (.int ch)] [(.int (1 : Int32))])) t → Steps p.tables e below (s₁.setTop (entryFrame m #[(.int ch)] 1)) t := fun t kt => pre3 t (st4 _ kt)
  have pre6 : ∀ t, Steps p.tables e below (T4.setTop (mkF m 13 #[.val (.int ch)] [])) t → Steps p.tables e below (s₁.setTop (entryFrame m #[(.int ch)] 1)) t := fun t kt => pre5 t (by
    refine XS.ifNo X4.here hx rfl (hb hby d14_10) rfl ((if0 _ _).trans (feq (by decide : ¬ ((1 : Int32) = (0 : Int32)))).1) ?_
    show Steps p.tables e below (T4.setTop (mkF m 13 #[.val (.int ch)] [])) _
    exact kt)
  obtain ⟨T7, h7, X7, e7, E7, A7, D7, -, st7⟩ := newO X4 hx hZ hown (hw _ (List.mem_of_getElem? (i := 83) rfl)) (hw _ (List.mem_of_getElem? (i := 1) rfl)) (hw _ (List.mem_of_getElem? (i := 2) rfl)) e4q (g := (mkF m 13 #[.val (.int ch)] [])) rfl (hb hby d14_13) (by decide) (by decide)
  obtain ⟨b7, g7⟩ : ∃ z, z = h0.size := ⟨_, rfl⟩
  rw [← g7] at A7 D7 st7
  have gz8 : n0 ≤ b7 := Nat.le_trans Z0 (Nat.le_of_eq g7.symm)
  have f10 := (S0).ext E7
  have f11 := ((Keep.refl h0 [])).ext E7
  have Zf12 : n0 ≤ h7.size := Nat.le_trans Z0 E7.1
  have szb : h0.size ≤ b7 := Nat.le_of_eq g7.symm
  have F7_value : Fld Z h7 b7 "java/lang/String" "value" "[B" .null := D7 (Or.inr (hw _ (List.mem_of_getElem? (i := 16) rfl))) (ty := (.array .byte)) (by decide)
  have F7_coder : Fld Z h7 b7 "java/lang/String" "coder" "B" (.int (0 : Int32)) := D7 (Or.inr (hw _ (List.mem_of_getElem? (i := 17) rfl))) (ty := .byte) (by decide)
  have pre13 : ∀ t, Steps p.tables e below (T7.setTop (mkF m 16 #[.val (.int ch)] [(.ref b7)])) t → Steps p.tables e below (s₁.setTop (entryFrame m #[(.int ch)] 1)) t := fun t kt => pre6 t (st7 _ kt)
  have pre14 : ∀ t, Steps p.tables e below (T7.setTop (mkF m 18 #[.val (.int ch)] [(.int ch), (.ref b7), (.ref b7)])) t → Steps p.tables e below (s₁.setTop (entryFrame m #[(.int ch)] 1)) t := fun t kt => pre13 t (by
    refine XS.dup X7.here hx rfl (hb hby d14_16) rfl rfl ?_
    show Steps p.tables e below (T7.setTop (mkF m 17 #[.val (.int ch)] [(.ref b7), (.ref b7)])) _
    refine XS.iloadN X7.here hx rfl (hb hby d14_17) rfl ?_
    show Steps p.tables e below (T7.setTop (mkF m 18 #[.val (.int ch)] [(.int ch), (.ref b7), (.ref b7)])) _
    exact kt)
  obtain ⟨_, _, ⟨T15, L15, k15, n15⟩, -, X15, ⟨Lc15, hQ15, l15, y15, z15⟩, st15⟩ := Jvm.LawKit.callS X7 hx (y := (⟨"java/lang/StringLatin1", "toBytes", "(C)[B"⟩ : MethodName)) hown (mvT hZ (hw _ (List.mem_of_getElem? (i := 84) rfl))) (mvT hZ (hw _ (List.mem_of_getElem? (i := 85) rfl))) (mvT hZ (hw _ (List.mem_of_getElem? (i := 81) rfl))) (mvT hZ (hw _ (List.mem_of_getElem? (i := 86) rfl))) (by decide) (backOf (W := 2) (rmTB l Z a0 hw [] ch h7 n0 Zf12) hZ (hw _ (List.mem_of_getElem? (i := 86) rfl)) (hw _ (List.mem_of_getElem? (i := 81) rfl)) (by decide) (by decide)) (g := (mkF m 18 #[.val (.int ch)] [(.int ch), (.ref b7), (.ref b7)])) rfl (by rw [hml]; rfl) (argsL := [(.int ch)]) (rest := [(.ref b7), (.ref b7)]) (lenOf pd__28C_29_5bB rfl) rfl (by show 2 * 0 + _ ≤ _; exact Nat.le_of_eq rfl) (hb hby d14_18) (fun _ _ => ⟨rfl, e7, (by decide : 1 + 1 ≤ _), (by decide : 4 + 1 ≤ _)⟩)
  dsimp only [Pt.U, Pt.locs, Pt.cells, Pt.slots] at X15 l15 y15 z15 st15 hQ15
  subst l15 y15 z15
  obtain ⟨by15, rfl, N15q, K15⟩ := hQ15
  have N15 := Fr.app N4 N15q
  have f16 := (f11).trans K15 (own_all0 )
  have f17 := (A7).keep K15
  have f18 := (F7_value).keep K15 own_notin0
  have f19 := (F7_coder).keep K15 own_notin0
  have Zf20 : n0 ≤ T15.heap.size := Nat.le_trans Zf12 (K15).1
  have pre21 : ∀ t, Steps p.tables e below (T15.setTop (mkF m 21 #[.val (.int ch)] [(.ref by15), (.ref b7), (.ref b7)])) t → Steps p.tables e below (s₁.setTop (entryFrame m #[(.int ch)] 1)) t := fun t kt => pre14 t (st15 _ kt)
  have pre22 : ∀ t, Steps p.tables e below (T15.setTop (mkF m 22 #[.val (.int ch)] [(.int (0 : Int32)), (.ref by15), (.ref b7), (.ref b7)])) t → Steps p.tables e below (s₁.setTop (entryFrame m #[(.int ch)] 1)) t := fun t kt => pre21 t (by
    refine XS.iconst X15.here hx rfl (hb hby d14_21) ?_
    show Steps p.tables e below (T15.setTop (mkF m 22 #[.val (.int ch)] [(.int (0 : Int32)), (.ref by15), (.ref b7), (.ref b7)])) _
    exact kt)
  obtain ⟨_, _, ⟨T23, L23, k23, n23⟩, -, X23, ⟨Lc23, hQ23, l23, y23, z23⟩, st23⟩ := X15.specialBack hx (y := (⟨"java/lang/String", "<init>", "([BB)V"⟩ : MethodName)) rfl hown (mvT hZ (hw _ (List.mem_of_getElem? (i := 87) rfl))) (mvT hZ (hw _ (List.mem_of_getElem? (i := 88) rfl))) (mvT hZ (hw _ (List.mem_of_getElem? (i := 89) rfl))) (by decide) (backOf (W := 1) (rmIB l Z a0 hw [] b7 by15 _ _ T15.heap n0 Zf20 f17 gz8 f18 f19) hZ (hw _ (List.mem_of_getElem? (i := 89) rfl)) (hw _ (List.mem_of_getElem? (i := 2) rfl)) (by decide) (by decide)) (g := (mkF m 22 #[.val (.int ch)] [(.int (0 : Int32)), (.ref by15), (.ref b7), (.ref b7)])) rfl (by rw [hml]; rfl) (Steps.refl _) (a := b7) (argsL := [(.ref by15), (.int (0 : Int32))]) (rest := [(.ref b7)]) (lenOf pd__28_5bBB_29V rfl) rfl (by show 2 * 0 + _ ≤ _; exact Nat.le_of_eq rfl) (hb hby d14_22) (fun _ _ => ⟨rfl, rfl, (by decide : 2 + 0 ≤ _), (by decide : 5 + 0 ≤ _)⟩)
  dsimp only [Pt.U, Pt.locs, Pt.cells, Pt.slots] at X23 l23 y23 z23 st23 hQ23
  subst l23 y23 z23
  obtain ⟨rfl, N23q, K23, E23x⟩ := hQ23
  have N23 := Fr.app N15 N23q
  have f24 := (f16).trans K23 (own_all1 ((Or.inr (Nat.le_trans ((Keep.refl h0 [])).1 (Nat.le_of_eq g7.symm)))))
  have f25 := (f17).keep K23
  have Zf26 : n0 ≤ T23.heap.size := Nat.le_trans Zf20 (K23).1
  have pre27 : ∀ t, Steps p.tables e below (T23.setTop (mkF m 25 #[.val (.int ch)] [(.ref b7)])) t → Steps p.tables e below (s₁.setTop (entryFrame m #[(.int ch)] 1)) t := fun t kt => pre22 t (st23.trans kt)
  obtain ⟨fs, hr, hrun, hended, hW, hsame⟩ := X23.leave (v := (some (.ref b7))) (fun h => by rw [Bd.returns] at h; cases h)
  refine ⟨_, _, pre27 _ ?_, hrun, hended, _, _, rfl, ?_, ⟨_, rfl⟩, hW, hsame.mono (by decide) (by decide)⟩
  · exact retOut X23 hx Bd.returns rfl (Or.inr (Or.inr (Or.inr (Or.inr ⟨rfl, rfl, rfl⟩)))) (hb hby d14_25) hr
  · show QV0 Z  h0 n0 _ T23.heap _
    exact ⟨_, rfl, N23, f24, gz8, szb, f25⟩
theorem own_c8 {ch x : Int32} (h : ch = (x &&& (255 : Int32)).toUInt32.toUInt16.toUInt32.toInt32) : ¬ (255 : Int32) < ch := by
  rw [h, i2c_mask, Int32.lt_iff_toInt_lt]
  have := c_and x (255 : Int32) (by decide)
  omega
theorem own_c0 {ch x : Int32} (h : ch = (x &&& (255 : Int32)).toUInt32.toUInt16.toUInt32.toInt32) : ¬ ch < 0 := by
  rw [h, i2c_mask, Int32.lt_iff_toInt_lt]
  have := c_and x (255 : Int32) (by decide)
  have e : (0 : Int32).toInt = 0 := rfl
  omega
def QM (Z : State) (a1 : Addr) (nv : Value) (dv : UInt64) (iv : Int32) (h0 : Heap) (n0 : Nat) (v : Option Value) (h : Heap) (L : List Loc) : Prop := v = none ∧ Fr n0 L ∧ Keep h0 h [a1] ∧ Exa Z h a1 "com/example/hoopoe/hoopoe/core/eval/Measure" ∧ Fld Z h a1 "com/example/hoopoe/hoopoe/core/eval/Measure" "name" "Ljava/lang/String;" nv ∧ Fld Z h a1 "com/example/hoopoe/hoopoe/core/eval/Measure" "value" "D" (.double dv) ∧ Fld Z h a1 "com/example/hoopoe/hoopoe/core/eval/Measure" "decimals" "I" (.int iv)
def QC (Z : State) (nv : Value) (cc : Int64) (h0 : Heap) (n0 : Nat) (v : Option Value) (h : Heap) (L : List Loc) : Prop := ∃ b : Addr, v = some (.ref b) ∧ Fr n0 L ∧ Keep h0 h [] ∧ n0 ≤ b ∧ h0.size ≤ b ∧ Exa Z h b "com/example/hoopoe/hoopoe/core/eval/Measure" ∧ Fld Z h b "com/example/hoopoe/hoopoe/core/eval/Measure" "name" "Ljava/lang/String;" nv ∧ Fld Z h b "com/example/hoopoe/hoopoe/core/eval/Measure" "value" "D" (.double (FP.l2d cc)) ∧ Fld Z h b "com/example/hoopoe/hoopoe/core/eval/Measure" "decimals" "I" (.int (0 : Int32))
theorem ef_rmMR (m : MethodId) (x0 : Addr) (x1 : Addr) (x2 : UInt64) (x3 : Int32) : entryFrame m #[(.ref x0), (.ref x1), (.double x2), (.int x3)] 5 = mkF m 0 #[.val (.ref x0), .val (.ref x1), .val (.double x2), .second, .val (.int x3)] [] := by first | (simp [entryFrame, mkF, argsToLocals, Value.category]; done) | rfl
theorem pn_com_example_hoopoe_hoopoe_core_eval_Measure : plainName "com/example/hoopoe/hoopoe/core/eval/Measure" = true := by first | (simp [plainName, overriddenIn]; done) | decide +kernel
theorem d5_0 : decode prog_9_method_1_code 0 = .ok (.aload_n 0, 1) := by decide +kernel
theorem pd__28_29V : parseMethodDescriptor "()V" = some ⟨[], none⟩ := by decide +kernel
theorem d5_1 : decode prog_9_method_1_code 1 = .ok (.invokespecial 1, 3) := by decide +kernel
theorem d5_4 : decode prog_9_method_1_code 4 = .ok (.aload_n 0, 1) := by decide +kernel
theorem d5_5 : decode prog_9_method_1_code 5 = .ok (.aload_n 1, 1) := by decide +kernel
theorem d5_6 : decode prog_9_method_1_code 6 = .ok (.putfield 7, 3) := by decide +kernel
theorem d5_9 : decode prog_9_method_1_code 9 = .ok (.aload_n 0, 1) := by decide +kernel
theorem d5_10 : decode prog_9_method_1_code 10 = .ok (.dload_n 2, 1) := by decide +kernel
theorem d5_11 : decode prog_9_method_1_code 11 = .ok (.putfield 13, 3) := by decide +kernel
theorem d5_14 : decode prog_9_method_1_code 14 = .ok (.aload_n 0, 1) := by decide +kernel
theorem d5_15 : decode prog_9_method_1_code 15 = .ok (.iload 4, 2) := by decide +kernel
theorem d5_17 : decode prog_9_method_1_code 17 = .ok (.putfield 17, 3) := by decide +kernel
theorem d5_20 : decode prog_9_method_1_code 20 = .ok (.return_, 1) := by decide +kernel
set_option maxRecDepth 65536 in
set_option maxHeartbeats 40000000 in
theorem rmMR (l : Launch) (Z : State) (a0 : Array Value) (hw : ∀ d ∈ tables_1, d.before a0 Z = true) (ws : List Jvm.Cond) (a1 nb : Addr) (dv : UInt64) (iv : Int32) (u1 u2 u3 : Value) (h0 : Heap) (n0 : Nat) (Z0 : n0 ≤ h0.size) (E1 : Exa Z h0 a1 "com/example/hoopoe/hoopoe/core/eval/Measure") (g1 : n0 ≤ a1) (F1 : Fld Z h0 a1 "com/example/hoopoe/hoopoe/core/eval/Measure" "name" "Ljava/lang/String;" u1) (F2 : Fld Z h0 a1 "com/example/hoopoe/hoopoe/core/eval/Measure" "value" "D" u2) (F3 : Fld Z h0 a1 "com/example/hoopoe/hoopoe/core/eval/Measure" "decimals" "I" u3) :
    MetFree l (⟨"com/example/hoopoe/hoopoe/core/eval/Measure", "<init>", "(Ljava/lang/String;DI)V"⟩ : MethodName) (head1 (Jvm.Cond.code (⟨"com/example/hoopoe/hoopoe/core/eval/Measure", "<init>", "(Ljava/lang/String;DI)V"⟩ : MethodName) prog_9_method_1_code 5 none :: ws) ({ frames := 2, cells := 0, slots := 0, locals := 24 } : Room)) (fun a U => a = #[(.ref a1), (.ref nb), (.double dv), (.int iv)] ∧ Z.Warmed39 U.vm ∧ U.heap = h0) (fun _ _ _ _ _ => True) (fun _ U o U' => ∃ v L, o = .returned v ∧ QM Z a1 (.ref nb) dv iv h0 n0 v U'.heap L ∧ FrameEnd U o U' L ({ frames := 2, cells := 0, slots := 0, locals := 24 } : Room).cells ({ frames := 2, cells := 0, slots := 0, locals := 24 } : Room).slots) := by
  refine MetFree.of_bodySF (plainFor_of_name pn_com_example_hoopoe_hoopoe_core_eval_Measure) hisR ?_
  intro p e s m args below meth c s₁ Bd hml0 hP hK
  obtain ⟨rfl, hZ, hh⟩ := hP
  have hx := Bd.exec
  have hby := Bd.bytes
  have hml : c.maxLocals = 5 := hml0
  have hown : s.vm.findClass "com/example/hoopoe/hoopoe/core/eval/Measure" = some m.cls := findClass_of_methodNamed Bd.named
  have hnm := (name_of_methodNamed Bd.named Bd.method).1
  have X0 : Stand p l e ({ frames := 2, cells := 0, slots := 0, locals := 24 } : Room) s m #[(.ref a1), (.ref nb), (.double dv), (.int iv)] below meth c s₁ [] 0 0 := Stand.of_body Bd
  have e0 : s₁.heap = h0 := by rw [← hh, Bd.state]; rfl
  have N0 := Fr.nil n0
  have pre0 : ∀ t, Steps p.tables e below (s₁.setTop (mkF m 0 #[.val (.ref a1), .val (.ref nb), .val (.double dv), .second, .val (.int iv)] [])) t → Steps p.tables e below (s₁.setTop (entryFrame m #[(.ref a1), (.ref nb), (.double dv), (.int iv)] 5)) t := fun t kt => castTop (ef_rmMR m a1 nb dv iv) kt
  have pre1 : ∀ t, Steps p.tables e below (s₁.setTop (mkF m 1 #[.val (.ref a1), .val (.ref nb), .val (.double dv), .second, .val (.int iv)] [(.ref a1)])) t → Steps p.tables e below (s₁.setTop (entryFrame m #[(.ref a1), (.ref nb), (.double dv), (.int iv)] 5)) t := fun t kt => pre0 t (by
    refine XS.aloadN X0.here hx rfl (hb hby d5_0) rfl rfl ?_
    show Steps p.tables e below (s₁.setTop (mkF m 1 #[.val (.ref a1), .val (.ref nb), .val (.double dv), .second, .val (.int iv)] [(.ref a1)])) _
    exact kt)
  obtain ⟨_, _, ⟨T2, L2, k2, n2⟩, -, X2, ⟨Lc2, hQ2, l2, y2, z2⟩, st2⟩ := X0.specialBack hx (y := (⟨"java/lang/Record", "<init>", "()V"⟩ : MethodName)) rfl hown (mvT hZ (hw _ (List.mem_of_getElem? (i := 31) rfl))) (mvT hZ (hw _ (List.mem_of_getElem? (i := 32) rfl))) (mvT hZ (hw _ (List.mem_of_getElem? (i := 35) rfl))) (by decide) (backOf (W := 0) (rmR l Z a0 hw [] a1 h0 n0 Z0) hZ (hw _ (List.mem_of_getElem? (i := 35) rfl)) (hw _ (List.mem_of_getElem? (i := 34) rfl)) (by decide) (by decide)) (g := (mkF m 1 #[.val (.ref a1), .val (.ref nb), .val (.double dv), .second, .val (.int iv)] [(.ref a1)])) rfl (by rw [hml]; rfl) (Steps.refl _) (a := a1) (argsL := []) (rest := []) (lenOf pd__28_29V rfl) rfl (by show 2 * 0 + _ ≤ _; exact Nat.le_of_eq rfl) (hb hby d5_1) (fun _ _ => ⟨rfl, e0, (by decide : 0 + 0 ≤ _), (by decide : 0 + 0 ≤ _)⟩)
  dsimp only [Pt.U, Pt.locs, Pt.cells, Pt.slots] at X2 l2 y2 z2 st2 hQ2
  subst l2 y2 z2
  obtain ⟨rfl, N2q, e2q⟩ := hQ2
  have N2 := Fr.app N0 N2q
  have pre3 : ∀ t, Steps p.tables e below (T2.setTop (mkF m 4 #[.val (.ref a1), .val (.ref nb), .val (.double dv), .second, .val (.int iv)] [])) t → Steps p.tables e below (s₁.setTop (entryFrame m #[(.ref a1), (.ref nb), (.double dv), (.int iv)] 5)) t := fun t kt => pre1 t (st2.trans kt)
  have pre4 : ∀ t, Steps p.tables e below (T2.setTop (mkF m 6 #[.val (.ref a1), .val (.ref nb), .val (.double dv), .second, .val (.int iv)] [(.ref nb), (.ref a1)])) t → Steps p.tables e below (s₁.setTop (entryFrame m #[(.ref a1), (.ref nb), (.double dv), (.int iv)] 5)) t := fun t kt => pre3 t (by
    refine XS.aloadN X2.here hx rfl (hb hby d5_4) rfl rfl ?_
    show Steps p.tables e below (T2.setTop (mkF m 5 #[.val (.ref a1), .val (.ref nb), .val (.double dv), .second, .val (.int iv)] [(.ref a1)])) _
    refine XS.aloadN X2.here hx rfl (hb hby d5_5) rfl rfl ?_
    show Steps p.tables e below (T2.setTop (mkF m 6 #[.val (.ref a1), .val (.ref nb), .val (.double dv), .second, .val (.int iv)] [(.ref nb), (.ref a1)])) _
    exact kt)
  obtain ⟨T5, h5, X5, e5, W5, st5⟩ := putF X2 hx hZ hown (host := "") (Or.inl (hw _ (List.mem_of_getElem? (i := 37) rfl))) Via.refl e2q F1 E1 (Or.inr ⟨(hw _ (List.mem_of_getElem? (i := 38) rfl)), rfl, hnm⟩) (hw _ (List.mem_of_getElem? (i := 27) rfl)) (ty := (.object "java/lang/String")) (by decide) rfl rfl (g := (mkF m 6 #[.val (.ref a1), .val (.ref nb), .val (.double dv), .second, .val (.int iv)] [(.ref nb), (.ref a1)])) rfl rfl (hb hby d5_6)
  have f6 := (E1).wr W5
  have f7 := ((Keep.refl h0 [a1])).wr W5 (Or.inl (List.mem_singleton.mpr rfl))
  have f8 := (F2).other W5 (Or.inr (slot_ne (Or.inr (hw _ (List.mem_of_getElem? (i := 40) rfl))) (Or.inr (hw _ (List.mem_of_getElem? (i := 38) rfl))) (by decide) (t := .double) (t' := (.object "java/lang/String")) (by decide) (by decide)))
  have f9 := (F3).other W5 (Or.inr (slot_ne (Or.inr (hw _ (List.mem_of_getElem? (i := 42) rfl))) (Or.inr (hw _ (List.mem_of_getElem? (i := 38) rfl))) (by decide) (t := .int) (t' := (.object "java/lang/String")) (by decide) (by decide)))
  have Fw5 := (F1).same W5
  have Nf10 := Fr.snoc X5 N2 g1
  have Zf11 : n0 ≤ h5.size := Nat.le_trans Z0 (Keep.of_wr W5).1
  have pre12 : ∀ t, Steps p.tables e below (T5.setTop (mkF m 9 #[.val (.ref a1), .val (.ref nb), .val (.double dv), .second, .val (.int iv)] [])) t → Steps p.tables e below (s₁.setTop (entryFrame m #[(.ref a1), (.ref nb), (.double dv), (.int iv)] 5)) t := fun t kt => pre4 t (st5 _ kt)
  have pre13 : ∀ t, Steps p.tables e below (T5.setTop (mkF m 11 #[.val (.ref a1), .val (.ref nb), .val (.double dv), .second, .val (.int iv)] [(.double dv), (.ref a1)])) t → Steps p.tables e below (s₁.setTop (entryFrame m #[(.ref a1), (.ref nb), (.double dv), (.int iv)] 5)) t := fun t kt => pre12 t (by
    refine XS.aloadN X5.here hx rfl (hb hby d5_9) rfl rfl ?_
    show Steps p.tables e below (T5.setTop (mkF m 10 #[.val (.ref a1), .val (.ref nb), .val (.double dv), .second, .val (.int iv)] [(.ref a1)])) _
    refine own_dloadN X5.here hx rfl (hb hby d5_10) rfl ?_
    show Steps p.tables e below (T5.setTop (mkF m 11 #[.val (.ref a1), .val (.ref nb), .val (.double dv), .second, .val (.int iv)] [(.double dv), (.ref a1)])) _
    exact kt)
  obtain ⟨T14, h14, X14, e14, W14, st14⟩ := putF X5 hx hZ hown (host := "") (Or.inl (hw _ (List.mem_of_getElem? (i := 39) rfl))) Via.refl e5 f8 f6 (Or.inr ⟨(hw _ (List.mem_of_getElem? (i := 40) rfl)), rfl, hnm⟩) (hw _ (List.mem_of_getElem? (i := 27) rfl)) (ty := .double) (by decide) rfl rfl (g := (mkF m 11 #[.val (.ref a1), .val (.ref nb), .val (.double dv), .second, .val (.int iv)] [(.double dv), (.ref a1)])) rfl rfl (hb hby d5_11)
  have f15 := (f6).wr W14
  have f16 := (f7).wr W14 (Or.inl (List.mem_singleton.mpr rfl))
  have f17 := (f9).other W14 (Or.inr (slot_ne (Or.inr (hw _ (List.mem_of_getElem? (i := 42) rfl))) (Or.inr (hw _ (List.mem_of_getElem? (i := 40) rfl))) (by decide) (t := .int) (t' := .double) (by decide) (by decide)))
  have f18 := (Fw5).other W14 (Or.inr (slot_ne (Or.inr (hw _ (List.mem_of_getElem? (i := 38) rfl))) (Or.inr (hw _ (List.mem_of_getElem? (i := 40) rfl))) (by decide) (t := (.object "java/lang/String")) (t' := .double) (by decide) (by decide)))
  have Fw14 := (f8).same W14
  have Nf19 := Fr.snoc X14 Nf10 g1
  have Zf20 : n0 ≤ h14.size := Nat.le_trans Zf11 (Keep.of_wr W14).1
  have pre21 : ∀ t, Steps p.tables e below (T14.setTop (mkF m 14 #[.val (.ref a1), .val (.ref nb), .val (.double dv), .second, .val (.int iv)] [])) t → Steps p.tables e below (s₁.setTop (entryFrame m #[(.ref a1), (.ref nb), (.double dv), (.int iv)] 5)) t := fun t kt => pre13 t (st14 _ kt)
  have pre22 : ∀ t, Steps p.tables e below (T14.setTop (mkF m 17 #[.val (.ref a1), .val (.ref nb), .val (.double dv), .second, .val (.int iv)] [(.int iv), (.ref a1)])) t → Steps p.tables e below (s₁.setTop (entryFrame m #[(.ref a1), (.ref nb), (.double dv), (.int iv)] 5)) t := fun t kt => pre21 t (by
    refine XS.aloadN X14.here hx rfl (hb hby d5_14) rfl rfl ?_
    show Steps p.tables e below (T14.setTop (mkF m 15 #[.val (.ref a1), .val (.ref nb), .val (.double dv), .second, .val (.int iv)] [(.ref a1)])) _
    refine XS.iload X14.here hx rfl (hb hby d5_15) rfl ?_
    show Steps p.tables e below (T14.setTop (mkF m 17 #[.val (.ref a1), .val (.ref nb), .val (.double dv), .second, .val (.int iv)] [(.int iv), (.ref a1)])) _
    exact kt)
  obtain ⟨T23, h23, X23, e23, W23, st23⟩ := putF X14 hx hZ hown (host := "") (Or.inl (hw _ (List.mem_of_getElem? (i := 41) rfl))) Via.refl e14 f17 f15 (Or.inr ⟨(hw _ (List.mem_of_getElem? (i := 42) rfl)), rfl, hnm⟩) (hw _ (List.mem_of_getElem? (i := 27) rfl)) (ty := .int) (by decide) rfl rfl (g := (mkF m 17 #[.val (.ref a1), .val (.ref nb), .val (.double dv), .second, .val (.int iv)] [(.int iv), (.ref a1)])) rfl rfl (hb hby d5_17)
  have f24 := (f15).wr W23
  have f25 := (f16).wr W23 (Or.inl (List.mem_singleton.mpr rfl))
  have f26 := (f18).other W23 (Or.inr (slot_ne (Or.inr (hw _ (List.mem_of_getElem? (i := 38) rfl))) (Or.inr (hw _ (List.mem_of_getElem? (i := 42) rfl))) (by decide) (t := (.object "java/lang/String")) (t' := .int) (by decide) (by decide)))
  have f27 := (Fw14).other W23 (Or.inr (slot_ne (Or.inr (hw _ (List.mem_of_getElem? (i := 40) rfl))) (Or.inr (hw _ (List.mem_of_getElem? (i := 42) rfl))) (by decide) (t := .double) (t' := .int) (by decide) (by decide)))
  have Fw23 := (f17).same W23
  have Nf28 := Fr.snoc X23 Nf19 g1
  have Zf29 : n0 ≤ h23.size := Nat.le_trans Zf20 (Keep.of_wr W23).1
  have pre30 : ∀ t, Steps p.tables e below (T23.setTop (mkF m 20 #[.val (.ref a1), .val (.ref nb), .val (.double dv), .second, .val (.int iv)] [])) t → Steps p.tables e below (s₁.setTop (entryFrame m #[(.ref a1), (.ref nb), (.double dv), (.int iv)] 5)) t := fun t kt => pre22 t (st23 _ kt)
  obtain ⟨fs, hr, hrun, hended, hW, hsame⟩ := X23.leave (v := none) (fun _ => rfl)
  refine ⟨_, _, pre30 _ ?_, hrun, hended, _, _, rfl, ?_, ⟨_, rfl⟩, hW, hsame.mono (by decide) (by decide)⟩
  · exact X23.returnOut hx Bd.returns (hb hby d5_20) hr
  · show QM Z a1 (.ref nb) dv iv h0 n0 _ T23.heap _
    rw [e23]
    exact ⟨rfl, Nf28, f25, f24, f26, f27, Fw23⟩
theorem ef_rmCR (m : MethodId) (x0 : Addr) (x1 : Int64) : entryFrame m #[(.ref x0), (.long x1)] 3 = mkF m 0 #[.val (.ref x0), .val (.long x1), .second] [] := by first | (simp [entryFrame, mkF, argsToLocals, Value.category]; done) | rfl
theorem d4_0 : decode prog_9_method_2_code 0 = .ok (.new 8, 3) := by decide +kernel
theorem d4_3 : decode prog_9_method_2_code 3 = .ok (.dup, 1) := by decide +kernel
theorem d4_4 : decode prog_9_method_2_code 4 = .ok (.aload_n 0, 1) := by decide +kernel
theorem d4_5 : decode prog_9_method_2_code 5 = .ok (.lload_n 1, 1) := by decide +kernel
theorem d4_6 : decode prog_9_method_2_code 6 = .ok (.l2d, 1) := by decide +kernel
theorem d4_7 : decode prog_9_method_2_code 7 = .ok (.iconst 0, 1) := by decide +kernel
theorem pd__28Ljava_2flang_2fString_3bDI_29V : parseMethodDescriptor "(Ljava/lang/String;DI)V" = some ⟨[(.object "java/lang/String"), .double, .int], none⟩ := by decide +kernel
theorem d4_8 : decode prog_9_method_2_code 8 = .ok (.invokespecial 21, 3) := by decide +kernel
theorem d4_11 : decode prog_9_method_2_code 11 = .ok (.areturn, 1) := by decide +kernel
set_option maxRecDepth 65536 in
set_option maxHeartbeats 40000000 in
theorem rmCR (l : Launch) (Z : State) (a0 : Array Value) (hw : ∀ d ∈ tables_1, d.before a0 Z = true) (ws : List Jvm.Cond) (nb : Addr) (cc : Int64) (h0 : Heap) (n0 : Nat) (Z0 : n0 ≤ h0.size)  :
    MetFree l (⟨"com/example/hoopoe/hoopoe/core/eval/Measure", "count", "(Ljava/lang/String;J)Lcom/example/hoopoe/hoopoe/core/eval/Measure;"⟩ : MethodName) (head1 (Jvm.Cond.code (⟨"com/example/hoopoe/hoopoe/core/eval/Measure", "count", "(Ljava/lang/String;J)Lcom/example/hoopoe/hoopoe/core/eval/Measure;"⟩ : MethodName) prog_9_method_2_code 3 (some (.object "com/example/hoopoe/hoopoe/core/eval/Measure")) :: ws) ({ frames := 3, cells := 1, slots := 3, locals := 41 } : Room)) (fun a U => a = #[(.ref nb), (.long cc)] ∧ Z.Warmed39 U.vm ∧ U.heap = h0) (fun _ _ _ _ _ => True) (fun _ U o U' => ∃ v L, o = .returned v ∧ QC Z (.ref nb) cc h0 n0 v U'.heap L ∧ FrameEnd U o U' L ({ frames := 3, cells := 1, slots := 3, locals := 41 } : Room).cells ({ frames := 3, cells := 1, slots := 3, locals := 41 } : Room).slots) := by
  refine MetFree.of_bodySF (plainFor_of_name pn_com_example_hoopoe_hoopoe_core_eval_Measure) hisR ?_
  intro p e s m args below meth c s₁ Bd hml0 hP hK
  obtain ⟨rfl, hZ, hh⟩ := hP
  have hx := Bd.exec
  have hby := Bd.bytes
  have hml : c.maxLocals = 3 := hml0
  have hown : s.vm.findClass "com/example/hoopoe/hoopoe/core/eval/Measure" = some m.cls := findClass_of_methodNamed Bd.named
  have hnm := (name_of_methodNamed Bd.named Bd.method).1
  have X0 : Stand p l e ({ frames := 3, cells := 1, slots := 3, locals := 41 } : Room) s m #[(.ref nb), (.long cc)] below meth c s₁ [] 0 0 := Stand.of_body Bd
  have e0 : s₁.heap = h0 := by rw [← hh, Bd.state]; rfl
  have N0 := Fr.nil n0
  have pre0 : ∀ t, Steps p.tables e below (s₁.setTop (mkF m 0 #[.val (.ref nb), .val (.long cc), .second] [])) t → Steps p.tables e below (s₁.setTop (entryFrame m #[(.ref nb), (.long cc)] 3)) t := fun t kt => castTop (ef_rmCR m nb cc) kt
  obtain ⟨T1, h1, X1, e1, E1, A1, D1, -, st1⟩ := newO X0 hx hZ hown (hw _ (List.mem_of_getElem? (i := 26) rfl)) (hw _ (List.mem_of_getElem? (i := 27) rfl)) (hw _ (List.mem_of_getElem? (i := 24) rfl)) e0 (g := (mkF m 0 #[.val (.ref nb), .val (.long cc), .second] [])) rfl (hb hby d4_0) (by decide) (by decide)
  obtain ⟨b1, g1⟩ : ∃ z, z = h0.size := ⟨_, rfl⟩
  rw [← g1] at A1 D1 st1
  have gz2 : n0 ≤ b1 := Nat.le_trans Z0 (Nat.le_of_eq g1.symm)
  have f4 := ((Keep.refl h0 [])).ext E1
  have Zf5 : n0 ≤ h1.size := Nat.le_trans Z0 E1.1
  have szb : h0.size ≤ b1 := Nat.le_of_eq g1.symm
  have F1_name : Fld Z h1 b1 "com/example/hoopoe/hoopoe/core/eval/Measure" "name" "Ljava/lang/String;" .null := D1 (Or.inr (hw _ (List.mem_of_getElem? (i := 38) rfl))) (ty := (.object "java/lang/String")) (by decide)
  have F1_value : Fld Z h1 b1 "com/example/hoopoe/hoopoe/core/eval/Measure" "value" "D" (.double (0 : UInt64)) := D1 (Or.inr (hw _ (List.mem_of_getElem? (i := 40) rfl))) (ty := .double) (by decide)
  have F1_decimals : Fld Z h1 b1 "com/example/hoopoe/hoopoe/core/eval/Measure" "decimals" "I" (.int (0 : Int32)) := D1 (Or.inr (hw _ (List.mem_of_getElem? (i := 42) rfl))) (ty := .int) (by decide)
  have pre6 : ∀ t, Steps p.tables e below (T1.setTop (mkF m 3 #[.val (.ref nb), .val (.long cc), .second] [(.ref b1)])) t → Steps p.tables e below (s₁.setTop (entryFrame m #[(.ref nb), (.long cc)] 3)) t := fun t kt => pre0 t (st1 _ kt)
  have pre7 : ∀ t, Steps p.tables e below (T1.setTop (mkF m 8 #[.val (.ref nb), .val (.long cc), .second] [(.int (0 : Int32)), (.double (FP.l2d cc)), (.ref nb), (.ref b1), (.ref b1)])) t → Steps p.tables e below (s₁.setTop (entryFrame m #[(.ref nb), (.long cc)] 3)) t := fun t kt => pre6 t (by
    refine XS.dup X1.here hx rfl (hb hby d4_3) rfl rfl ?_
    show Steps p.tables e below (T1.setTop (mkF m 4 #[.val (.ref nb), .val (.long cc), .second] [(.ref b1), (.ref b1)])) _
    refine XS.aloadN X1.here hx rfl (hb hby d4_4) rfl rfl ?_
    show Steps p.tables e below (T1.setTop (mkF m 5 #[.val (.ref nb), .val (.long cc), .second] [(.ref nb), (.ref b1), (.ref b1)])) _
    refine XS.lloadN X1.here hx rfl (hb hby d4_5) rfl ?_
    show Steps p.tables e below (T1.setTop (mkF m 6 #[.val (.ref nb), .val (.long cc), .second] [(.long cc), (.ref nb), (.ref b1), (.ref b1)])) _
    refine own_l2d X1.here hx rfl (hb hby d4_6) rfl ?_
    show Steps p.tables e below (T1.setTop (mkF m 7 #[.val (.ref nb), .val (.long cc), .second] [(.double (FP.l2d cc)), (.ref nb), (.ref b1), (.ref b1)])) _
    refine XS.iconst X1.here hx rfl (hb hby d4_7) ?_
    show Steps p.tables e below (T1.setTop (mkF m 8 #[.val (.ref nb), .val (.long cc), .second] [(.int (0 : Int32)), (.double (FP.l2d cc)), (.ref nb), (.ref b1), (.ref b1)])) _
    exact kt)
  obtain ⟨_, _, ⟨T8, L8, k8, n8⟩, -, X8, ⟨Lc8, hQ8, l8, y8, z8⟩, st8⟩ := X1.specialBack hx (y := (⟨"com/example/hoopoe/hoopoe/core/eval/Measure", "<init>", "(Ljava/lang/String;DI)V"⟩ : MethodName)) rfl hown (mvT hZ (hw _ (List.mem_of_getElem? (i := 28) rfl))) (mvT hZ (hw _ (List.mem_of_getElem? (i := 29) rfl))) (mvT hZ (hw _ (List.mem_of_getElem? (i := 30) rfl))) (by decide) (backOf (W := 1) (rmMR l Z a0 hw [] b1 nb (FP.l2d cc) (0 : Int32) _ _ _ h1 n0 Zf5 A1 gz2 F1_name F1_value F1_decimals) hZ (hw _ (List.mem_of_getElem? (i := 30) rfl)) (hw _ (List.mem_of_getElem? (i := 24) rfl)) (by decide) (by decide)) (g := (mkF m 8 #[.val (.ref nb), .val (.long cc), .second] [(.int (0 : Int32)), (.double (FP.l2d cc)), (.ref nb), (.ref b1), (.ref b1)])) rfl (by rw [hml]; rfl) (Steps.refl _) (a := b1) (argsL := [(.ref nb), (.double (FP.l2d cc)), (.int (0 : Int32))]) (rest := [(.ref b1)]) (lenOf pd__28Ljava_2flang_2fString_3bDI_29V rfl) rfl (by show 2 * 0 + _ ≤ _; exact Nat.le_of_eq rfl) (hb hby d4_8) (fun _ _ => ⟨rfl, e1, (by decide : 1 + 0 ≤ _), (by decide : 3 + 0 ≤ _)⟩)
  dsimp only [Pt.U, Pt.locs, Pt.cells, Pt.slots] at X8 l8 y8 z8 st8 hQ8
  subst l8 y8 z8
  obtain ⟨rfl, N8q, K8, E8x, Fn8, Fv8, Fd8⟩ := hQ8
  have N8 := Fr.app N0 N8q
  have f9 := (f4).trans K8 (own_all1 ((Or.inr (Nat.le_trans ((Keep.refl h0 [])).1 (Nat.le_of_eq g1.symm)))))
  have f10 := (A1).keep K8
  have Zf11 : n0 ≤ T8.heap.size := Nat.le_trans Zf5 (K8).1
  have pre12 : ∀ t, Steps p.tables e below (T8.setTop (mkF m 11 #[.val (.ref nb), .val (.long cc), .second] [(.ref b1)])) t → Steps p.tables e below (s₁.setTop (entryFrame m #[(.ref nb), (.long cc)] 3)) t := fun t kt => pre7 t (st8.trans kt)
  obtain ⟨fs, hr, hrun, hended, hW, hsame⟩ := X8.leave (v := (some (.ref b1))) (fun h => by rw [Bd.returns] at h; cases h)
  refine ⟨_, _, pre12 _ ?_, hrun, hended, _, _, rfl, ?_, ⟨_, rfl⟩, hW, hsame.mono (by decide) (by decide)⟩
  · exact retOut X8 hx Bd.returns rfl (Or.inr (Or.inr (Or.inr (Or.inr ⟨rfl, rfl, rfl⟩)))) (hb hby d4_11) hr
  · show QC Z (.ref nb) cc h0 n0 _ T8.heap _
    exact ⟨_, rfl, N8, f9, gz2, szb, f10, Fn8, Fv8, Fd8⟩
def QNR (Z : State) (nb : Addr) (h0 : Heap) (n0 : Nat) (v : Option Value) (h : Heap) (L : List Loc) : Prop := v = some (.ref nb) ∧ Fr n0 L ∧ h = h0
theorem ef_rmNR (m : MethodId) (x0 : Addr) : entryFrame m #[(.ref x0)] 1 = mkF m 0 #[.val (.ref x0)] [] := by first | (simp [entryFrame, mkF, argsToLocals, Value.category]; done) | rfl
theorem d7_0 : decode prog_9_method_8_code 0 = .ok (.aload_n 0, 1) := by decide +kernel
theorem d7_1 : decode prog_9_method_8_code 1 = .ok (.getfield 7, 3) := by decide +kernel
theorem d7_4 : decode prog_9_method_8_code 4 = .ok (.areturn, 1) := by decide +kernel
set_option maxRecDepth 65536 in
set_option maxHeartbeats 40000000 in
theorem rmNR (l : Launch) (Z : State) (a0 : Array Value) (hw : ∀ d ∈ tables_1, d.before a0 Z = true) (ws : List Jvm.Cond) (a1 nb : Addr) (h0 : Heap) (n0 : Nat) (Z0 : n0 ≤ h0.size) (F1 : Fld Z h0 a1 "com/example/hoopoe/hoopoe/core/eval/Measure" "name" "Ljava/lang/String;" (.ref nb)) :
    MetFree l (⟨"com/example/hoopoe/hoopoe/core/eval/Measure", "name", "()Ljava/lang/String;"⟩ : MethodName) (head1 (Jvm.Cond.code (⟨"com/example/hoopoe/hoopoe/core/eval/Measure", "name", "()Ljava/lang/String;"⟩ : MethodName) prog_9_method_8_code 1 (some (.object "java/lang/String")) :: ws) ({ frames := 0, cells := 0, slots := 0, locals := 0 } : Room)) (fun a U => a = #[(.ref a1)] ∧ Z.Warmed39 U.vm ∧ U.heap = h0) (fun _ _ _ _ _ => True) (fun _ U o U' => ∃ v L, o = .returned v ∧ QNR Z nb h0 n0 v U'.heap L ∧ FrameEnd U o U' L ({ frames := 0, cells := 0, slots := 0, locals := 0 } : Room).cells ({ frames := 0, cells := 0, slots := 0, locals := 0 } : Room).slots) := by
  refine MetFree.of_bodySF (plainFor_of_name pn_com_example_hoopoe_hoopoe_core_eval_Measure) hisR ?_
  intro p e s m args below meth c s₁ Bd hml0 hP hK
  obtain ⟨rfl, hZ, hh⟩ := hP
  have hx := Bd.exec
  have hby := Bd.bytes
  have hml : c.maxLocals = 1 := hml0
  have hown : s.vm.findClass "com/example/hoopoe/hoopoe/core/eval/Measure" = some m.cls := findClass_of_methodNamed Bd.named
  have hnm := (name_of_methodNamed Bd.named Bd.method).1
  have X0 : Stand p l e ({ frames := 0, cells := 0, slots := 0, locals := 0 } : Room) s m #[(.ref a1)] below meth c s₁ [] 0 0 := Stand.of_body Bd
  have e0 : s₁.heap = h0 := by rw [← hh, Bd.state]; rfl
  have N0 := Fr.nil n0
  have pre0 : ∀ t, Steps p.tables e below (s₁.setTop (mkF m 0 #[.val (.ref a1)] [])) t → Steps p.tables e below (s₁.setTop (entryFrame m #[(.ref a1)] 1)) t := fun t kt => castTop (ef_rmNR m a1) kt
  have pre1 : ∀ t, Steps p.tables e below (s₁.setTop (mkF m 1 #[.val (.ref a1)] [(.ref a1)])) t → Steps p.tables e below (s₁.setTop (entryFrame m #[(.ref a1)] 1)) t := fun t kt => pre0 t (by
    refine XS.aloadN X0.here hx rfl (hb hby d7_0) rfl rfl ?_
    show Steps p.tables e below (s₁.setTop (mkF m 1 #[.val (.ref a1)] [(.ref a1)])) _
    exact kt)
  obtain ⟨T2, X2, e2, st2⟩ := getF X0 hx hZ hown (host := "") (Or.inl (hw _ (List.mem_of_getElem? (i := 37) rfl))) Via.refl e0 F1 (g := (mkF m 1 #[.val (.ref a1)] [(.ref a1)])) rfl rfl (hb hby d7_1)
  have pre3 : ∀ t, Steps p.tables e below (T2.setTop (mkF m 4 #[.val (.ref a1)] [(.ref nb)])) t → Steps p.tables e below (s₁.setTop (entryFrame m #[(.ref a1)] 1)) t := fun t kt => pre1 t (st2 _ kt)
  obtain ⟨fs, hr, hrun, hended, hW, hsame⟩ := X2.leave (v := (some (.ref nb))) (fun h => by rw [Bd.returns] at h; cases h)
  refine ⟨_, _, pre3 _ ?_, hrun, hended, _, _, rfl, ?_, ⟨_, rfl⟩, hW, hsame.mono (by decide) (by decide)⟩
  · exact retOut X2 hx Bd.returns rfl (Or.inr (Or.inr (Or.inr (Or.inr ⟨rfl, rfl, rfl⟩)))) (hb hby d7_4) hr
  · show QNR Z nb h0 n0 _ T2.heap _
    rw [e2]
    exact ⟨rfl, N0, rfl⟩
theorem ef_rmMN (m : MethodId) (x0 : Addr) (x2 : UInt64) (x3 : Int32) : entryFrame m #[(.ref x0), .null, (.double x2), (.int x3)] 5 = mkF m 0 #[.val (.ref x0), .val .null, .val (.double x2), .second, .val (.int x3)] [] := by first | (simp [entryFrame, mkF, argsToLocals, Value.category]; done) | rfl
set_option maxRecDepth 65536 in
set_option maxHeartbeats 40000000 in
theorem rmMN (l : Launch) (Z : State) (a0 : Array Value) (hw : ∀ d ∈ tables_1, d.before a0 Z = true) (ws : List Jvm.Cond) (a1 : Addr) (dv : UInt64) (iv : Int32) (u1 u2 u3 : Value) (h0 : Heap) (n0 : Nat) (Z0 : n0 ≤ h0.size) (E1 : Exa Z h0 a1 "com/example/hoopoe/hoopoe/core/eval/Measure") (g1 : n0 ≤ a1) (F1 : Fld Z h0 a1 "com/example/hoopoe/hoopoe/core/eval/Measure" "name" "Ljava/lang/String;" u1) (F2 : Fld Z h0 a1 "com/example/hoopoe/hoopoe/core/eval/Measure" "value" "D" u2) (F3 : Fld Z h0 a1 "com/example/hoopoe/hoopoe/core/eval/Measure" "decimals" "I" u3) :
    MetFree l (⟨"com/example/hoopoe/hoopoe/core/eval/Measure", "<init>", "(Ljava/lang/String;DI)V"⟩ : MethodName) (head1 (Jvm.Cond.code (⟨"com/example/hoopoe/hoopoe/core/eval/Measure", "<init>", "(Ljava/lang/String;DI)V"⟩ : MethodName) prog_9_method_1_code 5 none :: ws) ({ frames := 2, cells := 0, slots := 0, locals := 24 } : Room)) (fun a U => a = #[(.ref a1), .null, (.double dv), (.int iv)] ∧ Z.Warmed39 U.vm ∧ U.heap = h0) (fun _ _ _ _ _ => True) (fun _ U o U' => ∃ v L, o = .returned v ∧ QM Z a1 .null dv iv h0 n0 v U'.heap L ∧ FrameEnd U o U' L ({ frames := 2, cells := 0, slots := 0, locals := 24 } : Room).cells ({ frames := 2, cells := 0, slots := 0, locals := 24 } : Room).slots) := by
  refine MetFree.of_bodySF (plainFor_of_name pn_com_example_hoopoe_hoopoe_core_eval_Measure) hisR ?_
  intro p e s m args below meth c s₁ Bd hml0 hP hK
  obtain ⟨rfl, hZ, hh⟩ := hP
  have hx := Bd.exec
  have hby := Bd.bytes
  have hml : c.maxLocals = 5 := hml0
  have hown : s.vm.findClass "com/example/hoopoe/hoopoe/core/eval/Measure" = some m.cls := findClass_of_methodNamed Bd.named
  have hnm := (name_of_methodNamed Bd.named Bd.method).1
  have X0 : Stand p l e ({ frames := 2, cells := 0, slots := 0, locals := 24 } : Room) s m #[(.ref a1), .null, (.double dv), (.int iv)] below meth c s₁ [] 0 0 := Stand.of_body Bd
  have e0 : s₁.heap = h0 := by rw [← hh, Bd.state]; rfl
  have N0 := Fr.nil n0
  have pre0 : ∀ t, Steps p.tables e below (s₁.setTop (mkF m 0 #[.val (.ref a1), .val .null, .val (.double dv), .second, .val (.int iv)] [])) t → Steps p.tables e below (s₁.setTop (entryFrame m #[(.ref a1), .null, (.double dv), (.int iv)] 5)) t := fun t kt => castTop (ef_rmMN m a1 dv iv) kt
  have pre1 : ∀ t, Steps p.tables e below (s₁.setTop (mkF m 1 #[.val (.ref a1), .val .null, .val (.double dv), .second, .val (.int iv)] [(.ref a1)])) t → Steps p.tables e below (s₁.setTop (entryFrame m #[(.ref a1), .null, (.double dv), (.int iv)] 5)) t := fun t kt => pre0 t (by
    refine XS.aloadN X0.here hx rfl (hb hby d5_0) rfl rfl ?_
    show Steps p.tables e below (s₁.setTop (mkF m 1 #[.val (.ref a1), .val .null, .val (.double dv), .second, .val (.int iv)] [(.ref a1)])) _
    exact kt)
  obtain ⟨_, _, ⟨T2, L2, k2, n2⟩, -, X2, ⟨Lc2, hQ2, l2, y2, z2⟩, st2⟩ := X0.specialBack hx (y := (⟨"java/lang/Record", "<init>", "()V"⟩ : MethodName)) rfl hown (mvT hZ (hw _ (List.mem_of_getElem? (i := 31) rfl))) (mvT hZ (hw _ (List.mem_of_getElem? (i := 32) rfl))) (mvT hZ (hw _ (List.mem_of_getElem? (i := 35) rfl))) (by decide) (backOf (W := 0) (rmR l Z a0 hw [] a1 h0 n0 Z0) hZ (hw _ (List.mem_of_getElem? (i := 35) rfl)) (hw _ (List.mem_of_getElem? (i := 34) rfl)) (by decide) (by decide)) (g := (mkF m 1 #[.val (.ref a1), .val .null, .val (.double dv), .second, .val (.int iv)] [(.ref a1)])) rfl (by rw [hml]; rfl) (Steps.refl _) (a := a1) (argsL := []) (rest := []) (lenOf pd__28_29V rfl) rfl (by show 2 * 0 + _ ≤ _; exact Nat.le_of_eq rfl) (hb hby d5_1) (fun _ _ => ⟨rfl, e0, (by decide : 0 + 0 ≤ _), (by decide : 0 + 0 ≤ _)⟩)
  dsimp only [Pt.U, Pt.locs, Pt.cells, Pt.slots] at X2 l2 y2 z2 st2 hQ2
  subst l2 y2 z2
  obtain ⟨rfl, N2q, e2q⟩ := hQ2
  have N2 := Fr.app N0 N2q
  have pre3 : ∀ t, Steps p.tables e below (T2.setTop (mkF m 4 #[.val (.ref a1), .val .null, .val (.double dv), .second, .val (.int iv)] [])) t → Steps p.tables e below (s₁.setTop (entryFrame m #[(.ref a1), .null, (.double dv), (.int iv)] 5)) t := fun t kt => pre1 t (st2.trans kt)
  have pre4 : ∀ t, Steps p.tables e below (T2.setTop (mkF m 6 #[.val (.ref a1), .val .null, .val (.double dv), .second, .val (.int iv)] [.null, (.ref a1)])) t → Steps p.tables e below (s₁.setTop (entryFrame m #[(.ref a1), .null, (.double dv), (.int iv)] 5)) t := fun t kt => pre3 t (by
    refine XS.aloadN X2.here hx rfl (hb hby d5_4) rfl rfl ?_
    show Steps p.tables e below (T2.setTop (mkF m 5 #[.val (.ref a1), .val .null, .val (.double dv), .second, .val (.int iv)] [(.ref a1)])) _
    refine XS.aloadN X2.here hx rfl (hb hby d5_5) rfl rfl ?_
    show Steps p.tables e below (T2.setTop (mkF m 6 #[.val (.ref a1), .val .null, .val (.double dv), .second, .val (.int iv)] [.null, (.ref a1)])) _
    exact kt)
  obtain ⟨T5, h5, X5, e5, W5, st5⟩ := putF X2 hx hZ hown (host := "") (Or.inl (hw _ (List.mem_of_getElem? (i := 37) rfl))) Via.refl e2q F1 E1 (Or.inr ⟨(hw _ (List.mem_of_getElem? (i := 38) rfl)), rfl, hnm⟩) (hw _ (List.mem_of_getElem? (i := 27) rfl)) (ty := (.object "java/lang/String")) (by decide) rfl rfl (g := (mkF m 6 #[.val (.ref a1), .val .null, .val (.double dv), .second, .val (.int iv)] [.null, (.ref a1)])) rfl rfl (hb hby d5_6)
  have f6 := (E1).wr W5
  have f7 := ((Keep.refl h0 [a1])).wr W5 (Or.inl (List.mem_singleton.mpr rfl))
  have f8 := (F2).other W5 (Or.inr (slot_ne (Or.inr (hw _ (List.mem_of_getElem? (i := 40) rfl))) (Or.inr (hw _ (List.mem_of_getElem? (i := 38) rfl))) (by decide) (t := .double) (t' := (.object "java/lang/String")) (by decide) (by decide)))
  have f9 := (F3).other W5 (Or.inr (slot_ne (Or.inr (hw _ (List.mem_of_getElem? (i := 42) rfl))) (Or.inr (hw _ (List.mem_of_getElem? (i := 38) rfl))) (by decide) (t := .int) (t' := (.object "java/lang/String")) (by decide) (by decide)))
  have Fw5 := (F1).same W5
  have Nf10 := Fr.snoc X5 N2 g1
  have Zf11 : n0 ≤ h5.size := Nat.le_trans Z0 (Keep.of_wr W5).1
  have pre12 : ∀ t, Steps p.tables e below (T5.setTop (mkF m 9 #[.val (.ref a1), .val .null, .val (.double dv), .second, .val (.int iv)] [])) t → Steps p.tables e below (s₁.setTop (entryFrame m #[(.ref a1), .null, (.double dv), (.int iv)] 5)) t := fun t kt => pre4 t (st5 _ kt)
  have pre13 : ∀ t, Steps p.tables e below (T5.setTop (mkF m 11 #[.val (.ref a1), .val .null, .val (.double dv), .second, .val (.int iv)] [(.double dv), (.ref a1)])) t → Steps p.tables e below (s₁.setTop (entryFrame m #[(.ref a1), .null, (.double dv), (.int iv)] 5)) t := fun t kt => pre12 t (by
    refine XS.aloadN X5.here hx rfl (hb hby d5_9) rfl rfl ?_
    show Steps p.tables e below (T5.setTop (mkF m 10 #[.val (.ref a1), .val .null, .val (.double dv), .second, .val (.int iv)] [(.ref a1)])) _
    refine own_dloadN X5.here hx rfl (hb hby d5_10) rfl ?_
    show Steps p.tables e below (T5.setTop (mkF m 11 #[.val (.ref a1), .val .null, .val (.double dv), .second, .val (.int iv)] [(.double dv), (.ref a1)])) _
    exact kt)
  obtain ⟨T14, h14, X14, e14, W14, st14⟩ := putF X5 hx hZ hown (host := "") (Or.inl (hw _ (List.mem_of_getElem? (i := 39) rfl))) Via.refl e5 f8 f6 (Or.inr ⟨(hw _ (List.mem_of_getElem? (i := 40) rfl)), rfl, hnm⟩) (hw _ (List.mem_of_getElem? (i := 27) rfl)) (ty := .double) (by decide) rfl rfl (g := (mkF m 11 #[.val (.ref a1), .val .null, .val (.double dv), .second, .val (.int iv)] [(.double dv), (.ref a1)])) rfl rfl (hb hby d5_11)
  have f15 := (f6).wr W14
  have f16 := (f7).wr W14 (Or.inl (List.mem_singleton.mpr rfl))
  have f17 := (f9).other W14 (Or.inr (slot_ne (Or.inr (hw _ (List.mem_of_getElem? (i := 42) rfl))) (Or.inr (hw _ (List.mem_of_getElem? (i := 40) rfl))) (by decide) (t := .int) (t' := .double) (by decide) (by decide)))
  have f18 := (Fw5).other W14 (Or.inr (slot_ne (Or.inr (hw _ (List.mem_of_getElem? (i := 38) rfl))) (Or.inr (hw _ (List.mem_of_getElem? (i := 40) rfl))) (by decide) (t := (.object "java/lang/String")) (t' := .double) (by decide) (by decide)))
  have Fw14 := (f8).same W14
  have Nf19 := Fr.snoc X14 Nf10 g1
  have Zf20 : n0 ≤ h14.size := Nat.le_trans Zf11 (Keep.of_wr W14).1
  have pre21 : ∀ t, Steps p.tables e below (T14.setTop (mkF m 14 #[.val (.ref a1), .val .null, .val (.double dv), .second, .val (.int iv)] [])) t → Steps p.tables e below (s₁.setTop (entryFrame m #[(.ref a1), .null, (.double dv), (.int iv)] 5)) t := fun t kt => pre13 t (st14 _ kt)
  have pre22 : ∀ t, Steps p.tables e below (T14.setTop (mkF m 17 #[.val (.ref a1), .val .null, .val (.double dv), .second, .val (.int iv)] [(.int iv), (.ref a1)])) t → Steps p.tables e below (s₁.setTop (entryFrame m #[(.ref a1), .null, (.double dv), (.int iv)] 5)) t := fun t kt => pre21 t (by
    refine XS.aloadN X14.here hx rfl (hb hby d5_14) rfl rfl ?_
    show Steps p.tables e below (T14.setTop (mkF m 15 #[.val (.ref a1), .val .null, .val (.double dv), .second, .val (.int iv)] [(.ref a1)])) _
    refine XS.iload X14.here hx rfl (hb hby d5_15) rfl ?_
    show Steps p.tables e below (T14.setTop (mkF m 17 #[.val (.ref a1), .val .null, .val (.double dv), .second, .val (.int iv)] [(.int iv), (.ref a1)])) _
    exact kt)
  obtain ⟨T23, h23, X23, e23, W23, st23⟩ := putF X14 hx hZ hown (host := "") (Or.inl (hw _ (List.mem_of_getElem? (i := 41) rfl))) Via.refl e14 f17 f15 (Or.inr ⟨(hw _ (List.mem_of_getElem? (i := 42) rfl)), rfl, hnm⟩) (hw _ (List.mem_of_getElem? (i := 27) rfl)) (ty := .int) (by decide) rfl rfl (g := (mkF m 17 #[.val (.ref a1), .val .null, .val (.double dv), .second, .val (.int iv)] [(.int iv), (.ref a1)])) rfl rfl (hb hby d5_17)
  have f24 := (f15).wr W23
  have f25 := (f16).wr W23 (Or.inl (List.mem_singleton.mpr rfl))
  have f26 := (f18).other W23 (Or.inr (slot_ne (Or.inr (hw _ (List.mem_of_getElem? (i := 38) rfl))) (Or.inr (hw _ (List.mem_of_getElem? (i := 42) rfl))) (by decide) (t := (.object "java/lang/String")) (t' := .int) (by decide) (by decide)))
  have f27 := (Fw14).other W23 (Or.inr (slot_ne (Or.inr (hw _ (List.mem_of_getElem? (i := 40) rfl))) (Or.inr (hw _ (List.mem_of_getElem? (i := 42) rfl))) (by decide) (t := .double) (t' := .int) (by decide) (by decide)))
  have Fw23 := (f17).same W23
  have Nf28 := Fr.snoc X23 Nf19 g1
  have Zf29 : n0 ≤ h23.size := Nat.le_trans Zf20 (Keep.of_wr W23).1
  have pre30 : ∀ t, Steps p.tables e below (T23.setTop (mkF m 20 #[.val (.ref a1), .val .null, .val (.double dv), .second, .val (.int iv)] [])) t → Steps p.tables e below (s₁.setTop (entryFrame m #[(.ref a1), .null, (.double dv), (.int iv)] 5)) t := fun t kt => pre22 t (st23 _ kt)
  obtain ⟨fs, hr, hrun, hended, hW, hsame⟩ := X23.leave (v := none) (fun _ => rfl)
  refine ⟨_, _, pre30 _ ?_, hrun, hended, _, _, rfl, ?_, ⟨_, rfl⟩, hW, hsame.mono (by decide) (by decide)⟩
  · exact X23.returnOut hx Bd.returns (hb hby d5_20) hr
  · show QM Z a1 .null dv iv h0 n0 _ T23.heap _
    rw [e23]
    exact ⟨rfl, Nf28, f25, f24, f26, f27, Fw23⟩
theorem ef_rmCN (m : MethodId) (x1 : Int64) : entryFrame m #[.null, (.long x1)] 3 = mkF m 0 #[.val .null, .val (.long x1), .second] [] := by first | (simp [entryFrame, mkF, argsToLocals, Value.category]; done) | rfl
set_option maxRecDepth 65536 in
set_option maxHeartbeats 40000000 in
theorem rmCN (l : Launch) (Z : State) (a0 : Array Value) (hw : ∀ d ∈ tables_1, d.before a0 Z = true) (ws : List Jvm.Cond) (cc : Int64) (h0 : Heap) (n0 : Nat) (Z0 : n0 ≤ h0.size)  :
    MetFree l (⟨"com/example/hoopoe/hoopoe/core/eval/Measure", "count", "(Ljava/lang/String;J)Lcom/example/hoopoe/hoopoe/core/eval/Measure;"⟩ : MethodName) (head1 (Jvm.Cond.code (⟨"com/example/hoopoe/hoopoe/core/eval/Measure", "count", "(Ljava/lang/String;J)Lcom/example/hoopoe/hoopoe/core/eval/Measure;"⟩ : MethodName) prog_9_method_2_code 3 (some (.object "com/example/hoopoe/hoopoe/core/eval/Measure")) :: ws) ({ frames := 3, cells := 1, slots := 3, locals := 41 } : Room)) (fun a U => a = #[.null, (.long cc)] ∧ Z.Warmed39 U.vm ∧ U.heap = h0) (fun _ _ _ _ _ => True) (fun _ U o U' => ∃ v L, o = .returned v ∧ QC Z .null cc h0 n0 v U'.heap L ∧ FrameEnd U o U' L ({ frames := 3, cells := 1, slots := 3, locals := 41 } : Room).cells ({ frames := 3, cells := 1, slots := 3, locals := 41 } : Room).slots) := by
  refine MetFree.of_bodySF (plainFor_of_name pn_com_example_hoopoe_hoopoe_core_eval_Measure) hisR ?_
  intro p e s m args below meth c s₁ Bd hml0 hP hK
  obtain ⟨rfl, hZ, hh⟩ := hP
  have hx := Bd.exec
  have hby := Bd.bytes
  have hml : c.maxLocals = 3 := hml0
  have hown : s.vm.findClass "com/example/hoopoe/hoopoe/core/eval/Measure" = some m.cls := findClass_of_methodNamed Bd.named
  have hnm := (name_of_methodNamed Bd.named Bd.method).1
  have X0 : Stand p l e ({ frames := 3, cells := 1, slots := 3, locals := 41 } : Room) s m #[.null, (.long cc)] below meth c s₁ [] 0 0 := Stand.of_body Bd
  have e0 : s₁.heap = h0 := by rw [← hh, Bd.state]; rfl
  have N0 := Fr.nil n0
  have pre0 : ∀ t, Steps p.tables e below (s₁.setTop (mkF m 0 #[.val .null, .val (.long cc), .second] [])) t → Steps p.tables e below (s₁.setTop (entryFrame m #[.null, (.long cc)] 3)) t := fun t kt => castTop (ef_rmCN m cc) kt
  obtain ⟨T1, h1, X1, e1, E1, A1, D1, -, st1⟩ := newO X0 hx hZ hown (hw _ (List.mem_of_getElem? (i := 26) rfl)) (hw _ (List.mem_of_getElem? (i := 27) rfl)) (hw _ (List.mem_of_getElem? (i := 24) rfl)) e0 (g := (mkF m 0 #[.val .null, .val (.long cc), .second] [])) rfl (hb hby d4_0) (by decide) (by decide)
  obtain ⟨b1, g1⟩ : ∃ z, z = h0.size := ⟨_, rfl⟩
  rw [← g1] at A1 D1 st1
  have gz2 : n0 ≤ b1 := Nat.le_trans Z0 (Nat.le_of_eq g1.symm)
  have f4 := ((Keep.refl h0 [])).ext E1
  have Zf5 : n0 ≤ h1.size := Nat.le_trans Z0 E1.1
  have szb : h0.size ≤ b1 := Nat.le_of_eq g1.symm
  have F1_name : Fld Z h1 b1 "com/example/hoopoe/hoopoe/core/eval/Measure" "name" "Ljava/lang/String;" .null := D1 (Or.inr (hw _ (List.mem_of_getElem? (i := 38) rfl))) (ty := (.object "java/lang/String")) (by decide)
  have F1_value : Fld Z h1 b1 "com/example/hoopoe/hoopoe/core/eval/Measure" "value" "D" (.double (0 : UInt64)) := D1 (Or.inr (hw _ (List.mem_of_getElem? (i := 40) rfl))) (ty := .double) (by decide)
  have F1_decimals : Fld Z h1 b1 "com/example/hoopoe/hoopoe/core/eval/Measure" "decimals" "I" (.int (0 : Int32)) := D1 (Or.inr (hw _ (List.mem_of_getElem? (i := 42) rfl))) (ty := .int) (by decide)
  have pre6 : ∀ t, Steps p.tables e below (T1.setTop (mkF m 3 #[.val .null, .val (.long cc), .second] [(.ref b1)])) t → Steps p.tables e below (s₁.setTop (entryFrame m #[.null, (.long cc)] 3)) t := fun t kt => pre0 t (st1 _ kt)
  have pre7 : ∀ t, Steps p.tables e below (T1.setTop (mkF m 8 #[.val .null, .val (.long cc), .second] [(.int (0 : Int32)), (.double (FP.l2d cc)), .null, (.ref b1), (.ref b1)])) t → Steps p.tables e below (s₁.setTop (entryFrame m #[.null, (.long cc)] 3)) t := fun t kt => pre6 t (by
    refine XS.dup X1.here hx rfl (hb hby d4_3) rfl rfl ?_
    show Steps p.tables e below (T1.setTop (mkF m 4 #[.val .null, .val (.long cc), .second] [(.ref b1), (.ref b1)])) _
    refine XS.aloadN X1.here hx rfl (hb hby d4_4) rfl rfl ?_
    show Steps p.tables e below (T1.setTop (mkF m 5 #[.val .null, .val (.long cc), .second] [.null, (.ref b1), (.ref b1)])) _
    refine XS.lloadN X1.here hx rfl (hb hby d4_5) rfl ?_
    show Steps p.tables e below (T1.setTop (mkF m 6 #[.val .null, .val (.long cc), .second] [(.long cc), .null, (.ref b1), (.ref b1)])) _
    refine own_l2d X1.here hx rfl (hb hby d4_6) rfl ?_
    show Steps p.tables e below (T1.setTop (mkF m 7 #[.val .null, .val (.long cc), .second] [(.double (FP.l2d cc)), .null, (.ref b1), (.ref b1)])) _
    refine XS.iconst X1.here hx rfl (hb hby d4_7) ?_
    show Steps p.tables e below (T1.setTop (mkF m 8 #[.val .null, .val (.long cc), .second] [(.int (0 : Int32)), (.double (FP.l2d cc)), .null, (.ref b1), (.ref b1)])) _
    exact kt)
  obtain ⟨_, _, ⟨T8, L8, k8, n8⟩, -, X8, ⟨Lc8, hQ8, l8, y8, z8⟩, st8⟩ := X1.specialBack hx (y := (⟨"com/example/hoopoe/hoopoe/core/eval/Measure", "<init>", "(Ljava/lang/String;DI)V"⟩ : MethodName)) rfl hown (mvT hZ (hw _ (List.mem_of_getElem? (i := 28) rfl))) (mvT hZ (hw _ (List.mem_of_getElem? (i := 29) rfl))) (mvT hZ (hw _ (List.mem_of_getElem? (i := 30) rfl))) (by decide) (backOf (W := 1) (rmMN l Z a0 hw [] b1 (FP.l2d cc) (0 : Int32) _ _ _ h1 n0 Zf5 A1 gz2 F1_name F1_value F1_decimals) hZ (hw _ (List.mem_of_getElem? (i := 30) rfl)) (hw _ (List.mem_of_getElem? (i := 24) rfl)) (by decide) (by decide)) (g := (mkF m 8 #[.val .null, .val (.long cc), .second] [(.int (0 : Int32)), (.double (FP.l2d cc)), .null, (.ref b1), (.ref b1)])) rfl (by rw [hml]; rfl) (Steps.refl _) (a := b1) (argsL := [.null, (.double (FP.l2d cc)), (.int (0 : Int32))]) (rest := [(.ref b1)]) (lenOf pd__28Ljava_2flang_2fString_3bDI_29V rfl) rfl (by show 2 * 0 + _ ≤ _; exact Nat.le_of_eq rfl) (hb hby d4_8) (fun _ _ => ⟨rfl, e1, (by decide : 1 + 0 ≤ _), (by decide : 3 + 0 ≤ _)⟩)
  dsimp only [Pt.U, Pt.locs, Pt.cells, Pt.slots] at X8 l8 y8 z8 st8 hQ8
  subst l8 y8 z8
  obtain ⟨rfl, N8q, K8, E8x, Fn8, Fv8, Fd8⟩ := hQ8
  have N8 := Fr.app N0 N8q
  have f9 := (f4).trans K8 (own_all1 ((Or.inr (Nat.le_trans ((Keep.refl h0 [])).1 (Nat.le_of_eq g1.symm)))))
  have f10 := (A1).keep K8
  have Zf11 : n0 ≤ T8.heap.size := Nat.le_trans Zf5 (K8).1
  have pre12 : ∀ t, Steps p.tables e below (T8.setTop (mkF m 11 #[.val .null, .val (.long cc), .second] [(.ref b1)])) t → Steps p.tables e below (s₁.setTop (entryFrame m #[.null, (.long cc)] 3)) t := fun t kt => pre7 t (st8.trans kt)
  obtain ⟨fs, hr, hrun, hended, hW, hsame⟩ := X8.leave (v := (some (.ref b1))) (fun h => by rw [Bd.returns] at h; cases h)
  refine ⟨_, _, pre12 _ ?_, hrun, hended, _, _, rfl, ?_, ⟨_, rfl⟩, hW, hsame.mono (by decide) (by decide)⟩
  · exact retOut X8 hx Bd.returns rfl (Or.inr (Or.inr (Or.inr (Or.inr ⟨rfl, rfl, rfl⟩)))) (hb hby d4_11) hr
  · show QC Z .null cc h0 n0 _ T8.heap _
    exact ⟨_, rfl, N8, f9, gz2, szb, f10, Fn8, Fv8, Fd8⟩
def QNN (Z : State) (h0 : Heap) (n0 : Nat) (v : Option Value) (h : Heap) (L : List Loc) : Prop := v = some .null ∧ Fr n0 L ∧ h = h0
theorem ef_rmNN (m : MethodId) (x0 : Addr) : entryFrame m #[(.ref x0)] 1 = mkF m 0 #[.val (.ref x0)] [] := by first | (simp [entryFrame, mkF, argsToLocals, Value.category]; done) | rfl
set_option maxRecDepth 65536 in
set_option maxHeartbeats 40000000 in
theorem rmNN (l : Launch) (Z : State) (a0 : Array Value) (hw : ∀ d ∈ tables_1, d.before a0 Z = true) (ws : List Jvm.Cond) (a1 : Addr) (h0 : Heap) (n0 : Nat) (Z0 : n0 ≤ h0.size) (F1 : Fld Z h0 a1 "com/example/hoopoe/hoopoe/core/eval/Measure" "name" "Ljava/lang/String;" .null) :
    MetFree l (⟨"com/example/hoopoe/hoopoe/core/eval/Measure", "name", "()Ljava/lang/String;"⟩ : MethodName) (head1 (Jvm.Cond.code (⟨"com/example/hoopoe/hoopoe/core/eval/Measure", "name", "()Ljava/lang/String;"⟩ : MethodName) prog_9_method_8_code 1 (some (.object "java/lang/String")) :: ws) ({ frames := 0, cells := 0, slots := 0, locals := 0 } : Room)) (fun a U => a = #[(.ref a1)] ∧ Z.Warmed39 U.vm ∧ U.heap = h0) (fun _ _ _ _ _ => True) (fun _ U o U' => ∃ v L, o = .returned v ∧ QNN Z  h0 n0 v U'.heap L ∧ FrameEnd U o U' L ({ frames := 0, cells := 0, slots := 0, locals := 0 } : Room).cells ({ frames := 0, cells := 0, slots := 0, locals := 0 } : Room).slots) := by
  refine MetFree.of_bodySF (plainFor_of_name pn_com_example_hoopoe_hoopoe_core_eval_Measure) hisR ?_
  intro p e s m args below meth c s₁ Bd hml0 hP hK
  obtain ⟨rfl, hZ, hh⟩ := hP
  have hx := Bd.exec
  have hby := Bd.bytes
  have hml : c.maxLocals = 1 := hml0
  have hown : s.vm.findClass "com/example/hoopoe/hoopoe/core/eval/Measure" = some m.cls := findClass_of_methodNamed Bd.named
  have hnm := (name_of_methodNamed Bd.named Bd.method).1
  have X0 : Stand p l e ({ frames := 0, cells := 0, slots := 0, locals := 0 } : Room) s m #[(.ref a1)] below meth c s₁ [] 0 0 := Stand.of_body Bd
  have e0 : s₁.heap = h0 := by rw [← hh, Bd.state]; rfl
  have N0 := Fr.nil n0
  have pre0 : ∀ t, Steps p.tables e below (s₁.setTop (mkF m 0 #[.val (.ref a1)] [])) t → Steps p.tables e below (s₁.setTop (entryFrame m #[(.ref a1)] 1)) t := fun t kt => castTop (ef_rmNN m a1) kt
  have pre1 : ∀ t, Steps p.tables e below (s₁.setTop (mkF m 1 #[.val (.ref a1)] [(.ref a1)])) t → Steps p.tables e below (s₁.setTop (entryFrame m #[(.ref a1)] 1)) t := fun t kt => pre0 t (by
    refine XS.aloadN X0.here hx rfl (hb hby d7_0) rfl rfl ?_
    show Steps p.tables e below (s₁.setTop (mkF m 1 #[.val (.ref a1)] [(.ref a1)])) _
    exact kt)
  obtain ⟨T2, X2, e2, st2⟩ := getF X0 hx hZ hown (host := "") (Or.inl (hw _ (List.mem_of_getElem? (i := 37) rfl))) Via.refl e0 F1 (g := (mkF m 1 #[.val (.ref a1)] [(.ref a1)])) rfl rfl (hb hby d7_1)
  have pre3 : ∀ t, Steps p.tables e below (T2.setTop (mkF m 4 #[.val (.ref a1)] [.null])) t → Steps p.tables e below (s₁.setTop (entryFrame m #[(.ref a1)] 1)) t := fun t kt => pre1 t (st2 _ kt)
  obtain ⟨fs, hr, hrun, hended, hW, hsame⟩ := X2.leave (v := (some .null)) (fun h => by rw [Bd.returns] at h; cases h)
  refine ⟨_, _, pre3 _ ?_, hrun, hended, _, _, rfl, ?_, ⟨_, rfl⟩, hW, hsame.mono (by decide) (by decide)⟩
  · exact retOut X2 hx Bd.returns rfl (Or.inr (Or.inr (Or.inr (Or.inr ⟨rfl, rfl, rfl⟩)))) (hb hby d7_4) hr
  · show QNN Z  h0 n0 _ T2.heap _
    rw [e2]
    exact ⟨rfl, N0, rfl⟩
def Qg_value (Z : State) (fv : UInt64) (h0 : Heap) (n0 : Nat) (v : Option Value) (h : Heap) (L : List Loc) : Prop := v = some (.double fv) ∧ Fr n0 L ∧ h = h0
theorem ef_rmg_value (m : MethodId) (x0 : Addr) : entryFrame m #[(.ref x0)] 1 = mkF m 0 #[.val (.ref x0)] [] := by first | (simp [entryFrame, mkF, argsToLocals, Value.category]; done) | rfl
theorem d9_0 : decode prog_9_method_9_code 0 = .ok (.aload_n 0, 1) := by decide +kernel
theorem d9_1 : decode prog_9_method_9_code 1 = .ok (.getfield 13, 3) := by decide +kernel
theorem d9_4 : decode prog_9_method_9_code 4 = .ok (.dreturn, 1) := by decide +kernel
set_option maxRecDepth 65536 in
set_option maxHeartbeats 40000000 in
theorem rmg_value (l : Launch) (Z : State) (a0 : Array Value) (hw : ∀ d ∈ tables_1, d.before a0 Z = true) (ws : List Jvm.Cond) (a1 : Addr) (fv : UInt64) (h0 : Heap) (n0 : Nat) (Z0 : n0 ≤ h0.size) (F1 : Fld Z h0 a1 "com/example/hoopoe/hoopoe/core/eval/Measure" "value" "D" (.double fv)) :
    MetFree l (⟨"com/example/hoopoe/hoopoe/core/eval/Measure", "value", "()D"⟩ : MethodName) (head1 (Jvm.Cond.code (⟨"com/example/hoopoe/hoopoe/core/eval/Measure", "value", "()D"⟩ : MethodName) prog_9_method_9_code 1 (some .double) :: ws) ({ frames := 0, cells := 0, slots := 0, locals := 0 } : Room)) (fun a U => a = #[(.ref a1)] ∧ Z.Warmed39 U.vm ∧ U.heap = h0) (fun _ _ _ _ _ => True) (fun _ U o U' => ∃ v L, o = .returned v ∧ Qg_value Z fv h0 n0 v U'.heap L ∧ FrameEnd U o U' L ({ frames := 0, cells := 0, slots := 0, locals := 0 } : Room).cells ({ frames := 0, cells := 0, slots := 0, locals := 0 } : Room).slots) := by
  refine MetFree.of_bodySF (plainFor_of_name pn_com_example_hoopoe_hoopoe_core_eval_Measure) hisR ?_
  intro p e s m args below meth c s₁ Bd hml0 hP hK
  obtain ⟨rfl, hZ, hh⟩ := hP
  have hx := Bd.exec
  have hby := Bd.bytes
  have hml : c.maxLocals = 1 := hml0
  have hown : s.vm.findClass "com/example/hoopoe/hoopoe/core/eval/Measure" = some m.cls := findClass_of_methodNamed Bd.named
  have hnm := (name_of_methodNamed Bd.named Bd.method).1
  have X0 : Stand p l e ({ frames := 0, cells := 0, slots := 0, locals := 0 } : Room) s m #[(.ref a1)] below meth c s₁ [] 0 0 := Stand.of_body Bd
  have e0 : s₁.heap = h0 := by rw [← hh, Bd.state]; rfl
  have N0 := Fr.nil n0
  have pre0 : ∀ t, Steps p.tables e below (s₁.setTop (mkF m 0 #[.val (.ref a1)] [])) t → Steps p.tables e below (s₁.setTop (entryFrame m #[(.ref a1)] 1)) t := fun t kt => castTop (ef_rmg_value m a1) kt
  have pre1 : ∀ t, Steps p.tables e below (s₁.setTop (mkF m 1 #[.val (.ref a1)] [(.ref a1)])) t → Steps p.tables e below (s₁.setTop (entryFrame m #[(.ref a1)] 1)) t := fun t kt => pre0 t (by
    refine XS.aloadN X0.here hx rfl (hb hby d9_0) rfl rfl ?_
    show Steps p.tables e below (s₁.setTop (mkF m 1 #[.val (.ref a1)] [(.ref a1)])) _
    exact kt)
  obtain ⟨T2, X2, e2, st2⟩ := getF X0 hx hZ hown (host := "") (Or.inl (hw _ (List.mem_of_getElem? (i := 39) rfl))) Via.refl e0 F1 (g := (mkF m 1 #[.val (.ref a1)] [(.ref a1)])) rfl rfl (hb hby d9_1)
  have pre3 : ∀ t, Steps p.tables e below (T2.setTop (mkF m 4 #[.val (.ref a1)] [(.double fv)])) t → Steps p.tables e below (s₁.setTop (entryFrame m #[(.ref a1)] 1)) t := fun t kt => pre1 t (st2 _ kt)
  obtain ⟨fs, hr, hrun, hended, hW, hsame⟩ := X2.leave (v := (some (.double fv))) (fun h => by rw [Bd.returns] at h; cases h)
  refine ⟨_, _, pre3 _ ?_, hrun, hended, _, _, rfl, ?_, ⟨_, rfl⟩, hW, hsame.mono (by decide) (by decide)⟩
  · exact retOut X2 hx Bd.returns rfl (Or.inr (Or.inr (Or.inl ⟨rfl, rfl, _, rfl⟩))) (hb hby d9_4) hr
  · show Qg_value Z fv h0 n0 _ T2.heap _
    rw [e2]
    exact ⟨rfl, N0, rfl⟩
def Qg_decimals (Z : State) (fv : Int32) (h0 : Heap) (n0 : Nat) (v : Option Value) (h : Heap) (L : List Loc) : Prop := v = some (.int fv) ∧ Fr n0 L ∧ h = h0
theorem ef_rmg_decimals (m : MethodId) (x0 : Addr) : entryFrame m #[(.ref x0)] 1 = mkF m 0 #[.val (.ref x0)] [] := by first | (simp [entryFrame, mkF, argsToLocals, Value.category]; done) | rfl
theorem d10_0 : decode prog_9_method_10_code 0 = .ok (.aload_n 0, 1) := by decide +kernel
theorem d10_1 : decode prog_9_method_10_code 1 = .ok (.getfield 17, 3) := by decide +kernel
theorem d10_4 : decode prog_9_method_10_code 4 = .ok (.ireturn, 1) := by decide +kernel
set_option maxRecDepth 65536 in
set_option maxHeartbeats 40000000 in
theorem rmg_decimals (l : Launch) (Z : State) (a0 : Array Value) (hw : ∀ d ∈ tables_1, d.before a0 Z = true) (ws : List Jvm.Cond) (a1 : Addr) (fv : Int32) (h0 : Heap) (n0 : Nat) (Z0 : n0 ≤ h0.size) (F1 : Fld Z h0 a1 "com/example/hoopoe/hoopoe/core/eval/Measure" "decimals" "I" (.int fv)) :
    MetFree l (⟨"com/example/hoopoe/hoopoe/core/eval/Measure", "decimals", "()I"⟩ : MethodName) (head1 (Jvm.Cond.code (⟨"com/example/hoopoe/hoopoe/core/eval/Measure", "decimals", "()I"⟩ : MethodName) prog_9_method_10_code 1 (some .int) :: ws) ({ frames := 0, cells := 0, slots := 0, locals := 0 } : Room)) (fun a U => a = #[(.ref a1)] ∧ Z.Warmed39 U.vm ∧ U.heap = h0) (fun _ _ _ _ _ => True) (fun _ U o U' => ∃ v L, o = .returned v ∧ Qg_decimals Z fv h0 n0 v U'.heap L ∧ FrameEnd U o U' L ({ frames := 0, cells := 0, slots := 0, locals := 0 } : Room).cells ({ frames := 0, cells := 0, slots := 0, locals := 0 } : Room).slots) := by
  refine MetFree.of_bodySF (plainFor_of_name pn_com_example_hoopoe_hoopoe_core_eval_Measure) hisR ?_
  intro p e s m args below meth c s₁ Bd hml0 hP hK
  obtain ⟨rfl, hZ, hh⟩ := hP
  have hx := Bd.exec
  have hby := Bd.bytes
  have hml : c.maxLocals = 1 := hml0
  have hown : s.vm.findClass "com/example/hoopoe/hoopoe/core/eval/Measure" = some m.cls := findClass_of_methodNamed Bd.named
  have hnm := (name_of_methodNamed Bd.named Bd.method).1
  have X0 : Stand p l e ({ frames := 0, cells := 0, slots := 0, locals := 0 } : Room) s m #[(.ref a1)] below meth c s₁ [] 0 0 := Stand.of_body Bd
  have e0 : s₁.heap = h0 := by rw [← hh, Bd.state]; rfl
  have N0 := Fr.nil n0
  have pre0 : ∀ t, Steps p.tables e below (s₁.setTop (mkF m 0 #[.val (.ref a1)] [])) t → Steps p.tables e below (s₁.setTop (entryFrame m #[(.ref a1)] 1)) t := fun t kt => castTop (ef_rmg_decimals m a1) kt
  have pre1 : ∀ t, Steps p.tables e below (s₁.setTop (mkF m 1 #[.val (.ref a1)] [(.ref a1)])) t → Steps p.tables e below (s₁.setTop (entryFrame m #[(.ref a1)] 1)) t := fun t kt => pre0 t (by
    refine XS.aloadN X0.here hx rfl (hb hby d10_0) rfl rfl ?_
    show Steps p.tables e below (s₁.setTop (mkF m 1 #[.val (.ref a1)] [(.ref a1)])) _
    exact kt)
  obtain ⟨T2, X2, e2, st2⟩ := getF X0 hx hZ hown (host := "") (Or.inl (hw _ (List.mem_of_getElem? (i := 41) rfl))) Via.refl e0 F1 (g := (mkF m 1 #[.val (.ref a1)] [(.ref a1)])) rfl rfl (hb hby d10_1)
  have pre3 : ∀ t, Steps p.tables e below (T2.setTop (mkF m 4 #[.val (.ref a1)] [(.int fv)])) t → Steps p.tables e below (s₁.setTop (entryFrame m #[(.ref a1)] 1)) t := fun t kt => pre1 t (st2 _ kt)
  obtain ⟨fs, hr, hrun, hended, hW, hsame⟩ := X2.leave (v := (some (.int fv))) (fun h => by rw [Bd.returns] at h; cases h)
  refine ⟨_, _, pre3 _ ?_, hrun, hended, _, _, rfl, ?_, ⟨_, rfl⟩, hW, hsame.mono (by decide) (by decide)⟩
  · exact retI X2 hx Bd.returns (hb hby d10_4) hr
  · show Qg_decimals Z fv h0 n0 _ T2.heap _
    rw [e2]
    exact ⟨rfl, N0, rfl⟩
theorem ef_rmEq (m : MethodId) (x0 : Addr) (x1 : Addr) : entryFrame m #[(.ref x0), (.ref x1)] 3 = mkF m 0 #[.val (.ref x0), .val (.ref x1), .unset] [] := by first | (simp [entryFrame, mkF, argsToLocals, Value.category]; done) | rfl
theorem d8_0 : decode jdk_42_method_66_code 0 = .ok (.aload_n 0, 1) := by decide +kernel
theorem d8_1 : decode jdk_42_method_66_code 1 = .ok (.aload_n 1, 1) := by decide +kernel
theorem d8_2 : decode jdk_42_method_66_code 2 = .ok (.if_acmp .ne 5, 3) := by decide +kernel
theorem d8_5 : decode jdk_42_method_66_code 5 = .ok (.iconst 1, 1) := by decide +kernel
theorem d8_6 : decode jdk_42_method_66_code 6 = .ok (.ireturn, 1) := by decide +kernel
set_option maxRecDepth 65536 in
set_option maxHeartbeats 40000000 in
theorem rmEq (l : Launch) (Z : State) (a0 : Array Value) (hw : ∀ d ∈ tables_1, d.before a0 Z = true) (ws : List Jvm.Cond) (a1 : Addr) (h0 : Heap) (n0 : Nat) (Z0 : n0 ≤ h0.size)  :
    MetFree l (⟨"java/lang/String", "equals", "(Ljava/lang/Object;)Z"⟩ : MethodName) (head1 (Jvm.Cond.code (⟨"java/lang/String", "equals", "(Ljava/lang/Object;)Z"⟩ : MethodName) jdk_42_method_66_code 3 (some .boolean) :: ws) ({ frames := 0, cells := 0, slots := 0, locals := 0 } : Room)) (fun a U => a = #[(.ref a1), (.ref a1)] ∧ Z.Warmed39 U.vm ∧ U.heap = h0) (fun _ _ _ _ _ => True) (fun _ U o U' => ∃ v L, o = .returned v ∧ QT Z  h0 n0 v U'.heap L ∧ FrameEnd U o U' L ({ frames := 0, cells := 0, slots := 0, locals := 0 } : Room).cells ({ frames := 0, cells := 0, slots := 0, locals := 0 } : Room).slots) := by
  refine MetFree.of_bodySF (plainFor_of_name pn_java_lang_String) hisR ?_
  intro p e s m args below meth c s₁ Bd hml0 hP hK
  obtain ⟨rfl, hZ, hh⟩ := hP
  have hx := Bd.exec
  have hby := Bd.bytes
  have hml : c.maxLocals = 3 := hml0
  have hown : s.vm.findClass "java/lang/String" = some m.cls := findClass_of_methodNamed Bd.named
  have hnm := (name_of_methodNamed Bd.named Bd.method).1
  have X0 : Stand p l e ({ frames := 0, cells := 0, slots := 0, locals := 0 } : Room) s m #[(.ref a1), (.ref a1)] below meth c s₁ [] 0 0 := Stand.of_body Bd
  have e0 : s₁.heap = h0 := by rw [← hh, Bd.state]; rfl
  have N0 := Fr.nil n0
  have pre0 : ∀ t, Steps p.tables e below (s₁.setTop (mkF m 0 #[.val (.ref a1), .val (.ref a1), .unset] [])) t → Steps p.tables e below (s₁.setTop (entryFrame m #[(.ref a1), (.ref a1)] 3)) t := fun t kt => castTop (ef_rmEq m a1 a1) kt
  have pre1 : ∀ t, Steps p.tables e below (s₁.setTop (mkF m 6 #[.val (.ref a1), .val (.ref a1), .unset] [(.int (1 : Int32))])) t → Steps p.tables e below (s₁.setTop (entryFrame m #[(.ref a1), (.ref a1)] 3)) t := fun t kt => pre0 t (by
    refine XS.aloadN X0.here hx rfl (hb hby d8_0) rfl rfl ?_
    show Steps p.tables e below (s₁.setTop (mkF m 1 #[.val (.ref a1), .val (.ref a1), .unset] [(.ref a1)])) _
    refine XS.aloadN X0.here hx rfl (hb hby d8_1) rfl rfl ?_
    show Steps p.tables e below (s₁.setTop (mkF m 2 #[.val (.ref a1), .val (.ref a1), .unset] [(.ref a1), (.ref a1)])) _
    refine Jvm.RoadKit.acmp (g := (mkF m 2 #[.val (.ref a1), .val (.ref a1), .unset] [(.ref a1), (.ref a1)])) X0 hx rfl rfl rfl (pc0 := 2) (pc' := 5) (same := true) rfl (hb hby d8_2) rfl (decide_eq_true rfl) (by decide) (by decide) ?_
    show Steps p.tables e below (s₁.setTop (mkF m 5 #[.val (.ref a1), .val (.ref a1), .unset] [])) _
    refine XS.iconst X0.here hx rfl (hb hby d8_5) ?_
    show Steps p.tables e below (s₁.setTop (mkF m 6 #[.val (.ref a1), .val (.ref a1), .unset] [(.int (1 : Int32))])) _
    exact kt)
  obtain ⟨fs, hr, hrun, hended, hW, hsame⟩ := X0.leave (v := (some (.int (1 : Int32)))) (fun h => by rw [Bd.returns] at h; cases h)
  refine ⟨_, _, pre1 _ ?_, hrun, hended, _, _, rfl, ?_, ⟨_, rfl⟩, hW, hsame.mono (by decide) (by decide)⟩
  · exact retN X0 hx (t := .boolean) Bd.returns (by simp) (hb hby d8_6) hr
  · show QT Z  h0 n0 _ s₁.heap _
    rw [e0]
    exact ⟨rfl, N0, rfl⟩
def Q0 (Z : State) (h0 : Heap) (n0 : Nat) (v : Option Value) (h : Heap) (vm : Vm) (L : List Loc) : Prop := v = some (.int (1 : Int32)) ∧ Fr n0 L
theorem ef_rm0 (m : MethodId) (x0 : Int64) (x1 : Int32) (x2 : Int32) : entryFrame m #[(.long x0), (.int x1), (.int x2)] maxLocals = mkF m 0 #[.val (.long x0), .second, .val (.int x1), .val (.int x2), .unset, .unset, .unset, .unset, .unset, .unset, .unset, .unset, .unset] [] := by first | (simp [entryFrame, mkF, argsToLocals, Value.category, maxLocals]; done) | rfl
theorem pn_com_example_hoopoe_hoopoe_core_eval_MeasureCountPinLaw : plainName "com/example/hoopoe/hoopoe/core/eval/MeasureCountPinLaw" = true := by first | (simp [plainName, overriddenIn]; done) | decide +kernel
theorem own_nc {ch x : Int32} (h : ch = (x &&& (255 : Int32)).toUInt32.toUInt16.toUInt32.toInt32) : nar .char ch = ch := by
  have e : ch = x &&& 255 := by rw [h, i2c_mask]
  show ch.toUInt32.toUInt16.toUInt32.toInt32 = ch
  rw [e]; exact i2c_mask x
theorem own_lat3 {c0 c1 c2 x0 x1 x2 : Int32} (h0 : c0 = (x0 &&& (255 : Int32)).toUInt32.toUInt16.toUInt32.toInt32) (h1 : c1 = (x1 &&& (255 : Int32)).toUInt32.toUInt16.toUInt32.toInt32) (h2 : c2 = (x2 &&& (255 : Int32)).toUInt32.toUInt16.toUInt32.toInt32) : ∀ c ∈ [nar .char c0, nar .char c1, nar .char c2], ¬ c < 0 ∧ ¬ (255 : Int32) < c := by
  rw [own_nc h0, own_nc h1, own_nc h2]
  intro c hc
  simp only [List.mem_cons, List.not_mem_nil, or_false] at hc
  rcases hc with rfl | rfl | rfl
  · exact ⟨own_c0 h0, own_c8 h0⟩
  · exact ⟨own_c0 h1, own_c8 h1⟩
  · exact ⟨own_c0 h2, own_c8 h2⟩
theorem pd__28Ljava_2flang_2fString_3bJ_29Lcom_2fexample_2fhoopoe_2fhoopoe_2fcore_2feval_2fMeasure_3b : parseMethodDescriptor "(Ljava/lang/String;J)Lcom/example/hoopoe/hoopoe/core/eval/Measure;" = some ⟨[(.object "java/lang/String"), .long], some (.object "com/example/hoopoe/hoopoe/core/eval/Measure")⟩ := by decide +kernel
theorem pd__28_29Ljava_2flang_2fString_3b : parseMethodDescriptor "()Ljava/lang/String;" = some ⟨[], some (.object "java/lang/String")⟩ := by decide +kernel
theorem pd__28_29D : parseMethodDescriptor "()D" = some ⟨[], some .double⟩ := by decide +kernel
theorem pd__28_29I : parseMethodDescriptor "()I" = some ⟨[], some .int⟩ := by decide +kernel
theorem pd__28_5bC_29V : parseMethodDescriptor "([C)V" = some ⟨[(.array .char)], none⟩ := by decide +kernel
theorem pd__28Ljava_2flang_2fObject_3b_29Z : parseMethodDescriptor "(Ljava/lang/Object;)Z" = some ⟨[(.object "java/lang/Object")], some .boolean⟩ := by decide +kernel
theorem pd__28C_29Ljava_2flang_2fString_3b : parseMethodDescriptor "(C)Ljava/lang/String;" = some ⟨[.char], some (.object "java/lang/String")⟩ := by decide +kernel
set_option maxRecDepth 65536 in
set_option maxHeartbeats 40000000 in
theorem rm0 (l : Launch) (Z : State) (a0 : Array Value) (hw : ∀ d ∈ tables_1, d.before a0 Z = true) (ws : List Jvm.Cond) (cc : Int64) (p1 p2 z0 : Int32) (Ts : List String) (hTs : Ts = []) (h0 : Heap) (n0 : Nat) (Z0 : n0 ≤ h0.size) (O0 : Old Z n0 h0) (S0 : Sta Z Z.heap "java/lang/String" "COMPACT_STRINGS" "Z" (.int z0)) (hz : ¬ z0 = (0 : Int32)) (hC : Jvm.Lit.constHeld Z "java/lang/String" 7) (hcw : Jvm.Lit.compactW.before a0 Z = true) :
    MetFree l x (head1 (Jvm.Cond.code x code maxLocals ret :: ws) room_1) (fun a U => a = #[(.long cc), (.int p1), (.int p2)] ∧ Z.Warmed39 U.vm ∧ U.heap = h0 ∧ IB Z U.vm Ts) (fun _ _ _ _ _ => True) (fun _ U o U' => ∃ v L, o = .returned v ∧ Q0 Z  h0 n0 v U'.heap U'.vm L ∧ ReturnedEndW U o U' L room_1.cells room_1.slots) := by
  refine MetFree.of_bodySF (plainFor_of_name pn_com_example_hoopoe_hoopoe_core_eval_MeasureCountPinLaw) hisR ?_
  intro p e s m args below meth c s₁ Bd hml0 hP hK
  obtain ⟨rfl, hZ, hh, hI⟩ := hP
  have hx := Bd.exec
  have hby := Bd.bytes
  have hml : c.maxLocals = 13 := hml0
  have hown : s.vm.findClass "com/example/hoopoe/hoopoe/core/eval/MeasureCountPinLaw" = some m.cls := findClass_of_methodNamed Bd.named
  have hnm := (name_of_methodNamed Bd.named Bd.method).1
  have X0 : Stand p l e room_1 s m #[(.long cc), (.int p1), (.int p2)] below meth c s₁ [] 0 0 := Stand.of_body Bd
  have e0 : s₁.heap = h0 := by rw [← hh, Bd.state]; rfl
  have N0 := Fr.nil n0
  have pre0 : ∀ t, Steps p.tables e below (s₁.setTop (mkF m 0 #[.val (.long cc), .second, .val (.int p1), .val (.int p2), .unset, .unset, .unset, .unset, .unset, .unset, .unset, .unset, .unset] [])) t → Steps p.tables e below (s₁.setTop (entryFrame m #[(.long cc), (.int p1), (.int p2)] maxLocals)) t := fun t kt => castTop (ef_rm0 m cc p1 p2) kt
  subst hTs
  have hws : ∀ d ∈ StrChars.Road.words, d.before a0 Z = true := fun d hd => hw d ((by decide +kernel : ∀ d ∈ StrChars.Road.words, d ∈ tables_1) d hd)
  have pre1 : ∀ t, Steps p.tables e below (s₁.setTop (mkF m 8 #[.val (.long cc), .second, .val (.int p1), .val (.int p2), .val (.int (p1 &&& (255 : Int32)).toUInt32.toUInt16.toUInt32.toInt32), .unset, .unset, .unset, .unset, .unset, .unset, .unset, .unset] [])) t → Steps p.tables e below (s₁.setTop (entryFrame m #[(.long cc), (.int p1), (.int p2)] maxLocals)) t := fun t kt => pre0 t (by
    refine XS.iloadN X0.here hx rfl (hb hby at_0) rfl ?_
    show Steps p.tables e below (s₁.setTop (mkF m 1 #[.val (.long cc), .second, .val (.int p1), .val (.int p2), .unset, .unset, .unset, .unset, .unset, .unset, .unset, .unset, .unset] [(.int p1)])) _
    refine XS.sipush X0.here hx rfl (hb hby at_1) ?_
    show Steps p.tables e below (s₁.setTop (mkF m 4 #[.val (.long cc), .second, .val (.int p1), .val (.int p2), .unset, .unset, .unset, .unset, .unset, .unset, .unset, .unset, .unset] [(.int (255 : Int32)), (.int p1)])) _
    refine XS.iand X0.here hx rfl (hb hby at_4) rfl ?_
    show Steps p.tables e below (s₁.setTop (mkF m 5 #[.val (.long cc), .second, .val (.int p1), .val (.int p2), .unset, .unset, .unset, .unset, .unset, .unset, .unset, .unset, .unset] [(.int (p1 &&& (255 : Int32)))])) _
    refine XS.i2c X0.here hx rfl (hb hby at_5) rfl ?_
    show Steps p.tables e below (s₁.setTop (mkF m 6 #[.val (.long cc), .second, .val (.int p1), .val (.int p2), .unset, .unset, .unset, .unset, .unset, .unset, .unset, .unset, .unset] [(.int (p1 &&& (255 : Int32)).toUInt32.toUInt16.toUInt32.toInt32)])) _
    refine XS.istore X0.here hx rfl (hb hby at_6) rfl (l' := #[.val (.long cc), .second, .val (.int p1), .val (.int p2), .val (.int (p1 &&& (255 : Int32)).toUInt32.toUInt16.toUInt32.toInt32), .unset, .unset, .unset, .unset, .unset, .unset, .unset, .unset]) rfl ?_
    show Steps p.tables e below (s₁.setTop (mkF m 8 #[.val (.long cc), .second, .val (.int p1), .val (.int p2), .val (.int (p1 &&& (255 : Int32)).toUInt32.toUInt16.toUInt32.toInt32), .unset, .unset, .unset, .unset, .unset, .unset, .unset, .unset] [])) _
    exact kt)
  obtain ⟨ch0, hch0⟩ : ∃ z, z = (p1 &&& (255 : Int32)).toUInt32.toUInt16.toUInt32.toInt32 := ⟨_, rfl⟩
  have pre2 : ∀ t, Steps p.tables e below (s₁.setTop (mkF m 8 #[.val (.long cc), .second, .val (.int p1), .val (.int p2), .val (.int ch0), .unset, .unset, .unset, .unset, .unset, .unset, .unset, .unset] [])) t → Steps p.tables e below (s₁.setTop (entryFrame m #[(.long cc), (.int p1), (.int p2)] maxLocals)) t := by
    rw [hch0]; exact pre1
  have pre3 : ∀ t, Steps p.tables e below (s₁.setTop (mkF m 19 #[.val (.long cc), .second, .val (.int p1), .val (.int p2), .val (.int ch0), .val (.int (((p1.toUInt32 >>> ((8 : Int32) &&& 31).toUInt32).toInt32) &&& (255 : Int32)).toUInt32.toUInt16.toUInt32.toInt32), .unset, .unset, .unset, .unset, .unset, .unset, .unset] [])) t → Steps p.tables e below (s₁.setTop (entryFrame m #[(.long cc), (.int p1), (.int p2)] maxLocals)) t := fun t kt => pre2 t (by
    refine XS.iloadN X0.here hx rfl (hb hby at_8) rfl ?_
    show Steps p.tables e below (s₁.setTop (mkF m 9 #[.val (.long cc), .second, .val (.int p1), .val (.int p2), .val (.int ch0), .unset, .unset, .unset, .unset, .unset, .unset, .unset, .unset] [(.int p1)])) _
    refine XS.bipush X0.here hx rfl (hb hby at_9) ?_
    show Steps p.tables e below (s₁.setTop (mkF m 11 #[.val (.long cc), .second, .val (.int p1), .val (.int p2), .val (.int ch0), .unset, .unset, .unset, .unset, .unset, .unset, .unset, .unset] [(.int (8 : Int32)), (.int p1)])) _
    refine XS.iushr X0.here hx rfl (hb hby at_11) rfl ?_
    show Steps p.tables e below (s₁.setTop (mkF m 12 #[.val (.long cc), .second, .val (.int p1), .val (.int p2), .val (.int ch0), .unset, .unset, .unset, .unset, .unset, .unset, .unset, .unset] [(.int ((p1.toUInt32 >>> ((8 : Int32) &&& 31).toUInt32).toInt32))])) _
    refine XS.sipush X0.here hx rfl (hb hby at_12) ?_
    show Steps p.tables e below (s₁.setTop (mkF m 15 #[.val (.long cc), .second, .val (.int p1), .val (.int p2), .val (.int ch0), .unset, .unset, .unset, .unset, .unset, .unset, .unset, .unset] [(.int (255 : Int32)), (.int ((p1.toUInt32 >>> ((8 : Int32) &&& 31).toUInt32).toInt32))])) _
    refine XS.iand X0.here hx rfl (hb hby at_15) rfl ?_
    show Steps p.tables e below (s₁.setTop (mkF m 16 #[.val (.long cc), .second, .val (.int p1), .val (.int p2), .val (.int ch0), .unset, .unset, .unset, .unset, .unset, .unset, .unset, .unset] [(.int (((p1.toUInt32 >>> ((8 : Int32) &&& 31).toUInt32).toInt32) &&& (255 : Int32)))])) _
    refine XS.i2c X0.here hx rfl (hb hby at_16) rfl ?_
    show Steps p.tables e below (s₁.setTop (mkF m 17 #[.val (.long cc), .second, .val (.int p1), .val (.int p2), .val (.int ch0), .unset, .unset, .unset, .unset, .unset, .unset, .unset, .unset] [(.int (((p1.toUInt32 >>> ((8 : Int32) &&& 31).toUInt32).toInt32) &&& (255 : Int32)).toUInt32.toUInt16.toUInt32.toInt32)])) _
    refine XS.istore X0.here hx rfl (hb hby at_17) rfl (l' := #[.val (.long cc), .second, .val (.int p1), .val (.int p2), .val (.int ch0), .val (.int (((p1.toUInt32 >>> ((8 : Int32) &&& 31).toUInt32).toInt32) &&& (255 : Int32)).toUInt32.toUInt16.toUInt32.toInt32), .unset, .unset, .unset, .unset, .unset, .unset, .unset]) rfl ?_
    show Steps p.tables e below (s₁.setTop (mkF m 19 #[.val (.long cc), .second, .val (.int p1), .val (.int p2), .val (.int ch0), .val (.int (((p1.toUInt32 >>> ((8 : Int32) &&& 31).toUInt32).toInt32) &&& (255 : Int32)).toUInt32.toUInt16.toUInt32.toInt32), .unset, .unset, .unset, .unset, .unset, .unset, .unset] [])) _
    exact kt)
  obtain ⟨ch1, hch1⟩ : ∃ z, z = (((p1.toUInt32 >>> ((8 : Int32) &&& 31).toUInt32).toInt32) &&& (255 : Int32)).toUInt32.toUInt16.toUInt32.toInt32 := ⟨_, rfl⟩
  have pre4 : ∀ t, Steps p.tables e below (s₁.setTop (mkF m 19 #[.val (.long cc), .second, .val (.int p1), .val (.int p2), .val (.int ch0), .val (.int ch1), .unset, .unset, .unset, .unset, .unset, .unset, .unset] [])) t → Steps p.tables e below (s₁.setTop (entryFrame m #[(.long cc), (.int p1), (.int p2)] maxLocals)) t := by
    rw [hch1]; exact pre3
  have pre5 : ∀ t, Steps p.tables e below (s₁.setTop (mkF m 30 #[.val (.long cc), .second, .val (.int p1), .val (.int p2), .val (.int ch0), .val (.int ch1), .val (.int (((p1.toUInt32 >>> ((16 : Int32) &&& 31).toUInt32).toInt32) &&& (255 : Int32)).toUInt32.toUInt16.toUInt32.toInt32), .unset, .unset, .unset, .unset, .unset, .unset] [])) t → Steps p.tables e below (s₁.setTop (entryFrame m #[(.long cc), (.int p1), (.int p2)] maxLocals)) t := fun t kt => pre4 t (by
    refine XS.iloadN X0.here hx rfl (hb hby at_19) rfl ?_
    show Steps p.tables e below (s₁.setTop (mkF m 20 #[.val (.long cc), .second, .val (.int p1), .val (.int p2), .val (.int ch0), .val (.int ch1), .unset, .unset, .unset, .unset, .unset, .unset, .unset] [(.int p1)])) _
    refine XS.bipush X0.here hx rfl (hb hby at_20) ?_
    show Steps p.tables e below (s₁.setTop (mkF m 22 #[.val (.long cc), .second, .val (.int p1), .val (.int p2), .val (.int ch0), .val (.int ch1), .unset, .unset, .unset, .unset, .unset, .unset, .unset] [(.int (16 : Int32)), (.int p1)])) _
    refine XS.iushr X0.here hx rfl (hb hby at_22) rfl ?_
    show Steps p.tables e below (s₁.setTop (mkF m 23 #[.val (.long cc), .second, .val (.int p1), .val (.int p2), .val (.int ch0), .val (.int ch1), .unset, .unset, .unset, .unset, .unset, .unset, .unset] [(.int ((p1.toUInt32 >>> ((16 : Int32) &&& 31).toUInt32).toInt32))])) _
    refine XS.sipush X0.here hx rfl (hb hby at_23) ?_
    show Steps p.tables e below (s₁.setTop (mkF m 26 #[.val (.long cc), .second, .val (.int p1), .val (.int p2), .val (.int ch0), .val (.int ch1), .unset, .unset, .unset, .unset, .unset, .unset, .unset] [(.int (255 : Int32)), (.int ((p1.toUInt32 >>> ((16 : Int32) &&& 31).toUInt32).toInt32))])) _
    refine XS.iand X0.here hx rfl (hb hby at_26) rfl ?_
    show Steps p.tables e below (s₁.setTop (mkF m 27 #[.val (.long cc), .second, .val (.int p1), .val (.int p2), .val (.int ch0), .val (.int ch1), .unset, .unset, .unset, .unset, .unset, .unset, .unset] [(.int (((p1.toUInt32 >>> ((16 : Int32) &&& 31).toUInt32).toInt32) &&& (255 : Int32)))])) _
    refine XS.i2c X0.here hx rfl (hb hby at_27) rfl ?_
    show Steps p.tables e below (s₁.setTop (mkF m 28 #[.val (.long cc), .second, .val (.int p1), .val (.int p2), .val (.int ch0), .val (.int ch1), .unset, .unset, .unset, .unset, .unset, .unset, .unset] [(.int (((p1.toUInt32 >>> ((16 : Int32) &&& 31).toUInt32).toInt32) &&& (255 : Int32)).toUInt32.toUInt16.toUInt32.toInt32)])) _
    refine XS.istore X0.here hx rfl (hb hby at_28) rfl (l' := #[.val (.long cc), .second, .val (.int p1), .val (.int p2), .val (.int ch0), .val (.int ch1), .val (.int (((p1.toUInt32 >>> ((16 : Int32) &&& 31).toUInt32).toInt32) &&& (255 : Int32)).toUInt32.toUInt16.toUInt32.toInt32), .unset, .unset, .unset, .unset, .unset, .unset]) rfl ?_
    show Steps p.tables e below (s₁.setTop (mkF m 30 #[.val (.long cc), .second, .val (.int p1), .val (.int p2), .val (.int ch0), .val (.int ch1), .val (.int (((p1.toUInt32 >>> ((16 : Int32) &&& 31).toUInt32).toInt32) &&& (255 : Int32)).toUInt32.toUInt16.toUInt32.toInt32), .unset, .unset, .unset, .unset, .unset, .unset] [])) _
    exact kt)
  obtain ⟨ch2, hch2⟩ : ∃ z, z = (((p1.toUInt32 >>> ((16 : Int32) &&& 31).toUInt32).toInt32) &&& (255 : Int32)).toUInt32.toUInt16.toUInt32.toInt32 := ⟨_, rfl⟩
  have pre6 : ∀ t, Steps p.tables e below (s₁.setTop (mkF m 30 #[.val (.long cc), .second, .val (.int p1), .val (.int p2), .val (.int ch0), .val (.int ch1), .val (.int ch2), .unset, .unset, .unset, .unset, .unset, .unset] [])) t → Steps p.tables e below (s₁.setTop (entryFrame m #[(.long cc), (.int p1), (.int p2)] maxLocals)) t := by
    rw [hch2]; exact pre5
  have pre7 : ∀ t, Steps p.tables e below (s₁.setTop (mkF m 37 #[.val (.long cc), .second, .val (.int p1), .val (.int p2), .val (.int ch0), .val (.int ch1), .val (.int ch2), .val (.int (p2 &&& (3 : Int32))), .unset, .unset, .unset, .unset, .unset] [(.int (p2 &&& (3 : Int32)))])) t → Steps p.tables e below (s₁.setTop (entryFrame m #[(.long cc), (.int p1), (.int p2)] maxLocals)) t := fun t kt => pre6 t (by
    refine XS.iloadN X0.here hx rfl (hb hby at_30) rfl ?_
    show Steps p.tables e below (s₁.setTop (mkF m 31 #[.val (.long cc), .second, .val (.int p1), .val (.int p2), .val (.int ch0), .val (.int ch1), .val (.int ch2), .unset, .unset, .unset, .unset, .unset, .unset] [(.int p2)])) _
    refine XS.iconst X0.here hx rfl (hb hby at_31) ?_
    show Steps p.tables e below (s₁.setTop (mkF m 32 #[.val (.long cc), .second, .val (.int p1), .val (.int p2), .val (.int ch0), .val (.int ch1), .val (.int ch2), .unset, .unset, .unset, .unset, .unset, .unset] [(.int (3 : Int32)), (.int p2)])) _
    refine XS.iand X0.here hx rfl (hb hby at_32) rfl ?_
    show Steps p.tables e below (s₁.setTop (mkF m 33 #[.val (.long cc), .second, .val (.int p1), .val (.int p2), .val (.int ch0), .val (.int ch1), .val (.int ch2), .unset, .unset, .unset, .unset, .unset, .unset] [(.int (p2 &&& (3 : Int32)))])) _
    refine XS.istore X0.here hx rfl (hb hby at_33) rfl (l' := #[.val (.long cc), .second, .val (.int p1), .val (.int p2), .val (.int ch0), .val (.int ch1), .val (.int ch2), .val (.int (p2 &&& (3 : Int32))), .unset, .unset, .unset, .unset, .unset]) rfl ?_
    show Steps p.tables e below (s₁.setTop (mkF m 35 #[.val (.long cc), .second, .val (.int p1), .val (.int p2), .val (.int ch0), .val (.int ch1), .val (.int ch2), .val (.int (p2 &&& (3 : Int32))), .unset, .unset, .unset, .unset, .unset] [])) _
    refine XS.iload X0.here hx rfl (hb hby at_35) rfl ?_
    show Steps p.tables e below (s₁.setTop (mkF m 37 #[.val (.long cc), .second, .val (.int p1), .val (.int p2), .val (.int ch0), .val (.int ch1), .val (.int ch2), .val (.int (p2 &&& (3 : Int32))), .unset, .unset, .unset, .unset, .unset] [(.int (p2 &&& (3 : Int32)))])) _
    exact kt)
  by_cases c37_1 : (p2 &&& (3 : Int32)) = (0 : Int32)
  · have pre8 : ∀ t, Steps p.tables e below (s₁.setTop (mkF m 113 #[.val (.long cc), .second, .val (.int p1), .val (.int p2), .val (.int ch0), .val (.int ch1), .val (.int ch2), .val (.int (p2 &&& (3 : Int32))), .val .null, .unset, .unset, .unset, .unset] [(.long cc), .null])) t → Steps p.tables e below (s₁.setTop (entryFrame m #[(.long cc), (.int p1), (.int p2)] maxLocals)) t := fun t kt => pre7 t (by
      refine XS.ifNo X0.here hx rfl (hb hby at_37) rfl ((if0 _ _).trans (teq c37_1).2) ?_
      show Steps p.tables e below (s₁.setTop (mkF m 40 #[.val (.long cc), .second, .val (.int p1), .val (.int p2), .val (.int ch0), .val (.int ch1), .val (.int ch2), .val (.int (p2 &&& (3 : Int32))), .unset, .unset, .unset, .unset, .unset] [])) _
      refine XS.aconstNull X0.here hx rfl (hb hby at_40) ?_
      show Steps p.tables e below (s₁.setTop (mkF m 41 #[.val (.long cc), .second, .val (.int p1), .val (.int p2), .val (.int ch0), .val (.int ch1), .val (.int ch2), .val (.int (p2 &&& (3 : Int32))), .unset, .unset, .unset, .unset, .unset] [.null])) _
      refine XS.astore X0.here hx rfl (hb hby at_41) rfl rfl (l' := #[.val (.long cc), .second, .val (.int p1), .val (.int p2), .val (.int ch0), .val (.int ch1), .val (.int ch2), .val (.int (p2 &&& (3 : Int32))), .val .null, .unset, .unset, .unset, .unset]) rfl ?_
      show Steps p.tables e below (s₁.setTop (mkF m 43 #[.val (.long cc), .second, .val (.int p1), .val (.int p2), .val (.int ch0), .val (.int ch1), .val (.int ch2), .val (.int (p2 &&& (3 : Int32))), .val .null, .unset, .unset, .unset, .unset] [])) _
      refine XS.goto X0.here hx rfl (pc0 := 43) (pc' := 110) rfl (hb hby at_43) (by decide) (by decide) ?_
      show Steps p.tables e below (s₁.setTop (mkF m 110 #[.val (.long cc), .second, .val (.int p1), .val (.int p2), .val (.int ch0), .val (.int ch1), .val (.int ch2), .val (.int (p2 &&& (3 : Int32))), .val .null, .unset, .unset, .unset, .unset] [])) _
      refine XS.aload X0.here hx rfl (hb hby at_110) rfl rfl ?_
      show Steps p.tables e below (s₁.setTop (mkF m 112 #[.val (.long cc), .second, .val (.int p1), .val (.int p2), .val (.int ch0), .val (.int ch1), .val (.int ch2), .val (.int (p2 &&& (3 : Int32))), .val .null, .unset, .unset, .unset, .unset] [.null])) _
      refine XS.lloadN X0.here hx rfl (hb hby at_112) rfl ?_
      show Steps p.tables e below (s₁.setTop (mkF m 113 #[.val (.long cc), .second, .val (.int p1), .val (.int p2), .val (.int ch0), .val (.int ch1), .val (.int ch2), .val (.int (p2 &&& (3 : Int32))), .val .null, .unset, .unset, .unset, .unset] [(.long cc), .null])) _
      exact kt)
    obtain ⟨_, _, ⟨T9, L9, k9, n9⟩, -, X9, ⟨Lc9, hQ9, l9, y9, z9⟩, st9⟩ := Jvm.LawKit.callS X0 hx (y := (⟨"com/example/hoopoe/hoopoe/core/eval/Measure", "count", "(Ljava/lang/String;J)Lcom/example/hoopoe/hoopoe/core/eval/Measure;"⟩ : MethodName)) hown (mvT hZ (hw _ (List.mem_of_getElem? (i := 22) rfl))) (mvT hZ (hw _ (List.mem_of_getElem? (i := 23) rfl))) (mvT hZ (hw _ (List.mem_of_getElem? (i := 24) rfl))) (mvT hZ (hw _ (List.mem_of_getElem? (i := 25) rfl))) (by decide) (backOf (W := 0) (rmCN l Z a0 hw [] cc h0 n0 Z0) hZ (hw _ (List.mem_of_getElem? (i := 25) rfl)) (hw _ (List.mem_of_getElem? (i := 24) rfl)) (by decide) (by decide)) (g := (mkF m 113 #[.val (.long cc), .second, .val (.int p1), .val (.int p2), .val (.int ch0), .val (.int ch1), .val (.int ch2), .val (.int (p2 &&& (3 : Int32))), .val .null, .unset, .unset, .unset, .unset] [(.long cc), .null])) rfl (by rw [hml]; rfl) (argsL := [.null, (.long cc)]) (rest := []) (lenOf pd__28Ljava_2flang_2fString_3bJ_29Lcom_2fexample_2fhoopoe_2fhoopoe_2fcore_2feval_2fMeasure_3b rfl) rfl (by show 2 * 0 + _ ≤ _; exact Nat.le_of_eq rfl) (hb hby at_113) (fun _ _ => ⟨rfl, e0, (by decide : 0 + 1 ≤ _), (by decide : 0 + 3 ≤ _)⟩)
    dsimp only [Pt.U, Pt.locs, Pt.cells, Pt.slots] at X9 l9 y9 z9 st9 hQ9
    subst l9 y9 z9
    obtain ⟨r9, rfl, N9q, K9, gp9, sp9, Ex9, Fn9, Fv9, Fd9⟩ := hQ9
    have N9 := Fr.app N0 N9q
    have f10 := (O0).keep K9 (own_all0 )
    have Zf11 : n0 ≤ T9.heap.size := Nat.le_trans Z0 (K9).1
    have pre12 : ∀ t, Steps p.tables e below (T9.setTop (mkF m 116 #[.val (.long cc), .second, .val (.int p1), .val (.int p2), .val (.int ch0), .val (.int ch1), .val (.int ch2), .val (.int (p2 &&& (3 : Int32))), .val .null, .unset, .unset, .unset, .unset] [(.ref r9)])) t → Steps p.tables e below (s₁.setTop (entryFrame m #[(.long cc), (.int p1), (.int p2)] maxLocals)) t := fun t kt => pre8 t (st9 _ kt)
    have pre13 : ∀ t, Steps p.tables e below (T9.setTop (mkF m 125 #[.val (.long cc), .second, .val (.int p1), .val (.int p2), .val (.int ch0), .val (.int ch1), .val (.int ch2), .val (.int (p2 &&& (3 : Int32))), .val .null, .val (.ref r9), .unset, .unset, .unset] [(.ref r9)])) t → Steps p.tables e below (s₁.setTop (entryFrame m #[(.long cc), (.int p1), (.int p2)] maxLocals)) t := fun t kt => pre12 t (by
      refine XS.astore X9.here hx rfl (hb hby at_116) rfl rfl (l' := #[.val (.long cc), .second, .val (.int p1), .val (.int p2), .val (.int ch0), .val (.int ch1), .val (.int ch2), .val (.int (p2 &&& (3 : Int32))), .val .null, .val (.ref r9), .unset, .unset, .unset]) rfl ?_
      show Steps p.tables e below (T9.setTop (mkF m 118 #[.val (.long cc), .second, .val (.int p1), .val (.int p2), .val (.int ch0), .val (.int ch1), .val (.int ch2), .val (.int (p2 &&& (3 : Int32))), .val .null, .val (.ref r9), .unset, .unset, .unset] [])) _
      refine XS.aload X9.here hx rfl (hb hby at_118) rfl rfl ?_
      show Steps p.tables e below (T9.setTop (mkF m 120 #[.val (.long cc), .second, .val (.int p1), .val (.int p2), .val (.int ch0), .val (.int ch1), .val (.int ch2), .val (.int (p2 &&& (3 : Int32))), .val .null, .val (.ref r9), .unset, .unset, .unset] [.null])) _
      refine XS.ifnonnullNo X9.here hx rfl (hb hby at_120) rfl ?_
      show Steps p.tables e below (T9.setTop (mkF m 123 #[.val (.long cc), .second, .val (.int p1), .val (.int p2), .val (.int ch0), .val (.int ch1), .val (.int ch2), .val (.int (p2 &&& (3 : Int32))), .val .null, .val (.ref r9), .unset, .unset, .unset] [])) _
      refine XS.aload X9.here hx rfl (hb hby at_123) rfl rfl ?_
      show Steps p.tables e below (T9.setTop (mkF m 125 #[.val (.long cc), .second, .val (.int p1), .val (.int p2), .val (.int ch0), .val (.int ch1), .val (.int ch2), .val (.int (p2 &&& (3 : Int32))), .val .null, .val (.ref r9), .unset, .unset, .unset] [(.ref r9)])) _
      exact kt)
    obtain ⟨cq14, kq14, q14a, q14b, q14c⟩ := isOf hZ rfl (Ex9)
    obtain ⟨_, _, ⟨T14, L14, k14, n14⟩, -, X14, ⟨Lc14, hQ14, l14, y14, z14⟩, st14⟩ := X9.virtualBack hx (y := (⟨"com/example/hoopoe/hoopoe/core/eval/Measure", "name", "()Ljava/lang/String;"⟩ : MethodName)) (z := (⟨"com/example/hoopoe/hoopoe/core/eval/Measure", "name", "()Ljava/lang/String;"⟩ : MethodName)) hown (mvT hZ (hw _ (List.mem_of_getElem? (i := 43) rfl))) (mvT hZ (hw _ (List.mem_of_getElem? (i := 44) rfl))) (notFace_of_selects (args := #[]) (mvT hZ (hw _ (List.mem_of_getElem? (i := 46) rfl)))) (mvT hZ (hw _ (List.mem_of_getElem? (i := 46) rfl))) (mvT hZ (hw _ (List.mem_of_getElem? (i := 45) rfl))) (by decide) (backOf (W := 0) (rmNN l Z a0 hw [] r9 T9.heap n0 Zf11 Fn9) hZ (hw _ (List.mem_of_getElem? (i := 47) rfl)) (hw _ (List.mem_of_getElem? (i := 24) rfl)) (by decide) (by decide)) q14a q14c (g := (mkF m 125 #[.val (.long cc), .second, .val (.int p1), .val (.int p2), .val (.int ch0), .val (.int ch1), .val (.int ch2), .val (.int (p2 &&& (3 : Int32))), .val .null, .val (.ref r9), .unset, .unset, .unset] [(.ref r9)])) rfl (by rw [hml]; rfl) (Steps.refl _) (argsL := []) (rest := []) (lenOf pd__28_29Ljava_2flang_2fString_3b rfl) rfl (by show 2 * 0 + _ ≤ _; exact Nat.le_of_eq rfl) (hb hby at_125) (fun _ _ => ⟨rfl, rfl, (by decide : 1 + 0 ≤ _), (by decide : 3 + 0 ≤ _)⟩)
    dsimp only [Pt.U, Pt.locs, Pt.cells, Pt.slots] at X14 l14 y14 z14 st14 hQ14
    subst l14 y14 z14
    obtain ⟨rfl, N14q, e14q⟩ := hQ14
    have N14 := Fr.app N9 N14q
    have pre15 : ∀ t, Steps p.tables e below (T14.setTop (mkF m 128 #[.val (.long cc), .second, .val (.int p1), .val (.int p2), .val (.int ch0), .val (.int ch1), .val (.int ch2), .val (.int (p2 &&& (3 : Int32))), .val .null, .val (.ref r9), .unset, .unset, .unset] [.null])) t → Steps p.tables e below (s₁.setTop (entryFrame m #[(.long cc), (.int p1), (.int p2)] maxLocals)) t := fun t kt => pre13 t (st14.trans kt)
    have pre16 : ∀ t, Steps p.tables e below (T14.setTop (mkF m 153 #[.val (.long cc), .second, .val (.int p1), .val (.int p2), .val (.int ch0), .val (.int ch1), .val (.int ch2), .val (.int (p2 &&& (3 : Int32))), .val .null, .val (.ref r9), .val (.int (1 : Int32)), .unset, .unset] [(.ref r9)])) t → Steps p.tables e below (s₁.setTop (entryFrame m #[(.long cc), (.int p1), (.int p2)] maxLocals)) t := fun t kt => pre15 t (by
      refine XS.ifnonnullNo X14.here hx rfl (hb hby at_128) rfl ?_
      show Steps p.tables e below (T14.setTop (mkF m 131 #[.val (.long cc), .second, .val (.int p1), .val (.int p2), .val (.int ch0), .val (.int ch1), .val (.int ch2), .val (.int (p2 &&& (3 : Int32))), .val .null, .val (.ref r9), .unset, .unset, .unset] [])) _
      refine XS.iconst X14.here hx rfl (hb hby at_131) ?_
      show Steps p.tables e below (T14.setTop (mkF m 132 #[.val (.long cc), .second, .val (.int p1), .val (.int p2), .val (.int ch0), .val (.int ch1), .val (.int ch2), .val (.int (p2 &&& (3 : Int32))), .val .null, .val (.ref r9), .unset, .unset, .unset] [(.int (1 : Int32))])) _
      refine XS.goto X14.here hx rfl (pc0 := 132) (pc' := 149) rfl (hb hby at_132) (by decide) (by decide) ?_
      show Steps p.tables e below (T14.setTop (mkF m 149 #[.val (.long cc), .second, .val (.int p1), .val (.int p2), .val (.int ch0), .val (.int ch1), .val (.int ch2), .val (.int (p2 &&& (3 : Int32))), .val .null, .val (.ref r9), .unset, .unset, .unset] [(.int (1 : Int32))])) _
      refine XS.istore X14.here hx rfl (hb hby at_149) rfl (l' := #[.val (.long cc), .second, .val (.int p1), .val (.int p2), .val (.int ch0), .val (.int ch1), .val (.int ch2), .val (.int (p2 &&& (3 : Int32))), .val .null, .val (.ref r9), .val (.int (1 : Int32)), .unset, .unset]) rfl ?_
      show Steps p.tables e below (T14.setTop (mkF m 151 #[.val (.long cc), .second, .val (.int p1), .val (.int p2), .val (.int ch0), .val (.int ch1), .val (.int ch2), .val (.int (p2 &&& (3 : Int32))), .val .null, .val (.ref r9), .val (.int (1 : Int32)), .unset, .unset] [])) _
      refine XS.aload X14.here hx rfl (hb hby at_151) rfl rfl ?_
      show Steps p.tables e below (T14.setTop (mkF m 153 #[.val (.long cc), .second, .val (.int p1), .val (.int p2), .val (.int ch0), .val (.int ch1), .val (.int ch2), .val (.int (p2 &&& (3 : Int32))), .val .null, .val (.ref r9), .val (.int (1 : Int32)), .unset, .unset] [(.ref r9)])) _
      exact kt)
    obtain ⟨cq17, kq17, q17a, q17b, q17c⟩ := isOf hZ e14q (Ex9)
    obtain ⟨_, _, ⟨T17, L17, k17, n17⟩, -, X17, ⟨Lc17, hQ17, l17, y17, z17⟩, st17⟩ := X14.virtualBack hx (y := (⟨"com/example/hoopoe/hoopoe/core/eval/Measure", "value", "()D"⟩ : MethodName)) (z := (⟨"com/example/hoopoe/hoopoe/core/eval/Measure", "value", "()D"⟩ : MethodName)) hown (mvT hZ (hw _ (List.mem_of_getElem? (i := 53) rfl))) (mvT hZ (hw _ (List.mem_of_getElem? (i := 54) rfl))) (notFace_of_selects (args := #[]) (mvT hZ (hw _ (List.mem_of_getElem? (i := 56) rfl)))) (mvT hZ (hw _ (List.mem_of_getElem? (i := 56) rfl))) (mvT hZ (hw _ (List.mem_of_getElem? (i := 55) rfl))) (by decide) (backOf (W := 0) (rmg_value l Z a0 hw [] r9 _ T9.heap n0 Zf11 Fv9) hZ (hw _ (List.mem_of_getElem? (i := 57) rfl)) (hw _ (List.mem_of_getElem? (i := 24) rfl)) (by decide) (by decide)) q17a q17c (g := (mkF m 153 #[.val (.long cc), .second, .val (.int p1), .val (.int p2), .val (.int ch0), .val (.int ch1), .val (.int ch2), .val (.int (p2 &&& (3 : Int32))), .val .null, .val (.ref r9), .val (.int (1 : Int32)), .unset, .unset] [(.ref r9)])) rfl (by rw [hml]; rfl) (Steps.refl _) (argsL := []) (rest := []) (lenOf pd__28_29D rfl) rfl (by show 2 * 0 + _ ≤ _; exact Nat.le_of_eq rfl) (hb hby at_153) (fun _ _ => ⟨rfl, e14q, (by decide : 1 + 0 ≤ _), (by decide : 3 + 0 ≤ _)⟩)
    dsimp only [Pt.U, Pt.locs, Pt.cells, Pt.slots] at X17 l17 y17 z17 st17 hQ17
    subst l17 y17 z17
    obtain ⟨rfl, N17q, e17q⟩ := hQ17
    have N17 := Fr.app N14 N17q
    have pre18 : ∀ t, Steps p.tables e below (T17.setTop (mkF m 156 #[.val (.long cc), .second, .val (.int p1), .val (.int p2), .val (.int ch0), .val (.int ch1), .val (.int ch2), .val (.int (p2 &&& (3 : Int32))), .val .null, .val (.ref r9), .val (.int (1 : Int32)), .unset, .unset] [(.double (FP.l2d cc))])) t → Steps p.tables e below (s₁.setTop (entryFrame m #[(.long cc), (.int p1), (.int p2)] maxLocals)) t := fun t kt => pre16 t (st17.trans kt)
    have pre19 : ∀ t, Steps p.tables e below (T17.setTop (mkF m 177 #[.val (.long cc), .second, .val (.int p1), .val (.int p2), .val (.int ch0), .val (.int ch1), .val (.int ch2), .val (.int (p2 &&& (3 : Int32))), .val .null, .val (.ref r9), .val (.int (1 : Int32)), .val (.int (1 : Int32)), .val (.int (1 : Int32))] [(.int (lcmpW cc (-9007199254740992 : Int64)))])) t → Steps p.tables e below (s₁.setTop (entryFrame m #[(.long cc), (.int p1), (.int p2)] maxLocals)) t := fun t kt => pre18 t (by
      refine XS.lloadN X17.here hx rfl (hb hby at_156) rfl ?_
      show Steps p.tables e below (T17.setTop (mkF m 157 #[.val (.long cc), .second, .val (.int p1), .val (.int p2), .val (.int ch0), .val (.int ch1), .val (.int ch2), .val (.int (p2 &&& (3 : Int32))), .val .null, .val (.ref r9), .val (.int (1 : Int32)), .unset, .unset] [(.long cc), (.double (FP.l2d cc))])) _
      refine own_l2d X17.here hx rfl (hb hby at_157) rfl ?_
      show Steps p.tables e below (T17.setTop (mkF m 158 #[.val (.long cc), .second, .val (.int p1), .val (.int p2), .val (.int ch0), .val (.int ch1), .val (.int ch2), .val (.int (p2 &&& (3 : Int32))), .val .null, .val (.ref r9), .val (.int (1 : Int32)), .unset, .unset] [(.double (FP.l2d cc)), (.double (FP.l2d cc))])) _
      refine own_dcmp X17.here hx rfl (hb hby at_158) rfl ?_
      show Steps p.tables e below (T17.setTop (mkF m 159 #[.val (.long cc), .second, .val (.int p1), .val (.int p2), .val (.int ch0), .val (.int ch1), .val (.int ch2), .val (.int (p2 &&& (3 : Int32))), .val .null, .val (.ref r9), .val (.int (1 : Int32)), .unset, .unset] [(.int (cmpValue (FP.dcmp (FP.l2d cc) (FP.l2d cc)) .l))])) _
      refine XS.ifNo X17.here hx rfl (hb hby at_159) rfl ((if0 _ _).trans (teq (own_dself cc : (cmpValue (FP.dcmp (FP.l2d cc) (FP.l2d cc)) .l) = (0 : Int32))).2) ?_
      show Steps p.tables e below (T17.setTop (mkF m 162 #[.val (.long cc), .second, .val (.int p1), .val (.int p2), .val (.int ch0), .val (.int ch1), .val (.int ch2), .val (.int (p2 &&& (3 : Int32))), .val .null, .val (.ref r9), .val (.int (1 : Int32)), .unset, .unset] [])) _
      refine XS.iconst X17.here hx rfl (hb hby at_162) ?_
      show Steps p.tables e below (T17.setTop (mkF m 163 #[.val (.long cc), .second, .val (.int p1), .val (.int p2), .val (.int ch0), .val (.int ch1), .val (.int ch2), .val (.int (p2 &&& (3 : Int32))), .val .null, .val (.ref r9), .val (.int (1 : Int32)), .unset, .unset] [(.int (1 : Int32))])) _
      refine XS.goto X17.here hx rfl (pc0 := 163) (pc' := 167) rfl (hb hby at_163) (by decide) (by decide) ?_
      show Steps p.tables e below (T17.setTop (mkF m 167 #[.val (.long cc), .second, .val (.int p1), .val (.int p2), .val (.int ch0), .val (.int ch1), .val (.int ch2), .val (.int (p2 &&& (3 : Int32))), .val .null, .val (.ref r9), .val (.int (1 : Int32)), .unset, .unset] [(.int (1 : Int32))])) _
      refine XS.istore X17.here hx rfl (hb hby at_167) rfl (l' := #[.val (.long cc), .second, .val (.int p1), .val (.int p2), .val (.int ch0), .val (.int ch1), .val (.int ch2), .val (.int (p2 &&& (3 : Int32))), .val .null, .val (.ref r9), .val (.int (1 : Int32)), .val (.int (1 : Int32)), .unset]) rfl ?_
      show Steps p.tables e below (T17.setTop (mkF m 169 #[.val (.long cc), .second, .val (.int p1), .val (.int p2), .val (.int ch0), .val (.int ch1), .val (.int ch2), .val (.int (p2 &&& (3 : Int32))), .val .null, .val (.ref r9), .val (.int (1 : Int32)), .val (.int (1 : Int32)), .unset] [])) _
      refine XS.iconst X17.here hx rfl (hb hby at_169) ?_
      show Steps p.tables e below (T17.setTop (mkF m 170 #[.val (.long cc), .second, .val (.int p1), .val (.int p2), .val (.int ch0), .val (.int ch1), .val (.int ch2), .val (.int (p2 &&& (3 : Int32))), .val .null, .val (.ref r9), .val (.int (1 : Int32)), .val (.int (1 : Int32)), .unset] [(.int (1 : Int32))])) _
      refine XS.istore X17.here hx rfl (hb hby at_170) rfl (l' := #[.val (.long cc), .second, .val (.int p1), .val (.int p2), .val (.int ch0), .val (.int ch1), .val (.int ch2), .val (.int (p2 &&& (3 : Int32))), .val .null, .val (.ref r9), .val (.int (1 : Int32)), .val (.int (1 : Int32)), .val (.int (1 : Int32))]) rfl ?_
      show Steps p.tables e below (T17.setTop (mkF m 172 #[.val (.long cc), .second, .val (.int p1), .val (.int p2), .val (.int ch0), .val (.int ch1), .val (.int ch2), .val (.int (p2 &&& (3 : Int32))), .val .null, .val (.ref r9), .val (.int (1 : Int32)), .val (.int (1 : Int32)), .val (.int (1 : Int32))] [])) _
      refine XS.lloadN X17.here hx rfl (hb hby at_172) rfl ?_
      show Steps p.tables e below (T17.setTop (mkF m 173 #[.val (.long cc), .second, .val (.int p1), .val (.int p2), .val (.int ch0), .val (.int ch1), .val (.int ch2), .val (.int (p2 &&& (3 : Int32))), .val .null, .val (.ref r9), .val (.int (1 : Int32)), .val (.int (1 : Int32)), .val (.int (1 : Int32))] [(.long cc)])) _
      refine X17.ldc2Long hx hown (mvT hZ (hw _ (List.mem_of_getElem? (i := 58) rfl))) (g := (mkF m 173 #[.val (.long cc), .second, .val (.int p1), .val (.int p2), .val (.int ch0), .val (.int ch1), .val (.int ch2), .val (.int (p2 &&& (3 : Int32))), .val .null, .val (.ref r9), .val (.int (1 : Int32)), .val (.int (1 : Int32)), .val (.int (1 : Int32))] [(.long cc)])) rfl (hb hby at_173) _ ?_
      show Steps p.tables e below (T17.setTop (mkF m 176 #[.val (.long cc), .second, .val (.int p1), .val (.int p2), .val (.int ch0), .val (.int ch1), .val (.int ch2), .val (.int (p2 &&& (3 : Int32))), .val .null, .val (.ref r9), .val (.int (1 : Int32)), .val (.int (1 : Int32)), .val (.int (1 : Int32))] [(.long (-9007199254740992 : Int64)), (.long cc)])) _
      refine XS.lcmp X17.here hx rfl (hb hby at_176) rfl ?_
      show Steps p.tables e below (T17.setTop (mkF m 177 #[.val (.long cc), .second, .val (.int p1), .val (.int p2), .val (.int ch0), .val (.int ch1), .val (.int ch2), .val (.int (p2 &&& (3 : Int32))), .val .null, .val (.ref r9), .val (.int (1 : Int32)), .val (.int (1 : Int32)), .val (.int (1 : Int32))] [(.int (lcmpW cc (-9007199254740992 : Int64)))])) _
      exact kt)
    by_cases c177_2 : cc < (-9007199254740992 : Int64)
    · have pre20 : ∀ t, Steps p.tables e below (T17.setTop (mkF m 223 #[.val (.long cc), .second, .val (.int p1), .val (.int p2), .val (.int ch0), .val (.int ch1), .val (.int ch2), .val (.int (p2 &&& (3 : Int32))), .val .null, .val (.ref r9), .val (.int (1 : Int32)), .val (.int (1 : Int32)), .val (.int (1 : Int32))] [(.ref r9)])) t → Steps p.tables e below (s₁.setTop (entryFrame m #[(.long cc), (.int p1), (.int p2)] maxLocals)) t := fun t kt => pre19 t (by
        refine XS.ifYes X17.here hx rfl (pc0 := 177) (pc' := 206) rfl (hb hby at_177) rfl ((if0 _ _).trans (tlt ((lw_lt _ _).mpr c177_2)).1) (by decide) (by decide) ?_
        show Steps p.tables e below (T17.setTop (mkF m 206 #[.val (.long cc), .second, .val (.int p1), .val (.int p2), .val (.int ch0), .val (.int ch1), .val (.int ch2), .val (.int (p2 &&& (3 : Int32))), .val .null, .val (.ref r9), .val (.int (1 : Int32)), .val (.int (1 : Int32)), .val (.int (1 : Int32))] [])) _
        refine XS.iload X17.here hx rfl (hb hby at_206) rfl ?_
        show Steps p.tables e below (T17.setTop (mkF m 208 #[.val (.long cc), .second, .val (.int p1), .val (.int p2), .val (.int ch0), .val (.int ch1), .val (.int ch2), .val (.int (p2 &&& (3 : Int32))), .val .null, .val (.ref r9), .val (.int (1 : Int32)), .val (.int (1 : Int32)), .val (.int (1 : Int32))] [(.int (1 : Int32))])) _
        refine XS.ifNo X17.here hx rfl (hb hby at_208) rfl ((if0 _ _).trans (feq (by decide : ¬ ((1 : Int32) = (0 : Int32)))).1) ?_
        show Steps p.tables e below (T17.setTop (mkF m 211 #[.val (.long cc), .second, .val (.int p1), .val (.int p2), .val (.int ch0), .val (.int ch1), .val (.int ch2), .val (.int (p2 &&& (3 : Int32))), .val .null, .val (.ref r9), .val (.int (1 : Int32)), .val (.int (1 : Int32)), .val (.int (1 : Int32))] [])) _
        refine XS.iload X17.here hx rfl (hb hby at_211) rfl ?_
        show Steps p.tables e below (T17.setTop (mkF m 213 #[.val (.long cc), .second, .val (.int p1), .val (.int p2), .val (.int ch0), .val (.int ch1), .val (.int ch2), .val (.int (p2 &&& (3 : Int32))), .val .null, .val (.ref r9), .val (.int (1 : Int32)), .val (.int (1 : Int32)), .val (.int (1 : Int32))] [(.int (1 : Int32))])) _
        refine XS.ifNo X17.here hx rfl (hb hby at_213) rfl ((if0 _ _).trans (feq (by decide : ¬ ((1 : Int32) = (0 : Int32)))).1) ?_
        show Steps p.tables e below (T17.setTop (mkF m 216 #[.val (.long cc), .second, .val (.int p1), .val (.int p2), .val (.int ch0), .val (.int ch1), .val (.int ch2), .val (.int (p2 &&& (3 : Int32))), .val .null, .val (.ref r9), .val (.int (1 : Int32)), .val (.int (1 : Int32)), .val (.int (1 : Int32))] [])) _
        refine XS.iload X17.here hx rfl (hb hby at_216) rfl ?_
        show Steps p.tables e below (T17.setTop (mkF m 218 #[.val (.long cc), .second, .val (.int p1), .val (.int p2), .val (.int ch0), .val (.int ch1), .val (.int ch2), .val (.int (p2 &&& (3 : Int32))), .val .null, .val (.ref r9), .val (.int (1 : Int32)), .val (.int (1 : Int32)), .val (.int (1 : Int32))] [(.int (1 : Int32))])) _
        refine XS.ifNo X17.here hx rfl (hb hby at_218) rfl ((if0 _ _).trans (feq (by decide : ¬ ((1 : Int32) = (0 : Int32)))).1) ?_
        show Steps p.tables e below (T17.setTop (mkF m 221 #[.val (.long cc), .second, .val (.int p1), .val (.int p2), .val (.int ch0), .val (.int ch1), .val (.int ch2), .val (.int (p2 &&& (3 : Int32))), .val .null, .val (.ref r9), .val (.int (1 : Int32)), .val (.int (1 : Int32)), .val (.int (1 : Int32))] [])) _
        refine XS.aload X17.here hx rfl (hb hby at_221) rfl rfl ?_
        show Steps p.tables e below (T17.setTop (mkF m 223 #[.val (.long cc), .second, .val (.int p1), .val (.int p2), .val (.int ch0), .val (.int ch1), .val (.int ch2), .val (.int (p2 &&& (3 : Int32))), .val .null, .val (.ref r9), .val (.int (1 : Int32)), .val (.int (1 : Int32)), .val (.int (1 : Int32))] [(.ref r9)])) _
        exact kt)
      obtain ⟨cq21, kq21, q21a, q21b, q21c⟩ := isOf hZ e17q (Ex9)
      obtain ⟨_, _, ⟨T21, L21, k21, n21⟩, -, X21, ⟨Lc21, hQ21, l21, y21, z21⟩, st21⟩ := X17.virtualBack hx (y := (⟨"com/example/hoopoe/hoopoe/core/eval/Measure", "decimals", "()I"⟩ : MethodName)) (z := (⟨"com/example/hoopoe/hoopoe/core/eval/Measure", "decimals", "()I"⟩ : MethodName)) hown (mvT hZ (hw _ (List.mem_of_getElem? (i := 60) rfl))) (mvT hZ (hw _ (List.mem_of_getElem? (i := 61) rfl))) (notFace_of_selects (args := #[]) (mvT hZ (hw _ (List.mem_of_getElem? (i := 63) rfl)))) (mvT hZ (hw _ (List.mem_of_getElem? (i := 63) rfl))) (mvT hZ (hw _ (List.mem_of_getElem? (i := 62) rfl))) (by decide) (backOf (W := 0) (rmg_decimals l Z a0 hw [] r9 _ T9.heap n0 Zf11 Fd9) hZ (hw _ (List.mem_of_getElem? (i := 64) rfl)) (hw _ (List.mem_of_getElem? (i := 24) rfl)) (by decide) (by decide)) q21a q21c (g := (mkF m 223 #[.val (.long cc), .second, .val (.int p1), .val (.int p2), .val (.int ch0), .val (.int ch1), .val (.int ch2), .val (.int (p2 &&& (3 : Int32))), .val .null, .val (.ref r9), .val (.int (1 : Int32)), .val (.int (1 : Int32)), .val (.int (1 : Int32))] [(.ref r9)])) rfl (by rw [hml]; rfl) (Steps.refl _) (argsL := []) (rest := []) (lenOf pd__28_29I rfl) rfl (by show 2 * 0 + _ ≤ _; exact Nat.le_of_eq rfl) (hb hby at_223) (fun _ _ => ⟨rfl, e17q, (by decide : 1 + 0 ≤ _), (by decide : 3 + 0 ≤ _)⟩)
      dsimp only [Pt.U, Pt.locs, Pt.cells, Pt.slots] at X21 l21 y21 z21 st21 hQ21
      subst l21 y21 z21
      obtain ⟨rfl, N21q, e21q⟩ := hQ21
      have N21 := Fr.app N17 N21q
      have pre22 : ∀ t, Steps p.tables e below (T21.setTop (mkF m 226 #[.val (.long cc), .second, .val (.int p1), .val (.int p2), .val (.int ch0), .val (.int ch1), .val (.int ch2), .val (.int (p2 &&& (3 : Int32))), .val .null, .val (.ref r9), .val (.int (1 : Int32)), .val (.int (1 : Int32)), .val (.int (1 : Int32))] [(.int (0 : Int32))])) t → Steps p.tables e below (s₁.setTop (entryFrame m #[(.long cc), (.int p1), (.int p2)] maxLocals)) t := fun t kt => pre20 t (st21.trans kt)
      have pre23 : ∀ t, Steps p.tables e below (T21.setTop (mkF m 234 #[.val (.long cc), .second, .val (.int p1), .val (.int p2), .val (.int ch0), .val (.int ch1), .val (.int ch2), .val (.int (p2 &&& (3 : Int32))), .val .null, .val (.ref r9), .val (.int (1 : Int32)), .val (.int (1 : Int32)), .val (.int (1 : Int32))] [(.int (1 : Int32))])) t → Steps p.tables e below (s₁.setTop (entryFrame m #[(.long cc), (.int p1), (.int p2)] maxLocals)) t := fun t kt => pre22 t (by
        refine XS.ifNo X21.here hx rfl (hb hby at_226) rfl ((if0 _ _).trans (teq (by decide : (0 : Int32) = (0 : Int32))).2) ?_
        show Steps p.tables e below (T21.setTop (mkF m 229 #[.val (.long cc), .second, .val (.int p1), .val (.int p2), .val (.int ch0), .val (.int ch1), .val (.int ch2), .val (.int (p2 &&& (3 : Int32))), .val .null, .val (.ref r9), .val (.int (1 : Int32)), .val (.int (1 : Int32)), .val (.int (1 : Int32))] [])) _
        refine XS.iconst X21.here hx rfl (hb hby at_229) ?_
        show Steps p.tables e below (T21.setTop (mkF m 230 #[.val (.long cc), .second, .val (.int p1), .val (.int p2), .val (.int ch0), .val (.int ch1), .val (.int ch2), .val (.int (p2 &&& (3 : Int32))), .val .null, .val (.ref r9), .val (.int (1 : Int32)), .val (.int (1 : Int32)), .val (.int (1 : Int32))] [(.int (1 : Int32))])) _
        refine XS.goto X21.here hx rfl (pc0 := 230) (pc' := 234) rfl (hb hby at_230) (by decide) (by decide) ?_
        show Steps p.tables e below (T21.setTop (mkF m 234 #[.val (.long cc), .second, .val (.int p1), .val (.int p2), .val (.int ch0), .val (.int ch1), .val (.int ch2), .val (.int (p2 &&& (3 : Int32))), .val .null, .val (.ref r9), .val (.int (1 : Int32)), .val (.int (1 : Int32)), .val (.int (1 : Int32))] [(.int (1 : Int32))])) _
        exact kt)
      obtain ⟨fs, hr, hrun, hended, hW, hsame⟩ := X21.leave (v := (some (.int (1 : Int32)))) (fun h => by rw [Bd.returns] at h; cases h)
      refine ⟨_, _, pre23 _ ?_, hrun, hended, _, _, rfl, ?_, ReturnedEndW.of_narrow ⟨_, rfl⟩ hW (hsame.mono (by decide) (by decide))⟩
      · exact retN X21 hx (t := .boolean) Bd.returns (by simp) (hb hby at_234) hr
      · show Q0 Z  h0 n0 _ T21.heap T21.vm _
        rw [e21q]
        exact ⟨rfl, N21⟩
    · have pre25 : ∀ t, Steps p.tables e below (T17.setTop (mkF m 185 #[.val (.long cc), .second, .val (.int p1), .val (.int p2), .val (.int ch0), .val (.int ch1), .val (.int ch2), .val (.int (p2 &&& (3 : Int32))), .val .null, .val (.ref r9), .val (.int (1 : Int32)), .val (.int (1 : Int32)), .val (.int (1 : Int32))] [(.int (lcmpW cc (9007199254740992 : Int64)))])) t → Steps p.tables e below (s₁.setTop (entryFrame m #[(.long cc), (.int p1), (.int p2)] maxLocals)) t := fun t kt => pre19 t (by
        refine XS.ifNo X17.here hx rfl (hb hby at_177) rfl ((if0 _ _).trans (flt (mt (lw_lt _ _).mp c177_2)).1) ?_
        show Steps p.tables e below (T17.setTop (mkF m 180 #[.val (.long cc), .second, .val (.int p1), .val (.int p2), .val (.int ch0), .val (.int ch1), .val (.int ch2), .val (.int (p2 &&& (3 : Int32))), .val .null, .val (.ref r9), .val (.int (1 : Int32)), .val (.int (1 : Int32)), .val (.int (1 : Int32))] [])) _
        refine XS.lloadN X17.here hx rfl (hb hby at_180) rfl ?_
        show Steps p.tables e below (T17.setTop (mkF m 181 #[.val (.long cc), .second, .val (.int p1), .val (.int p2), .val (.int ch0), .val (.int ch1), .val (.int ch2), .val (.int (p2 &&& (3 : Int32))), .val .null, .val (.ref r9), .val (.int (1 : Int32)), .val (.int (1 : Int32)), .val (.int (1 : Int32))] [(.long cc)])) _
        refine X17.ldc2Long hx hown (mvT hZ (hw _ (List.mem_of_getElem? (i := 59) rfl))) (g := (mkF m 181 #[.val (.long cc), .second, .val (.int p1), .val (.int p2), .val (.int ch0), .val (.int ch1), .val (.int ch2), .val (.int (p2 &&& (3 : Int32))), .val .null, .val (.ref r9), .val (.int (1 : Int32)), .val (.int (1 : Int32)), .val (.int (1 : Int32))] [(.long cc)])) rfl (hb hby at_181) _ ?_
        show Steps p.tables e below (T17.setTop (mkF m 184 #[.val (.long cc), .second, .val (.int p1), .val (.int p2), .val (.int ch0), .val (.int ch1), .val (.int ch2), .val (.int (p2 &&& (3 : Int32))), .val .null, .val (.ref r9), .val (.int (1 : Int32)), .val (.int (1 : Int32)), .val (.int (1 : Int32))] [(.long (9007199254740992 : Int64)), (.long cc)])) _
        refine XS.lcmp X17.here hx rfl (hb hby at_184) rfl ?_
        show Steps p.tables e below (T17.setTop (mkF m 185 #[.val (.long cc), .second, .val (.int p1), .val (.int p2), .val (.int ch0), .val (.int ch1), .val (.int ch2), .val (.int (p2 &&& (3 : Int32))), .val .null, .val (.ref r9), .val (.int (1 : Int32)), .val (.int (1 : Int32)), .val (.int (1 : Int32))] [(.int (lcmpW cc (9007199254740992 : Int64)))])) _
        exact kt)
      by_cases c185_3 : (9007199254740992 : Int64) < cc
      · have pre26 : ∀ t, Steps p.tables e below (T17.setTop (mkF m 223 #[.val (.long cc), .second, .val (.int p1), .val (.int p2), .val (.int ch0), .val (.int ch1), .val (.int ch2), .val (.int (p2 &&& (3 : Int32))), .val .null, .val (.ref r9), .val (.int (1 : Int32)), .val (.int (1 : Int32)), .val (.int (1 : Int32))] [(.ref r9)])) t → Steps p.tables e below (s₁.setTop (entryFrame m #[(.long cc), (.int p1), (.int p2)] maxLocals)) t := fun t kt => pre25 t (by
          refine XS.ifYes X17.here hx rfl (pc0 := 185) (pc' := 206) rfl (hb hby at_185) rfl ((if0 _ _).trans (tlt ((lw_gt _ _).mpr c185_3)).2.2.1) (by decide) (by decide) ?_
          show Steps p.tables e below (T17.setTop (mkF m 206 #[.val (.long cc), .second, .val (.int p1), .val (.int p2), .val (.int ch0), .val (.int ch1), .val (.int ch2), .val (.int (p2 &&& (3 : Int32))), .val .null, .val (.ref r9), .val (.int (1 : Int32)), .val (.int (1 : Int32)), .val (.int (1 : Int32))] [])) _
          refine XS.iload X17.here hx rfl (hb hby at_206) rfl ?_
          show Steps p.tables e below (T17.setTop (mkF m 208 #[.val (.long cc), .second, .val (.int p1), .val (.int p2), .val (.int ch0), .val (.int ch1), .val (.int ch2), .val (.int (p2 &&& (3 : Int32))), .val .null, .val (.ref r9), .val (.int (1 : Int32)), .val (.int (1 : Int32)), .val (.int (1 : Int32))] [(.int (1 : Int32))])) _
          refine XS.ifNo X17.here hx rfl (hb hby at_208) rfl ((if0 _ _).trans (feq (by decide : ¬ ((1 : Int32) = (0 : Int32)))).1) ?_
          show Steps p.tables e below (T17.setTop (mkF m 211 #[.val (.long cc), .second, .val (.int p1), .val (.int p2), .val (.int ch0), .val (.int ch1), .val (.int ch2), .val (.int (p2 &&& (3 : Int32))), .val .null, .val (.ref r9), .val (.int (1 : Int32)), .val (.int (1 : Int32)), .val (.int (1 : Int32))] [])) _
          refine XS.iload X17.here hx rfl (hb hby at_211) rfl ?_
          show Steps p.tables e below (T17.setTop (mkF m 213 #[.val (.long cc), .second, .val (.int p1), .val (.int p2), .val (.int ch0), .val (.int ch1), .val (.int ch2), .val (.int (p2 &&& (3 : Int32))), .val .null, .val (.ref r9), .val (.int (1 : Int32)), .val (.int (1 : Int32)), .val (.int (1 : Int32))] [(.int (1 : Int32))])) _
          refine XS.ifNo X17.here hx rfl (hb hby at_213) rfl ((if0 _ _).trans (feq (by decide : ¬ ((1 : Int32) = (0 : Int32)))).1) ?_
          show Steps p.tables e below (T17.setTop (mkF m 216 #[.val (.long cc), .second, .val (.int p1), .val (.int p2), .val (.int ch0), .val (.int ch1), .val (.int ch2), .val (.int (p2 &&& (3 : Int32))), .val .null, .val (.ref r9), .val (.int (1 : Int32)), .val (.int (1 : Int32)), .val (.int (1 : Int32))] [])) _
          refine XS.iload X17.here hx rfl (hb hby at_216) rfl ?_
          show Steps p.tables e below (T17.setTop (mkF m 218 #[.val (.long cc), .second, .val (.int p1), .val (.int p2), .val (.int ch0), .val (.int ch1), .val (.int ch2), .val (.int (p2 &&& (3 : Int32))), .val .null, .val (.ref r9), .val (.int (1 : Int32)), .val (.int (1 : Int32)), .val (.int (1 : Int32))] [(.int (1 : Int32))])) _
          refine XS.ifNo X17.here hx rfl (hb hby at_218) rfl ((if0 _ _).trans (feq (by decide : ¬ ((1 : Int32) = (0 : Int32)))).1) ?_
          show Steps p.tables e below (T17.setTop (mkF m 221 #[.val (.long cc), .second, .val (.int p1), .val (.int p2), .val (.int ch0), .val (.int ch1), .val (.int ch2), .val (.int (p2 &&& (3 : Int32))), .val .null, .val (.ref r9), .val (.int (1 : Int32)), .val (.int (1 : Int32)), .val (.int (1 : Int32))] [])) _
          refine XS.aload X17.here hx rfl (hb hby at_221) rfl rfl ?_
          show Steps p.tables e below (T17.setTop (mkF m 223 #[.val (.long cc), .second, .val (.int p1), .val (.int p2), .val (.int ch0), .val (.int ch1), .val (.int ch2), .val (.int (p2 &&& (3 : Int32))), .val .null, .val (.ref r9), .val (.int (1 : Int32)), .val (.int (1 : Int32)), .val (.int (1 : Int32))] [(.ref r9)])) _
          exact kt)
        obtain ⟨cq27, kq27, q27a, q27b, q27c⟩ := isOf hZ e17q (Ex9)
        obtain ⟨_, _, ⟨T27, L27, k27, n27⟩, -, X27, ⟨Lc27, hQ27, l27, y27, z27⟩, st27⟩ := X17.virtualBack hx (y := (⟨"com/example/hoopoe/hoopoe/core/eval/Measure", "decimals", "()I"⟩ : MethodName)) (z := (⟨"com/example/hoopoe/hoopoe/core/eval/Measure", "decimals", "()I"⟩ : MethodName)) hown (mvT hZ (hw _ (List.mem_of_getElem? (i := 60) rfl))) (mvT hZ (hw _ (List.mem_of_getElem? (i := 61) rfl))) (notFace_of_selects (args := #[]) (mvT hZ (hw _ (List.mem_of_getElem? (i := 63) rfl)))) (mvT hZ (hw _ (List.mem_of_getElem? (i := 63) rfl))) (mvT hZ (hw _ (List.mem_of_getElem? (i := 62) rfl))) (by decide) (backOf (W := 0) (rmg_decimals l Z a0 hw [] r9 _ T9.heap n0 Zf11 Fd9) hZ (hw _ (List.mem_of_getElem? (i := 64) rfl)) (hw _ (List.mem_of_getElem? (i := 24) rfl)) (by decide) (by decide)) q27a q27c (g := (mkF m 223 #[.val (.long cc), .second, .val (.int p1), .val (.int p2), .val (.int ch0), .val (.int ch1), .val (.int ch2), .val (.int (p2 &&& (3 : Int32))), .val .null, .val (.ref r9), .val (.int (1 : Int32)), .val (.int (1 : Int32)), .val (.int (1 : Int32))] [(.ref r9)])) rfl (by rw [hml]; rfl) (Steps.refl _) (argsL := []) (rest := []) (lenOf pd__28_29I rfl) rfl (by show 2 * 0 + _ ≤ _; exact Nat.le_of_eq rfl) (hb hby at_223) (fun _ _ => ⟨rfl, e17q, (by decide : 1 + 0 ≤ _), (by decide : 3 + 0 ≤ _)⟩)
        dsimp only [Pt.U, Pt.locs, Pt.cells, Pt.slots] at X27 l27 y27 z27 st27 hQ27
        subst l27 y27 z27
        obtain ⟨rfl, N27q, e27q⟩ := hQ27
        have N27 := Fr.app N17 N27q
        have pre28 : ∀ t, Steps p.tables e below (T27.setTop (mkF m 226 #[.val (.long cc), .second, .val (.int p1), .val (.int p2), .val (.int ch0), .val (.int ch1), .val (.int ch2), .val (.int (p2 &&& (3 : Int32))), .val .null, .val (.ref r9), .val (.int (1 : Int32)), .val (.int (1 : Int32)), .val (.int (1 : Int32))] [(.int (0 : Int32))])) t → Steps p.tables e below (s₁.setTop (entryFrame m #[(.long cc), (.int p1), (.int p2)] maxLocals)) t := fun t kt => pre26 t (st27.trans kt)
        have pre29 : ∀ t, Steps p.tables e below (T27.setTop (mkF m 234 #[.val (.long cc), .second, .val (.int p1), .val (.int p2), .val (.int ch0), .val (.int ch1), .val (.int ch2), .val (.int (p2 &&& (3 : Int32))), .val .null, .val (.ref r9), .val (.int (1 : Int32)), .val (.int (1 : Int32)), .val (.int (1 : Int32))] [(.int (1 : Int32))])) t → Steps p.tables e below (s₁.setTop (entryFrame m #[(.long cc), (.int p1), (.int p2)] maxLocals)) t := fun t kt => pre28 t (by
          refine XS.ifNo X27.here hx rfl (hb hby at_226) rfl ((if0 _ _).trans (teq (by decide : (0 : Int32) = (0 : Int32))).2) ?_
          show Steps p.tables e below (T27.setTop (mkF m 229 #[.val (.long cc), .second, .val (.int p1), .val (.int p2), .val (.int ch0), .val (.int ch1), .val (.int ch2), .val (.int (p2 &&& (3 : Int32))), .val .null, .val (.ref r9), .val (.int (1 : Int32)), .val (.int (1 : Int32)), .val (.int (1 : Int32))] [])) _
          refine XS.iconst X27.here hx rfl (hb hby at_229) ?_
          show Steps p.tables e below (T27.setTop (mkF m 230 #[.val (.long cc), .second, .val (.int p1), .val (.int p2), .val (.int ch0), .val (.int ch1), .val (.int ch2), .val (.int (p2 &&& (3 : Int32))), .val .null, .val (.ref r9), .val (.int (1 : Int32)), .val (.int (1 : Int32)), .val (.int (1 : Int32))] [(.int (1 : Int32))])) _
          refine XS.goto X27.here hx rfl (pc0 := 230) (pc' := 234) rfl (hb hby at_230) (by decide) (by decide) ?_
          show Steps p.tables e below (T27.setTop (mkF m 234 #[.val (.long cc), .second, .val (.int p1), .val (.int p2), .val (.int ch0), .val (.int ch1), .val (.int ch2), .val (.int (p2 &&& (3 : Int32))), .val .null, .val (.ref r9), .val (.int (1 : Int32)), .val (.int (1 : Int32)), .val (.int (1 : Int32))] [(.int (1 : Int32))])) _
          exact kt)
        obtain ⟨fs, hr, hrun, hended, hW, hsame⟩ := X27.leave (v := (some (.int (1 : Int32)))) (fun h => by rw [Bd.returns] at h; cases h)
        refine ⟨_, _, pre29 _ ?_, hrun, hended, _, _, rfl, ?_, ReturnedEndW.of_narrow ⟨_, rfl⟩ hW (hsame.mono (by decide) (by decide))⟩
        · exact retN X27 hx (t := .boolean) Bd.returns (by simp) (hb hby at_234) hr
        · show Q0 Z  h0 n0 _ T27.heap T27.vm _
          rw [e27q]
          exact ⟨rfl, N27⟩
      · have pre31 : ∀ t, Steps p.tables e below (T17.setTop (mkF m 190 #[.val (.long cc), .second, .val (.int p1), .val (.int p2), .val (.int ch0), .val (.int ch1), .val (.int ch2), .val (.int (p2 &&& (3 : Int32))), .val .null, .val (.ref r9), .val (.int (1 : Int32)), .val (.int (1 : Int32)), .val (.int (1 : Int32))] [(.ref r9)])) t → Steps p.tables e below (s₁.setTop (entryFrame m #[(.long cc), (.int p1), (.int p2)] maxLocals)) t := fun t kt => pre25 t (by
          refine XS.ifNo X17.here hx rfl (hb hby at_185) rfl ((if0 _ _).trans (flt (mt (lw_gt _ _).mp c185_3)).2.2.1) ?_
          show Steps p.tables e below (T17.setTop (mkF m 188 #[.val (.long cc), .second, .val (.int p1), .val (.int p2), .val (.int ch0), .val (.int ch1), .val (.int ch2), .val (.int (p2 &&& (3 : Int32))), .val .null, .val (.ref r9), .val (.int (1 : Int32)), .val (.int (1 : Int32)), .val (.int (1 : Int32))] [])) _
          refine XS.aload X17.here hx rfl (hb hby at_188) rfl rfl ?_
          show Steps p.tables e below (T17.setTop (mkF m 190 #[.val (.long cc), .second, .val (.int p1), .val (.int p2), .val (.int ch0), .val (.int ch1), .val (.int ch2), .val (.int (p2 &&& (3 : Int32))), .val .null, .val (.ref r9), .val (.int (1 : Int32)), .val (.int (1 : Int32)), .val (.int (1 : Int32))] [(.ref r9)])) _
          exact kt)
        obtain ⟨cq32, kq32, q32a, q32b, q32c⟩ := isOf hZ e17q (Ex9)
        obtain ⟨_, _, ⟨T32, L32, k32, n32⟩, -, X32, ⟨Lc32, hQ32, l32, y32, z32⟩, st32⟩ := X17.virtualBack hx (y := (⟨"com/example/hoopoe/hoopoe/core/eval/Measure", "value", "()D"⟩ : MethodName)) (z := (⟨"com/example/hoopoe/hoopoe/core/eval/Measure", "value", "()D"⟩ : MethodName)) hown (mvT hZ (hw _ (List.mem_of_getElem? (i := 53) rfl))) (mvT hZ (hw _ (List.mem_of_getElem? (i := 54) rfl))) (notFace_of_selects (args := #[]) (mvT hZ (hw _ (List.mem_of_getElem? (i := 56) rfl)))) (mvT hZ (hw _ (List.mem_of_getElem? (i := 56) rfl))) (mvT hZ (hw _ (List.mem_of_getElem? (i := 55) rfl))) (by decide) (backOf (W := 0) (rmg_value l Z a0 hw [] r9 _ T9.heap n0 Zf11 Fv9) hZ (hw _ (List.mem_of_getElem? (i := 57) rfl)) (hw _ (List.mem_of_getElem? (i := 24) rfl)) (by decide) (by decide)) q32a q32c (g := (mkF m 190 #[.val (.long cc), .second, .val (.int p1), .val (.int p2), .val (.int ch0), .val (.int ch1), .val (.int ch2), .val (.int (p2 &&& (3 : Int32))), .val .null, .val (.ref r9), .val (.int (1 : Int32)), .val (.int (1 : Int32)), .val (.int (1 : Int32))] [(.ref r9)])) rfl (by rw [hml]; rfl) (Steps.refl _) (argsL := []) (rest := []) (lenOf pd__28_29D rfl) rfl (by show 2 * 0 + _ ≤ _; exact Nat.le_of_eq rfl) (hb hby at_190) (fun _ _ => ⟨rfl, e17q, (by decide : 1 + 0 ≤ _), (by decide : 3 + 0 ≤ _)⟩)
        dsimp only [Pt.U, Pt.locs, Pt.cells, Pt.slots] at X32 l32 y32 z32 st32 hQ32
        subst l32 y32 z32
        obtain ⟨rfl, N32q, e32q⟩ := hQ32
        have N32 := Fr.app N17 N32q
        have pre33 : ∀ t, Steps p.tables e below (T32.setTop (mkF m 193 #[.val (.long cc), .second, .val (.int p1), .val (.int p2), .val (.int ch0), .val (.int ch1), .val (.int ch2), .val (.int (p2 &&& (3 : Int32))), .val .null, .val (.ref r9), .val (.int (1 : Int32)), .val (.int (1 : Int32)), .val (.int (1 : Int32))] [(.double (FP.l2d cc))])) t → Steps p.tables e below (s₁.setTop (entryFrame m #[(.long cc), (.int p1), (.int p2)] maxLocals)) t := fun t kt => pre31 t (st32.trans kt)
        have pre34 : ∀ t, Steps p.tables e below (T32.setTop (mkF m 223 #[.val (.long cc), .second, .val (.int p1), .val (.int p2), .val (.int ch0), .val (.int ch1), .val (.int ch2), .val (.int (p2 &&& (3 : Int32))), .val .null, .val (.ref r9), .val (.int (1 : Int32)), .val (.int (1 : Int32)), .val (.int (1 : Int32))] [(.ref r9)])) t → Steps p.tables e below (s₁.setTop (entryFrame m #[(.long cc), (.int p1), (.int p2)] maxLocals)) t := fun t kt => pre33 t (by
          refine own_d2l X32.here hx rfl (hb hby at_193) rfl ?_
          show Steps p.tables e below (T32.setTop (mkF m 194 #[.val (.long cc), .second, .val (.int p1), .val (.int p2), .val (.int ch0), .val (.int ch1), .val (.int ch2), .val (.int (p2 &&& (3 : Int32))), .val .null, .val (.ref r9), .val (.int (1 : Int32)), .val (.int (1 : Int32)), .val (.int (1 : Int32))] [(.long (FP.d2l (FP.l2d cc)))])) _
          refine XS.lloadN X32.here hx rfl (hb hby at_194) rfl ?_
          show Steps p.tables e below (T32.setTop (mkF m 195 #[.val (.long cc), .second, .val (.int p1), .val (.int p2), .val (.int ch0), .val (.int ch1), .val (.int ch2), .val (.int (p2 &&& (3 : Int32))), .val .null, .val (.ref r9), .val (.int (1 : Int32)), .val (.int (1 : Int32)), .val (.int (1 : Int32))] [(.long cc), (.long (FP.d2l (FP.l2d cc)))])) _
          refine XS.lcmp X32.here hx rfl (hb hby at_195) rfl ?_
          show Steps p.tables e below (T32.setTop (mkF m 196 #[.val (.long cc), .second, .val (.int p1), .val (.int p2), .val (.int ch0), .val (.int ch1), .val (.int ch2), .val (.int (p2 &&& (3 : Int32))), .val .null, .val (.ref r9), .val (.int (1 : Int32)), .val (.int (1 : Int32)), .val (.int (1 : Int32))] [(.int (lcmpW (FP.d2l (FP.l2d cc)) cc))])) _
          refine XS.ifNo X32.here hx rfl (hb hby at_196) rfl ((if0 _ _).trans (teq ((lw_eq _ _).mpr (own_exact cc c177_2 c185_3 : (FP.d2l (FP.l2d cc)) = cc))).2) ?_
          show Steps p.tables e below (T32.setTop (mkF m 199 #[.val (.long cc), .second, .val (.int p1), .val (.int p2), .val (.int ch0), .val (.int ch1), .val (.int ch2), .val (.int (p2 &&& (3 : Int32))), .val .null, .val (.ref r9), .val (.int (1 : Int32)), .val (.int (1 : Int32)), .val (.int (1 : Int32))] [])) _
          refine XS.iconst X32.here hx rfl (hb hby at_199) ?_
          show Steps p.tables e below (T32.setTop (mkF m 200 #[.val (.long cc), .second, .val (.int p1), .val (.int p2), .val (.int ch0), .val (.int ch1), .val (.int ch2), .val (.int (p2 &&& (3 : Int32))), .val .null, .val (.ref r9), .val (.int (1 : Int32)), .val (.int (1 : Int32)), .val (.int (1 : Int32))] [(.int (1 : Int32))])) _
          refine XS.goto X32.here hx rfl (pc0 := 200) (pc' := 204) rfl (hb hby at_200) (by decide) (by decide) ?_
          show Steps p.tables e below (T32.setTop (mkF m 204 #[.val (.long cc), .second, .val (.int p1), .val (.int p2), .val (.int ch0), .val (.int ch1), .val (.int ch2), .val (.int (p2 &&& (3 : Int32))), .val .null, .val (.ref r9), .val (.int (1 : Int32)), .val (.int (1 : Int32)), .val (.int (1 : Int32))] [(.int (1 : Int32))])) _
          refine XS.istore X32.here hx rfl (hb hby at_204) rfl (l' := #[.val (.long cc), .second, .val (.int p1), .val (.int p2), .val (.int ch0), .val (.int ch1), .val (.int ch2), .val (.int (p2 &&& (3 : Int32))), .val .null, .val (.ref r9), .val (.int (1 : Int32)), .val (.int (1 : Int32)), .val (.int (1 : Int32))]) rfl ?_
          show Steps p.tables e below (T32.setTop (mkF m 206 #[.val (.long cc), .second, .val (.int p1), .val (.int p2), .val (.int ch0), .val (.int ch1), .val (.int ch2), .val (.int (p2 &&& (3 : Int32))), .val .null, .val (.ref r9), .val (.int (1 : Int32)), .val (.int (1 : Int32)), .val (.int (1 : Int32))] [])) _
          refine XS.iload X32.here hx rfl (hb hby at_206) rfl ?_
          show Steps p.tables e below (T32.setTop (mkF m 208 #[.val (.long cc), .second, .val (.int p1), .val (.int p2), .val (.int ch0), .val (.int ch1), .val (.int ch2), .val (.int (p2 &&& (3 : Int32))), .val .null, .val (.ref r9), .val (.int (1 : Int32)), .val (.int (1 : Int32)), .val (.int (1 : Int32))] [(.int (1 : Int32))])) _
          refine XS.ifNo X32.here hx rfl (hb hby at_208) rfl ((if0 _ _).trans (feq (by decide : ¬ ((1 : Int32) = (0 : Int32)))).1) ?_
          show Steps p.tables e below (T32.setTop (mkF m 211 #[.val (.long cc), .second, .val (.int p1), .val (.int p2), .val (.int ch0), .val (.int ch1), .val (.int ch2), .val (.int (p2 &&& (3 : Int32))), .val .null, .val (.ref r9), .val (.int (1 : Int32)), .val (.int (1 : Int32)), .val (.int (1 : Int32))] [])) _
          refine XS.iload X32.here hx rfl (hb hby at_211) rfl ?_
          show Steps p.tables e below (T32.setTop (mkF m 213 #[.val (.long cc), .second, .val (.int p1), .val (.int p2), .val (.int ch0), .val (.int ch1), .val (.int ch2), .val (.int (p2 &&& (3 : Int32))), .val .null, .val (.ref r9), .val (.int (1 : Int32)), .val (.int (1 : Int32)), .val (.int (1 : Int32))] [(.int (1 : Int32))])) _
          refine XS.ifNo X32.here hx rfl (hb hby at_213) rfl ((if0 _ _).trans (feq (by decide : ¬ ((1 : Int32) = (0 : Int32)))).1) ?_
          show Steps p.tables e below (T32.setTop (mkF m 216 #[.val (.long cc), .second, .val (.int p1), .val (.int p2), .val (.int ch0), .val (.int ch1), .val (.int ch2), .val (.int (p2 &&& (3 : Int32))), .val .null, .val (.ref r9), .val (.int (1 : Int32)), .val (.int (1 : Int32)), .val (.int (1 : Int32))] [])) _
          refine XS.iload X32.here hx rfl (hb hby at_216) rfl ?_
          show Steps p.tables e below (T32.setTop (mkF m 218 #[.val (.long cc), .second, .val (.int p1), .val (.int p2), .val (.int ch0), .val (.int ch1), .val (.int ch2), .val (.int (p2 &&& (3 : Int32))), .val .null, .val (.ref r9), .val (.int (1 : Int32)), .val (.int (1 : Int32)), .val (.int (1 : Int32))] [(.int (1 : Int32))])) _
          refine XS.ifNo X32.here hx rfl (hb hby at_218) rfl ((if0 _ _).trans (feq (by decide : ¬ ((1 : Int32) = (0 : Int32)))).1) ?_
          show Steps p.tables e below (T32.setTop (mkF m 221 #[.val (.long cc), .second, .val (.int p1), .val (.int p2), .val (.int ch0), .val (.int ch1), .val (.int ch2), .val (.int (p2 &&& (3 : Int32))), .val .null, .val (.ref r9), .val (.int (1 : Int32)), .val (.int (1 : Int32)), .val (.int (1 : Int32))] [])) _
          refine XS.aload X32.here hx rfl (hb hby at_221) rfl rfl ?_
          show Steps p.tables e below (T32.setTop (mkF m 223 #[.val (.long cc), .second, .val (.int p1), .val (.int p2), .val (.int ch0), .val (.int ch1), .val (.int ch2), .val (.int (p2 &&& (3 : Int32))), .val .null, .val (.ref r9), .val (.int (1 : Int32)), .val (.int (1 : Int32)), .val (.int (1 : Int32))] [(.ref r9)])) _
          exact kt)
        obtain ⟨cq35, kq35, q35a, q35b, q35c⟩ := isOf hZ e32q (Ex9)
        obtain ⟨_, _, ⟨T35, L35, k35, n35⟩, -, X35, ⟨Lc35, hQ35, l35, y35, z35⟩, st35⟩ := X32.virtualBack hx (y := (⟨"com/example/hoopoe/hoopoe/core/eval/Measure", "decimals", "()I"⟩ : MethodName)) (z := (⟨"com/example/hoopoe/hoopoe/core/eval/Measure", "decimals", "()I"⟩ : MethodName)) hown (mvT hZ (hw _ (List.mem_of_getElem? (i := 60) rfl))) (mvT hZ (hw _ (List.mem_of_getElem? (i := 61) rfl))) (notFace_of_selects (args := #[]) (mvT hZ (hw _ (List.mem_of_getElem? (i := 63) rfl)))) (mvT hZ (hw _ (List.mem_of_getElem? (i := 63) rfl))) (mvT hZ (hw _ (List.mem_of_getElem? (i := 62) rfl))) (by decide) (backOf (W := 0) (rmg_decimals l Z a0 hw [] r9 _ T9.heap n0 Zf11 Fd9) hZ (hw _ (List.mem_of_getElem? (i := 64) rfl)) (hw _ (List.mem_of_getElem? (i := 24) rfl)) (by decide) (by decide)) q35a q35c (g := (mkF m 223 #[.val (.long cc), .second, .val (.int p1), .val (.int p2), .val (.int ch0), .val (.int ch1), .val (.int ch2), .val (.int (p2 &&& (3 : Int32))), .val .null, .val (.ref r9), .val (.int (1 : Int32)), .val (.int (1 : Int32)), .val (.int (1 : Int32))] [(.ref r9)])) rfl (by rw [hml]; rfl) (Steps.refl _) (argsL := []) (rest := []) (lenOf pd__28_29I rfl) rfl (by show 2 * 0 + _ ≤ _; exact Nat.le_of_eq rfl) (hb hby at_223) (fun _ _ => ⟨rfl, e32q, (by decide : 1 + 0 ≤ _), (by decide : 3 + 0 ≤ _)⟩)
        dsimp only [Pt.U, Pt.locs, Pt.cells, Pt.slots] at X35 l35 y35 z35 st35 hQ35
        subst l35 y35 z35
        obtain ⟨rfl, N35q, e35q⟩ := hQ35
        have N35 := Fr.app N32 N35q
        have pre36 : ∀ t, Steps p.tables e below (T35.setTop (mkF m 226 #[.val (.long cc), .second, .val (.int p1), .val (.int p2), .val (.int ch0), .val (.int ch1), .val (.int ch2), .val (.int (p2 &&& (3 : Int32))), .val .null, .val (.ref r9), .val (.int (1 : Int32)), .val (.int (1 : Int32)), .val (.int (1 : Int32))] [(.int (0 : Int32))])) t → Steps p.tables e below (s₁.setTop (entryFrame m #[(.long cc), (.int p1), (.int p2)] maxLocals)) t := fun t kt => pre34 t (st35.trans kt)
        have pre37 : ∀ t, Steps p.tables e below (T35.setTop (mkF m 234 #[.val (.long cc), .second, .val (.int p1), .val (.int p2), .val (.int ch0), .val (.int ch1), .val (.int ch2), .val (.int (p2 &&& (3 : Int32))), .val .null, .val (.ref r9), .val (.int (1 : Int32)), .val (.int (1 : Int32)), .val (.int (1 : Int32))] [(.int (1 : Int32))])) t → Steps p.tables e below (s₁.setTop (entryFrame m #[(.long cc), (.int p1), (.int p2)] maxLocals)) t := fun t kt => pre36 t (by
          refine XS.ifNo X35.here hx rfl (hb hby at_226) rfl ((if0 _ _).trans (teq (by decide : (0 : Int32) = (0 : Int32))).2) ?_
          show Steps p.tables e below (T35.setTop (mkF m 229 #[.val (.long cc), .second, .val (.int p1), .val (.int p2), .val (.int ch0), .val (.int ch1), .val (.int ch2), .val (.int (p2 &&& (3 : Int32))), .val .null, .val (.ref r9), .val (.int (1 : Int32)), .val (.int (1 : Int32)), .val (.int (1 : Int32))] [])) _
          refine XS.iconst X35.here hx rfl (hb hby at_229) ?_
          show Steps p.tables e below (T35.setTop (mkF m 230 #[.val (.long cc), .second, .val (.int p1), .val (.int p2), .val (.int ch0), .val (.int ch1), .val (.int ch2), .val (.int (p2 &&& (3 : Int32))), .val .null, .val (.ref r9), .val (.int (1 : Int32)), .val (.int (1 : Int32)), .val (.int (1 : Int32))] [(.int (1 : Int32))])) _
          refine XS.goto X35.here hx rfl (pc0 := 230) (pc' := 234) rfl (hb hby at_230) (by decide) (by decide) ?_
          show Steps p.tables e below (T35.setTop (mkF m 234 #[.val (.long cc), .second, .val (.int p1), .val (.int p2), .val (.int ch0), .val (.int ch1), .val (.int ch2), .val (.int (p2 &&& (3 : Int32))), .val .null, .val (.ref r9), .val (.int (1 : Int32)), .val (.int (1 : Int32)), .val (.int (1 : Int32))] [(.int (1 : Int32))])) _
          exact kt)
        obtain ⟨fs, hr, hrun, hended, hW, hsame⟩ := X35.leave (v := (some (.int (1 : Int32)))) (fun h => by rw [Bd.returns] at h; cases h)
        refine ⟨_, _, pre37 _ ?_, hrun, hended, _, _, rfl, ?_, ReturnedEndW.of_narrow ⟨_, rfl⟩ hW (hsame.mono (by decide) (by decide))⟩
        · exact retN X35 hx (t := .boolean) Bd.returns (by simp) (hb hby at_234) hr
        · show Q0 Z  h0 n0 _ T35.heap T35.vm _
          rw [e35q]
          exact ⟨rfl, N35⟩
  · have pre39 : ∀ t, Steps p.tables e below (s₁.setTop (mkF m 49 #[.val (.long cc), .second, .val (.int p1), .val (.int p2), .val (.int ch0), .val (.int ch1), .val (.int ch2), .val (.int (p2 &&& (3 : Int32))), .unset, .unset, .unset, .unset, .unset] [(.int (1 : Int32)), (.int (p2 &&& (3 : Int32)))])) t → Steps p.tables e below (s₁.setTop (entryFrame m #[(.long cc), (.int p1), (.int p2)] maxLocals)) t := fun t kt => pre7 t (by
      refine XS.ifYes X0.here hx rfl (pc0 := 37) (pc' := 46) rfl (hb hby at_37) rfl ((if0 _ _).trans (feq c37_1).2) (by decide) (by decide) ?_
      show Steps p.tables e below (s₁.setTop (mkF m 46 #[.val (.long cc), .second, .val (.int p1), .val (.int p2), .val (.int ch0), .val (.int ch1), .val (.int ch2), .val (.int (p2 &&& (3 : Int32))), .unset, .unset, .unset, .unset, .unset] [])) _
      refine XS.iload X0.here hx rfl (hb hby at_46) rfl ?_
      show Steps p.tables e below (s₁.setTop (mkF m 48 #[.val (.long cc), .second, .val (.int p1), .val (.int p2), .val (.int ch0), .val (.int ch1), .val (.int ch2), .val (.int (p2 &&& (3 : Int32))), .unset, .unset, .unset, .unset, .unset] [(.int (p2 &&& (3 : Int32)))])) _
      refine XS.iconst X0.here hx rfl (hb hby at_48) ?_
      show Steps p.tables e below (s₁.setTop (mkF m 49 #[.val (.long cc), .second, .val (.int p1), .val (.int p2), .val (.int ch0), .val (.int ch1), .val (.int ch2), .val (.int (p2 &&& (3 : Int32))), .unset, .unset, .unset, .unset, .unset] [(.int (1 : Int32)), (.int (p2 &&& (3 : Int32)))])) _
      exact kt)
    by_cases c49_4 : (p2 &&& (3 : Int32)) = (1 : Int32)
    · have pre40 : ∀ t, Steps p.tables e below (s₁.setTop (mkF m 52 #[.val (.long cc), .second, .val (.int p1), .val (.int p2), .val (.int ch0), .val (.int ch1), .val (.int ch2), .val (.int (p2 &&& (3 : Int32))), .unset, .unset, .unset, .unset, .unset] [])) t → Steps p.tables e below (s₁.setTop (entryFrame m #[(.long cc), (.int p1), (.int p2)] maxLocals)) t := fun t kt => pre39 t (by
        refine XS.icmpNo X0.here hx rfl (hb hby at_49) rfl (teq c49_4).2 ?_
        show Steps p.tables e below (s₁.setTop (mkF m 52 #[.val (.long cc), .second, .val (.int p1), .val (.int p2), .val (.int ch0), .val (.int ch1), .val (.int ch2), .val (.int (p2 &&& (3 : Int32))), .unset, .unset, .unset, .unset, .unset] [])) _
        exact kt)
      obtain ⟨T41, h41, X41, e41, E41, A41, D41, -, st41⟩ := newO X0 hx hZ hown (hw _ (List.mem_of_getElem? (i := 0) rfl)) (hw _ (List.mem_of_getElem? (i := 1) rfl)) (hw _ (List.mem_of_getElem? (i := 2) rfl)) e0 (g := (mkF m 52 #[.val (.long cc), .second, .val (.int p1), .val (.int p2), .val (.int ch0), .val (.int ch1), .val (.int ch2), .val (.int (p2 &&& (3 : Int32))), .unset, .unset, .unset, .unset, .unset] [])) rfl (hb hby at_52) (by decide) (by decide)
      obtain ⟨b41, g41⟩ : ∃ z, z = h0.size := ⟨_, rfl⟩
      rw [← g41] at A41 D41 st41
      have gz42 : n0 ≤ b41 := Nat.le_trans Z0 (Nat.le_of_eq g41.symm)
      have f43 := (O0).ext E41
      have Zf44 : n0 ≤ h41.size := Nat.le_trans Z0 E41.1
      have F41_value : Fld Z h41 b41 "java/lang/String" "value" "[B" .null := D41 (Or.inr (hw _ (List.mem_of_getElem? (i := 16) rfl))) (ty := (.array .byte)) (by decide)
      have F41_coder : Fld Z h41 b41 "java/lang/String" "coder" "B" (.int (0 : Int32)) := D41 (Or.inr (hw _ (List.mem_of_getElem? (i := 17) rfl))) (ty := .byte) (by decide)
      have pre45 : ∀ t, Steps p.tables e below (T41.setTop (mkF m 55 #[.val (.long cc), .second, .val (.int p1), .val (.int p2), .val (.int ch0), .val (.int ch1), .val (.int ch2), .val (.int (p2 &&& (3 : Int32))), .unset, .unset, .unset, .unset, .unset] [(.ref b41)])) t → Steps p.tables e below (s₁.setTop (entryFrame m #[(.long cc), (.int p1), (.int p2)] maxLocals)) t := fun t kt => pre40 t (st41 _ kt)
      have pre46 : ∀ t, Steps p.tables e below (T41.setTop (mkF m 57 #[.val (.long cc), .second, .val (.int p1), .val (.int p2), .val (.int ch0), .val (.int ch1), .val (.int ch2), .val (.int (p2 &&& (3 : Int32))), .unset, .unset, .unset, .unset, .unset] [(.int (0 : Int32)), (.ref b41), (.ref b41)])) t → Steps p.tables e below (s₁.setTop (entryFrame m #[(.long cc), (.int p1), (.int p2)] maxLocals)) t := fun t kt => pre45 t (by
        refine XS.dup X41.here hx rfl (hb hby at_55) rfl rfl ?_
        show Steps p.tables e below (T41.setTop (mkF m 56 #[.val (.long cc), .second, .val (.int p1), .val (.int p2), .val (.int ch0), .val (.int ch1), .val (.int ch2), .val (.int (p2 &&& (3 : Int32))), .unset, .unset, .unset, .unset, .unset] [(.ref b41), (.ref b41)])) _
        refine XS.iconst X41.here hx rfl (hb hby at_56) ?_
        show Steps p.tables e below (T41.setTop (mkF m 57 #[.val (.long cc), .second, .val (.int p1), .val (.int p2), .val (.int ch0), .val (.int ch1), .val (.int ch2), .val (.int (p2 &&& (3 : Int32))), .unset, .unset, .unset, .unset, .unset] [(.int (0 : Int32)), (.ref b41), (.ref b41)])) _
        exact kt)
      obtain ⟨T47, h47, k47, X47, e47, E47, A47, st47⟩ := newP X41 hx hZ (hw _ (List.mem_of_getElem? (i := 3) rfl)) e41 (g := (mkF m 57 #[.val (.long cc), .second, .val (.int p1), .val (.int p2), .val (.int ch0), .val (.int ch1), .val (.int ch2), .val (.int (p2 &&& (3 : Int32))), .unset, .unset, .unset, .unset, .unset] [(.int (0 : Int32)), (.ref b41), (.ref b41)])) rfl (hb hby at_57) rfl (by decide) (cap := 0) (by decide) (by decide) (by decide) (by decide)
      obtain ⟨b47, g47⟩ : ∃ z, z = h41.size := ⟨_, rfl⟩
      rw [← g47] at A47 st47
      have ne48 : b41 ≠ b47 := Nat.ne_of_lt (Nat.lt_of_lt_of_le (A41).lt (Nat.le_of_eq g47.symm))
      have gz49 : n0 ≤ b47 := Nat.le_trans Zf44 (Nat.le_of_eq g47.symm)
      have f50 := (f43).ext E47
      have f51 := (A41).ext E47
      have f52 := (F41_value).ext E47
      have f53 := (F41_coder).ext E47
      have Zf54 : n0 ≤ h47.size := Nat.le_trans Zf44 E47.1
      have V47 : Arv Z h47 b47 k47 .char (0 : Int32) [] (.int (0 : Int32)) := (Arv.new A47 (by decide)).pad (pad_rep [] (.int (0 : Int32)) 0)
      have pre55 : ∀ t, Steps p.tables e below (T47.setTop (mkF m 59 #[.val (.long cc), .second, .val (.int p1), .val (.int p2), .val (.int ch0), .val (.int ch1), .val (.int ch2), .val (.int (p2 &&& (3 : Int32))), .unset, .unset, .unset, .unset, .unset] [(.ref b47), (.ref b41), (.ref b41)])) t → Steps p.tables e below (s₁.setTop (entryFrame m #[(.long cc), (.int p1), (.int p2)] maxLocals)) t := fun t kt => pre46 t (st47 _ kt)
      obtain ⟨_, _, ⟨T56, L56, k56, n56⟩, -, X56, hS56, hgr56, ⟨Lc56, hQ56, l56, y56, z56⟩, st56⟩ := X47.specialBackS hx (y := (⟨"java/lang/String", "<init>", "([C)V"⟩ : MethodName)) rfl hown (mvT hZ (hw _ (List.mem_of_getElem? (i := 4) rfl))) (mvT hZ (hw _ (List.mem_of_getElem? (i := 5) rfl))) (mvT hZ (hw _ (List.mem_of_getElem? (i := 6) rfl))) (by decide) (own_backOfS (W := 1) (rmE1 l Z a0 hw [] [] b41 b47 _ _ _ _ h47 n0 Zf54 f51 gz42 f52 f53 f50 hC hcw (by simp) V47) hZ hI (hw _ (List.mem_of_getElem? (i := 6) rfl)) (hw _ (List.mem_of_getElem? (i := 2) rfl)) (by decide) (by decide)) (g := (mkF m 59 #[.val (.long cc), .second, .val (.int p1), .val (.int p2), .val (.int ch0), .val (.int ch1), .val (.int ch2), .val (.int (p2 &&& (3 : Int32))), .unset, .unset, .unset, .unset, .unset] [(.ref b47), (.ref b41), (.ref b41)])) rfl (by rw [hml]; rfl) (Steps.refl _) (a := b41) (argsL := [(.ref b47)]) (rest := [(.ref b41)]) (lenOf pd__28_5bC_29V rfl) rfl (by show 2 * 0 + _ ≤ _; exact Nat.le_of_eq rfl) (hb hby at_59) (fun _ _ => ⟨rfl, e47, (by decide : 2 + 2 ≤ _), (by decide : 4 + 4 ≤ _)⟩)
      dsimp only [Pt.U, Pt.locs, Pt.cells, Pt.slots] at X56 l56 y56 z56 st56 hQ56
      subst l56 y56 z56
      dsimp only [Pt.U] at hS56 hgr56
      have hZ56 : Z.Warmed39 (s.setVm T56.vm).vm := State.Warmed39.trans hZ hS56.1
      have hO56 : (s.setVm T56.vm).vm.findClass "com/example/hoopoe/hoopoe/core/eval/MeasureCountPinLaw" = some m.cls := (hS56.1.alike.findClass _ _).trans hown
      obtain ⟨rfl, N56q, K56, E56x⟩ := hQ56
      have N56 := Fr.app N0 N56q
      have f57 := (f50).keep K56 (own_all1 gz42)
      have f58 := (f51).keep K56
      have f59 := (V47).keep K56 (own_notin1 (Ne.symm ne48))
      have Zf60 : n0 ≤ T56.heap.size := Nat.le_trans Zf54 (K56).1
      have pre61 : ∀ t, Steps p.tables e below (T56.setTop (mkF m 62 #[.val (.long cc), .second, .val (.int p1), .val (.int p2), .val (.int ch0), .val (.int ch1), .val (.int ch2), .val (.int (p2 &&& (3 : Int32))), .unset, .unset, .unset, .unset, .unset] [(.ref b41)])) t → Steps p.tables e below (s₁.setTop (entryFrame m #[(.long cc), (.int p1), (.int p2)] maxLocals)) t := fun t kt => pre55 t (st56.trans kt)
      have pre62 : ∀ t, Steps p.tables e below (T56.setTop (mkF m 113 #[.val (.long cc), .second, .val (.int p1), .val (.int p2), .val (.int ch0), .val (.int ch1), .val (.int ch2), .val (.int (p2 &&& (3 : Int32))), .val (.ref b41), .unset, .unset, .unset, .unset] [(.long cc), (.ref b41)])) t → Steps p.tables e below (s₁.setTop (entryFrame m #[(.long cc), (.int p1), (.int p2)] maxLocals)) t := fun t kt => pre61 t (by
        refine XS.astore X56.here hx rfl (hb hby at_62) rfl rfl (l' := #[.val (.long cc), .second, .val (.int p1), .val (.int p2), .val (.int ch0), .val (.int ch1), .val (.int ch2), .val (.int (p2 &&& (3 : Int32))), .val (.ref b41), .unset, .unset, .unset, .unset]) rfl ?_
        show Steps p.tables e below (T56.setTop (mkF m 64 #[.val (.long cc), .second, .val (.int p1), .val (.int p2), .val (.int ch0), .val (.int ch1), .val (.int ch2), .val (.int (p2 &&& (3 : Int32))), .val (.ref b41), .unset, .unset, .unset, .unset] [])) _
        refine XS.goto X56.here hx rfl (pc0 := 64) (pc' := 110) rfl (hb hby at_64) (by decide) (by decide) ?_
        show Steps p.tables e below (T56.setTop (mkF m 110 #[.val (.long cc), .second, .val (.int p1), .val (.int p2), .val (.int ch0), .val (.int ch1), .val (.int ch2), .val (.int (p2 &&& (3 : Int32))), .val (.ref b41), .unset, .unset, .unset, .unset] [])) _
        refine XS.aload X56.here hx rfl (hb hby at_110) rfl rfl ?_
        show Steps p.tables e below (T56.setTop (mkF m 112 #[.val (.long cc), .second, .val (.int p1), .val (.int p2), .val (.int ch0), .val (.int ch1), .val (.int ch2), .val (.int (p2 &&& (3 : Int32))), .val (.ref b41), .unset, .unset, .unset, .unset] [(.ref b41)])) _
        refine XS.lloadN X56.here hx rfl (hb hby at_112) rfl ?_
        show Steps p.tables e below (T56.setTop (mkF m 113 #[.val (.long cc), .second, .val (.int p1), .val (.int p2), .val (.int ch0), .val (.int ch1), .val (.int ch2), .val (.int (p2 &&& (3 : Int32))), .val (.ref b41), .unset, .unset, .unset, .unset] [(.long cc), (.ref b41)])) _
        exact kt)
      obtain ⟨_, _, ⟨T63, L63, k63, n63⟩, -, X63, ⟨Lc63, hQ63, l63, y63, z63⟩, st63⟩ := Jvm.LawKit.callS X56 hx (y := (⟨"com/example/hoopoe/hoopoe/core/eval/Measure", "count", "(Ljava/lang/String;J)Lcom/example/hoopoe/hoopoe/core/eval/Measure;"⟩ : MethodName)) hO56 (mvT hZ56 (hw _ (List.mem_of_getElem? (i := 22) rfl))) (mvT hZ56 (hw _ (List.mem_of_getElem? (i := 23) rfl))) (mvT hZ56 (hw _ (List.mem_of_getElem? (i := 24) rfl))) (mvT hZ56 (hw _ (List.mem_of_getElem? (i := 25) rfl))) (by decide) (backOf (W := 0) (rmCR l Z a0 hw [] b41 cc T56.heap n0 Zf60) hZ56 (hw _ (List.mem_of_getElem? (i := 25) rfl)) (hw _ (List.mem_of_getElem? (i := 24) rfl)) (by decide) (by decide)) (g := (mkF m 113 #[.val (.long cc), .second, .val (.int p1), .val (.int p2), .val (.int ch0), .val (.int ch1), .val (.int ch2), .val (.int (p2 &&& (3 : Int32))), .val (.ref b41), .unset, .unset, .unset, .unset] [(.long cc), (.ref b41)])) rfl (by rw [hml]; rfl) (argsL := [(.ref b41), (.long cc)]) (rest := []) (lenOf pd__28Ljava_2flang_2fString_3bJ_29Lcom_2fexample_2fhoopoe_2fhoopoe_2fcore_2feval_2fMeasure_3b rfl) rfl (by show 2 * 0 + _ ≤ _; exact Nat.le_of_eq rfl) (hb hby at_113) (fun _ _ => ⟨rfl, rfl, (by decide : 4 + 1 ≤ _), (by decide : 8 + 3 ≤ _)⟩)
      dsimp only [Pt.U, Pt.locs, Pt.cells, Pt.slots] at X63 l63 y63 z63 st63 hQ63
      subst l63 y63 z63
      obtain ⟨r63, rfl, N63q, K63, gp63, sp63, Ex63, Fn63, Fv63, Fd63⟩ := hQ63
      have N63 := Fr.app N56 N63q
      have ne64 : b41 ≠ r63 := Nat.ne_of_lt (Nat.lt_of_lt_of_le (f58).lt sp63)
      have ne65 : b47 ≠ r63 := Nat.ne_of_lt (Nat.lt_of_lt_of_le (f59).lt sp63)
      have f66 := (f57).keep K63 (own_all0 )
      have f67 := (f58).keep K63
      have f68 := (f59).keep K63 own_notin0
      have Zf69 : n0 ≤ T63.heap.size := Nat.le_trans Zf60 (K63).1
      have Kf69 : T56.heap.size ≤ T63.heap.size := Nat.le_trans (Nat.le_refl _) (K63).1
      have pre70 : ∀ t, Steps p.tables e below (T63.setTop (mkF m 116 #[.val (.long cc), .second, .val (.int p1), .val (.int p2), .val (.int ch0), .val (.int ch1), .val (.int ch2), .val (.int (p2 &&& (3 : Int32))), .val (.ref b41), .unset, .unset, .unset, .unset] [(.ref r63)])) t → Steps p.tables e below (s₁.setTop (entryFrame m #[(.long cc), (.int p1), (.int p2)] maxLocals)) t := fun t kt => pre62 t (st63 _ kt)
      have pre71 : ∀ t, Steps p.tables e below (T63.setTop (mkF m 143 #[.val (.long cc), .second, .val (.int p1), .val (.int p2), .val (.int ch0), .val (.int ch1), .val (.int ch2), .val (.int (p2 &&& (3 : Int32))), .val (.ref b41), .val (.ref r63), .unset, .unset, .unset] [(.ref r63), (.ref b41)])) t → Steps p.tables e below (s₁.setTop (entryFrame m #[(.long cc), (.int p1), (.int p2)] maxLocals)) t := fun t kt => pre70 t (by
        refine XS.astore X63.here hx rfl (hb hby at_116) rfl rfl (l' := #[.val (.long cc), .second, .val (.int p1), .val (.int p2), .val (.int ch0), .val (.int ch1), .val (.int ch2), .val (.int (p2 &&& (3 : Int32))), .val (.ref b41), .val (.ref r63), .unset, .unset, .unset]) rfl ?_
        show Steps p.tables e below (T63.setTop (mkF m 118 #[.val (.long cc), .second, .val (.int p1), .val (.int p2), .val (.int ch0), .val (.int ch1), .val (.int ch2), .val (.int (p2 &&& (3 : Int32))), .val (.ref b41), .val (.ref r63), .unset, .unset, .unset] [])) _
        refine XS.aload X63.here hx rfl (hb hby at_118) rfl rfl ?_
        show Steps p.tables e below (T63.setTop (mkF m 120 #[.val (.long cc), .second, .val (.int p1), .val (.int p2), .val (.int ch0), .val (.int ch1), .val (.int ch2), .val (.int (p2 &&& (3 : Int32))), .val (.ref b41), .val (.ref r63), .unset, .unset, .unset] [(.ref b41)])) _
        refine XS.ifnonnullYes X63.here hx rfl (pc0 := 120) (pc' := 139) rfl (hb hby at_120) rfl (by decide) (by decide) ?_
        show Steps p.tables e below (T63.setTop (mkF m 139 #[.val (.long cc), .second, .val (.int p1), .val (.int p2), .val (.int ch0), .val (.int ch1), .val (.int ch2), .val (.int (p2 &&& (3 : Int32))), .val (.ref b41), .val (.ref r63), .unset, .unset, .unset] [])) _
        refine XS.aload X63.here hx rfl (hb hby at_139) rfl rfl ?_
        show Steps p.tables e below (T63.setTop (mkF m 141 #[.val (.long cc), .second, .val (.int p1), .val (.int p2), .val (.int ch0), .val (.int ch1), .val (.int ch2), .val (.int (p2 &&& (3 : Int32))), .val (.ref b41), .val (.ref r63), .unset, .unset, .unset] [(.ref b41)])) _
        refine XS.aload X63.here hx rfl (hb hby at_141) rfl rfl ?_
        show Steps p.tables e below (T63.setTop (mkF m 143 #[.val (.long cc), .second, .val (.int p1), .val (.int p2), .val (.int ch0), .val (.int ch1), .val (.int ch2), .val (.int (p2 &&& (3 : Int32))), .val (.ref b41), .val (.ref r63), .unset, .unset, .unset] [(.ref r63), (.ref b41)])) _
        exact kt)
      obtain ⟨cq72, kq72, q72a, q72b, q72c⟩ := isOf hZ56 rfl (Ex63)
      obtain ⟨_, _, ⟨T72, L72, k72, n72⟩, -, X72, ⟨Lc72, hQ72, l72, y72, z72⟩, st72⟩ := X63.virtualBack hx (y := (⟨"com/example/hoopoe/hoopoe/core/eval/Measure", "name", "()Ljava/lang/String;"⟩ : MethodName)) (z := (⟨"com/example/hoopoe/hoopoe/core/eval/Measure", "name", "()Ljava/lang/String;"⟩ : MethodName)) hO56 (mvT hZ56 (hw _ (List.mem_of_getElem? (i := 43) rfl))) (mvT hZ56 (hw _ (List.mem_of_getElem? (i := 44) rfl))) (notFace_of_selects (args := #[]) (mvT hZ56 (hw _ (List.mem_of_getElem? (i := 46) rfl)))) (mvT hZ56 (hw _ (List.mem_of_getElem? (i := 46) rfl))) (mvT hZ56 (hw _ (List.mem_of_getElem? (i := 45) rfl))) (by decide) (backOf (W := 1) (rmNR l Z a0 hw [] r63 b41 T63.heap n0 Zf69 Fn63) hZ56 (hw _ (List.mem_of_getElem? (i := 47) rfl)) (hw _ (List.mem_of_getElem? (i := 24) rfl)) (by decide) (by decide)) q72a q72c (g := (mkF m 143 #[.val (.long cc), .second, .val (.int p1), .val (.int p2), .val (.int ch0), .val (.int ch1), .val (.int ch2), .val (.int (p2 &&& (3 : Int32))), .val (.ref b41), .val (.ref r63), .unset, .unset, .unset] [(.ref r63), (.ref b41)])) rfl (by rw [hml]; rfl) (Steps.refl _) (argsL := []) (rest := [(.ref b41)]) (lenOf pd__28_29Ljava_2flang_2fString_3b rfl) rfl (by show 2 * 0 + _ ≤ _; exact Nat.le_of_eq rfl) (hb hby at_143) (fun _ _ => ⟨rfl, rfl, (by decide : 5 + 0 ≤ _), (by decide : 11 + 0 ≤ _)⟩)
      dsimp only [Pt.U, Pt.locs, Pt.cells, Pt.slots] at X72 l72 y72 z72 st72 hQ72
      subst l72 y72 z72
      obtain ⟨rfl, N72q, e72q⟩ := hQ72
      have N72 := Fr.app N63 N72q
      have pre73 : ∀ t, Steps p.tables e below (T72.setTop (mkF m 146 #[.val (.long cc), .second, .val (.int p1), .val (.int p2), .val (.int ch0), .val (.int ch1), .val (.int ch2), .val (.int (p2 &&& (3 : Int32))), .val (.ref b41), .val (.ref r63), .unset, .unset, .unset] [(.ref b41), (.ref b41)])) t → Steps p.tables e below (s₁.setTop (entryFrame m #[(.long cc), (.int p1), (.int p2)] maxLocals)) t := fun t kt => pre71 t (st72.trans kt)
      obtain ⟨cq74, kq74, q74a, q74b, q74c⟩ := isOf hZ56 e72q (f67)
      obtain ⟨_, _, ⟨T74, L74, k74, n74⟩, -, X74, ⟨Lc74, hQ74, l74, y74, z74⟩, st74⟩ := X72.virtualBack hx (y := (⟨"java/lang/String", "equals", "(Ljava/lang/Object;)Z"⟩ : MethodName)) (z := (⟨"java/lang/String", "equals", "(Ljava/lang/Object;)Z"⟩ : MethodName)) hO56 (mvT hZ56 (hw _ (List.mem_of_getElem? (i := 48) rfl))) (mvT hZ56 (hw _ (List.mem_of_getElem? (i := 49) rfl))) (notFace_of_selects (args := #[]) (mvT hZ56 (hw _ (List.mem_of_getElem? (i := 51) rfl)))) (mvT hZ56 (hw _ (List.mem_of_getElem? (i := 51) rfl))) (mvT hZ56 (hw _ (List.mem_of_getElem? (i := 50) rfl))) (by decide) (backOf (W := 0) (rmEq l Z a0 hw [] b41 T63.heap n0 Zf69) hZ56 (hw _ (List.mem_of_getElem? (i := 52) rfl)) (hw _ (List.mem_of_getElem? (i := 2) rfl)) (by decide) (by decide)) q74a q74c (g := (mkF m 146 #[.val (.long cc), .second, .val (.int p1), .val (.int p2), .val (.int ch0), .val (.int ch1), .val (.int ch2), .val (.int (p2 &&& (3 : Int32))), .val (.ref b41), .val (.ref r63), .unset, .unset, .unset] [(.ref b41), (.ref b41)])) rfl (by rw [hml]; rfl) (Steps.refl _) (argsL := [(.ref b41)]) (rest := []) (lenOf pd__28Ljava_2flang_2fObject_3b_29Z rfl) rfl (by show 2 * 0 + _ ≤ _; exact Nat.le_of_eq rfl) (hb hby at_146) (fun _ _ => ⟨rfl, e72q, (by decide : 5 + 0 ≤ _), (by decide : 11 + 0 ≤ _)⟩)
      dsimp only [Pt.U, Pt.locs, Pt.cells, Pt.slots] at X74 l74 y74 z74 st74 hQ74
      subst l74 y74 z74
      obtain ⟨rfl, N74q, e74q⟩ := hQ74
      have N74 := Fr.app N72 N74q
      have pre75 : ∀ t, Steps p.tables e below (T74.setTop (mkF m 149 #[.val (.long cc), .second, .val (.int p1), .val (.int p2), .val (.int ch0), .val (.int ch1), .val (.int ch2), .val (.int (p2 &&& (3 : Int32))), .val (.ref b41), .val (.ref r63), .unset, .unset, .unset] [(.int (1 : Int32))])) t → Steps p.tables e below (s₁.setTop (entryFrame m #[(.long cc), (.int p1), (.int p2)] maxLocals)) t := fun t kt => pre73 t (st74.trans kt)
      have pre76 : ∀ t, Steps p.tables e below (T74.setTop (mkF m 153 #[.val (.long cc), .second, .val (.int p1), .val (.int p2), .val (.int ch0), .val (.int ch1), .val (.int ch2), .val (.int (p2 &&& (3 : Int32))), .val (.ref b41), .val (.ref r63), .val (.int (1 : Int32)), .unset, .unset] [(.ref r63)])) t → Steps p.tables e below (s₁.setTop (entryFrame m #[(.long cc), (.int p1), (.int p2)] maxLocals)) t := fun t kt => pre75 t (by
        refine XS.istore X74.here hx rfl (hb hby at_149) rfl (l' := #[.val (.long cc), .second, .val (.int p1), .val (.int p2), .val (.int ch0), .val (.int ch1), .val (.int ch2), .val (.int (p2 &&& (3 : Int32))), .val (.ref b41), .val (.ref r63), .val (.int (1 : Int32)), .unset, .unset]) rfl ?_
        show Steps p.tables e below (T74.setTop (mkF m 151 #[.val (.long cc), .second, .val (.int p1), .val (.int p2), .val (.int ch0), .val (.int ch1), .val (.int ch2), .val (.int (p2 &&& (3 : Int32))), .val (.ref b41), .val (.ref r63), .val (.int (1 : Int32)), .unset, .unset] [])) _
        refine XS.aload X74.here hx rfl (hb hby at_151) rfl rfl ?_
        show Steps p.tables e below (T74.setTop (mkF m 153 #[.val (.long cc), .second, .val (.int p1), .val (.int p2), .val (.int ch0), .val (.int ch1), .val (.int ch2), .val (.int (p2 &&& (3 : Int32))), .val (.ref b41), .val (.ref r63), .val (.int (1 : Int32)), .unset, .unset] [(.ref r63)])) _
        exact kt)
      obtain ⟨cq77, kq77, q77a, q77b, q77c⟩ := isOf hZ56 e74q (Ex63)
      obtain ⟨_, _, ⟨T77, L77, k77, n77⟩, -, X77, ⟨Lc77, hQ77, l77, y77, z77⟩, st77⟩ := X74.virtualBack hx (y := (⟨"com/example/hoopoe/hoopoe/core/eval/Measure", "value", "()D"⟩ : MethodName)) (z := (⟨"com/example/hoopoe/hoopoe/core/eval/Measure", "value", "()D"⟩ : MethodName)) hO56 (mvT hZ56 (hw _ (List.mem_of_getElem? (i := 53) rfl))) (mvT hZ56 (hw _ (List.mem_of_getElem? (i := 54) rfl))) (notFace_of_selects (args := #[]) (mvT hZ56 (hw _ (List.mem_of_getElem? (i := 56) rfl)))) (mvT hZ56 (hw _ (List.mem_of_getElem? (i := 56) rfl))) (mvT hZ56 (hw _ (List.mem_of_getElem? (i := 55) rfl))) (by decide) (backOf (W := 0) (rmg_value l Z a0 hw [] r63 _ T63.heap n0 Zf69 Fv63) hZ56 (hw _ (List.mem_of_getElem? (i := 57) rfl)) (hw _ (List.mem_of_getElem? (i := 24) rfl)) (by decide) (by decide)) q77a q77c (g := (mkF m 153 #[.val (.long cc), .second, .val (.int p1), .val (.int p2), .val (.int ch0), .val (.int ch1), .val (.int ch2), .val (.int (p2 &&& (3 : Int32))), .val (.ref b41), .val (.ref r63), .val (.int (1 : Int32)), .unset, .unset] [(.ref r63)])) rfl (by rw [hml]; rfl) (Steps.refl _) (argsL := []) (rest := []) (lenOf pd__28_29D rfl) rfl (by show 2 * 0 + _ ≤ _; exact Nat.le_of_eq rfl) (hb hby at_153) (fun _ _ => ⟨rfl, e74q, (by decide : 5 + 0 ≤ _), (by decide : 11 + 0 ≤ _)⟩)
      dsimp only [Pt.U, Pt.locs, Pt.cells, Pt.slots] at X77 l77 y77 z77 st77 hQ77
      subst l77 y77 z77
      obtain ⟨rfl, N77q, e77q⟩ := hQ77
      have N77 := Fr.app N74 N77q
      have pre78 : ∀ t, Steps p.tables e below (T77.setTop (mkF m 156 #[.val (.long cc), .second, .val (.int p1), .val (.int p2), .val (.int ch0), .val (.int ch1), .val (.int ch2), .val (.int (p2 &&& (3 : Int32))), .val (.ref b41), .val (.ref r63), .val (.int (1 : Int32)), .unset, .unset] [(.double (FP.l2d cc))])) t → Steps p.tables e below (s₁.setTop (entryFrame m #[(.long cc), (.int p1), (.int p2)] maxLocals)) t := fun t kt => pre76 t (st77.trans kt)
      have pre79 : ∀ t, Steps p.tables e below (T77.setTop (mkF m 177 #[.val (.long cc), .second, .val (.int p1), .val (.int p2), .val (.int ch0), .val (.int ch1), .val (.int ch2), .val (.int (p2 &&& (3 : Int32))), .val (.ref b41), .val (.ref r63), .val (.int (1 : Int32)), .val (.int (1 : Int32)), .val (.int (1 : Int32))] [(.int (lcmpW cc (-9007199254740992 : Int64)))])) t → Steps p.tables e below (s₁.setTop (entryFrame m #[(.long cc), (.int p1), (.int p2)] maxLocals)) t := fun t kt => pre78 t (by
        refine XS.lloadN X77.here hx rfl (hb hby at_156) rfl ?_
        show Steps p.tables e below (T77.setTop (mkF m 157 #[.val (.long cc), .second, .val (.int p1), .val (.int p2), .val (.int ch0), .val (.int ch1), .val (.int ch2), .val (.int (p2 &&& (3 : Int32))), .val (.ref b41), .val (.ref r63), .val (.int (1 : Int32)), .unset, .unset] [(.long cc), (.double (FP.l2d cc))])) _
        refine own_l2d X77.here hx rfl (hb hby at_157) rfl ?_
        show Steps p.tables e below (T77.setTop (mkF m 158 #[.val (.long cc), .second, .val (.int p1), .val (.int p2), .val (.int ch0), .val (.int ch1), .val (.int ch2), .val (.int (p2 &&& (3 : Int32))), .val (.ref b41), .val (.ref r63), .val (.int (1 : Int32)), .unset, .unset] [(.double (FP.l2d cc)), (.double (FP.l2d cc))])) _
        refine own_dcmp X77.here hx rfl (hb hby at_158) rfl ?_
        show Steps p.tables e below (T77.setTop (mkF m 159 #[.val (.long cc), .second, .val (.int p1), .val (.int p2), .val (.int ch0), .val (.int ch1), .val (.int ch2), .val (.int (p2 &&& (3 : Int32))), .val (.ref b41), .val (.ref r63), .val (.int (1 : Int32)), .unset, .unset] [(.int (cmpValue (FP.dcmp (FP.l2d cc) (FP.l2d cc)) .l))])) _
        refine XS.ifNo X77.here hx rfl (hb hby at_159) rfl ((if0 _ _).trans (teq (own_dself cc : (cmpValue (FP.dcmp (FP.l2d cc) (FP.l2d cc)) .l) = (0 : Int32))).2) ?_
        show Steps p.tables e below (T77.setTop (mkF m 162 #[.val (.long cc), .second, .val (.int p1), .val (.int p2), .val (.int ch0), .val (.int ch1), .val (.int ch2), .val (.int (p2 &&& (3 : Int32))), .val (.ref b41), .val (.ref r63), .val (.int (1 : Int32)), .unset, .unset] [])) _
        refine XS.iconst X77.here hx rfl (hb hby at_162) ?_
        show Steps p.tables e below (T77.setTop (mkF m 163 #[.val (.long cc), .second, .val (.int p1), .val (.int p2), .val (.int ch0), .val (.int ch1), .val (.int ch2), .val (.int (p2 &&& (3 : Int32))), .val (.ref b41), .val (.ref r63), .val (.int (1 : Int32)), .unset, .unset] [(.int (1 : Int32))])) _
        refine XS.goto X77.here hx rfl (pc0 := 163) (pc' := 167) rfl (hb hby at_163) (by decide) (by decide) ?_
        show Steps p.tables e below (T77.setTop (mkF m 167 #[.val (.long cc), .second, .val (.int p1), .val (.int p2), .val (.int ch0), .val (.int ch1), .val (.int ch2), .val (.int (p2 &&& (3 : Int32))), .val (.ref b41), .val (.ref r63), .val (.int (1 : Int32)), .unset, .unset] [(.int (1 : Int32))])) _
        refine XS.istore X77.here hx rfl (hb hby at_167) rfl (l' := #[.val (.long cc), .second, .val (.int p1), .val (.int p2), .val (.int ch0), .val (.int ch1), .val (.int ch2), .val (.int (p2 &&& (3 : Int32))), .val (.ref b41), .val (.ref r63), .val (.int (1 : Int32)), .val (.int (1 : Int32)), .unset]) rfl ?_
        show Steps p.tables e below (T77.setTop (mkF m 169 #[.val (.long cc), .second, .val (.int p1), .val (.int p2), .val (.int ch0), .val (.int ch1), .val (.int ch2), .val (.int (p2 &&& (3 : Int32))), .val (.ref b41), .val (.ref r63), .val (.int (1 : Int32)), .val (.int (1 : Int32)), .unset] [])) _
        refine XS.iconst X77.here hx rfl (hb hby at_169) ?_
        show Steps p.tables e below (T77.setTop (mkF m 170 #[.val (.long cc), .second, .val (.int p1), .val (.int p2), .val (.int ch0), .val (.int ch1), .val (.int ch2), .val (.int (p2 &&& (3 : Int32))), .val (.ref b41), .val (.ref r63), .val (.int (1 : Int32)), .val (.int (1 : Int32)), .unset] [(.int (1 : Int32))])) _
        refine XS.istore X77.here hx rfl (hb hby at_170) rfl (l' := #[.val (.long cc), .second, .val (.int p1), .val (.int p2), .val (.int ch0), .val (.int ch1), .val (.int ch2), .val (.int (p2 &&& (3 : Int32))), .val (.ref b41), .val (.ref r63), .val (.int (1 : Int32)), .val (.int (1 : Int32)), .val (.int (1 : Int32))]) rfl ?_
        show Steps p.tables e below (T77.setTop (mkF m 172 #[.val (.long cc), .second, .val (.int p1), .val (.int p2), .val (.int ch0), .val (.int ch1), .val (.int ch2), .val (.int (p2 &&& (3 : Int32))), .val (.ref b41), .val (.ref r63), .val (.int (1 : Int32)), .val (.int (1 : Int32)), .val (.int (1 : Int32))] [])) _
        refine XS.lloadN X77.here hx rfl (hb hby at_172) rfl ?_
        show Steps p.tables e below (T77.setTop (mkF m 173 #[.val (.long cc), .second, .val (.int p1), .val (.int p2), .val (.int ch0), .val (.int ch1), .val (.int ch2), .val (.int (p2 &&& (3 : Int32))), .val (.ref b41), .val (.ref r63), .val (.int (1 : Int32)), .val (.int (1 : Int32)), .val (.int (1 : Int32))] [(.long cc)])) _
        refine X77.ldc2Long hx hO56 (mvT hZ56 (hw _ (List.mem_of_getElem? (i := 58) rfl))) (g := (mkF m 173 #[.val (.long cc), .second, .val (.int p1), .val (.int p2), .val (.int ch0), .val (.int ch1), .val (.int ch2), .val (.int (p2 &&& (3 : Int32))), .val (.ref b41), .val (.ref r63), .val (.int (1 : Int32)), .val (.int (1 : Int32)), .val (.int (1 : Int32))] [(.long cc)])) rfl (hb hby at_173) _ ?_
        show Steps p.tables e below (T77.setTop (mkF m 176 #[.val (.long cc), .second, .val (.int p1), .val (.int p2), .val (.int ch0), .val (.int ch1), .val (.int ch2), .val (.int (p2 &&& (3 : Int32))), .val (.ref b41), .val (.ref r63), .val (.int (1 : Int32)), .val (.int (1 : Int32)), .val (.int (1 : Int32))] [(.long (-9007199254740992 : Int64)), (.long cc)])) _
        refine XS.lcmp X77.here hx rfl (hb hby at_176) rfl ?_
        show Steps p.tables e below (T77.setTop (mkF m 177 #[.val (.long cc), .second, .val (.int p1), .val (.int p2), .val (.int ch0), .val (.int ch1), .val (.int ch2), .val (.int (p2 &&& (3 : Int32))), .val (.ref b41), .val (.ref r63), .val (.int (1 : Int32)), .val (.int (1 : Int32)), .val (.int (1 : Int32))] [(.int (lcmpW cc (-9007199254740992 : Int64)))])) _
        exact kt)
      by_cases c177_5 : cc < (-9007199254740992 : Int64)
      · have pre80 : ∀ t, Steps p.tables e below (T77.setTop (mkF m 223 #[.val (.long cc), .second, .val (.int p1), .val (.int p2), .val (.int ch0), .val (.int ch1), .val (.int ch2), .val (.int (p2 &&& (3 : Int32))), .val (.ref b41), .val (.ref r63), .val (.int (1 : Int32)), .val (.int (1 : Int32)), .val (.int (1 : Int32))] [(.ref r63)])) t → Steps p.tables e below (s₁.setTop (entryFrame m #[(.long cc), (.int p1), (.int p2)] maxLocals)) t := fun t kt => pre79 t (by
          refine XS.ifYes X77.here hx rfl (pc0 := 177) (pc' := 206) rfl (hb hby at_177) rfl ((if0 _ _).trans (tlt ((lw_lt _ _).mpr c177_5)).1) (by decide) (by decide) ?_
          show Steps p.tables e below (T77.setTop (mkF m 206 #[.val (.long cc), .second, .val (.int p1), .val (.int p2), .val (.int ch0), .val (.int ch1), .val (.int ch2), .val (.int (p2 &&& (3 : Int32))), .val (.ref b41), .val (.ref r63), .val (.int (1 : Int32)), .val (.int (1 : Int32)), .val (.int (1 : Int32))] [])) _
          refine XS.iload X77.here hx rfl (hb hby at_206) rfl ?_
          show Steps p.tables e below (T77.setTop (mkF m 208 #[.val (.long cc), .second, .val (.int p1), .val (.int p2), .val (.int ch0), .val (.int ch1), .val (.int ch2), .val (.int (p2 &&& (3 : Int32))), .val (.ref b41), .val (.ref r63), .val (.int (1 : Int32)), .val (.int (1 : Int32)), .val (.int (1 : Int32))] [(.int (1 : Int32))])) _
          refine XS.ifNo X77.here hx rfl (hb hby at_208) rfl ((if0 _ _).trans (feq (by decide : ¬ ((1 : Int32) = (0 : Int32)))).1) ?_
          show Steps p.tables e below (T77.setTop (mkF m 211 #[.val (.long cc), .second, .val (.int p1), .val (.int p2), .val (.int ch0), .val (.int ch1), .val (.int ch2), .val (.int (p2 &&& (3 : Int32))), .val (.ref b41), .val (.ref r63), .val (.int (1 : Int32)), .val (.int (1 : Int32)), .val (.int (1 : Int32))] [])) _
          refine XS.iload X77.here hx rfl (hb hby at_211) rfl ?_
          show Steps p.tables e below (T77.setTop (mkF m 213 #[.val (.long cc), .second, .val (.int p1), .val (.int p2), .val (.int ch0), .val (.int ch1), .val (.int ch2), .val (.int (p2 &&& (3 : Int32))), .val (.ref b41), .val (.ref r63), .val (.int (1 : Int32)), .val (.int (1 : Int32)), .val (.int (1 : Int32))] [(.int (1 : Int32))])) _
          refine XS.ifNo X77.here hx rfl (hb hby at_213) rfl ((if0 _ _).trans (feq (by decide : ¬ ((1 : Int32) = (0 : Int32)))).1) ?_
          show Steps p.tables e below (T77.setTop (mkF m 216 #[.val (.long cc), .second, .val (.int p1), .val (.int p2), .val (.int ch0), .val (.int ch1), .val (.int ch2), .val (.int (p2 &&& (3 : Int32))), .val (.ref b41), .val (.ref r63), .val (.int (1 : Int32)), .val (.int (1 : Int32)), .val (.int (1 : Int32))] [])) _
          refine XS.iload X77.here hx rfl (hb hby at_216) rfl ?_
          show Steps p.tables e below (T77.setTop (mkF m 218 #[.val (.long cc), .second, .val (.int p1), .val (.int p2), .val (.int ch0), .val (.int ch1), .val (.int ch2), .val (.int (p2 &&& (3 : Int32))), .val (.ref b41), .val (.ref r63), .val (.int (1 : Int32)), .val (.int (1 : Int32)), .val (.int (1 : Int32))] [(.int (1 : Int32))])) _
          refine XS.ifNo X77.here hx rfl (hb hby at_218) rfl ((if0 _ _).trans (feq (by decide : ¬ ((1 : Int32) = (0 : Int32)))).1) ?_
          show Steps p.tables e below (T77.setTop (mkF m 221 #[.val (.long cc), .second, .val (.int p1), .val (.int p2), .val (.int ch0), .val (.int ch1), .val (.int ch2), .val (.int (p2 &&& (3 : Int32))), .val (.ref b41), .val (.ref r63), .val (.int (1 : Int32)), .val (.int (1 : Int32)), .val (.int (1 : Int32))] [])) _
          refine XS.aload X77.here hx rfl (hb hby at_221) rfl rfl ?_
          show Steps p.tables e below (T77.setTop (mkF m 223 #[.val (.long cc), .second, .val (.int p1), .val (.int p2), .val (.int ch0), .val (.int ch1), .val (.int ch2), .val (.int (p2 &&& (3 : Int32))), .val (.ref b41), .val (.ref r63), .val (.int (1 : Int32)), .val (.int (1 : Int32)), .val (.int (1 : Int32))] [(.ref r63)])) _
          exact kt)
        obtain ⟨cq81, kq81, q81a, q81b, q81c⟩ := isOf hZ56 e77q (Ex63)
        obtain ⟨_, _, ⟨T81, L81, k81, n81⟩, -, X81, ⟨Lc81, hQ81, l81, y81, z81⟩, st81⟩ := X77.virtualBack hx (y := (⟨"com/example/hoopoe/hoopoe/core/eval/Measure", "decimals", "()I"⟩ : MethodName)) (z := (⟨"com/example/hoopoe/hoopoe/core/eval/Measure", "decimals", "()I"⟩ : MethodName)) hO56 (mvT hZ56 (hw _ (List.mem_of_getElem? (i := 60) rfl))) (mvT hZ56 (hw _ (List.mem_of_getElem? (i := 61) rfl))) (notFace_of_selects (args := #[]) (mvT hZ56 (hw _ (List.mem_of_getElem? (i := 63) rfl)))) (mvT hZ56 (hw _ (List.mem_of_getElem? (i := 63) rfl))) (mvT hZ56 (hw _ (List.mem_of_getElem? (i := 62) rfl))) (by decide) (backOf (W := 0) (rmg_decimals l Z a0 hw [] r63 _ T63.heap n0 Zf69 Fd63) hZ56 (hw _ (List.mem_of_getElem? (i := 64) rfl)) (hw _ (List.mem_of_getElem? (i := 24) rfl)) (by decide) (by decide)) q81a q81c (g := (mkF m 223 #[.val (.long cc), .second, .val (.int p1), .val (.int p2), .val (.int ch0), .val (.int ch1), .val (.int ch2), .val (.int (p2 &&& (3 : Int32))), .val (.ref b41), .val (.ref r63), .val (.int (1 : Int32)), .val (.int (1 : Int32)), .val (.int (1 : Int32))] [(.ref r63)])) rfl (by rw [hml]; rfl) (Steps.refl _) (argsL := []) (rest := []) (lenOf pd__28_29I rfl) rfl (by show 2 * 0 + _ ≤ _; exact Nat.le_of_eq rfl) (hb hby at_223) (fun _ _ => ⟨rfl, e77q, (by decide : 5 + 0 ≤ _), (by decide : 11 + 0 ≤ _)⟩)
        dsimp only [Pt.U, Pt.locs, Pt.cells, Pt.slots] at X81 l81 y81 z81 st81 hQ81
        subst l81 y81 z81
        obtain ⟨rfl, N81q, e81q⟩ := hQ81
        have N81 := Fr.app N77 N81q
        have pre82 : ∀ t, Steps p.tables e below (T81.setTop (mkF m 226 #[.val (.long cc), .second, .val (.int p1), .val (.int p2), .val (.int ch0), .val (.int ch1), .val (.int ch2), .val (.int (p2 &&& (3 : Int32))), .val (.ref b41), .val (.ref r63), .val (.int (1 : Int32)), .val (.int (1 : Int32)), .val (.int (1 : Int32))] [(.int (0 : Int32))])) t → Steps p.tables e below (s₁.setTop (entryFrame m #[(.long cc), (.int p1), (.int p2)] maxLocals)) t := fun t kt => pre80 t (st81.trans kt)
        have pre83 : ∀ t, Steps p.tables e below (T81.setTop (mkF m 234 #[.val (.long cc), .second, .val (.int p1), .val (.int p2), .val (.int ch0), .val (.int ch1), .val (.int ch2), .val (.int (p2 &&& (3 : Int32))), .val (.ref b41), .val (.ref r63), .val (.int (1 : Int32)), .val (.int (1 : Int32)), .val (.int (1 : Int32))] [(.int (1 : Int32))])) t → Steps p.tables e below (s₁.setTop (entryFrame m #[(.long cc), (.int p1), (.int p2)] maxLocals)) t := fun t kt => pre82 t (by
          refine XS.ifNo X81.here hx rfl (hb hby at_226) rfl ((if0 _ _).trans (teq (by decide : (0 : Int32) = (0 : Int32))).2) ?_
          show Steps p.tables e below (T81.setTop (mkF m 229 #[.val (.long cc), .second, .val (.int p1), .val (.int p2), .val (.int ch0), .val (.int ch1), .val (.int ch2), .val (.int (p2 &&& (3 : Int32))), .val (.ref b41), .val (.ref r63), .val (.int (1 : Int32)), .val (.int (1 : Int32)), .val (.int (1 : Int32))] [])) _
          refine XS.iconst X81.here hx rfl (hb hby at_229) ?_
          show Steps p.tables e below (T81.setTop (mkF m 230 #[.val (.long cc), .second, .val (.int p1), .val (.int p2), .val (.int ch0), .val (.int ch1), .val (.int ch2), .val (.int (p2 &&& (3 : Int32))), .val (.ref b41), .val (.ref r63), .val (.int (1 : Int32)), .val (.int (1 : Int32)), .val (.int (1 : Int32))] [(.int (1 : Int32))])) _
          refine XS.goto X81.here hx rfl (pc0 := 230) (pc' := 234) rfl (hb hby at_230) (by decide) (by decide) ?_
          show Steps p.tables e below (T81.setTop (mkF m 234 #[.val (.long cc), .second, .val (.int p1), .val (.int p2), .val (.int ch0), .val (.int ch1), .val (.int ch2), .val (.int (p2 &&& (3 : Int32))), .val (.ref b41), .val (.ref r63), .val (.int (1 : Int32)), .val (.int (1 : Int32)), .val (.int (1 : Int32))] [(.int (1 : Int32))])) _
          exact kt)
        obtain ⟨fs, hr, hrun, hended, hRE⟩ := X81.leaveW hS56 (by rw [e81q]; exact Kf69) (v := (some (.int (1 : Int32)))) (fun h => by rw [Bd.returns] at h; cases h)
        refine ⟨_, _, pre83 _ ?_, hrun, hended, _, _, rfl, ?_, hRE.1, hRE.2.1, hRE.2.2.1, hRE.2.2.2.mono (by decide) (by decide)⟩
        · exact retN X81 hx (t := .boolean) Bd.returns (by simp) (hb hby at_234) hr
        · show Q0 Z  h0 n0 _ T81.heap T81.vm _
          rw [e81q]
          exact ⟨rfl, N81⟩
      · have pre85 : ∀ t, Steps p.tables e below (T77.setTop (mkF m 185 #[.val (.long cc), .second, .val (.int p1), .val (.int p2), .val (.int ch0), .val (.int ch1), .val (.int ch2), .val (.int (p2 &&& (3 : Int32))), .val (.ref b41), .val (.ref r63), .val (.int (1 : Int32)), .val (.int (1 : Int32)), .val (.int (1 : Int32))] [(.int (lcmpW cc (9007199254740992 : Int64)))])) t → Steps p.tables e below (s₁.setTop (entryFrame m #[(.long cc), (.int p1), (.int p2)] maxLocals)) t := fun t kt => pre79 t (by
          refine XS.ifNo X77.here hx rfl (hb hby at_177) rfl ((if0 _ _).trans (flt (mt (lw_lt _ _).mp c177_5)).1) ?_
          show Steps p.tables e below (T77.setTop (mkF m 180 #[.val (.long cc), .second, .val (.int p1), .val (.int p2), .val (.int ch0), .val (.int ch1), .val (.int ch2), .val (.int (p2 &&& (3 : Int32))), .val (.ref b41), .val (.ref r63), .val (.int (1 : Int32)), .val (.int (1 : Int32)), .val (.int (1 : Int32))] [])) _
          refine XS.lloadN X77.here hx rfl (hb hby at_180) rfl ?_
          show Steps p.tables e below (T77.setTop (mkF m 181 #[.val (.long cc), .second, .val (.int p1), .val (.int p2), .val (.int ch0), .val (.int ch1), .val (.int ch2), .val (.int (p2 &&& (3 : Int32))), .val (.ref b41), .val (.ref r63), .val (.int (1 : Int32)), .val (.int (1 : Int32)), .val (.int (1 : Int32))] [(.long cc)])) _
          refine X77.ldc2Long hx hO56 (mvT hZ56 (hw _ (List.mem_of_getElem? (i := 59) rfl))) (g := (mkF m 181 #[.val (.long cc), .second, .val (.int p1), .val (.int p2), .val (.int ch0), .val (.int ch1), .val (.int ch2), .val (.int (p2 &&& (3 : Int32))), .val (.ref b41), .val (.ref r63), .val (.int (1 : Int32)), .val (.int (1 : Int32)), .val (.int (1 : Int32))] [(.long cc)])) rfl (hb hby at_181) _ ?_
          show Steps p.tables e below (T77.setTop (mkF m 184 #[.val (.long cc), .second, .val (.int p1), .val (.int p2), .val (.int ch0), .val (.int ch1), .val (.int ch2), .val (.int (p2 &&& (3 : Int32))), .val (.ref b41), .val (.ref r63), .val (.int (1 : Int32)), .val (.int (1 : Int32)), .val (.int (1 : Int32))] [(.long (9007199254740992 : Int64)), (.long cc)])) _
          refine XS.lcmp X77.here hx rfl (hb hby at_184) rfl ?_
          show Steps p.tables e below (T77.setTop (mkF m 185 #[.val (.long cc), .second, .val (.int p1), .val (.int p2), .val (.int ch0), .val (.int ch1), .val (.int ch2), .val (.int (p2 &&& (3 : Int32))), .val (.ref b41), .val (.ref r63), .val (.int (1 : Int32)), .val (.int (1 : Int32)), .val (.int (1 : Int32))] [(.int (lcmpW cc (9007199254740992 : Int64)))])) _
          exact kt)
        by_cases c185_6 : (9007199254740992 : Int64) < cc
        · have pre86 : ∀ t, Steps p.tables e below (T77.setTop (mkF m 223 #[.val (.long cc), .second, .val (.int p1), .val (.int p2), .val (.int ch0), .val (.int ch1), .val (.int ch2), .val (.int (p2 &&& (3 : Int32))), .val (.ref b41), .val (.ref r63), .val (.int (1 : Int32)), .val (.int (1 : Int32)), .val (.int (1 : Int32))] [(.ref r63)])) t → Steps p.tables e below (s₁.setTop (entryFrame m #[(.long cc), (.int p1), (.int p2)] maxLocals)) t := fun t kt => pre85 t (by
            refine XS.ifYes X77.here hx rfl (pc0 := 185) (pc' := 206) rfl (hb hby at_185) rfl ((if0 _ _).trans (tlt ((lw_gt _ _).mpr c185_6)).2.2.1) (by decide) (by decide) ?_
            show Steps p.tables e below (T77.setTop (mkF m 206 #[.val (.long cc), .second, .val (.int p1), .val (.int p2), .val (.int ch0), .val (.int ch1), .val (.int ch2), .val (.int (p2 &&& (3 : Int32))), .val (.ref b41), .val (.ref r63), .val (.int (1 : Int32)), .val (.int (1 : Int32)), .val (.int (1 : Int32))] [])) _
            refine XS.iload X77.here hx rfl (hb hby at_206) rfl ?_
            show Steps p.tables e below (T77.setTop (mkF m 208 #[.val (.long cc), .second, .val (.int p1), .val (.int p2), .val (.int ch0), .val (.int ch1), .val (.int ch2), .val (.int (p2 &&& (3 : Int32))), .val (.ref b41), .val (.ref r63), .val (.int (1 : Int32)), .val (.int (1 : Int32)), .val (.int (1 : Int32))] [(.int (1 : Int32))])) _
            refine XS.ifNo X77.here hx rfl (hb hby at_208) rfl ((if0 _ _).trans (feq (by decide : ¬ ((1 : Int32) = (0 : Int32)))).1) ?_
            show Steps p.tables e below (T77.setTop (mkF m 211 #[.val (.long cc), .second, .val (.int p1), .val (.int p2), .val (.int ch0), .val (.int ch1), .val (.int ch2), .val (.int (p2 &&& (3 : Int32))), .val (.ref b41), .val (.ref r63), .val (.int (1 : Int32)), .val (.int (1 : Int32)), .val (.int (1 : Int32))] [])) _
            refine XS.iload X77.here hx rfl (hb hby at_211) rfl ?_
            show Steps p.tables e below (T77.setTop (mkF m 213 #[.val (.long cc), .second, .val (.int p1), .val (.int p2), .val (.int ch0), .val (.int ch1), .val (.int ch2), .val (.int (p2 &&& (3 : Int32))), .val (.ref b41), .val (.ref r63), .val (.int (1 : Int32)), .val (.int (1 : Int32)), .val (.int (1 : Int32))] [(.int (1 : Int32))])) _
            refine XS.ifNo X77.here hx rfl (hb hby at_213) rfl ((if0 _ _).trans (feq (by decide : ¬ ((1 : Int32) = (0 : Int32)))).1) ?_
            show Steps p.tables e below (T77.setTop (mkF m 216 #[.val (.long cc), .second, .val (.int p1), .val (.int p2), .val (.int ch0), .val (.int ch1), .val (.int ch2), .val (.int (p2 &&& (3 : Int32))), .val (.ref b41), .val (.ref r63), .val (.int (1 : Int32)), .val (.int (1 : Int32)), .val (.int (1 : Int32))] [])) _
            refine XS.iload X77.here hx rfl (hb hby at_216) rfl ?_
            show Steps p.tables e below (T77.setTop (mkF m 218 #[.val (.long cc), .second, .val (.int p1), .val (.int p2), .val (.int ch0), .val (.int ch1), .val (.int ch2), .val (.int (p2 &&& (3 : Int32))), .val (.ref b41), .val (.ref r63), .val (.int (1 : Int32)), .val (.int (1 : Int32)), .val (.int (1 : Int32))] [(.int (1 : Int32))])) _
            refine XS.ifNo X77.here hx rfl (hb hby at_218) rfl ((if0 _ _).trans (feq (by decide : ¬ ((1 : Int32) = (0 : Int32)))).1) ?_
            show Steps p.tables e below (T77.setTop (mkF m 221 #[.val (.long cc), .second, .val (.int p1), .val (.int p2), .val (.int ch0), .val (.int ch1), .val (.int ch2), .val (.int (p2 &&& (3 : Int32))), .val (.ref b41), .val (.ref r63), .val (.int (1 : Int32)), .val (.int (1 : Int32)), .val (.int (1 : Int32))] [])) _
            refine XS.aload X77.here hx rfl (hb hby at_221) rfl rfl ?_
            show Steps p.tables e below (T77.setTop (mkF m 223 #[.val (.long cc), .second, .val (.int p1), .val (.int p2), .val (.int ch0), .val (.int ch1), .val (.int ch2), .val (.int (p2 &&& (3 : Int32))), .val (.ref b41), .val (.ref r63), .val (.int (1 : Int32)), .val (.int (1 : Int32)), .val (.int (1 : Int32))] [(.ref r63)])) _
            exact kt)
          obtain ⟨cq87, kq87, q87a, q87b, q87c⟩ := isOf hZ56 e77q (Ex63)
          obtain ⟨_, _, ⟨T87, L87, k87, n87⟩, -, X87, ⟨Lc87, hQ87, l87, y87, z87⟩, st87⟩ := X77.virtualBack hx (y := (⟨"com/example/hoopoe/hoopoe/core/eval/Measure", "decimals", "()I"⟩ : MethodName)) (z := (⟨"com/example/hoopoe/hoopoe/core/eval/Measure", "decimals", "()I"⟩ : MethodName)) hO56 (mvT hZ56 (hw _ (List.mem_of_getElem? (i := 60) rfl))) (mvT hZ56 (hw _ (List.mem_of_getElem? (i := 61) rfl))) (notFace_of_selects (args := #[]) (mvT hZ56 (hw _ (List.mem_of_getElem? (i := 63) rfl)))) (mvT hZ56 (hw _ (List.mem_of_getElem? (i := 63) rfl))) (mvT hZ56 (hw _ (List.mem_of_getElem? (i := 62) rfl))) (by decide) (backOf (W := 0) (rmg_decimals l Z a0 hw [] r63 _ T63.heap n0 Zf69 Fd63) hZ56 (hw _ (List.mem_of_getElem? (i := 64) rfl)) (hw _ (List.mem_of_getElem? (i := 24) rfl)) (by decide) (by decide)) q87a q87c (g := (mkF m 223 #[.val (.long cc), .second, .val (.int p1), .val (.int p2), .val (.int ch0), .val (.int ch1), .val (.int ch2), .val (.int (p2 &&& (3 : Int32))), .val (.ref b41), .val (.ref r63), .val (.int (1 : Int32)), .val (.int (1 : Int32)), .val (.int (1 : Int32))] [(.ref r63)])) rfl (by rw [hml]; rfl) (Steps.refl _) (argsL := []) (rest := []) (lenOf pd__28_29I rfl) rfl (by show 2 * 0 + _ ≤ _; exact Nat.le_of_eq rfl) (hb hby at_223) (fun _ _ => ⟨rfl, e77q, (by decide : 5 + 0 ≤ _), (by decide : 11 + 0 ≤ _)⟩)
          dsimp only [Pt.U, Pt.locs, Pt.cells, Pt.slots] at X87 l87 y87 z87 st87 hQ87
          subst l87 y87 z87
          obtain ⟨rfl, N87q, e87q⟩ := hQ87
          have N87 := Fr.app N77 N87q
          have pre88 : ∀ t, Steps p.tables e below (T87.setTop (mkF m 226 #[.val (.long cc), .second, .val (.int p1), .val (.int p2), .val (.int ch0), .val (.int ch1), .val (.int ch2), .val (.int (p2 &&& (3 : Int32))), .val (.ref b41), .val (.ref r63), .val (.int (1 : Int32)), .val (.int (1 : Int32)), .val (.int (1 : Int32))] [(.int (0 : Int32))])) t → Steps p.tables e below (s₁.setTop (entryFrame m #[(.long cc), (.int p1), (.int p2)] maxLocals)) t := fun t kt => pre86 t (st87.trans kt)
          have pre89 : ∀ t, Steps p.tables e below (T87.setTop (mkF m 234 #[.val (.long cc), .second, .val (.int p1), .val (.int p2), .val (.int ch0), .val (.int ch1), .val (.int ch2), .val (.int (p2 &&& (3 : Int32))), .val (.ref b41), .val (.ref r63), .val (.int (1 : Int32)), .val (.int (1 : Int32)), .val (.int (1 : Int32))] [(.int (1 : Int32))])) t → Steps p.tables e below (s₁.setTop (entryFrame m #[(.long cc), (.int p1), (.int p2)] maxLocals)) t := fun t kt => pre88 t (by
            refine XS.ifNo X87.here hx rfl (hb hby at_226) rfl ((if0 _ _).trans (teq (by decide : (0 : Int32) = (0 : Int32))).2) ?_
            show Steps p.tables e below (T87.setTop (mkF m 229 #[.val (.long cc), .second, .val (.int p1), .val (.int p2), .val (.int ch0), .val (.int ch1), .val (.int ch2), .val (.int (p2 &&& (3 : Int32))), .val (.ref b41), .val (.ref r63), .val (.int (1 : Int32)), .val (.int (1 : Int32)), .val (.int (1 : Int32))] [])) _
            refine XS.iconst X87.here hx rfl (hb hby at_229) ?_
            show Steps p.tables e below (T87.setTop (mkF m 230 #[.val (.long cc), .second, .val (.int p1), .val (.int p2), .val (.int ch0), .val (.int ch1), .val (.int ch2), .val (.int (p2 &&& (3 : Int32))), .val (.ref b41), .val (.ref r63), .val (.int (1 : Int32)), .val (.int (1 : Int32)), .val (.int (1 : Int32))] [(.int (1 : Int32))])) _
            refine XS.goto X87.here hx rfl (pc0 := 230) (pc' := 234) rfl (hb hby at_230) (by decide) (by decide) ?_
            show Steps p.tables e below (T87.setTop (mkF m 234 #[.val (.long cc), .second, .val (.int p1), .val (.int p2), .val (.int ch0), .val (.int ch1), .val (.int ch2), .val (.int (p2 &&& (3 : Int32))), .val (.ref b41), .val (.ref r63), .val (.int (1 : Int32)), .val (.int (1 : Int32)), .val (.int (1 : Int32))] [(.int (1 : Int32))])) _
            exact kt)
          obtain ⟨fs, hr, hrun, hended, hRE⟩ := X87.leaveW hS56 (by rw [e87q]; exact Kf69) (v := (some (.int (1 : Int32)))) (fun h => by rw [Bd.returns] at h; cases h)
          refine ⟨_, _, pre89 _ ?_, hrun, hended, _, _, rfl, ?_, hRE.1, hRE.2.1, hRE.2.2.1, hRE.2.2.2.mono (by decide) (by decide)⟩
          · exact retN X87 hx (t := .boolean) Bd.returns (by simp) (hb hby at_234) hr
          · show Q0 Z  h0 n0 _ T87.heap T87.vm _
            rw [e87q]
            exact ⟨rfl, N87⟩
        · have pre91 : ∀ t, Steps p.tables e below (T77.setTop (mkF m 190 #[.val (.long cc), .second, .val (.int p1), .val (.int p2), .val (.int ch0), .val (.int ch1), .val (.int ch2), .val (.int (p2 &&& (3 : Int32))), .val (.ref b41), .val (.ref r63), .val (.int (1 : Int32)), .val (.int (1 : Int32)), .val (.int (1 : Int32))] [(.ref r63)])) t → Steps p.tables e below (s₁.setTop (entryFrame m #[(.long cc), (.int p1), (.int p2)] maxLocals)) t := fun t kt => pre85 t (by
            refine XS.ifNo X77.here hx rfl (hb hby at_185) rfl ((if0 _ _).trans (flt (mt (lw_gt _ _).mp c185_6)).2.2.1) ?_
            show Steps p.tables e below (T77.setTop (mkF m 188 #[.val (.long cc), .second, .val (.int p1), .val (.int p2), .val (.int ch0), .val (.int ch1), .val (.int ch2), .val (.int (p2 &&& (3 : Int32))), .val (.ref b41), .val (.ref r63), .val (.int (1 : Int32)), .val (.int (1 : Int32)), .val (.int (1 : Int32))] [])) _
            refine XS.aload X77.here hx rfl (hb hby at_188) rfl rfl ?_
            show Steps p.tables e below (T77.setTop (mkF m 190 #[.val (.long cc), .second, .val (.int p1), .val (.int p2), .val (.int ch0), .val (.int ch1), .val (.int ch2), .val (.int (p2 &&& (3 : Int32))), .val (.ref b41), .val (.ref r63), .val (.int (1 : Int32)), .val (.int (1 : Int32)), .val (.int (1 : Int32))] [(.ref r63)])) _
            exact kt)
          obtain ⟨cq92, kq92, q92a, q92b, q92c⟩ := isOf hZ56 e77q (Ex63)
          obtain ⟨_, _, ⟨T92, L92, k92, n92⟩, -, X92, ⟨Lc92, hQ92, l92, y92, z92⟩, st92⟩ := X77.virtualBack hx (y := (⟨"com/example/hoopoe/hoopoe/core/eval/Measure", "value", "()D"⟩ : MethodName)) (z := (⟨"com/example/hoopoe/hoopoe/core/eval/Measure", "value", "()D"⟩ : MethodName)) hO56 (mvT hZ56 (hw _ (List.mem_of_getElem? (i := 53) rfl))) (mvT hZ56 (hw _ (List.mem_of_getElem? (i := 54) rfl))) (notFace_of_selects (args := #[]) (mvT hZ56 (hw _ (List.mem_of_getElem? (i := 56) rfl)))) (mvT hZ56 (hw _ (List.mem_of_getElem? (i := 56) rfl))) (mvT hZ56 (hw _ (List.mem_of_getElem? (i := 55) rfl))) (by decide) (backOf (W := 0) (rmg_value l Z a0 hw [] r63 _ T63.heap n0 Zf69 Fv63) hZ56 (hw _ (List.mem_of_getElem? (i := 57) rfl)) (hw _ (List.mem_of_getElem? (i := 24) rfl)) (by decide) (by decide)) q92a q92c (g := (mkF m 190 #[.val (.long cc), .second, .val (.int p1), .val (.int p2), .val (.int ch0), .val (.int ch1), .val (.int ch2), .val (.int (p2 &&& (3 : Int32))), .val (.ref b41), .val (.ref r63), .val (.int (1 : Int32)), .val (.int (1 : Int32)), .val (.int (1 : Int32))] [(.ref r63)])) rfl (by rw [hml]; rfl) (Steps.refl _) (argsL := []) (rest := []) (lenOf pd__28_29D rfl) rfl (by show 2 * 0 + _ ≤ _; exact Nat.le_of_eq rfl) (hb hby at_190) (fun _ _ => ⟨rfl, e77q, (by decide : 5 + 0 ≤ _), (by decide : 11 + 0 ≤ _)⟩)
          dsimp only [Pt.U, Pt.locs, Pt.cells, Pt.slots] at X92 l92 y92 z92 st92 hQ92
          subst l92 y92 z92
          obtain ⟨rfl, N92q, e92q⟩ := hQ92
          have N92 := Fr.app N77 N92q
          have pre93 : ∀ t, Steps p.tables e below (T92.setTop (mkF m 193 #[.val (.long cc), .second, .val (.int p1), .val (.int p2), .val (.int ch0), .val (.int ch1), .val (.int ch2), .val (.int (p2 &&& (3 : Int32))), .val (.ref b41), .val (.ref r63), .val (.int (1 : Int32)), .val (.int (1 : Int32)), .val (.int (1 : Int32))] [(.double (FP.l2d cc))])) t → Steps p.tables e below (s₁.setTop (entryFrame m #[(.long cc), (.int p1), (.int p2)] maxLocals)) t := fun t kt => pre91 t (st92.trans kt)
          have pre94 : ∀ t, Steps p.tables e below (T92.setTop (mkF m 223 #[.val (.long cc), .second, .val (.int p1), .val (.int p2), .val (.int ch0), .val (.int ch1), .val (.int ch2), .val (.int (p2 &&& (3 : Int32))), .val (.ref b41), .val (.ref r63), .val (.int (1 : Int32)), .val (.int (1 : Int32)), .val (.int (1 : Int32))] [(.ref r63)])) t → Steps p.tables e below (s₁.setTop (entryFrame m #[(.long cc), (.int p1), (.int p2)] maxLocals)) t := fun t kt => pre93 t (by
            refine own_d2l X92.here hx rfl (hb hby at_193) rfl ?_
            show Steps p.tables e below (T92.setTop (mkF m 194 #[.val (.long cc), .second, .val (.int p1), .val (.int p2), .val (.int ch0), .val (.int ch1), .val (.int ch2), .val (.int (p2 &&& (3 : Int32))), .val (.ref b41), .val (.ref r63), .val (.int (1 : Int32)), .val (.int (1 : Int32)), .val (.int (1 : Int32))] [(.long (FP.d2l (FP.l2d cc)))])) _
            refine XS.lloadN X92.here hx rfl (hb hby at_194) rfl ?_
            show Steps p.tables e below (T92.setTop (mkF m 195 #[.val (.long cc), .second, .val (.int p1), .val (.int p2), .val (.int ch0), .val (.int ch1), .val (.int ch2), .val (.int (p2 &&& (3 : Int32))), .val (.ref b41), .val (.ref r63), .val (.int (1 : Int32)), .val (.int (1 : Int32)), .val (.int (1 : Int32))] [(.long cc), (.long (FP.d2l (FP.l2d cc)))])) _
            refine XS.lcmp X92.here hx rfl (hb hby at_195) rfl ?_
            show Steps p.tables e below (T92.setTop (mkF m 196 #[.val (.long cc), .second, .val (.int p1), .val (.int p2), .val (.int ch0), .val (.int ch1), .val (.int ch2), .val (.int (p2 &&& (3 : Int32))), .val (.ref b41), .val (.ref r63), .val (.int (1 : Int32)), .val (.int (1 : Int32)), .val (.int (1 : Int32))] [(.int (lcmpW (FP.d2l (FP.l2d cc)) cc))])) _
            refine XS.ifNo X92.here hx rfl (hb hby at_196) rfl ((if0 _ _).trans (teq ((lw_eq _ _).mpr (own_exact cc c177_5 c185_6 : (FP.d2l (FP.l2d cc)) = cc))).2) ?_
            show Steps p.tables e below (T92.setTop (mkF m 199 #[.val (.long cc), .second, .val (.int p1), .val (.int p2), .val (.int ch0), .val (.int ch1), .val (.int ch2), .val (.int (p2 &&& (3 : Int32))), .val (.ref b41), .val (.ref r63), .val (.int (1 : Int32)), .val (.int (1 : Int32)), .val (.int (1 : Int32))] [])) _
            refine XS.iconst X92.here hx rfl (hb hby at_199) ?_
            show Steps p.tables e below (T92.setTop (mkF m 200 #[.val (.long cc), .second, .val (.int p1), .val (.int p2), .val (.int ch0), .val (.int ch1), .val (.int ch2), .val (.int (p2 &&& (3 : Int32))), .val (.ref b41), .val (.ref r63), .val (.int (1 : Int32)), .val (.int (1 : Int32)), .val (.int (1 : Int32))] [(.int (1 : Int32))])) _
            refine XS.goto X92.here hx rfl (pc0 := 200) (pc' := 204) rfl (hb hby at_200) (by decide) (by decide) ?_
            show Steps p.tables e below (T92.setTop (mkF m 204 #[.val (.long cc), .second, .val (.int p1), .val (.int p2), .val (.int ch0), .val (.int ch1), .val (.int ch2), .val (.int (p2 &&& (3 : Int32))), .val (.ref b41), .val (.ref r63), .val (.int (1 : Int32)), .val (.int (1 : Int32)), .val (.int (1 : Int32))] [(.int (1 : Int32))])) _
            refine XS.istore X92.here hx rfl (hb hby at_204) rfl (l' := #[.val (.long cc), .second, .val (.int p1), .val (.int p2), .val (.int ch0), .val (.int ch1), .val (.int ch2), .val (.int (p2 &&& (3 : Int32))), .val (.ref b41), .val (.ref r63), .val (.int (1 : Int32)), .val (.int (1 : Int32)), .val (.int (1 : Int32))]) rfl ?_
            show Steps p.tables e below (T92.setTop (mkF m 206 #[.val (.long cc), .second, .val (.int p1), .val (.int p2), .val (.int ch0), .val (.int ch1), .val (.int ch2), .val (.int (p2 &&& (3 : Int32))), .val (.ref b41), .val (.ref r63), .val (.int (1 : Int32)), .val (.int (1 : Int32)), .val (.int (1 : Int32))] [])) _
            refine XS.iload X92.here hx rfl (hb hby at_206) rfl ?_
            show Steps p.tables e below (T92.setTop (mkF m 208 #[.val (.long cc), .second, .val (.int p1), .val (.int p2), .val (.int ch0), .val (.int ch1), .val (.int ch2), .val (.int (p2 &&& (3 : Int32))), .val (.ref b41), .val (.ref r63), .val (.int (1 : Int32)), .val (.int (1 : Int32)), .val (.int (1 : Int32))] [(.int (1 : Int32))])) _
            refine XS.ifNo X92.here hx rfl (hb hby at_208) rfl ((if0 _ _).trans (feq (by decide : ¬ ((1 : Int32) = (0 : Int32)))).1) ?_
            show Steps p.tables e below (T92.setTop (mkF m 211 #[.val (.long cc), .second, .val (.int p1), .val (.int p2), .val (.int ch0), .val (.int ch1), .val (.int ch2), .val (.int (p2 &&& (3 : Int32))), .val (.ref b41), .val (.ref r63), .val (.int (1 : Int32)), .val (.int (1 : Int32)), .val (.int (1 : Int32))] [])) _
            refine XS.iload X92.here hx rfl (hb hby at_211) rfl ?_
            show Steps p.tables e below (T92.setTop (mkF m 213 #[.val (.long cc), .second, .val (.int p1), .val (.int p2), .val (.int ch0), .val (.int ch1), .val (.int ch2), .val (.int (p2 &&& (3 : Int32))), .val (.ref b41), .val (.ref r63), .val (.int (1 : Int32)), .val (.int (1 : Int32)), .val (.int (1 : Int32))] [(.int (1 : Int32))])) _
            refine XS.ifNo X92.here hx rfl (hb hby at_213) rfl ((if0 _ _).trans (feq (by decide : ¬ ((1 : Int32) = (0 : Int32)))).1) ?_
            show Steps p.tables e below (T92.setTop (mkF m 216 #[.val (.long cc), .second, .val (.int p1), .val (.int p2), .val (.int ch0), .val (.int ch1), .val (.int ch2), .val (.int (p2 &&& (3 : Int32))), .val (.ref b41), .val (.ref r63), .val (.int (1 : Int32)), .val (.int (1 : Int32)), .val (.int (1 : Int32))] [])) _
            refine XS.iload X92.here hx rfl (hb hby at_216) rfl ?_
            show Steps p.tables e below (T92.setTop (mkF m 218 #[.val (.long cc), .second, .val (.int p1), .val (.int p2), .val (.int ch0), .val (.int ch1), .val (.int ch2), .val (.int (p2 &&& (3 : Int32))), .val (.ref b41), .val (.ref r63), .val (.int (1 : Int32)), .val (.int (1 : Int32)), .val (.int (1 : Int32))] [(.int (1 : Int32))])) _
            refine XS.ifNo X92.here hx rfl (hb hby at_218) rfl ((if0 _ _).trans (feq (by decide : ¬ ((1 : Int32) = (0 : Int32)))).1) ?_
            show Steps p.tables e below (T92.setTop (mkF m 221 #[.val (.long cc), .second, .val (.int p1), .val (.int p2), .val (.int ch0), .val (.int ch1), .val (.int ch2), .val (.int (p2 &&& (3 : Int32))), .val (.ref b41), .val (.ref r63), .val (.int (1 : Int32)), .val (.int (1 : Int32)), .val (.int (1 : Int32))] [])) _
            refine XS.aload X92.here hx rfl (hb hby at_221) rfl rfl ?_
            show Steps p.tables e below (T92.setTop (mkF m 223 #[.val (.long cc), .second, .val (.int p1), .val (.int p2), .val (.int ch0), .val (.int ch1), .val (.int ch2), .val (.int (p2 &&& (3 : Int32))), .val (.ref b41), .val (.ref r63), .val (.int (1 : Int32)), .val (.int (1 : Int32)), .val (.int (1 : Int32))] [(.ref r63)])) _
            exact kt)
          obtain ⟨cq95, kq95, q95a, q95b, q95c⟩ := isOf hZ56 e92q (Ex63)
          obtain ⟨_, _, ⟨T95, L95, k95, n95⟩, -, X95, ⟨Lc95, hQ95, l95, y95, z95⟩, st95⟩ := X92.virtualBack hx (y := (⟨"com/example/hoopoe/hoopoe/core/eval/Measure", "decimals", "()I"⟩ : MethodName)) (z := (⟨"com/example/hoopoe/hoopoe/core/eval/Measure", "decimals", "()I"⟩ : MethodName)) hO56 (mvT hZ56 (hw _ (List.mem_of_getElem? (i := 60) rfl))) (mvT hZ56 (hw _ (List.mem_of_getElem? (i := 61) rfl))) (notFace_of_selects (args := #[]) (mvT hZ56 (hw _ (List.mem_of_getElem? (i := 63) rfl)))) (mvT hZ56 (hw _ (List.mem_of_getElem? (i := 63) rfl))) (mvT hZ56 (hw _ (List.mem_of_getElem? (i := 62) rfl))) (by decide) (backOf (W := 0) (rmg_decimals l Z a0 hw [] r63 _ T63.heap n0 Zf69 Fd63) hZ56 (hw _ (List.mem_of_getElem? (i := 64) rfl)) (hw _ (List.mem_of_getElem? (i := 24) rfl)) (by decide) (by decide)) q95a q95c (g := (mkF m 223 #[.val (.long cc), .second, .val (.int p1), .val (.int p2), .val (.int ch0), .val (.int ch1), .val (.int ch2), .val (.int (p2 &&& (3 : Int32))), .val (.ref b41), .val (.ref r63), .val (.int (1 : Int32)), .val (.int (1 : Int32)), .val (.int (1 : Int32))] [(.ref r63)])) rfl (by rw [hml]; rfl) (Steps.refl _) (argsL := []) (rest := []) (lenOf pd__28_29I rfl) rfl (by show 2 * 0 + _ ≤ _; exact Nat.le_of_eq rfl) (hb hby at_223) (fun _ _ => ⟨rfl, e92q, (by decide : 5 + 0 ≤ _), (by decide : 11 + 0 ≤ _)⟩)
          dsimp only [Pt.U, Pt.locs, Pt.cells, Pt.slots] at X95 l95 y95 z95 st95 hQ95
          subst l95 y95 z95
          obtain ⟨rfl, N95q, e95q⟩ := hQ95
          have N95 := Fr.app N92 N95q
          have pre96 : ∀ t, Steps p.tables e below (T95.setTop (mkF m 226 #[.val (.long cc), .second, .val (.int p1), .val (.int p2), .val (.int ch0), .val (.int ch1), .val (.int ch2), .val (.int (p2 &&& (3 : Int32))), .val (.ref b41), .val (.ref r63), .val (.int (1 : Int32)), .val (.int (1 : Int32)), .val (.int (1 : Int32))] [(.int (0 : Int32))])) t → Steps p.tables e below (s₁.setTop (entryFrame m #[(.long cc), (.int p1), (.int p2)] maxLocals)) t := fun t kt => pre94 t (st95.trans kt)
          have pre97 : ∀ t, Steps p.tables e below (T95.setTop (mkF m 234 #[.val (.long cc), .second, .val (.int p1), .val (.int p2), .val (.int ch0), .val (.int ch1), .val (.int ch2), .val (.int (p2 &&& (3 : Int32))), .val (.ref b41), .val (.ref r63), .val (.int (1 : Int32)), .val (.int (1 : Int32)), .val (.int (1 : Int32))] [(.int (1 : Int32))])) t → Steps p.tables e below (s₁.setTop (entryFrame m #[(.long cc), (.int p1), (.int p2)] maxLocals)) t := fun t kt => pre96 t (by
            refine XS.ifNo X95.here hx rfl (hb hby at_226) rfl ((if0 _ _).trans (teq (by decide : (0 : Int32) = (0 : Int32))).2) ?_
            show Steps p.tables e below (T95.setTop (mkF m 229 #[.val (.long cc), .second, .val (.int p1), .val (.int p2), .val (.int ch0), .val (.int ch1), .val (.int ch2), .val (.int (p2 &&& (3 : Int32))), .val (.ref b41), .val (.ref r63), .val (.int (1 : Int32)), .val (.int (1 : Int32)), .val (.int (1 : Int32))] [])) _
            refine XS.iconst X95.here hx rfl (hb hby at_229) ?_
            show Steps p.tables e below (T95.setTop (mkF m 230 #[.val (.long cc), .second, .val (.int p1), .val (.int p2), .val (.int ch0), .val (.int ch1), .val (.int ch2), .val (.int (p2 &&& (3 : Int32))), .val (.ref b41), .val (.ref r63), .val (.int (1 : Int32)), .val (.int (1 : Int32)), .val (.int (1 : Int32))] [(.int (1 : Int32))])) _
            refine XS.goto X95.here hx rfl (pc0 := 230) (pc' := 234) rfl (hb hby at_230) (by decide) (by decide) ?_
            show Steps p.tables e below (T95.setTop (mkF m 234 #[.val (.long cc), .second, .val (.int p1), .val (.int p2), .val (.int ch0), .val (.int ch1), .val (.int ch2), .val (.int (p2 &&& (3 : Int32))), .val (.ref b41), .val (.ref r63), .val (.int (1 : Int32)), .val (.int (1 : Int32)), .val (.int (1 : Int32))] [(.int (1 : Int32))])) _
            exact kt)
          obtain ⟨fs, hr, hrun, hended, hRE⟩ := X95.leaveW hS56 (by rw [e95q]; exact Kf69) (v := (some (.int (1 : Int32)))) (fun h => by rw [Bd.returns] at h; cases h)
          refine ⟨_, _, pre97 _ ?_, hrun, hended, _, _, rfl, ?_, hRE.1, hRE.2.1, hRE.2.2.1, hRE.2.2.2.mono (by decide) (by decide)⟩
          · exact retN X95 hx (t := .boolean) Bd.returns (by simp) (hb hby at_234) hr
          · show Q0 Z  h0 n0 _ T95.heap T95.vm _
            rw [e95q]
            exact ⟨rfl, N95⟩
    · have pre99 : ∀ t, Steps p.tables e below (s₁.setTop (mkF m 70 #[.val (.long cc), .second, .val (.int p1), .val (.int p2), .val (.int ch0), .val (.int ch1), .val (.int ch2), .val (.int (p2 &&& (3 : Int32))), .unset, .unset, .unset, .unset, .unset] [(.int (2 : Int32)), (.int (p2 &&& (3 : Int32)))])) t → Steps p.tables e below (s₁.setTop (entryFrame m #[(.long cc), (.int p1), (.int p2)] maxLocals)) t := fun t kt => pre39 t (by
        refine XS.icmpYes X0.here hx rfl (pc0 := 49) (pc' := 67) rfl (hb hby at_49) rfl (feq c49_4).2 (by decide) (by decide) ?_
        show Steps p.tables e below (s₁.setTop (mkF m 67 #[.val (.long cc), .second, .val (.int p1), .val (.int p2), .val (.int ch0), .val (.int ch1), .val (.int ch2), .val (.int (p2 &&& (3 : Int32))), .unset, .unset, .unset, .unset, .unset] [])) _
        refine XS.iload X0.here hx rfl (hb hby at_67) rfl ?_
        show Steps p.tables e below (s₁.setTop (mkF m 69 #[.val (.long cc), .second, .val (.int p1), .val (.int p2), .val (.int ch0), .val (.int ch1), .val (.int ch2), .val (.int (p2 &&& (3 : Int32))), .unset, .unset, .unset, .unset, .unset] [(.int (p2 &&& (3 : Int32)))])) _
        refine XS.iconst X0.here hx rfl (hb hby at_69) ?_
        show Steps p.tables e below (s₁.setTop (mkF m 70 #[.val (.long cc), .second, .val (.int p1), .val (.int p2), .val (.int ch0), .val (.int ch1), .val (.int ch2), .val (.int (p2 &&& (3 : Int32))), .unset, .unset, .unset, .unset, .unset] [(.int (2 : Int32)), (.int (p2 &&& (3 : Int32)))])) _
        exact kt)
      by_cases c70_7 : (p2 &&& (3 : Int32)) = (2 : Int32)
      · have pre100 : ∀ t, Steps p.tables e below (s₁.setTop (mkF m 75 #[.val (.long cc), .second, .val (.int p1), .val (.int p2), .val (.int ch0), .val (.int ch1), .val (.int ch2), .val (.int (p2 &&& (3 : Int32))), .unset, .unset, .unset, .unset, .unset] [(.int ch0)])) t → Steps p.tables e below (s₁.setTop (entryFrame m #[(.long cc), (.int p1), (.int p2)] maxLocals)) t := fun t kt => pre99 t (by
          refine XS.icmpNo X0.here hx rfl (hb hby at_70) rfl (teq c70_7).2 ?_
          show Steps p.tables e below (s₁.setTop (mkF m 73 #[.val (.long cc), .second, .val (.int p1), .val (.int p2), .val (.int ch0), .val (.int ch1), .val (.int ch2), .val (.int (p2 &&& (3 : Int32))), .unset, .unset, .unset, .unset, .unset] [])) _
          refine XS.iload X0.here hx rfl (hb hby at_73) rfl ?_
          show Steps p.tables e below (s₁.setTop (mkF m 75 #[.val (.long cc), .second, .val (.int p1), .val (.int p2), .val (.int ch0), .val (.int ch1), .val (.int ch2), .val (.int (p2 &&& (3 : Int32))), .unset, .unset, .unset, .unset, .unset] [(.int ch0)])) _
          exact kt)
        obtain ⟨_, _, ⟨T101, L101, k101, n101⟩, -, X101, ⟨Lc101, hQ101, l101, y101, z101⟩, st101⟩ := Jvm.LawKit.callS X0 hx (y := (⟨"java/lang/String", "valueOf", "(C)Ljava/lang/String;"⟩ : MethodName)) hown (mvT hZ (hw _ (List.mem_of_getElem? (i := 76) rfl))) (mvT hZ (hw _ (List.mem_of_getElem? (i := 77) rfl))) (mvT hZ (hw _ (List.mem_of_getElem? (i := 2) rfl))) (mvT hZ (hw _ (List.mem_of_getElem? (i := 78) rfl))) (by decide) (backOf (W := 0) (rmVO l Z a0 hw [] ch0 z0 h0 n0 Z0 (own_c8 hch0) (S0.ext (O0).2) hz) hZ (hw _ (List.mem_of_getElem? (i := 78) rfl)) (hw _ (List.mem_of_getElem? (i := 2) rfl)) (by decide) (by decide)) (g := (mkF m 75 #[.val (.long cc), .second, .val (.int p1), .val (.int p2), .val (.int ch0), .val (.int ch1), .val (.int ch2), .val (.int (p2 &&& (3 : Int32))), .unset, .unset, .unset, .unset, .unset] [(.int ch0)])) rfl (by rw [hml]; rfl) (argsL := [(.int ch0)]) (rest := []) (lenOf pd__28C_29Ljava_2flang_2fString_3b rfl) rfl (by show 2 * 0 + _ ≤ _; exact Nat.le_of_eq rfl) (hb hby at_75) (fun _ _ => ⟨rfl, e0, (by decide : 0 + 2 ≤ _), (by decide : 0 + 5 ≤ _)⟩)
        dsimp only [Pt.U, Pt.locs, Pt.cells, Pt.slots] at X101 l101 y101 z101 st101 hQ101
        subst l101 y101 z101
        obtain ⟨r101, rfl, N101q, K101, gp101, sp101, Ex101⟩ := hQ101
        have N101 := Fr.app N0 N101q
        have f102 := (O0).keep K101 (own_all0 )
        have Zf103 : n0 ≤ T101.heap.size := Nat.le_trans Z0 (K101).1
        have pre104 : ∀ t, Steps p.tables e below (T101.setTop (mkF m 78 #[.val (.long cc), .second, .val (.int p1), .val (.int p2), .val (.int ch0), .val (.int ch1), .val (.int ch2), .val (.int (p2 &&& (3 : Int32))), .unset, .unset, .unset, .unset, .unset] [(.ref r101)])) t → Steps p.tables e below (s₁.setTop (entryFrame m #[(.long cc), (.int p1), (.int p2)] maxLocals)) t := fun t kt => pre100 t (st101 _ kt)
        have pre105 : ∀ t, Steps p.tables e below (T101.setTop (mkF m 113 #[.val (.long cc), .second, .val (.int p1), .val (.int p2), .val (.int ch0), .val (.int ch1), .val (.int ch2), .val (.int (p2 &&& (3 : Int32))), .val (.ref r101), .unset, .unset, .unset, .unset] [(.long cc), (.ref r101)])) t → Steps p.tables e below (s₁.setTop (entryFrame m #[(.long cc), (.int p1), (.int p2)] maxLocals)) t := fun t kt => pre104 t (by
          refine XS.astore X101.here hx rfl (hb hby at_78) rfl rfl (l' := #[.val (.long cc), .second, .val (.int p1), .val (.int p2), .val (.int ch0), .val (.int ch1), .val (.int ch2), .val (.int (p2 &&& (3 : Int32))), .val (.ref r101), .unset, .unset, .unset, .unset]) rfl ?_
          show Steps p.tables e below (T101.setTop (mkF m 80 #[.val (.long cc), .second, .val (.int p1), .val (.int p2), .val (.int ch0), .val (.int ch1), .val (.int ch2), .val (.int (p2 &&& (3 : Int32))), .val (.ref r101), .unset, .unset, .unset, .unset] [])) _
          refine XS.goto X101.here hx rfl (pc0 := 80) (pc' := 110) rfl (hb hby at_80) (by decide) (by decide) ?_
          show Steps p.tables e below (T101.setTop (mkF m 110 #[.val (.long cc), .second, .val (.int p1), .val (.int p2), .val (.int ch0), .val (.int ch1), .val (.int ch2), .val (.int (p2 &&& (3 : Int32))), .val (.ref r101), .unset, .unset, .unset, .unset] [])) _
          refine XS.aload X101.here hx rfl (hb hby at_110) rfl rfl ?_
          show Steps p.tables e below (T101.setTop (mkF m 112 #[.val (.long cc), .second, .val (.int p1), .val (.int p2), .val (.int ch0), .val (.int ch1), .val (.int ch2), .val (.int (p2 &&& (3 : Int32))), .val (.ref r101), .unset, .unset, .unset, .unset] [(.ref r101)])) _
          refine XS.lloadN X101.here hx rfl (hb hby at_112) rfl ?_
          show Steps p.tables e below (T101.setTop (mkF m 113 #[.val (.long cc), .second, .val (.int p1), .val (.int p2), .val (.int ch0), .val (.int ch1), .val (.int ch2), .val (.int (p2 &&& (3 : Int32))), .val (.ref r101), .unset, .unset, .unset, .unset] [(.long cc), (.ref r101)])) _
          exact kt)
        obtain ⟨_, _, ⟨T106, L106, k106, n106⟩, -, X106, ⟨Lc106, hQ106, l106, y106, z106⟩, st106⟩ := Jvm.LawKit.callS X101 hx (y := (⟨"com/example/hoopoe/hoopoe/core/eval/Measure", "count", "(Ljava/lang/String;J)Lcom/example/hoopoe/hoopoe/core/eval/Measure;"⟩ : MethodName)) hown (mvT hZ (hw _ (List.mem_of_getElem? (i := 22) rfl))) (mvT hZ (hw _ (List.mem_of_getElem? (i := 23) rfl))) (mvT hZ (hw _ (List.mem_of_getElem? (i := 24) rfl))) (mvT hZ (hw _ (List.mem_of_getElem? (i := 25) rfl))) (by decide) (backOf (W := 0) (rmCR l Z a0 hw [] r101 cc T101.heap n0 Zf103) hZ (hw _ (List.mem_of_getElem? (i := 25) rfl)) (hw _ (List.mem_of_getElem? (i := 24) rfl)) (by decide) (by decide)) (g := (mkF m 113 #[.val (.long cc), .second, .val (.int p1), .val (.int p2), .val (.int ch0), .val (.int ch1), .val (.int ch2), .val (.int (p2 &&& (3 : Int32))), .val (.ref r101), .unset, .unset, .unset, .unset] [(.long cc), (.ref r101)])) rfl (by rw [hml]; rfl) (argsL := [(.ref r101), (.long cc)]) (rest := []) (lenOf pd__28Ljava_2flang_2fString_3bJ_29Lcom_2fexample_2fhoopoe_2fhoopoe_2fcore_2feval_2fMeasure_3b rfl) rfl (by show 2 * 0 + _ ≤ _; exact Nat.le_of_eq rfl) (hb hby at_113) (fun _ _ => ⟨rfl, rfl, (by decide : 2 + 1 ≤ _), (by decide : 5 + 3 ≤ _)⟩)
        dsimp only [Pt.U, Pt.locs, Pt.cells, Pt.slots] at X106 l106 y106 z106 st106 hQ106
        subst l106 y106 z106
        obtain ⟨r106, rfl, N106q, K106, gp106, sp106, Ex106, Fn106, Fv106, Fd106⟩ := hQ106
        have N106 := Fr.app N101 N106q
        have ne107 : r101 ≠ r106 := Nat.ne_of_lt (Nat.lt_of_lt_of_le (Ex101).lt sp106)
        have f108 := (f102).keep K106 (own_all0 )
        have f109 := (Ex101).keep K106
        have Zf110 : n0 ≤ T106.heap.size := Nat.le_trans Zf103 (K106).1
        have pre111 : ∀ t, Steps p.tables e below (T106.setTop (mkF m 116 #[.val (.long cc), .second, .val (.int p1), .val (.int p2), .val (.int ch0), .val (.int ch1), .val (.int ch2), .val (.int (p2 &&& (3 : Int32))), .val (.ref r101), .unset, .unset, .unset, .unset] [(.ref r106)])) t → Steps p.tables e below (s₁.setTop (entryFrame m #[(.long cc), (.int p1), (.int p2)] maxLocals)) t := fun t kt => pre105 t (st106 _ kt)
        have pre112 : ∀ t, Steps p.tables e below (T106.setTop (mkF m 143 #[.val (.long cc), .second, .val (.int p1), .val (.int p2), .val (.int ch0), .val (.int ch1), .val (.int ch2), .val (.int (p2 &&& (3 : Int32))), .val (.ref r101), .val (.ref r106), .unset, .unset, .unset] [(.ref r106), (.ref r101)])) t → Steps p.tables e below (s₁.setTop (entryFrame m #[(.long cc), (.int p1), (.int p2)] maxLocals)) t := fun t kt => pre111 t (by
          refine XS.astore X106.here hx rfl (hb hby at_116) rfl rfl (l' := #[.val (.long cc), .second, .val (.int p1), .val (.int p2), .val (.int ch0), .val (.int ch1), .val (.int ch2), .val (.int (p2 &&& (3 : Int32))), .val (.ref r101), .val (.ref r106), .unset, .unset, .unset]) rfl ?_
          show Steps p.tables e below (T106.setTop (mkF m 118 #[.val (.long cc), .second, .val (.int p1), .val (.int p2), .val (.int ch0), .val (.int ch1), .val (.int ch2), .val (.int (p2 &&& (3 : Int32))), .val (.ref r101), .val (.ref r106), .unset, .unset, .unset] [])) _
          refine XS.aload X106.here hx rfl (hb hby at_118) rfl rfl ?_
          show Steps p.tables e below (T106.setTop (mkF m 120 #[.val (.long cc), .second, .val (.int p1), .val (.int p2), .val (.int ch0), .val (.int ch1), .val (.int ch2), .val (.int (p2 &&& (3 : Int32))), .val (.ref r101), .val (.ref r106), .unset, .unset, .unset] [(.ref r101)])) _
          refine XS.ifnonnullYes X106.here hx rfl (pc0 := 120) (pc' := 139) rfl (hb hby at_120) rfl (by decide) (by decide) ?_
          show Steps p.tables e below (T106.setTop (mkF m 139 #[.val (.long cc), .second, .val (.int p1), .val (.int p2), .val (.int ch0), .val (.int ch1), .val (.int ch2), .val (.int (p2 &&& (3 : Int32))), .val (.ref r101), .val (.ref r106), .unset, .unset, .unset] [])) _
          refine XS.aload X106.here hx rfl (hb hby at_139) rfl rfl ?_
          show Steps p.tables e below (T106.setTop (mkF m 141 #[.val (.long cc), .second, .val (.int p1), .val (.int p2), .val (.int ch0), .val (.int ch1), .val (.int ch2), .val (.int (p2 &&& (3 : Int32))), .val (.ref r101), .val (.ref r106), .unset, .unset, .unset] [(.ref r101)])) _
          refine XS.aload X106.here hx rfl (hb hby at_141) rfl rfl ?_
          show Steps p.tables e below (T106.setTop (mkF m 143 #[.val (.long cc), .second, .val (.int p1), .val (.int p2), .val (.int ch0), .val (.int ch1), .val (.int ch2), .val (.int (p2 &&& (3 : Int32))), .val (.ref r101), .val (.ref r106), .unset, .unset, .unset] [(.ref r106), (.ref r101)])) _
          exact kt)
        obtain ⟨cq113, kq113, q113a, q113b, q113c⟩ := isOf hZ rfl (Ex106)
        obtain ⟨_, _, ⟨T113, L113, k113, n113⟩, -, X113, ⟨Lc113, hQ113, l113, y113, z113⟩, st113⟩ := X106.virtualBack hx (y := (⟨"com/example/hoopoe/hoopoe/core/eval/Measure", "name", "()Ljava/lang/String;"⟩ : MethodName)) (z := (⟨"com/example/hoopoe/hoopoe/core/eval/Measure", "name", "()Ljava/lang/String;"⟩ : MethodName)) hown (mvT hZ (hw _ (List.mem_of_getElem? (i := 43) rfl))) (mvT hZ (hw _ (List.mem_of_getElem? (i := 44) rfl))) (notFace_of_selects (args := #[]) (mvT hZ (hw _ (List.mem_of_getElem? (i := 46) rfl)))) (mvT hZ (hw _ (List.mem_of_getElem? (i := 46) rfl))) (mvT hZ (hw _ (List.mem_of_getElem? (i := 45) rfl))) (by decide) (backOf (W := 1) (rmNR l Z a0 hw [] r106 r101 T106.heap n0 Zf110 Fn106) hZ (hw _ (List.mem_of_getElem? (i := 47) rfl)) (hw _ (List.mem_of_getElem? (i := 24) rfl)) (by decide) (by decide)) q113a q113c (g := (mkF m 143 #[.val (.long cc), .second, .val (.int p1), .val (.int p2), .val (.int ch0), .val (.int ch1), .val (.int ch2), .val (.int (p2 &&& (3 : Int32))), .val (.ref r101), .val (.ref r106), .unset, .unset, .unset] [(.ref r106), (.ref r101)])) rfl (by rw [hml]; rfl) (Steps.refl _) (argsL := []) (rest := [(.ref r101)]) (lenOf pd__28_29Ljava_2flang_2fString_3b rfl) rfl (by show 2 * 0 + _ ≤ _; exact Nat.le_of_eq rfl) (hb hby at_143) (fun _ _ => ⟨rfl, rfl, (by decide : 3 + 0 ≤ _), (by decide : 8 + 0 ≤ _)⟩)
        dsimp only [Pt.U, Pt.locs, Pt.cells, Pt.slots] at X113 l113 y113 z113 st113 hQ113
        subst l113 y113 z113
        obtain ⟨rfl, N113q, e113q⟩ := hQ113
        have N113 := Fr.app N106 N113q
        have pre114 : ∀ t, Steps p.tables e below (T113.setTop (mkF m 146 #[.val (.long cc), .second, .val (.int p1), .val (.int p2), .val (.int ch0), .val (.int ch1), .val (.int ch2), .val (.int (p2 &&& (3 : Int32))), .val (.ref r101), .val (.ref r106), .unset, .unset, .unset] [(.ref r101), (.ref r101)])) t → Steps p.tables e below (s₁.setTop (entryFrame m #[(.long cc), (.int p1), (.int p2)] maxLocals)) t := fun t kt => pre112 t (st113.trans kt)
        obtain ⟨cq115, kq115, q115a, q115b, q115c⟩ := isOf hZ e113q (f109)
        obtain ⟨_, _, ⟨T115, L115, k115, n115⟩, -, X115, ⟨Lc115, hQ115, l115, y115, z115⟩, st115⟩ := X113.virtualBack hx (y := (⟨"java/lang/String", "equals", "(Ljava/lang/Object;)Z"⟩ : MethodName)) (z := (⟨"java/lang/String", "equals", "(Ljava/lang/Object;)Z"⟩ : MethodName)) hown (mvT hZ (hw _ (List.mem_of_getElem? (i := 48) rfl))) (mvT hZ (hw _ (List.mem_of_getElem? (i := 49) rfl))) (notFace_of_selects (args := #[]) (mvT hZ (hw _ (List.mem_of_getElem? (i := 51) rfl)))) (mvT hZ (hw _ (List.mem_of_getElem? (i := 51) rfl))) (mvT hZ (hw _ (List.mem_of_getElem? (i := 50) rfl))) (by decide) (backOf (W := 0) (rmEq l Z a0 hw [] r101 T106.heap n0 Zf110) hZ (hw _ (List.mem_of_getElem? (i := 52) rfl)) (hw _ (List.mem_of_getElem? (i := 2) rfl)) (by decide) (by decide)) q115a q115c (g := (mkF m 146 #[.val (.long cc), .second, .val (.int p1), .val (.int p2), .val (.int ch0), .val (.int ch1), .val (.int ch2), .val (.int (p2 &&& (3 : Int32))), .val (.ref r101), .val (.ref r106), .unset, .unset, .unset] [(.ref r101), (.ref r101)])) rfl (by rw [hml]; rfl) (Steps.refl _) (argsL := [(.ref r101)]) (rest := []) (lenOf pd__28Ljava_2flang_2fObject_3b_29Z rfl) rfl (by show 2 * 0 + _ ≤ _; exact Nat.le_of_eq rfl) (hb hby at_146) (fun _ _ => ⟨rfl, e113q, (by decide : 3 + 0 ≤ _), (by decide : 8 + 0 ≤ _)⟩)
        dsimp only [Pt.U, Pt.locs, Pt.cells, Pt.slots] at X115 l115 y115 z115 st115 hQ115
        subst l115 y115 z115
        obtain ⟨rfl, N115q, e115q⟩ := hQ115
        have N115 := Fr.app N113 N115q
        have pre116 : ∀ t, Steps p.tables e below (T115.setTop (mkF m 149 #[.val (.long cc), .second, .val (.int p1), .val (.int p2), .val (.int ch0), .val (.int ch1), .val (.int ch2), .val (.int (p2 &&& (3 : Int32))), .val (.ref r101), .val (.ref r106), .unset, .unset, .unset] [(.int (1 : Int32))])) t → Steps p.tables e below (s₁.setTop (entryFrame m #[(.long cc), (.int p1), (.int p2)] maxLocals)) t := fun t kt => pre114 t (st115.trans kt)
        have pre117 : ∀ t, Steps p.tables e below (T115.setTop (mkF m 153 #[.val (.long cc), .second, .val (.int p1), .val (.int p2), .val (.int ch0), .val (.int ch1), .val (.int ch2), .val (.int (p2 &&& (3 : Int32))), .val (.ref r101), .val (.ref r106), .val (.int (1 : Int32)), .unset, .unset] [(.ref r106)])) t → Steps p.tables e below (s₁.setTop (entryFrame m #[(.long cc), (.int p1), (.int p2)] maxLocals)) t := fun t kt => pre116 t (by
          refine XS.istore X115.here hx rfl (hb hby at_149) rfl (l' := #[.val (.long cc), .second, .val (.int p1), .val (.int p2), .val (.int ch0), .val (.int ch1), .val (.int ch2), .val (.int (p2 &&& (3 : Int32))), .val (.ref r101), .val (.ref r106), .val (.int (1 : Int32)), .unset, .unset]) rfl ?_
          show Steps p.tables e below (T115.setTop (mkF m 151 #[.val (.long cc), .second, .val (.int p1), .val (.int p2), .val (.int ch0), .val (.int ch1), .val (.int ch2), .val (.int (p2 &&& (3 : Int32))), .val (.ref r101), .val (.ref r106), .val (.int (1 : Int32)), .unset, .unset] [])) _
          refine XS.aload X115.here hx rfl (hb hby at_151) rfl rfl ?_
          show Steps p.tables e below (T115.setTop (mkF m 153 #[.val (.long cc), .second, .val (.int p1), .val (.int p2), .val (.int ch0), .val (.int ch1), .val (.int ch2), .val (.int (p2 &&& (3 : Int32))), .val (.ref r101), .val (.ref r106), .val (.int (1 : Int32)), .unset, .unset] [(.ref r106)])) _
          exact kt)
        obtain ⟨cq118, kq118, q118a, q118b, q118c⟩ := isOf hZ e115q (Ex106)
        obtain ⟨_, _, ⟨T118, L118, k118, n118⟩, -, X118, ⟨Lc118, hQ118, l118, y118, z118⟩, st118⟩ := X115.virtualBack hx (y := (⟨"com/example/hoopoe/hoopoe/core/eval/Measure", "value", "()D"⟩ : MethodName)) (z := (⟨"com/example/hoopoe/hoopoe/core/eval/Measure", "value", "()D"⟩ : MethodName)) hown (mvT hZ (hw _ (List.mem_of_getElem? (i := 53) rfl))) (mvT hZ (hw _ (List.mem_of_getElem? (i := 54) rfl))) (notFace_of_selects (args := #[]) (mvT hZ (hw _ (List.mem_of_getElem? (i := 56) rfl)))) (mvT hZ (hw _ (List.mem_of_getElem? (i := 56) rfl))) (mvT hZ (hw _ (List.mem_of_getElem? (i := 55) rfl))) (by decide) (backOf (W := 0) (rmg_value l Z a0 hw [] r106 _ T106.heap n0 Zf110 Fv106) hZ (hw _ (List.mem_of_getElem? (i := 57) rfl)) (hw _ (List.mem_of_getElem? (i := 24) rfl)) (by decide) (by decide)) q118a q118c (g := (mkF m 153 #[.val (.long cc), .second, .val (.int p1), .val (.int p2), .val (.int ch0), .val (.int ch1), .val (.int ch2), .val (.int (p2 &&& (3 : Int32))), .val (.ref r101), .val (.ref r106), .val (.int (1 : Int32)), .unset, .unset] [(.ref r106)])) rfl (by rw [hml]; rfl) (Steps.refl _) (argsL := []) (rest := []) (lenOf pd__28_29D rfl) rfl (by show 2 * 0 + _ ≤ _; exact Nat.le_of_eq rfl) (hb hby at_153) (fun _ _ => ⟨rfl, e115q, (by decide : 3 + 0 ≤ _), (by decide : 8 + 0 ≤ _)⟩)
        dsimp only [Pt.U, Pt.locs, Pt.cells, Pt.slots] at X118 l118 y118 z118 st118 hQ118
        subst l118 y118 z118
        obtain ⟨rfl, N118q, e118q⟩ := hQ118
        have N118 := Fr.app N115 N118q
        have pre119 : ∀ t, Steps p.tables e below (T118.setTop (mkF m 156 #[.val (.long cc), .second, .val (.int p1), .val (.int p2), .val (.int ch0), .val (.int ch1), .val (.int ch2), .val (.int (p2 &&& (3 : Int32))), .val (.ref r101), .val (.ref r106), .val (.int (1 : Int32)), .unset, .unset] [(.double (FP.l2d cc))])) t → Steps p.tables e below (s₁.setTop (entryFrame m #[(.long cc), (.int p1), (.int p2)] maxLocals)) t := fun t kt => pre117 t (st118.trans kt)
        have pre120 : ∀ t, Steps p.tables e below (T118.setTop (mkF m 177 #[.val (.long cc), .second, .val (.int p1), .val (.int p2), .val (.int ch0), .val (.int ch1), .val (.int ch2), .val (.int (p2 &&& (3 : Int32))), .val (.ref r101), .val (.ref r106), .val (.int (1 : Int32)), .val (.int (1 : Int32)), .val (.int (1 : Int32))] [(.int (lcmpW cc (-9007199254740992 : Int64)))])) t → Steps p.tables e below (s₁.setTop (entryFrame m #[(.long cc), (.int p1), (.int p2)] maxLocals)) t := fun t kt => pre119 t (by
          refine XS.lloadN X118.here hx rfl (hb hby at_156) rfl ?_
          show Steps p.tables e below (T118.setTop (mkF m 157 #[.val (.long cc), .second, .val (.int p1), .val (.int p2), .val (.int ch0), .val (.int ch1), .val (.int ch2), .val (.int (p2 &&& (3 : Int32))), .val (.ref r101), .val (.ref r106), .val (.int (1 : Int32)), .unset, .unset] [(.long cc), (.double (FP.l2d cc))])) _
          refine own_l2d X118.here hx rfl (hb hby at_157) rfl ?_
          show Steps p.tables e below (T118.setTop (mkF m 158 #[.val (.long cc), .second, .val (.int p1), .val (.int p2), .val (.int ch0), .val (.int ch1), .val (.int ch2), .val (.int (p2 &&& (3 : Int32))), .val (.ref r101), .val (.ref r106), .val (.int (1 : Int32)), .unset, .unset] [(.double (FP.l2d cc)), (.double (FP.l2d cc))])) _
          refine own_dcmp X118.here hx rfl (hb hby at_158) rfl ?_
          show Steps p.tables e below (T118.setTop (mkF m 159 #[.val (.long cc), .second, .val (.int p1), .val (.int p2), .val (.int ch0), .val (.int ch1), .val (.int ch2), .val (.int (p2 &&& (3 : Int32))), .val (.ref r101), .val (.ref r106), .val (.int (1 : Int32)), .unset, .unset] [(.int (cmpValue (FP.dcmp (FP.l2d cc) (FP.l2d cc)) .l))])) _
          refine XS.ifNo X118.here hx rfl (hb hby at_159) rfl ((if0 _ _).trans (teq (own_dself cc : (cmpValue (FP.dcmp (FP.l2d cc) (FP.l2d cc)) .l) = (0 : Int32))).2) ?_
          show Steps p.tables e below (T118.setTop (mkF m 162 #[.val (.long cc), .second, .val (.int p1), .val (.int p2), .val (.int ch0), .val (.int ch1), .val (.int ch2), .val (.int (p2 &&& (3 : Int32))), .val (.ref r101), .val (.ref r106), .val (.int (1 : Int32)), .unset, .unset] [])) _
          refine XS.iconst X118.here hx rfl (hb hby at_162) ?_
          show Steps p.tables e below (T118.setTop (mkF m 163 #[.val (.long cc), .second, .val (.int p1), .val (.int p2), .val (.int ch0), .val (.int ch1), .val (.int ch2), .val (.int (p2 &&& (3 : Int32))), .val (.ref r101), .val (.ref r106), .val (.int (1 : Int32)), .unset, .unset] [(.int (1 : Int32))])) _
          refine XS.goto X118.here hx rfl (pc0 := 163) (pc' := 167) rfl (hb hby at_163) (by decide) (by decide) ?_
          show Steps p.tables e below (T118.setTop (mkF m 167 #[.val (.long cc), .second, .val (.int p1), .val (.int p2), .val (.int ch0), .val (.int ch1), .val (.int ch2), .val (.int (p2 &&& (3 : Int32))), .val (.ref r101), .val (.ref r106), .val (.int (1 : Int32)), .unset, .unset] [(.int (1 : Int32))])) _
          refine XS.istore X118.here hx rfl (hb hby at_167) rfl (l' := #[.val (.long cc), .second, .val (.int p1), .val (.int p2), .val (.int ch0), .val (.int ch1), .val (.int ch2), .val (.int (p2 &&& (3 : Int32))), .val (.ref r101), .val (.ref r106), .val (.int (1 : Int32)), .val (.int (1 : Int32)), .unset]) rfl ?_
          show Steps p.tables e below (T118.setTop (mkF m 169 #[.val (.long cc), .second, .val (.int p1), .val (.int p2), .val (.int ch0), .val (.int ch1), .val (.int ch2), .val (.int (p2 &&& (3 : Int32))), .val (.ref r101), .val (.ref r106), .val (.int (1 : Int32)), .val (.int (1 : Int32)), .unset] [])) _
          refine XS.iconst X118.here hx rfl (hb hby at_169) ?_
          show Steps p.tables e below (T118.setTop (mkF m 170 #[.val (.long cc), .second, .val (.int p1), .val (.int p2), .val (.int ch0), .val (.int ch1), .val (.int ch2), .val (.int (p2 &&& (3 : Int32))), .val (.ref r101), .val (.ref r106), .val (.int (1 : Int32)), .val (.int (1 : Int32)), .unset] [(.int (1 : Int32))])) _
          refine XS.istore X118.here hx rfl (hb hby at_170) rfl (l' := #[.val (.long cc), .second, .val (.int p1), .val (.int p2), .val (.int ch0), .val (.int ch1), .val (.int ch2), .val (.int (p2 &&& (3 : Int32))), .val (.ref r101), .val (.ref r106), .val (.int (1 : Int32)), .val (.int (1 : Int32)), .val (.int (1 : Int32))]) rfl ?_
          show Steps p.tables e below (T118.setTop (mkF m 172 #[.val (.long cc), .second, .val (.int p1), .val (.int p2), .val (.int ch0), .val (.int ch1), .val (.int ch2), .val (.int (p2 &&& (3 : Int32))), .val (.ref r101), .val (.ref r106), .val (.int (1 : Int32)), .val (.int (1 : Int32)), .val (.int (1 : Int32))] [])) _
          refine XS.lloadN X118.here hx rfl (hb hby at_172) rfl ?_
          show Steps p.tables e below (T118.setTop (mkF m 173 #[.val (.long cc), .second, .val (.int p1), .val (.int p2), .val (.int ch0), .val (.int ch1), .val (.int ch2), .val (.int (p2 &&& (3 : Int32))), .val (.ref r101), .val (.ref r106), .val (.int (1 : Int32)), .val (.int (1 : Int32)), .val (.int (1 : Int32))] [(.long cc)])) _
          refine X118.ldc2Long hx hown (mvT hZ (hw _ (List.mem_of_getElem? (i := 58) rfl))) (g := (mkF m 173 #[.val (.long cc), .second, .val (.int p1), .val (.int p2), .val (.int ch0), .val (.int ch1), .val (.int ch2), .val (.int (p2 &&& (3 : Int32))), .val (.ref r101), .val (.ref r106), .val (.int (1 : Int32)), .val (.int (1 : Int32)), .val (.int (1 : Int32))] [(.long cc)])) rfl (hb hby at_173) _ ?_
          show Steps p.tables e below (T118.setTop (mkF m 176 #[.val (.long cc), .second, .val (.int p1), .val (.int p2), .val (.int ch0), .val (.int ch1), .val (.int ch2), .val (.int (p2 &&& (3 : Int32))), .val (.ref r101), .val (.ref r106), .val (.int (1 : Int32)), .val (.int (1 : Int32)), .val (.int (1 : Int32))] [(.long (-9007199254740992 : Int64)), (.long cc)])) _
          refine XS.lcmp X118.here hx rfl (hb hby at_176) rfl ?_
          show Steps p.tables e below (T118.setTop (mkF m 177 #[.val (.long cc), .second, .val (.int p1), .val (.int p2), .val (.int ch0), .val (.int ch1), .val (.int ch2), .val (.int (p2 &&& (3 : Int32))), .val (.ref r101), .val (.ref r106), .val (.int (1 : Int32)), .val (.int (1 : Int32)), .val (.int (1 : Int32))] [(.int (lcmpW cc (-9007199254740992 : Int64)))])) _
          exact kt)
        by_cases c177_8 : cc < (-9007199254740992 : Int64)
        · have pre121 : ∀ t, Steps p.tables e below (T118.setTop (mkF m 223 #[.val (.long cc), .second, .val (.int p1), .val (.int p2), .val (.int ch0), .val (.int ch1), .val (.int ch2), .val (.int (p2 &&& (3 : Int32))), .val (.ref r101), .val (.ref r106), .val (.int (1 : Int32)), .val (.int (1 : Int32)), .val (.int (1 : Int32))] [(.ref r106)])) t → Steps p.tables e below (s₁.setTop (entryFrame m #[(.long cc), (.int p1), (.int p2)] maxLocals)) t := fun t kt => pre120 t (by
            refine XS.ifYes X118.here hx rfl (pc0 := 177) (pc' := 206) rfl (hb hby at_177) rfl ((if0 _ _).trans (tlt ((lw_lt _ _).mpr c177_8)).1) (by decide) (by decide) ?_
            show Steps p.tables e below (T118.setTop (mkF m 206 #[.val (.long cc), .second, .val (.int p1), .val (.int p2), .val (.int ch0), .val (.int ch1), .val (.int ch2), .val (.int (p2 &&& (3 : Int32))), .val (.ref r101), .val (.ref r106), .val (.int (1 : Int32)), .val (.int (1 : Int32)), .val (.int (1 : Int32))] [])) _
            refine XS.iload X118.here hx rfl (hb hby at_206) rfl ?_
            show Steps p.tables e below (T118.setTop (mkF m 208 #[.val (.long cc), .second, .val (.int p1), .val (.int p2), .val (.int ch0), .val (.int ch1), .val (.int ch2), .val (.int (p2 &&& (3 : Int32))), .val (.ref r101), .val (.ref r106), .val (.int (1 : Int32)), .val (.int (1 : Int32)), .val (.int (1 : Int32))] [(.int (1 : Int32))])) _
            refine XS.ifNo X118.here hx rfl (hb hby at_208) rfl ((if0 _ _).trans (feq (by decide : ¬ ((1 : Int32) = (0 : Int32)))).1) ?_
            show Steps p.tables e below (T118.setTop (mkF m 211 #[.val (.long cc), .second, .val (.int p1), .val (.int p2), .val (.int ch0), .val (.int ch1), .val (.int ch2), .val (.int (p2 &&& (3 : Int32))), .val (.ref r101), .val (.ref r106), .val (.int (1 : Int32)), .val (.int (1 : Int32)), .val (.int (1 : Int32))] [])) _
            refine XS.iload X118.here hx rfl (hb hby at_211) rfl ?_
            show Steps p.tables e below (T118.setTop (mkF m 213 #[.val (.long cc), .second, .val (.int p1), .val (.int p2), .val (.int ch0), .val (.int ch1), .val (.int ch2), .val (.int (p2 &&& (3 : Int32))), .val (.ref r101), .val (.ref r106), .val (.int (1 : Int32)), .val (.int (1 : Int32)), .val (.int (1 : Int32))] [(.int (1 : Int32))])) _
            refine XS.ifNo X118.here hx rfl (hb hby at_213) rfl ((if0 _ _).trans (feq (by decide : ¬ ((1 : Int32) = (0 : Int32)))).1) ?_
            show Steps p.tables e below (T118.setTop (mkF m 216 #[.val (.long cc), .second, .val (.int p1), .val (.int p2), .val (.int ch0), .val (.int ch1), .val (.int ch2), .val (.int (p2 &&& (3 : Int32))), .val (.ref r101), .val (.ref r106), .val (.int (1 : Int32)), .val (.int (1 : Int32)), .val (.int (1 : Int32))] [])) _
            refine XS.iload X118.here hx rfl (hb hby at_216) rfl ?_
            show Steps p.tables e below (T118.setTop (mkF m 218 #[.val (.long cc), .second, .val (.int p1), .val (.int p2), .val (.int ch0), .val (.int ch1), .val (.int ch2), .val (.int (p2 &&& (3 : Int32))), .val (.ref r101), .val (.ref r106), .val (.int (1 : Int32)), .val (.int (1 : Int32)), .val (.int (1 : Int32))] [(.int (1 : Int32))])) _
            refine XS.ifNo X118.here hx rfl (hb hby at_218) rfl ((if0 _ _).trans (feq (by decide : ¬ ((1 : Int32) = (0 : Int32)))).1) ?_
            show Steps p.tables e below (T118.setTop (mkF m 221 #[.val (.long cc), .second, .val (.int p1), .val (.int p2), .val (.int ch0), .val (.int ch1), .val (.int ch2), .val (.int (p2 &&& (3 : Int32))), .val (.ref r101), .val (.ref r106), .val (.int (1 : Int32)), .val (.int (1 : Int32)), .val (.int (1 : Int32))] [])) _
            refine XS.aload X118.here hx rfl (hb hby at_221) rfl rfl ?_
            show Steps p.tables e below (T118.setTop (mkF m 223 #[.val (.long cc), .second, .val (.int p1), .val (.int p2), .val (.int ch0), .val (.int ch1), .val (.int ch2), .val (.int (p2 &&& (3 : Int32))), .val (.ref r101), .val (.ref r106), .val (.int (1 : Int32)), .val (.int (1 : Int32)), .val (.int (1 : Int32))] [(.ref r106)])) _
            exact kt)
          obtain ⟨cq122, kq122, q122a, q122b, q122c⟩ := isOf hZ e118q (Ex106)
          obtain ⟨_, _, ⟨T122, L122, k122, n122⟩, -, X122, ⟨Lc122, hQ122, l122, y122, z122⟩, st122⟩ := X118.virtualBack hx (y := (⟨"com/example/hoopoe/hoopoe/core/eval/Measure", "decimals", "()I"⟩ : MethodName)) (z := (⟨"com/example/hoopoe/hoopoe/core/eval/Measure", "decimals", "()I"⟩ : MethodName)) hown (mvT hZ (hw _ (List.mem_of_getElem? (i := 60) rfl))) (mvT hZ (hw _ (List.mem_of_getElem? (i := 61) rfl))) (notFace_of_selects (args := #[]) (mvT hZ (hw _ (List.mem_of_getElem? (i := 63) rfl)))) (mvT hZ (hw _ (List.mem_of_getElem? (i := 63) rfl))) (mvT hZ (hw _ (List.mem_of_getElem? (i := 62) rfl))) (by decide) (backOf (W := 0) (rmg_decimals l Z a0 hw [] r106 _ T106.heap n0 Zf110 Fd106) hZ (hw _ (List.mem_of_getElem? (i := 64) rfl)) (hw _ (List.mem_of_getElem? (i := 24) rfl)) (by decide) (by decide)) q122a q122c (g := (mkF m 223 #[.val (.long cc), .second, .val (.int p1), .val (.int p2), .val (.int ch0), .val (.int ch1), .val (.int ch2), .val (.int (p2 &&& (3 : Int32))), .val (.ref r101), .val (.ref r106), .val (.int (1 : Int32)), .val (.int (1 : Int32)), .val (.int (1 : Int32))] [(.ref r106)])) rfl (by rw [hml]; rfl) (Steps.refl _) (argsL := []) (rest := []) (lenOf pd__28_29I rfl) rfl (by show 2 * 0 + _ ≤ _; exact Nat.le_of_eq rfl) (hb hby at_223) (fun _ _ => ⟨rfl, e118q, (by decide : 3 + 0 ≤ _), (by decide : 8 + 0 ≤ _)⟩)
          dsimp only [Pt.U, Pt.locs, Pt.cells, Pt.slots] at X122 l122 y122 z122 st122 hQ122
          subst l122 y122 z122
          obtain ⟨rfl, N122q, e122q⟩ := hQ122
          have N122 := Fr.app N118 N122q
          have pre123 : ∀ t, Steps p.tables e below (T122.setTop (mkF m 226 #[.val (.long cc), .second, .val (.int p1), .val (.int p2), .val (.int ch0), .val (.int ch1), .val (.int ch2), .val (.int (p2 &&& (3 : Int32))), .val (.ref r101), .val (.ref r106), .val (.int (1 : Int32)), .val (.int (1 : Int32)), .val (.int (1 : Int32))] [(.int (0 : Int32))])) t → Steps p.tables e below (s₁.setTop (entryFrame m #[(.long cc), (.int p1), (.int p2)] maxLocals)) t := fun t kt => pre121 t (st122.trans kt)
          have pre124 : ∀ t, Steps p.tables e below (T122.setTop (mkF m 234 #[.val (.long cc), .second, .val (.int p1), .val (.int p2), .val (.int ch0), .val (.int ch1), .val (.int ch2), .val (.int (p2 &&& (3 : Int32))), .val (.ref r101), .val (.ref r106), .val (.int (1 : Int32)), .val (.int (1 : Int32)), .val (.int (1 : Int32))] [(.int (1 : Int32))])) t → Steps p.tables e below (s₁.setTop (entryFrame m #[(.long cc), (.int p1), (.int p2)] maxLocals)) t := fun t kt => pre123 t (by
            refine XS.ifNo X122.here hx rfl (hb hby at_226) rfl ((if0 _ _).trans (teq (by decide : (0 : Int32) = (0 : Int32))).2) ?_
            show Steps p.tables e below (T122.setTop (mkF m 229 #[.val (.long cc), .second, .val (.int p1), .val (.int p2), .val (.int ch0), .val (.int ch1), .val (.int ch2), .val (.int (p2 &&& (3 : Int32))), .val (.ref r101), .val (.ref r106), .val (.int (1 : Int32)), .val (.int (1 : Int32)), .val (.int (1 : Int32))] [])) _
            refine XS.iconst X122.here hx rfl (hb hby at_229) ?_
            show Steps p.tables e below (T122.setTop (mkF m 230 #[.val (.long cc), .second, .val (.int p1), .val (.int p2), .val (.int ch0), .val (.int ch1), .val (.int ch2), .val (.int (p2 &&& (3 : Int32))), .val (.ref r101), .val (.ref r106), .val (.int (1 : Int32)), .val (.int (1 : Int32)), .val (.int (1 : Int32))] [(.int (1 : Int32))])) _
            refine XS.goto X122.here hx rfl (pc0 := 230) (pc' := 234) rfl (hb hby at_230) (by decide) (by decide) ?_
            show Steps p.tables e below (T122.setTop (mkF m 234 #[.val (.long cc), .second, .val (.int p1), .val (.int p2), .val (.int ch0), .val (.int ch1), .val (.int ch2), .val (.int (p2 &&& (3 : Int32))), .val (.ref r101), .val (.ref r106), .val (.int (1 : Int32)), .val (.int (1 : Int32)), .val (.int (1 : Int32))] [(.int (1 : Int32))])) _
            exact kt)
          obtain ⟨fs, hr, hrun, hended, hW, hsame⟩ := X122.leave (v := (some (.int (1 : Int32)))) (fun h => by rw [Bd.returns] at h; cases h)
          refine ⟨_, _, pre124 _ ?_, hrun, hended, _, _, rfl, ?_, ReturnedEndW.of_narrow ⟨_, rfl⟩ hW (hsame.mono (by decide) (by decide))⟩
          · exact retN X122 hx (t := .boolean) Bd.returns (by simp) (hb hby at_234) hr
          · show Q0 Z  h0 n0 _ T122.heap T122.vm _
            rw [e122q]
            exact ⟨rfl, N122⟩
        · have pre126 : ∀ t, Steps p.tables e below (T118.setTop (mkF m 185 #[.val (.long cc), .second, .val (.int p1), .val (.int p2), .val (.int ch0), .val (.int ch1), .val (.int ch2), .val (.int (p2 &&& (3 : Int32))), .val (.ref r101), .val (.ref r106), .val (.int (1 : Int32)), .val (.int (1 : Int32)), .val (.int (1 : Int32))] [(.int (lcmpW cc (9007199254740992 : Int64)))])) t → Steps p.tables e below (s₁.setTop (entryFrame m #[(.long cc), (.int p1), (.int p2)] maxLocals)) t := fun t kt => pre120 t (by
            refine XS.ifNo X118.here hx rfl (hb hby at_177) rfl ((if0 _ _).trans (flt (mt (lw_lt _ _).mp c177_8)).1) ?_
            show Steps p.tables e below (T118.setTop (mkF m 180 #[.val (.long cc), .second, .val (.int p1), .val (.int p2), .val (.int ch0), .val (.int ch1), .val (.int ch2), .val (.int (p2 &&& (3 : Int32))), .val (.ref r101), .val (.ref r106), .val (.int (1 : Int32)), .val (.int (1 : Int32)), .val (.int (1 : Int32))] [])) _
            refine XS.lloadN X118.here hx rfl (hb hby at_180) rfl ?_
            show Steps p.tables e below (T118.setTop (mkF m 181 #[.val (.long cc), .second, .val (.int p1), .val (.int p2), .val (.int ch0), .val (.int ch1), .val (.int ch2), .val (.int (p2 &&& (3 : Int32))), .val (.ref r101), .val (.ref r106), .val (.int (1 : Int32)), .val (.int (1 : Int32)), .val (.int (1 : Int32))] [(.long cc)])) _
            refine X118.ldc2Long hx hown (mvT hZ (hw _ (List.mem_of_getElem? (i := 59) rfl))) (g := (mkF m 181 #[.val (.long cc), .second, .val (.int p1), .val (.int p2), .val (.int ch0), .val (.int ch1), .val (.int ch2), .val (.int (p2 &&& (3 : Int32))), .val (.ref r101), .val (.ref r106), .val (.int (1 : Int32)), .val (.int (1 : Int32)), .val (.int (1 : Int32))] [(.long cc)])) rfl (hb hby at_181) _ ?_
            show Steps p.tables e below (T118.setTop (mkF m 184 #[.val (.long cc), .second, .val (.int p1), .val (.int p2), .val (.int ch0), .val (.int ch1), .val (.int ch2), .val (.int (p2 &&& (3 : Int32))), .val (.ref r101), .val (.ref r106), .val (.int (1 : Int32)), .val (.int (1 : Int32)), .val (.int (1 : Int32))] [(.long (9007199254740992 : Int64)), (.long cc)])) _
            refine XS.lcmp X118.here hx rfl (hb hby at_184) rfl ?_
            show Steps p.tables e below (T118.setTop (mkF m 185 #[.val (.long cc), .second, .val (.int p1), .val (.int p2), .val (.int ch0), .val (.int ch1), .val (.int ch2), .val (.int (p2 &&& (3 : Int32))), .val (.ref r101), .val (.ref r106), .val (.int (1 : Int32)), .val (.int (1 : Int32)), .val (.int (1 : Int32))] [(.int (lcmpW cc (9007199254740992 : Int64)))])) _
            exact kt)
          by_cases c185_9 : (9007199254740992 : Int64) < cc
          · have pre127 : ∀ t, Steps p.tables e below (T118.setTop (mkF m 223 #[.val (.long cc), .second, .val (.int p1), .val (.int p2), .val (.int ch0), .val (.int ch1), .val (.int ch2), .val (.int (p2 &&& (3 : Int32))), .val (.ref r101), .val (.ref r106), .val (.int (1 : Int32)), .val (.int (1 : Int32)), .val (.int (1 : Int32))] [(.ref r106)])) t → Steps p.tables e below (s₁.setTop (entryFrame m #[(.long cc), (.int p1), (.int p2)] maxLocals)) t := fun t kt => pre126 t (by
              refine XS.ifYes X118.here hx rfl (pc0 := 185) (pc' := 206) rfl (hb hby at_185) rfl ((if0 _ _).trans (tlt ((lw_gt _ _).mpr c185_9)).2.2.1) (by decide) (by decide) ?_
              show Steps p.tables e below (T118.setTop (mkF m 206 #[.val (.long cc), .second, .val (.int p1), .val (.int p2), .val (.int ch0), .val (.int ch1), .val (.int ch2), .val (.int (p2 &&& (3 : Int32))), .val (.ref r101), .val (.ref r106), .val (.int (1 : Int32)), .val (.int (1 : Int32)), .val (.int (1 : Int32))] [])) _
              refine XS.iload X118.here hx rfl (hb hby at_206) rfl ?_
              show Steps p.tables e below (T118.setTop (mkF m 208 #[.val (.long cc), .second, .val (.int p1), .val (.int p2), .val (.int ch0), .val (.int ch1), .val (.int ch2), .val (.int (p2 &&& (3 : Int32))), .val (.ref r101), .val (.ref r106), .val (.int (1 : Int32)), .val (.int (1 : Int32)), .val (.int (1 : Int32))] [(.int (1 : Int32))])) _
              refine XS.ifNo X118.here hx rfl (hb hby at_208) rfl ((if0 _ _).trans (feq (by decide : ¬ ((1 : Int32) = (0 : Int32)))).1) ?_
              show Steps p.tables e below (T118.setTop (mkF m 211 #[.val (.long cc), .second, .val (.int p1), .val (.int p2), .val (.int ch0), .val (.int ch1), .val (.int ch2), .val (.int (p2 &&& (3 : Int32))), .val (.ref r101), .val (.ref r106), .val (.int (1 : Int32)), .val (.int (1 : Int32)), .val (.int (1 : Int32))] [])) _
              refine XS.iload X118.here hx rfl (hb hby at_211) rfl ?_
              show Steps p.tables e below (T118.setTop (mkF m 213 #[.val (.long cc), .second, .val (.int p1), .val (.int p2), .val (.int ch0), .val (.int ch1), .val (.int ch2), .val (.int (p2 &&& (3 : Int32))), .val (.ref r101), .val (.ref r106), .val (.int (1 : Int32)), .val (.int (1 : Int32)), .val (.int (1 : Int32))] [(.int (1 : Int32))])) _
              refine XS.ifNo X118.here hx rfl (hb hby at_213) rfl ((if0 _ _).trans (feq (by decide : ¬ ((1 : Int32) = (0 : Int32)))).1) ?_
              show Steps p.tables e below (T118.setTop (mkF m 216 #[.val (.long cc), .second, .val (.int p1), .val (.int p2), .val (.int ch0), .val (.int ch1), .val (.int ch2), .val (.int (p2 &&& (3 : Int32))), .val (.ref r101), .val (.ref r106), .val (.int (1 : Int32)), .val (.int (1 : Int32)), .val (.int (1 : Int32))] [])) _
              refine XS.iload X118.here hx rfl (hb hby at_216) rfl ?_
              show Steps p.tables e below (T118.setTop (mkF m 218 #[.val (.long cc), .second, .val (.int p1), .val (.int p2), .val (.int ch0), .val (.int ch1), .val (.int ch2), .val (.int (p2 &&& (3 : Int32))), .val (.ref r101), .val (.ref r106), .val (.int (1 : Int32)), .val (.int (1 : Int32)), .val (.int (1 : Int32))] [(.int (1 : Int32))])) _
              refine XS.ifNo X118.here hx rfl (hb hby at_218) rfl ((if0 _ _).trans (feq (by decide : ¬ ((1 : Int32) = (0 : Int32)))).1) ?_
              show Steps p.tables e below (T118.setTop (mkF m 221 #[.val (.long cc), .second, .val (.int p1), .val (.int p2), .val (.int ch0), .val (.int ch1), .val (.int ch2), .val (.int (p2 &&& (3 : Int32))), .val (.ref r101), .val (.ref r106), .val (.int (1 : Int32)), .val (.int (1 : Int32)), .val (.int (1 : Int32))] [])) _
              refine XS.aload X118.here hx rfl (hb hby at_221) rfl rfl ?_
              show Steps p.tables e below (T118.setTop (mkF m 223 #[.val (.long cc), .second, .val (.int p1), .val (.int p2), .val (.int ch0), .val (.int ch1), .val (.int ch2), .val (.int (p2 &&& (3 : Int32))), .val (.ref r101), .val (.ref r106), .val (.int (1 : Int32)), .val (.int (1 : Int32)), .val (.int (1 : Int32))] [(.ref r106)])) _
              exact kt)
            obtain ⟨cq128, kq128, q128a, q128b, q128c⟩ := isOf hZ e118q (Ex106)
            obtain ⟨_, _, ⟨T128, L128, k128, n128⟩, -, X128, ⟨Lc128, hQ128, l128, y128, z128⟩, st128⟩ := X118.virtualBack hx (y := (⟨"com/example/hoopoe/hoopoe/core/eval/Measure", "decimals", "()I"⟩ : MethodName)) (z := (⟨"com/example/hoopoe/hoopoe/core/eval/Measure", "decimals", "()I"⟩ : MethodName)) hown (mvT hZ (hw _ (List.mem_of_getElem? (i := 60) rfl))) (mvT hZ (hw _ (List.mem_of_getElem? (i := 61) rfl))) (notFace_of_selects (args := #[]) (mvT hZ (hw _ (List.mem_of_getElem? (i := 63) rfl)))) (mvT hZ (hw _ (List.mem_of_getElem? (i := 63) rfl))) (mvT hZ (hw _ (List.mem_of_getElem? (i := 62) rfl))) (by decide) (backOf (W := 0) (rmg_decimals l Z a0 hw [] r106 _ T106.heap n0 Zf110 Fd106) hZ (hw _ (List.mem_of_getElem? (i := 64) rfl)) (hw _ (List.mem_of_getElem? (i := 24) rfl)) (by decide) (by decide)) q128a q128c (g := (mkF m 223 #[.val (.long cc), .second, .val (.int p1), .val (.int p2), .val (.int ch0), .val (.int ch1), .val (.int ch2), .val (.int (p2 &&& (3 : Int32))), .val (.ref r101), .val (.ref r106), .val (.int (1 : Int32)), .val (.int (1 : Int32)), .val (.int (1 : Int32))] [(.ref r106)])) rfl (by rw [hml]; rfl) (Steps.refl _) (argsL := []) (rest := []) (lenOf pd__28_29I rfl) rfl (by show 2 * 0 + _ ≤ _; exact Nat.le_of_eq rfl) (hb hby at_223) (fun _ _ => ⟨rfl, e118q, (by decide : 3 + 0 ≤ _), (by decide : 8 + 0 ≤ _)⟩)
            dsimp only [Pt.U, Pt.locs, Pt.cells, Pt.slots] at X128 l128 y128 z128 st128 hQ128
            subst l128 y128 z128
            obtain ⟨rfl, N128q, e128q⟩ := hQ128
            have N128 := Fr.app N118 N128q
            have pre129 : ∀ t, Steps p.tables e below (T128.setTop (mkF m 226 #[.val (.long cc), .second, .val (.int p1), .val (.int p2), .val (.int ch0), .val (.int ch1), .val (.int ch2), .val (.int (p2 &&& (3 : Int32))), .val (.ref r101), .val (.ref r106), .val (.int (1 : Int32)), .val (.int (1 : Int32)), .val (.int (1 : Int32))] [(.int (0 : Int32))])) t → Steps p.tables e below (s₁.setTop (entryFrame m #[(.long cc), (.int p1), (.int p2)] maxLocals)) t := fun t kt => pre127 t (st128.trans kt)
            have pre130 : ∀ t, Steps p.tables e below (T128.setTop (mkF m 234 #[.val (.long cc), .second, .val (.int p1), .val (.int p2), .val (.int ch0), .val (.int ch1), .val (.int ch2), .val (.int (p2 &&& (3 : Int32))), .val (.ref r101), .val (.ref r106), .val (.int (1 : Int32)), .val (.int (1 : Int32)), .val (.int (1 : Int32))] [(.int (1 : Int32))])) t → Steps p.tables e below (s₁.setTop (entryFrame m #[(.long cc), (.int p1), (.int p2)] maxLocals)) t := fun t kt => pre129 t (by
              refine XS.ifNo X128.here hx rfl (hb hby at_226) rfl ((if0 _ _).trans (teq (by decide : (0 : Int32) = (0 : Int32))).2) ?_
              show Steps p.tables e below (T128.setTop (mkF m 229 #[.val (.long cc), .second, .val (.int p1), .val (.int p2), .val (.int ch0), .val (.int ch1), .val (.int ch2), .val (.int (p2 &&& (3 : Int32))), .val (.ref r101), .val (.ref r106), .val (.int (1 : Int32)), .val (.int (1 : Int32)), .val (.int (1 : Int32))] [])) _
              refine XS.iconst X128.here hx rfl (hb hby at_229) ?_
              show Steps p.tables e below (T128.setTop (mkF m 230 #[.val (.long cc), .second, .val (.int p1), .val (.int p2), .val (.int ch0), .val (.int ch1), .val (.int ch2), .val (.int (p2 &&& (3 : Int32))), .val (.ref r101), .val (.ref r106), .val (.int (1 : Int32)), .val (.int (1 : Int32)), .val (.int (1 : Int32))] [(.int (1 : Int32))])) _
              refine XS.goto X128.here hx rfl (pc0 := 230) (pc' := 234) rfl (hb hby at_230) (by decide) (by decide) ?_
              show Steps p.tables e below (T128.setTop (mkF m 234 #[.val (.long cc), .second, .val (.int p1), .val (.int p2), .val (.int ch0), .val (.int ch1), .val (.int ch2), .val (.int (p2 &&& (3 : Int32))), .val (.ref r101), .val (.ref r106), .val (.int (1 : Int32)), .val (.int (1 : Int32)), .val (.int (1 : Int32))] [(.int (1 : Int32))])) _
              exact kt)
            obtain ⟨fs, hr, hrun, hended, hW, hsame⟩ := X128.leave (v := (some (.int (1 : Int32)))) (fun h => by rw [Bd.returns] at h; cases h)
            refine ⟨_, _, pre130 _ ?_, hrun, hended, _, _, rfl, ?_, ReturnedEndW.of_narrow ⟨_, rfl⟩ hW (hsame.mono (by decide) (by decide))⟩
            · exact retN X128 hx (t := .boolean) Bd.returns (by simp) (hb hby at_234) hr
            · show Q0 Z  h0 n0 _ T128.heap T128.vm _
              rw [e128q]
              exact ⟨rfl, N128⟩
          · have pre132 : ∀ t, Steps p.tables e below (T118.setTop (mkF m 190 #[.val (.long cc), .second, .val (.int p1), .val (.int p2), .val (.int ch0), .val (.int ch1), .val (.int ch2), .val (.int (p2 &&& (3 : Int32))), .val (.ref r101), .val (.ref r106), .val (.int (1 : Int32)), .val (.int (1 : Int32)), .val (.int (1 : Int32))] [(.ref r106)])) t → Steps p.tables e below (s₁.setTop (entryFrame m #[(.long cc), (.int p1), (.int p2)] maxLocals)) t := fun t kt => pre126 t (by
              refine XS.ifNo X118.here hx rfl (hb hby at_185) rfl ((if0 _ _).trans (flt (mt (lw_gt _ _).mp c185_9)).2.2.1) ?_
              show Steps p.tables e below (T118.setTop (mkF m 188 #[.val (.long cc), .second, .val (.int p1), .val (.int p2), .val (.int ch0), .val (.int ch1), .val (.int ch2), .val (.int (p2 &&& (3 : Int32))), .val (.ref r101), .val (.ref r106), .val (.int (1 : Int32)), .val (.int (1 : Int32)), .val (.int (1 : Int32))] [])) _
              refine XS.aload X118.here hx rfl (hb hby at_188) rfl rfl ?_
              show Steps p.tables e below (T118.setTop (mkF m 190 #[.val (.long cc), .second, .val (.int p1), .val (.int p2), .val (.int ch0), .val (.int ch1), .val (.int ch2), .val (.int (p2 &&& (3 : Int32))), .val (.ref r101), .val (.ref r106), .val (.int (1 : Int32)), .val (.int (1 : Int32)), .val (.int (1 : Int32))] [(.ref r106)])) _
              exact kt)
            obtain ⟨cq133, kq133, q133a, q133b, q133c⟩ := isOf hZ e118q (Ex106)
            obtain ⟨_, _, ⟨T133, L133, k133, n133⟩, -, X133, ⟨Lc133, hQ133, l133, y133, z133⟩, st133⟩ := X118.virtualBack hx (y := (⟨"com/example/hoopoe/hoopoe/core/eval/Measure", "value", "()D"⟩ : MethodName)) (z := (⟨"com/example/hoopoe/hoopoe/core/eval/Measure", "value", "()D"⟩ : MethodName)) hown (mvT hZ (hw _ (List.mem_of_getElem? (i := 53) rfl))) (mvT hZ (hw _ (List.mem_of_getElem? (i := 54) rfl))) (notFace_of_selects (args := #[]) (mvT hZ (hw _ (List.mem_of_getElem? (i := 56) rfl)))) (mvT hZ (hw _ (List.mem_of_getElem? (i := 56) rfl))) (mvT hZ (hw _ (List.mem_of_getElem? (i := 55) rfl))) (by decide) (backOf (W := 0) (rmg_value l Z a0 hw [] r106 _ T106.heap n0 Zf110 Fv106) hZ (hw _ (List.mem_of_getElem? (i := 57) rfl)) (hw _ (List.mem_of_getElem? (i := 24) rfl)) (by decide) (by decide)) q133a q133c (g := (mkF m 190 #[.val (.long cc), .second, .val (.int p1), .val (.int p2), .val (.int ch0), .val (.int ch1), .val (.int ch2), .val (.int (p2 &&& (3 : Int32))), .val (.ref r101), .val (.ref r106), .val (.int (1 : Int32)), .val (.int (1 : Int32)), .val (.int (1 : Int32))] [(.ref r106)])) rfl (by rw [hml]; rfl) (Steps.refl _) (argsL := []) (rest := []) (lenOf pd__28_29D rfl) rfl (by show 2 * 0 + _ ≤ _; exact Nat.le_of_eq rfl) (hb hby at_190) (fun _ _ => ⟨rfl, e118q, (by decide : 3 + 0 ≤ _), (by decide : 8 + 0 ≤ _)⟩)
            dsimp only [Pt.U, Pt.locs, Pt.cells, Pt.slots] at X133 l133 y133 z133 st133 hQ133
            subst l133 y133 z133
            obtain ⟨rfl, N133q, e133q⟩ := hQ133
            have N133 := Fr.app N118 N133q
            have pre134 : ∀ t, Steps p.tables e below (T133.setTop (mkF m 193 #[.val (.long cc), .second, .val (.int p1), .val (.int p2), .val (.int ch0), .val (.int ch1), .val (.int ch2), .val (.int (p2 &&& (3 : Int32))), .val (.ref r101), .val (.ref r106), .val (.int (1 : Int32)), .val (.int (1 : Int32)), .val (.int (1 : Int32))] [(.double (FP.l2d cc))])) t → Steps p.tables e below (s₁.setTop (entryFrame m #[(.long cc), (.int p1), (.int p2)] maxLocals)) t := fun t kt => pre132 t (st133.trans kt)
            have pre135 : ∀ t, Steps p.tables e below (T133.setTop (mkF m 223 #[.val (.long cc), .second, .val (.int p1), .val (.int p2), .val (.int ch0), .val (.int ch1), .val (.int ch2), .val (.int (p2 &&& (3 : Int32))), .val (.ref r101), .val (.ref r106), .val (.int (1 : Int32)), .val (.int (1 : Int32)), .val (.int (1 : Int32))] [(.ref r106)])) t → Steps p.tables e below (s₁.setTop (entryFrame m #[(.long cc), (.int p1), (.int p2)] maxLocals)) t := fun t kt => pre134 t (by
              refine own_d2l X133.here hx rfl (hb hby at_193) rfl ?_
              show Steps p.tables e below (T133.setTop (mkF m 194 #[.val (.long cc), .second, .val (.int p1), .val (.int p2), .val (.int ch0), .val (.int ch1), .val (.int ch2), .val (.int (p2 &&& (3 : Int32))), .val (.ref r101), .val (.ref r106), .val (.int (1 : Int32)), .val (.int (1 : Int32)), .val (.int (1 : Int32))] [(.long (FP.d2l (FP.l2d cc)))])) _
              refine XS.lloadN X133.here hx rfl (hb hby at_194) rfl ?_
              show Steps p.tables e below (T133.setTop (mkF m 195 #[.val (.long cc), .second, .val (.int p1), .val (.int p2), .val (.int ch0), .val (.int ch1), .val (.int ch2), .val (.int (p2 &&& (3 : Int32))), .val (.ref r101), .val (.ref r106), .val (.int (1 : Int32)), .val (.int (1 : Int32)), .val (.int (1 : Int32))] [(.long cc), (.long (FP.d2l (FP.l2d cc)))])) _
              refine XS.lcmp X133.here hx rfl (hb hby at_195) rfl ?_
              show Steps p.tables e below (T133.setTop (mkF m 196 #[.val (.long cc), .second, .val (.int p1), .val (.int p2), .val (.int ch0), .val (.int ch1), .val (.int ch2), .val (.int (p2 &&& (3 : Int32))), .val (.ref r101), .val (.ref r106), .val (.int (1 : Int32)), .val (.int (1 : Int32)), .val (.int (1 : Int32))] [(.int (lcmpW (FP.d2l (FP.l2d cc)) cc))])) _
              refine XS.ifNo X133.here hx rfl (hb hby at_196) rfl ((if0 _ _).trans (teq ((lw_eq _ _).mpr (own_exact cc c177_8 c185_9 : (FP.d2l (FP.l2d cc)) = cc))).2) ?_
              show Steps p.tables e below (T133.setTop (mkF m 199 #[.val (.long cc), .second, .val (.int p1), .val (.int p2), .val (.int ch0), .val (.int ch1), .val (.int ch2), .val (.int (p2 &&& (3 : Int32))), .val (.ref r101), .val (.ref r106), .val (.int (1 : Int32)), .val (.int (1 : Int32)), .val (.int (1 : Int32))] [])) _
              refine XS.iconst X133.here hx rfl (hb hby at_199) ?_
              show Steps p.tables e below (T133.setTop (mkF m 200 #[.val (.long cc), .second, .val (.int p1), .val (.int p2), .val (.int ch0), .val (.int ch1), .val (.int ch2), .val (.int (p2 &&& (3 : Int32))), .val (.ref r101), .val (.ref r106), .val (.int (1 : Int32)), .val (.int (1 : Int32)), .val (.int (1 : Int32))] [(.int (1 : Int32))])) _
              refine XS.goto X133.here hx rfl (pc0 := 200) (pc' := 204) rfl (hb hby at_200) (by decide) (by decide) ?_
              show Steps p.tables e below (T133.setTop (mkF m 204 #[.val (.long cc), .second, .val (.int p1), .val (.int p2), .val (.int ch0), .val (.int ch1), .val (.int ch2), .val (.int (p2 &&& (3 : Int32))), .val (.ref r101), .val (.ref r106), .val (.int (1 : Int32)), .val (.int (1 : Int32)), .val (.int (1 : Int32))] [(.int (1 : Int32))])) _
              refine XS.istore X133.here hx rfl (hb hby at_204) rfl (l' := #[.val (.long cc), .second, .val (.int p1), .val (.int p2), .val (.int ch0), .val (.int ch1), .val (.int ch2), .val (.int (p2 &&& (3 : Int32))), .val (.ref r101), .val (.ref r106), .val (.int (1 : Int32)), .val (.int (1 : Int32)), .val (.int (1 : Int32))]) rfl ?_
              show Steps p.tables e below (T133.setTop (mkF m 206 #[.val (.long cc), .second, .val (.int p1), .val (.int p2), .val (.int ch0), .val (.int ch1), .val (.int ch2), .val (.int (p2 &&& (3 : Int32))), .val (.ref r101), .val (.ref r106), .val (.int (1 : Int32)), .val (.int (1 : Int32)), .val (.int (1 : Int32))] [])) _
              refine XS.iload X133.here hx rfl (hb hby at_206) rfl ?_
              show Steps p.tables e below (T133.setTop (mkF m 208 #[.val (.long cc), .second, .val (.int p1), .val (.int p2), .val (.int ch0), .val (.int ch1), .val (.int ch2), .val (.int (p2 &&& (3 : Int32))), .val (.ref r101), .val (.ref r106), .val (.int (1 : Int32)), .val (.int (1 : Int32)), .val (.int (1 : Int32))] [(.int (1 : Int32))])) _
              refine XS.ifNo X133.here hx rfl (hb hby at_208) rfl ((if0 _ _).trans (feq (by decide : ¬ ((1 : Int32) = (0 : Int32)))).1) ?_
              show Steps p.tables e below (T133.setTop (mkF m 211 #[.val (.long cc), .second, .val (.int p1), .val (.int p2), .val (.int ch0), .val (.int ch1), .val (.int ch2), .val (.int (p2 &&& (3 : Int32))), .val (.ref r101), .val (.ref r106), .val (.int (1 : Int32)), .val (.int (1 : Int32)), .val (.int (1 : Int32))] [])) _
              refine XS.iload X133.here hx rfl (hb hby at_211) rfl ?_
              show Steps p.tables e below (T133.setTop (mkF m 213 #[.val (.long cc), .second, .val (.int p1), .val (.int p2), .val (.int ch0), .val (.int ch1), .val (.int ch2), .val (.int (p2 &&& (3 : Int32))), .val (.ref r101), .val (.ref r106), .val (.int (1 : Int32)), .val (.int (1 : Int32)), .val (.int (1 : Int32))] [(.int (1 : Int32))])) _
              refine XS.ifNo X133.here hx rfl (hb hby at_213) rfl ((if0 _ _).trans (feq (by decide : ¬ ((1 : Int32) = (0 : Int32)))).1) ?_
              show Steps p.tables e below (T133.setTop (mkF m 216 #[.val (.long cc), .second, .val (.int p1), .val (.int p2), .val (.int ch0), .val (.int ch1), .val (.int ch2), .val (.int (p2 &&& (3 : Int32))), .val (.ref r101), .val (.ref r106), .val (.int (1 : Int32)), .val (.int (1 : Int32)), .val (.int (1 : Int32))] [])) _
              refine XS.iload X133.here hx rfl (hb hby at_216) rfl ?_
              show Steps p.tables e below (T133.setTop (mkF m 218 #[.val (.long cc), .second, .val (.int p1), .val (.int p2), .val (.int ch0), .val (.int ch1), .val (.int ch2), .val (.int (p2 &&& (3 : Int32))), .val (.ref r101), .val (.ref r106), .val (.int (1 : Int32)), .val (.int (1 : Int32)), .val (.int (1 : Int32))] [(.int (1 : Int32))])) _
              refine XS.ifNo X133.here hx rfl (hb hby at_218) rfl ((if0 _ _).trans (feq (by decide : ¬ ((1 : Int32) = (0 : Int32)))).1) ?_
              show Steps p.tables e below (T133.setTop (mkF m 221 #[.val (.long cc), .second, .val (.int p1), .val (.int p2), .val (.int ch0), .val (.int ch1), .val (.int ch2), .val (.int (p2 &&& (3 : Int32))), .val (.ref r101), .val (.ref r106), .val (.int (1 : Int32)), .val (.int (1 : Int32)), .val (.int (1 : Int32))] [])) _
              refine XS.aload X133.here hx rfl (hb hby at_221) rfl rfl ?_
              show Steps p.tables e below (T133.setTop (mkF m 223 #[.val (.long cc), .second, .val (.int p1), .val (.int p2), .val (.int ch0), .val (.int ch1), .val (.int ch2), .val (.int (p2 &&& (3 : Int32))), .val (.ref r101), .val (.ref r106), .val (.int (1 : Int32)), .val (.int (1 : Int32)), .val (.int (1 : Int32))] [(.ref r106)])) _
              exact kt)
            obtain ⟨cq136, kq136, q136a, q136b, q136c⟩ := isOf hZ e133q (Ex106)
            obtain ⟨_, _, ⟨T136, L136, k136, n136⟩, -, X136, ⟨Lc136, hQ136, l136, y136, z136⟩, st136⟩ := X133.virtualBack hx (y := (⟨"com/example/hoopoe/hoopoe/core/eval/Measure", "decimals", "()I"⟩ : MethodName)) (z := (⟨"com/example/hoopoe/hoopoe/core/eval/Measure", "decimals", "()I"⟩ : MethodName)) hown (mvT hZ (hw _ (List.mem_of_getElem? (i := 60) rfl))) (mvT hZ (hw _ (List.mem_of_getElem? (i := 61) rfl))) (notFace_of_selects (args := #[]) (mvT hZ (hw _ (List.mem_of_getElem? (i := 63) rfl)))) (mvT hZ (hw _ (List.mem_of_getElem? (i := 63) rfl))) (mvT hZ (hw _ (List.mem_of_getElem? (i := 62) rfl))) (by decide) (backOf (W := 0) (rmg_decimals l Z a0 hw [] r106 _ T106.heap n0 Zf110 Fd106) hZ (hw _ (List.mem_of_getElem? (i := 64) rfl)) (hw _ (List.mem_of_getElem? (i := 24) rfl)) (by decide) (by decide)) q136a q136c (g := (mkF m 223 #[.val (.long cc), .second, .val (.int p1), .val (.int p2), .val (.int ch0), .val (.int ch1), .val (.int ch2), .val (.int (p2 &&& (3 : Int32))), .val (.ref r101), .val (.ref r106), .val (.int (1 : Int32)), .val (.int (1 : Int32)), .val (.int (1 : Int32))] [(.ref r106)])) rfl (by rw [hml]; rfl) (Steps.refl _) (argsL := []) (rest := []) (lenOf pd__28_29I rfl) rfl (by show 2 * 0 + _ ≤ _; exact Nat.le_of_eq rfl) (hb hby at_223) (fun _ _ => ⟨rfl, e133q, (by decide : 3 + 0 ≤ _), (by decide : 8 + 0 ≤ _)⟩)
            dsimp only [Pt.U, Pt.locs, Pt.cells, Pt.slots] at X136 l136 y136 z136 st136 hQ136
            subst l136 y136 z136
            obtain ⟨rfl, N136q, e136q⟩ := hQ136
            have N136 := Fr.app N133 N136q
            have pre137 : ∀ t, Steps p.tables e below (T136.setTop (mkF m 226 #[.val (.long cc), .second, .val (.int p1), .val (.int p2), .val (.int ch0), .val (.int ch1), .val (.int ch2), .val (.int (p2 &&& (3 : Int32))), .val (.ref r101), .val (.ref r106), .val (.int (1 : Int32)), .val (.int (1 : Int32)), .val (.int (1 : Int32))] [(.int (0 : Int32))])) t → Steps p.tables e below (s₁.setTop (entryFrame m #[(.long cc), (.int p1), (.int p2)] maxLocals)) t := fun t kt => pre135 t (st136.trans kt)
            have pre138 : ∀ t, Steps p.tables e below (T136.setTop (mkF m 234 #[.val (.long cc), .second, .val (.int p1), .val (.int p2), .val (.int ch0), .val (.int ch1), .val (.int ch2), .val (.int (p2 &&& (3 : Int32))), .val (.ref r101), .val (.ref r106), .val (.int (1 : Int32)), .val (.int (1 : Int32)), .val (.int (1 : Int32))] [(.int (1 : Int32))])) t → Steps p.tables e below (s₁.setTop (entryFrame m #[(.long cc), (.int p1), (.int p2)] maxLocals)) t := fun t kt => pre137 t (by
              refine XS.ifNo X136.here hx rfl (hb hby at_226) rfl ((if0 _ _).trans (teq (by decide : (0 : Int32) = (0 : Int32))).2) ?_
              show Steps p.tables e below (T136.setTop (mkF m 229 #[.val (.long cc), .second, .val (.int p1), .val (.int p2), .val (.int ch0), .val (.int ch1), .val (.int ch2), .val (.int (p2 &&& (3 : Int32))), .val (.ref r101), .val (.ref r106), .val (.int (1 : Int32)), .val (.int (1 : Int32)), .val (.int (1 : Int32))] [])) _
              refine XS.iconst X136.here hx rfl (hb hby at_229) ?_
              show Steps p.tables e below (T136.setTop (mkF m 230 #[.val (.long cc), .second, .val (.int p1), .val (.int p2), .val (.int ch0), .val (.int ch1), .val (.int ch2), .val (.int (p2 &&& (3 : Int32))), .val (.ref r101), .val (.ref r106), .val (.int (1 : Int32)), .val (.int (1 : Int32)), .val (.int (1 : Int32))] [(.int (1 : Int32))])) _
              refine XS.goto X136.here hx rfl (pc0 := 230) (pc' := 234) rfl (hb hby at_230) (by decide) (by decide) ?_
              show Steps p.tables e below (T136.setTop (mkF m 234 #[.val (.long cc), .second, .val (.int p1), .val (.int p2), .val (.int ch0), .val (.int ch1), .val (.int ch2), .val (.int (p2 &&& (3 : Int32))), .val (.ref r101), .val (.ref r106), .val (.int (1 : Int32)), .val (.int (1 : Int32)), .val (.int (1 : Int32))] [(.int (1 : Int32))])) _
              exact kt)
            obtain ⟨fs, hr, hrun, hended, hW, hsame⟩ := X136.leave (v := (some (.int (1 : Int32)))) (fun h => by rw [Bd.returns] at h; cases h)
            refine ⟨_, _, pre138 _ ?_, hrun, hended, _, _, rfl, ?_, ReturnedEndW.of_narrow ⟨_, rfl⟩ hW (hsame.mono (by decide) (by decide))⟩
            · exact retN X136 hx (t := .boolean) Bd.returns (by simp) (hb hby at_234) hr
            · show Q0 Z  h0 n0 _ T136.heap T136.vm _
              rw [e136q]
              exact ⟨rfl, N136⟩
      · have pre140 : ∀ t, Steps p.tables e below (s₁.setTop (mkF m 83 #[.val (.long cc), .second, .val (.int p1), .val (.int p2), .val (.int ch0), .val (.int ch1), .val (.int ch2), .val (.int (p2 &&& (3 : Int32))), .unset, .unset, .unset, .unset, .unset] [])) t → Steps p.tables e below (s₁.setTop (entryFrame m #[(.long cc), (.int p1), (.int p2)] maxLocals)) t := fun t kt => pre99 t (by
          refine XS.icmpYes X0.here hx rfl (pc0 := 70) (pc' := 83) rfl (hb hby at_70) rfl (feq c70_7).2 (by decide) (by decide) ?_
          show Steps p.tables e below (s₁.setTop (mkF m 83 #[.val (.long cc), .second, .val (.int p1), .val (.int p2), .val (.int ch0), .val (.int ch1), .val (.int ch2), .val (.int (p2 &&& (3 : Int32))), .unset, .unset, .unset, .unset, .unset] [])) _
          exact kt)
        obtain ⟨T141, h141, X141, e141, E141, A141, D141, -, st141⟩ := newO X0 hx hZ hown (hw _ (List.mem_of_getElem? (i := 0) rfl)) (hw _ (List.mem_of_getElem? (i := 1) rfl)) (hw _ (List.mem_of_getElem? (i := 2) rfl)) e0 (g := (mkF m 83 #[.val (.long cc), .second, .val (.int p1), .val (.int p2), .val (.int ch0), .val (.int ch1), .val (.int ch2), .val (.int (p2 &&& (3 : Int32))), .unset, .unset, .unset, .unset, .unset] [])) rfl (hb hby at_83) (by decide) (by decide)
        obtain ⟨b141, g141⟩ : ∃ z, z = h0.size := ⟨_, rfl⟩
        rw [← g141] at A141 D141 st141
        have gz142 : n0 ≤ b141 := Nat.le_trans Z0 (Nat.le_of_eq g141.symm)
        have f143 := (O0).ext E141
        have Zf144 : n0 ≤ h141.size := Nat.le_trans Z0 E141.1
        have F141_value : Fld Z h141 b141 "java/lang/String" "value" "[B" .null := D141 (Or.inr (hw _ (List.mem_of_getElem? (i := 16) rfl))) (ty := (.array .byte)) (by decide)
        have F141_coder : Fld Z h141 b141 "java/lang/String" "coder" "B" (.int (0 : Int32)) := D141 (Or.inr (hw _ (List.mem_of_getElem? (i := 17) rfl))) (ty := .byte) (by decide)
        have pre145 : ∀ t, Steps p.tables e below (T141.setTop (mkF m 86 #[.val (.long cc), .second, .val (.int p1), .val (.int p2), .val (.int ch0), .val (.int ch1), .val (.int ch2), .val (.int (p2 &&& (3 : Int32))), .unset, .unset, .unset, .unset, .unset] [(.ref b141)])) t → Steps p.tables e below (s₁.setTop (entryFrame m #[(.long cc), (.int p1), (.int p2)] maxLocals)) t := fun t kt => pre140 t (st141 _ kt)
        have pre146 : ∀ t, Steps p.tables e below (T141.setTop (mkF m 88 #[.val (.long cc), .second, .val (.int p1), .val (.int p2), .val (.int ch0), .val (.int ch1), .val (.int ch2), .val (.int (p2 &&& (3 : Int32))), .unset, .unset, .unset, .unset, .unset] [(.int (3 : Int32)), (.ref b141), (.ref b141)])) t → Steps p.tables e below (s₁.setTop (entryFrame m #[(.long cc), (.int p1), (.int p2)] maxLocals)) t := fun t kt => pre145 t (by
          refine XS.dup X141.here hx rfl (hb hby at_86) rfl rfl ?_
          show Steps p.tables e below (T141.setTop (mkF m 87 #[.val (.long cc), .second, .val (.int p1), .val (.int p2), .val (.int ch0), .val (.int ch1), .val (.int ch2), .val (.int (p2 &&& (3 : Int32))), .unset, .unset, .unset, .unset, .unset] [(.ref b141), (.ref b141)])) _
          refine XS.iconst X141.here hx rfl (hb hby at_87) ?_
          show Steps p.tables e below (T141.setTop (mkF m 88 #[.val (.long cc), .second, .val (.int p1), .val (.int p2), .val (.int ch0), .val (.int ch1), .val (.int ch2), .val (.int (p2 &&& (3 : Int32))), .unset, .unset, .unset, .unset, .unset] [(.int (3 : Int32)), (.ref b141), (.ref b141)])) _
          exact kt)
        obtain ⟨T147, h147, k147, X147, e147, E147, A147, st147⟩ := newP X141 hx hZ (hw _ (List.mem_of_getElem? (i := 3) rfl)) e141 (g := (mkF m 88 #[.val (.long cc), .second, .val (.int p1), .val (.int p2), .val (.int ch0), .val (.int ch1), .val (.int ch2), .val (.int (p2 &&& (3 : Int32))), .unset, .unset, .unset, .unset, .unset] [(.int (3 : Int32)), (.ref b141), (.ref b141)])) rfl (hb hby at_88) rfl (by decide) (cap := 3) (by decide) (by decide) (by decide) (by decide)
        obtain ⟨b147, g147⟩ : ∃ z, z = h141.size := ⟨_, rfl⟩
        rw [← g147] at A147 st147
        have ne148 : b141 ≠ b147 := Nat.ne_of_lt (Nat.lt_of_lt_of_le (A141).lt (Nat.le_of_eq g147.symm))
        have gz149 : n0 ≤ b147 := Nat.le_trans Zf144 (Nat.le_of_eq g147.symm)
        have f150 := (f143).ext E147
        have f151 := (A141).ext E147
        have f152 := (F141_value).ext E147
        have f153 := (F141_coder).ext E147
        have Zf154 : n0 ≤ h147.size := Nat.le_trans Zf144 E147.1
        have V147 : Arv Z h147 b147 k147 .char (3 : Int32) [(.int (0 : Int32)), (.int (0 : Int32)), (.int (0 : Int32))] (.int (0 : Int32)) := (Arv.new A147 (by decide)).pad (pad_rep [] (.int (0 : Int32)) 3)
        have pre155 : ∀ t, Steps p.tables e below (T147.setTop (mkF m 90 #[.val (.long cc), .second, .val (.int p1), .val (.int p2), .val (.int ch0), .val (.int ch1), .val (.int ch2), .val (.int (p2 &&& (3 : Int32))), .unset, .unset, .unset, .unset, .unset] [(.ref b147), (.ref b141), (.ref b141)])) t → Steps p.tables e below (s₁.setTop (entryFrame m #[(.long cc), (.int p1), (.int p2)] maxLocals)) t := fun t kt => pre146 t (st147 _ kt)
        have pre156 : ∀ t, Steps p.tables e below (T147.setTop (mkF m 94 #[.val (.long cc), .second, .val (.int p1), .val (.int p2), .val (.int ch0), .val (.int ch1), .val (.int ch2), .val (.int (p2 &&& (3 : Int32))), .unset, .unset, .unset, .unset, .unset] [(.int ch0), (.int (0 : Int32)), (.ref b147), (.ref b147), (.ref b141), (.ref b141)])) t → Steps p.tables e below (s₁.setTop (entryFrame m #[(.long cc), (.int p1), (.int p2)] maxLocals)) t := fun t kt => pre155 t (by
          refine XS.dup X147.here hx rfl (hb hby at_90) rfl rfl ?_
          show Steps p.tables e below (T147.setTop (mkF m 91 #[.val (.long cc), .second, .val (.int p1), .val (.int p2), .val (.int ch0), .val (.int ch1), .val (.int ch2), .val (.int (p2 &&& (3 : Int32))), .unset, .unset, .unset, .unset, .unset] [(.ref b147), (.ref b147), (.ref b141), (.ref b141)])) _
          refine XS.iconst X147.here hx rfl (hb hby at_91) ?_
          show Steps p.tables e below (T147.setTop (mkF m 92 #[.val (.long cc), .second, .val (.int p1), .val (.int p2), .val (.int ch0), .val (.int ch1), .val (.int ch2), .val (.int (p2 &&& (3 : Int32))), .unset, .unset, .unset, .unset, .unset] [(.int (0 : Int32)), (.ref b147), (.ref b147), (.ref b141), (.ref b141)])) _
          refine XS.iload X147.here hx rfl (hb hby at_92) rfl ?_
          show Steps p.tables e below (T147.setTop (mkF m 94 #[.val (.long cc), .second, .val (.int p1), .val (.int p2), .val (.int ch0), .val (.int ch1), .val (.int ch2), .val (.int (p2 &&& (3 : Int32))), .unset, .unset, .unset, .unset, .unset] [(.int ch0), (.int (0 : Int32)), (.ref b147), (.ref b147), (.ref b141), (.ref b141)])) _
          exact kt)
        obtain ⟨cl157, Ar157, q157, S157, M157, H157, G157⟩ := V147
        have hin157 : ¬ ((0 : Int32) < 0 ∨ cl157.slots.size ≤ ((0 : Int32)).toNatClampNeg) := inb_of S157 ⟨by decide, by decide⟩
        obtain ⟨T157, h157, X157, e157, W157, st157⟩ := stC X147 hx hZ e147 Ar157 (j := (0 : Int32)) hin157 (g := (mkF m 94 #[.val (.long cc), .second, .val (.int p1), .val (.int p2), .val (.int ch0), .val (.int ch1), .val (.int ch2), .val (.int (p2 &&& (3 : Int32))), .unset, .unset, .unset, .unset, .unset] [(.int ch0), (.int (0 : Int32)), (.ref b147), (.ref b147), (.ref b141), (.ref b141)])) rfl rfl (hb hby at_94)
        have f158 := (f150).wr W157 gz149
        have f159 := (f151).wr W157
        have f160 := (f152).other W157 (Or.inl ne148)
        have f161 := (f153).other W157 (Or.inl ne148)
        have Va157 := Arv.set Ar157 q157 S157 M157 H157 G157 (fits_nar_char _) W157 0 rfl (Nat.le_of_ble_eq_true rfl)
        have Nf157 := Fr.snoc X157 N0 gz149
        have Zf162 : n0 ≤ h157.size := Nat.le_trans Zf154 (Keep.of_wr W157).1
        have pre163 : ∀ t, Steps p.tables e below (T157.setTop (mkF m 95 #[.val (.long cc), .second, .val (.int p1), .val (.int p2), .val (.int ch0), .val (.int ch1), .val (.int ch2), .val (.int (p2 &&& (3 : Int32))), .unset, .unset, .unset, .unset, .unset] [(.ref b147), (.ref b141), (.ref b141)])) t → Steps p.tables e below (s₁.setTop (entryFrame m #[(.long cc), (.int p1), (.int p2)] maxLocals)) t := fun t kt => pre156 t (st157 _ kt)
        have pre164 : ∀ t, Steps p.tables e below (T157.setTop (mkF m 99 #[.val (.long cc), .second, .val (.int p1), .val (.int p2), .val (.int ch0), .val (.int ch1), .val (.int ch2), .val (.int (p2 &&& (3 : Int32))), .unset, .unset, .unset, .unset, .unset] [(.int ch1), (.int (1 : Int32)), (.ref b147), (.ref b147), (.ref b141), (.ref b141)])) t → Steps p.tables e below (s₁.setTop (entryFrame m #[(.long cc), (.int p1), (.int p2)] maxLocals)) t := fun t kt => pre163 t (by
          refine XS.dup X157.here hx rfl (hb hby at_95) rfl rfl ?_
          show Steps p.tables e below (T157.setTop (mkF m 96 #[.val (.long cc), .second, .val (.int p1), .val (.int p2), .val (.int ch0), .val (.int ch1), .val (.int ch2), .val (.int (p2 &&& (3 : Int32))), .unset, .unset, .unset, .unset, .unset] [(.ref b147), (.ref b147), (.ref b141), (.ref b141)])) _
          refine XS.iconst X157.here hx rfl (hb hby at_96) ?_
          show Steps p.tables e below (T157.setTop (mkF m 97 #[.val (.long cc), .second, .val (.int p1), .val (.int p2), .val (.int ch0), .val (.int ch1), .val (.int ch2), .val (.int (p2 &&& (3 : Int32))), .unset, .unset, .unset, .unset, .unset] [(.int (1 : Int32)), (.ref b147), (.ref b147), (.ref b141), (.ref b141)])) _
          refine XS.iload X157.here hx rfl (hb hby at_97) rfl ?_
          show Steps p.tables e below (T157.setTop (mkF m 99 #[.val (.long cc), .second, .val (.int p1), .val (.int p2), .val (.int ch0), .val (.int ch1), .val (.int ch2), .val (.int (p2 &&& (3 : Int32))), .unset, .unset, .unset, .unset, .unset] [(.int ch1), (.int (1 : Int32)), (.ref b147), (.ref b147), (.ref b141), (.ref b141)])) _
          exact kt)
        obtain ⟨cl165, Ar165, q165, S165, M165, H165, G165⟩ := Va157
        have hin165 : ¬ ((1 : Int32) < 0 ∨ cl165.slots.size ≤ ((1 : Int32)).toNatClampNeg) := inb_of S165 ⟨by decide, by decide⟩
        obtain ⟨T165, h165, X165, e165, W165, st165⟩ := stC X157 hx hZ e157 Ar165 (j := (1 : Int32)) hin165 (g := (mkF m 99 #[.val (.long cc), .second, .val (.int p1), .val (.int p2), .val (.int ch0), .val (.int ch1), .val (.int ch2), .val (.int (p2 &&& (3 : Int32))), .unset, .unset, .unset, .unset, .unset] [(.int ch1), (.int (1 : Int32)), (.ref b147), (.ref b147), (.ref b141), (.ref b141)])) rfl rfl (hb hby at_99)
        have f166 := (f158).wr W165 gz149
        have f167 := (f159).wr W165
        have f168 := (f160).other W165 (Or.inl ne148)
        have f169 := (f161).other W165 (Or.inl ne148)
        have Va165 := Arv.set Ar165 q165 S165 M165 H165 G165 (fits_nar_char _) W165 1 rfl (Nat.le_of_ble_eq_true rfl)
        have Nf165 := Fr.snoc X165 Nf157 gz149
        have Zf170 : n0 ≤ h165.size := Nat.le_trans Zf162 (Keep.of_wr W165).1
        have pre171 : ∀ t, Steps p.tables e below (T165.setTop (mkF m 100 #[.val (.long cc), .second, .val (.int p1), .val (.int p2), .val (.int ch0), .val (.int ch1), .val (.int ch2), .val (.int (p2 &&& (3 : Int32))), .unset, .unset, .unset, .unset, .unset] [(.ref b147), (.ref b141), (.ref b141)])) t → Steps p.tables e below (s₁.setTop (entryFrame m #[(.long cc), (.int p1), (.int p2)] maxLocals)) t := fun t kt => pre164 t (st165 _ kt)
        have pre172 : ∀ t, Steps p.tables e below (T165.setTop (mkF m 104 #[.val (.long cc), .second, .val (.int p1), .val (.int p2), .val (.int ch0), .val (.int ch1), .val (.int ch2), .val (.int (p2 &&& (3 : Int32))), .unset, .unset, .unset, .unset, .unset] [(.int ch2), (.int (2 : Int32)), (.ref b147), (.ref b147), (.ref b141), (.ref b141)])) t → Steps p.tables e below (s₁.setTop (entryFrame m #[(.long cc), (.int p1), (.int p2)] maxLocals)) t := fun t kt => pre171 t (by
          refine XS.dup X165.here hx rfl (hb hby at_100) rfl rfl ?_
          show Steps p.tables e below (T165.setTop (mkF m 101 #[.val (.long cc), .second, .val (.int p1), .val (.int p2), .val (.int ch0), .val (.int ch1), .val (.int ch2), .val (.int (p2 &&& (3 : Int32))), .unset, .unset, .unset, .unset, .unset] [(.ref b147), (.ref b147), (.ref b141), (.ref b141)])) _
          refine XS.iconst X165.here hx rfl (hb hby at_101) ?_
          show Steps p.tables e below (T165.setTop (mkF m 102 #[.val (.long cc), .second, .val (.int p1), .val (.int p2), .val (.int ch0), .val (.int ch1), .val (.int ch2), .val (.int (p2 &&& (3 : Int32))), .unset, .unset, .unset, .unset, .unset] [(.int (2 : Int32)), (.ref b147), (.ref b147), (.ref b141), (.ref b141)])) _
          refine XS.iload X165.here hx rfl (hb hby at_102) rfl ?_
          show Steps p.tables e below (T165.setTop (mkF m 104 #[.val (.long cc), .second, .val (.int p1), .val (.int p2), .val (.int ch0), .val (.int ch1), .val (.int ch2), .val (.int (p2 &&& (3 : Int32))), .unset, .unset, .unset, .unset, .unset] [(.int ch2), (.int (2 : Int32)), (.ref b147), (.ref b147), (.ref b141), (.ref b141)])) _
          exact kt)
        obtain ⟨cl173, Ar173, q173, S173, M173, H173, G173⟩ := Va165
        have hin173 : ¬ ((2 : Int32) < 0 ∨ cl173.slots.size ≤ ((2 : Int32)).toNatClampNeg) := inb_of S173 ⟨by decide, by decide⟩
        obtain ⟨T173, h173, X173, e173, W173, st173⟩ := stC X165 hx hZ e165 Ar173 (j := (2 : Int32)) hin173 (g := (mkF m 104 #[.val (.long cc), .second, .val (.int p1), .val (.int p2), .val (.int ch0), .val (.int ch1), .val (.int ch2), .val (.int (p2 &&& (3 : Int32))), .unset, .unset, .unset, .unset, .unset] [(.int ch2), (.int (2 : Int32)), (.ref b147), (.ref b147), (.ref b141), (.ref b141)])) rfl rfl (hb hby at_104)
        have f174 := (f166).wr W173 gz149
        have f175 := (f167).wr W173
        have f176 := (f168).other W173 (Or.inl ne148)
        have f177 := (f169).other W173 (Or.inl ne148)
        have Va173 := Arv.set Ar173 q173 S173 M173 H173 G173 (fits_nar_char _) W173 2 rfl (Nat.le_of_ble_eq_true rfl)
        have Nf173 := Fr.snoc X173 Nf165 gz149
        have Zf178 : n0 ≤ h173.size := Nat.le_trans Zf170 (Keep.of_wr W173).1
        have pre179 : ∀ t, Steps p.tables e below (T173.setTop (mkF m 105 #[.val (.long cc), .second, .val (.int p1), .val (.int p2), .val (.int ch0), .val (.int ch1), .val (.int ch2), .val (.int (p2 &&& (3 : Int32))), .unset, .unset, .unset, .unset, .unset] [(.ref b147), (.ref b141), (.ref b141)])) t → Steps p.tables e below (s₁.setTop (entryFrame m #[(.long cc), (.int p1), (.int p2)] maxLocals)) t := fun t kt => pre172 t (st173 _ kt)
        have hlat : ∀ c ∈ [nar .char ch0, nar .char ch1, nar .char ch2], ¬ c < 0 ∧ ¬ (255 : Int32) < c := own_lat3 hch0 hch1 hch2
        obtain ⟨_, _, ⟨T180, L180, k180, n180⟩, -, X180, ⟨Lc180, hQ180, l180, y180, z180⟩, st180⟩ := X173.specialBack hx (y := (⟨"java/lang/String", "<init>", "([C)V"⟩ : MethodName)) rfl hown (mvT hZ (hw _ (List.mem_of_getElem? (i := 4) rfl))) (mvT hZ (hw _ (List.mem_of_getElem? (i := 5) rfl))) (mvT hZ (hw _ (List.mem_of_getElem? (i := 6) rfl))) (by decide) (StrChars.Road.backV (W := 1) hZ hws (kI := 4) (hw _ (List.mem_of_getElem? (i := 1) rfl)) (cs := [nar .char ch0, nar .char ch1, nar .char ch2]) (bs := [(nar .char ch0).toInt8.toInt32, (nar .char ch1).toInt8.toInt32, (nar .char ch2).toInt8.toInt32]) (n := 3) gz142 Zf178 f175 f176 f177 Va173 (S0.ext (f174).2) hz rfl rfl (by decide) (by decide) hlat rfl (by decide) (by decide)) (g := (mkF m 105 #[.val (.long cc), .second, .val (.int p1), .val (.int p2), .val (.int ch0), .val (.int ch1), .val (.int ch2), .val (.int (p2 &&& (3 : Int32))), .unset, .unset, .unset, .unset, .unset] [(.ref b147), (.ref b141), (.ref b141)])) rfl (by rw [hml]; rfl) (Steps.refl _) (a := b141) (argsL := [(.ref b147)]) (rest := [(.ref b141)]) (lenOf pd__28_5bC_29V rfl) rfl (by show 2 * 0 + _ ≤ _; exact Nat.le_of_eq rfl) (hb hby at_105) (fun _ _ => ⟨rfl, e173, (by decide : 2 + 1 ≤ _), (by decide : 7 + 3 ≤ _)⟩)
        dsimp only [Pt.U, Pt.locs, Pt.cells, Pt.slots] at X180 l180 y180 z180 st180 hQ180
        subst l180 y180 z180
        obtain ⟨rfl, N180q, K180, Fc180, rest180⟩ := hQ180
        have N180 := Fr.app Nf173 N180q
        have f181 := (f174).keep K180 (own_all1 gz142)
        have f182 := (f175).keep K180
        have f183 := (Va173).keep K180 (own_notin1 (Ne.symm ne148))
        have Zf184 : n0 ≤ T180.heap.size := Nat.le_trans Zf178 (K180).1
        have pre185 : ∀ t, Steps p.tables e below (T180.setTop (mkF m 108 #[.val (.long cc), .second, .val (.int p1), .val (.int p2), .val (.int ch0), .val (.int ch1), .val (.int ch2), .val (.int (p2 &&& (3 : Int32))), .unset, .unset, .unset, .unset, .unset] [(.ref b141)])) t → Steps p.tables e below (s₁.setTop (entryFrame m #[(.long cc), (.int p1), (.int p2)] maxLocals)) t := fun t kt => pre179 t (st180.trans kt)
        have pre186 : ∀ t, Steps p.tables e below (T180.setTop (mkF m 113 #[.val (.long cc), .second, .val (.int p1), .val (.int p2), .val (.int ch0), .val (.int ch1), .val (.int ch2), .val (.int (p2 &&& (3 : Int32))), .val (.ref b141), .unset, .unset, .unset, .unset] [(.long cc), (.ref b141)])) t → Steps p.tables e below (s₁.setTop (entryFrame m #[(.long cc), (.int p1), (.int p2)] maxLocals)) t := fun t kt => pre185 t (by
          refine XS.astore X180.here hx rfl (hb hby at_108) rfl rfl (l' := #[.val (.long cc), .second, .val (.int p1), .val (.int p2), .val (.int ch0), .val (.int ch1), .val (.int ch2), .val (.int (p2 &&& (3 : Int32))), .val (.ref b141), .unset, .unset, .unset, .unset]) rfl ?_
          show Steps p.tables e below (T180.setTop (mkF m 110 #[.val (.long cc), .second, .val (.int p1), .val (.int p2), .val (.int ch0), .val (.int ch1), .val (.int ch2), .val (.int (p2 &&& (3 : Int32))), .val (.ref b141), .unset, .unset, .unset, .unset] [])) _
          refine XS.aload X180.here hx rfl (hb hby at_110) rfl rfl ?_
          show Steps p.tables e below (T180.setTop (mkF m 112 #[.val (.long cc), .second, .val (.int p1), .val (.int p2), .val (.int ch0), .val (.int ch1), .val (.int ch2), .val (.int (p2 &&& (3 : Int32))), .val (.ref b141), .unset, .unset, .unset, .unset] [(.ref b141)])) _
          refine XS.lloadN X180.here hx rfl (hb hby at_112) rfl ?_
          show Steps p.tables e below (T180.setTop (mkF m 113 #[.val (.long cc), .second, .val (.int p1), .val (.int p2), .val (.int ch0), .val (.int ch1), .val (.int ch2), .val (.int (p2 &&& (3 : Int32))), .val (.ref b141), .unset, .unset, .unset, .unset] [(.long cc), (.ref b141)])) _
          exact kt)
        obtain ⟨_, _, ⟨T187, L187, k187, n187⟩, -, X187, ⟨Lc187, hQ187, l187, y187, z187⟩, st187⟩ := Jvm.LawKit.callS X180 hx (y := (⟨"com/example/hoopoe/hoopoe/core/eval/Measure", "count", "(Ljava/lang/String;J)Lcom/example/hoopoe/hoopoe/core/eval/Measure;"⟩ : MethodName)) hown (mvT hZ (hw _ (List.mem_of_getElem? (i := 22) rfl))) (mvT hZ (hw _ (List.mem_of_getElem? (i := 23) rfl))) (mvT hZ (hw _ (List.mem_of_getElem? (i := 24) rfl))) (mvT hZ (hw _ (List.mem_of_getElem? (i := 25) rfl))) (by decide) (backOf (W := 0) (rmCR l Z a0 hw [] b141 cc T180.heap n0 Zf184) hZ (hw _ (List.mem_of_getElem? (i := 25) rfl)) (hw _ (List.mem_of_getElem? (i := 24) rfl)) (by decide) (by decide)) (g := (mkF m 113 #[.val (.long cc), .second, .val (.int p1), .val (.int p2), .val (.int ch0), .val (.int ch1), .val (.int ch2), .val (.int (p2 &&& (3 : Int32))), .val (.ref b141), .unset, .unset, .unset, .unset] [(.long cc), (.ref b141)])) rfl (by rw [hml]; rfl) (argsL := [(.ref b141), (.long cc)]) (rest := []) (lenOf pd__28Ljava_2flang_2fString_3bJ_29Lcom_2fexample_2fhoopoe_2fhoopoe_2fcore_2feval_2fMeasure_3b rfl) rfl (by show 2 * 0 + _ ≤ _; exact Nat.le_of_eq rfl) (hb hby at_113) (fun _ _ => ⟨rfl, rfl, (by decide : 3 + 1 ≤ _), (by decide : 10 + 3 ≤ _)⟩)
        dsimp only [Pt.U, Pt.locs, Pt.cells, Pt.slots] at X187 l187 y187 z187 st187 hQ187
        subst l187 y187 z187
        obtain ⟨r187, rfl, N187q, K187, gp187, sp187, Ex187, Fn187, Fv187, Fd187⟩ := hQ187
        have N187 := Fr.app N180 N187q
        have ne188 : b141 ≠ r187 := Nat.ne_of_lt (Nat.lt_of_lt_of_le (f182).lt sp187)
        have ne189 : b147 ≠ r187 := Nat.ne_of_lt (Nat.lt_of_lt_of_le (f183).lt sp187)
        have f190 := (f181).keep K187 (own_all0 )
        have f191 := (f182).keep K187
        have f192 := (f183).keep K187 own_notin0
        have Zf193 : n0 ≤ T187.heap.size := Nat.le_trans Zf184 (K187).1
        have pre194 : ∀ t, Steps p.tables e below (T187.setTop (mkF m 116 #[.val (.long cc), .second, .val (.int p1), .val (.int p2), .val (.int ch0), .val (.int ch1), .val (.int ch2), .val (.int (p2 &&& (3 : Int32))), .val (.ref b141), .unset, .unset, .unset, .unset] [(.ref r187)])) t → Steps p.tables e below (s₁.setTop (entryFrame m #[(.long cc), (.int p1), (.int p2)] maxLocals)) t := fun t kt => pre186 t (st187 _ kt)
        have pre195 : ∀ t, Steps p.tables e below (T187.setTop (mkF m 143 #[.val (.long cc), .second, .val (.int p1), .val (.int p2), .val (.int ch0), .val (.int ch1), .val (.int ch2), .val (.int (p2 &&& (3 : Int32))), .val (.ref b141), .val (.ref r187), .unset, .unset, .unset] [(.ref r187), (.ref b141)])) t → Steps p.tables e below (s₁.setTop (entryFrame m #[(.long cc), (.int p1), (.int p2)] maxLocals)) t := fun t kt => pre194 t (by
          refine XS.astore X187.here hx rfl (hb hby at_116) rfl rfl (l' := #[.val (.long cc), .second, .val (.int p1), .val (.int p2), .val (.int ch0), .val (.int ch1), .val (.int ch2), .val (.int (p2 &&& (3 : Int32))), .val (.ref b141), .val (.ref r187), .unset, .unset, .unset]) rfl ?_
          show Steps p.tables e below (T187.setTop (mkF m 118 #[.val (.long cc), .second, .val (.int p1), .val (.int p2), .val (.int ch0), .val (.int ch1), .val (.int ch2), .val (.int (p2 &&& (3 : Int32))), .val (.ref b141), .val (.ref r187), .unset, .unset, .unset] [])) _
          refine XS.aload X187.here hx rfl (hb hby at_118) rfl rfl ?_
          show Steps p.tables e below (T187.setTop (mkF m 120 #[.val (.long cc), .second, .val (.int p1), .val (.int p2), .val (.int ch0), .val (.int ch1), .val (.int ch2), .val (.int (p2 &&& (3 : Int32))), .val (.ref b141), .val (.ref r187), .unset, .unset, .unset] [(.ref b141)])) _
          refine XS.ifnonnullYes X187.here hx rfl (pc0 := 120) (pc' := 139) rfl (hb hby at_120) rfl (by decide) (by decide) ?_
          show Steps p.tables e below (T187.setTop (mkF m 139 #[.val (.long cc), .second, .val (.int p1), .val (.int p2), .val (.int ch0), .val (.int ch1), .val (.int ch2), .val (.int (p2 &&& (3 : Int32))), .val (.ref b141), .val (.ref r187), .unset, .unset, .unset] [])) _
          refine XS.aload X187.here hx rfl (hb hby at_139) rfl rfl ?_
          show Steps p.tables e below (T187.setTop (mkF m 141 #[.val (.long cc), .second, .val (.int p1), .val (.int p2), .val (.int ch0), .val (.int ch1), .val (.int ch2), .val (.int (p2 &&& (3 : Int32))), .val (.ref b141), .val (.ref r187), .unset, .unset, .unset] [(.ref b141)])) _
          refine XS.aload X187.here hx rfl (hb hby at_141) rfl rfl ?_
          show Steps p.tables e below (T187.setTop (mkF m 143 #[.val (.long cc), .second, .val (.int p1), .val (.int p2), .val (.int ch0), .val (.int ch1), .val (.int ch2), .val (.int (p2 &&& (3 : Int32))), .val (.ref b141), .val (.ref r187), .unset, .unset, .unset] [(.ref r187), (.ref b141)])) _
          exact kt)
        obtain ⟨cq196, kq196, q196a, q196b, q196c⟩ := isOf hZ rfl (Ex187)
        obtain ⟨_, _, ⟨T196, L196, k196, n196⟩, -, X196, ⟨Lc196, hQ196, l196, y196, z196⟩, st196⟩ := X187.virtualBack hx (y := (⟨"com/example/hoopoe/hoopoe/core/eval/Measure", "name", "()Ljava/lang/String;"⟩ : MethodName)) (z := (⟨"com/example/hoopoe/hoopoe/core/eval/Measure", "name", "()Ljava/lang/String;"⟩ : MethodName)) hown (mvT hZ (hw _ (List.mem_of_getElem? (i := 43) rfl))) (mvT hZ (hw _ (List.mem_of_getElem? (i := 44) rfl))) (notFace_of_selects (args := #[]) (mvT hZ (hw _ (List.mem_of_getElem? (i := 46) rfl)))) (mvT hZ (hw _ (List.mem_of_getElem? (i := 46) rfl))) (mvT hZ (hw _ (List.mem_of_getElem? (i := 45) rfl))) (by decide) (backOf (W := 1) (rmNR l Z a0 hw [] r187 b141 T187.heap n0 Zf193 Fn187) hZ (hw _ (List.mem_of_getElem? (i := 47) rfl)) (hw _ (List.mem_of_getElem? (i := 24) rfl)) (by decide) (by decide)) q196a q196c (g := (mkF m 143 #[.val (.long cc), .second, .val (.int p1), .val (.int p2), .val (.int ch0), .val (.int ch1), .val (.int ch2), .val (.int (p2 &&& (3 : Int32))), .val (.ref b141), .val (.ref r187), .unset, .unset, .unset] [(.ref r187), (.ref b141)])) rfl (by rw [hml]; rfl) (Steps.refl _) (argsL := []) (rest := [(.ref b141)]) (lenOf pd__28_29Ljava_2flang_2fString_3b rfl) rfl (by show 2 * 0 + _ ≤ _; exact Nat.le_of_eq rfl) (hb hby at_143) (fun _ _ => ⟨rfl, rfl, (by decide : 4 + 0 ≤ _), (by decide : 13 + 0 ≤ _)⟩)
        dsimp only [Pt.U, Pt.locs, Pt.cells, Pt.slots] at X196 l196 y196 z196 st196 hQ196
        subst l196 y196 z196
        obtain ⟨rfl, N196q, e196q⟩ := hQ196
        have N196 := Fr.app N187 N196q
        have pre197 : ∀ t, Steps p.tables e below (T196.setTop (mkF m 146 #[.val (.long cc), .second, .val (.int p1), .val (.int p2), .val (.int ch0), .val (.int ch1), .val (.int ch2), .val (.int (p2 &&& (3 : Int32))), .val (.ref b141), .val (.ref r187), .unset, .unset, .unset] [(.ref b141), (.ref b141)])) t → Steps p.tables e below (s₁.setTop (entryFrame m #[(.long cc), (.int p1), (.int p2)] maxLocals)) t := fun t kt => pre195 t (st196.trans kt)
        obtain ⟨cq198, kq198, q198a, q198b, q198c⟩ := isOf hZ e196q (f191)
        obtain ⟨_, _, ⟨T198, L198, k198, n198⟩, -, X198, ⟨Lc198, hQ198, l198, y198, z198⟩, st198⟩ := X196.virtualBack hx (y := (⟨"java/lang/String", "equals", "(Ljava/lang/Object;)Z"⟩ : MethodName)) (z := (⟨"java/lang/String", "equals", "(Ljava/lang/Object;)Z"⟩ : MethodName)) hown (mvT hZ (hw _ (List.mem_of_getElem? (i := 48) rfl))) (mvT hZ (hw _ (List.mem_of_getElem? (i := 49) rfl))) (notFace_of_selects (args := #[]) (mvT hZ (hw _ (List.mem_of_getElem? (i := 51) rfl)))) (mvT hZ (hw _ (List.mem_of_getElem? (i := 51) rfl))) (mvT hZ (hw _ (List.mem_of_getElem? (i := 50) rfl))) (by decide) (backOf (W := 0) (rmEq l Z a0 hw [] b141 T187.heap n0 Zf193) hZ (hw _ (List.mem_of_getElem? (i := 52) rfl)) (hw _ (List.mem_of_getElem? (i := 2) rfl)) (by decide) (by decide)) q198a q198c (g := (mkF m 146 #[.val (.long cc), .second, .val (.int p1), .val (.int p2), .val (.int ch0), .val (.int ch1), .val (.int ch2), .val (.int (p2 &&& (3 : Int32))), .val (.ref b141), .val (.ref r187), .unset, .unset, .unset] [(.ref b141), (.ref b141)])) rfl (by rw [hml]; rfl) (Steps.refl _) (argsL := [(.ref b141)]) (rest := []) (lenOf pd__28Ljava_2flang_2fObject_3b_29Z rfl) rfl (by show 2 * 0 + _ ≤ _; exact Nat.le_of_eq rfl) (hb hby at_146) (fun _ _ => ⟨rfl, e196q, (by decide : 4 + 0 ≤ _), (by decide : 13 + 0 ≤ _)⟩)
        dsimp only [Pt.U, Pt.locs, Pt.cells, Pt.slots] at X198 l198 y198 z198 st198 hQ198
        subst l198 y198 z198
        obtain ⟨rfl, N198q, e198q⟩ := hQ198
        have N198 := Fr.app N196 N198q
        have pre199 : ∀ t, Steps p.tables e below (T198.setTop (mkF m 149 #[.val (.long cc), .second, .val (.int p1), .val (.int p2), .val (.int ch0), .val (.int ch1), .val (.int ch2), .val (.int (p2 &&& (3 : Int32))), .val (.ref b141), .val (.ref r187), .unset, .unset, .unset] [(.int (1 : Int32))])) t → Steps p.tables e below (s₁.setTop (entryFrame m #[(.long cc), (.int p1), (.int p2)] maxLocals)) t := fun t kt => pre197 t (st198.trans kt)
        have pre200 : ∀ t, Steps p.tables e below (T198.setTop (mkF m 153 #[.val (.long cc), .second, .val (.int p1), .val (.int p2), .val (.int ch0), .val (.int ch1), .val (.int ch2), .val (.int (p2 &&& (3 : Int32))), .val (.ref b141), .val (.ref r187), .val (.int (1 : Int32)), .unset, .unset] [(.ref r187)])) t → Steps p.tables e below (s₁.setTop (entryFrame m #[(.long cc), (.int p1), (.int p2)] maxLocals)) t := fun t kt => pre199 t (by
          refine XS.istore X198.here hx rfl (hb hby at_149) rfl (l' := #[.val (.long cc), .second, .val (.int p1), .val (.int p2), .val (.int ch0), .val (.int ch1), .val (.int ch2), .val (.int (p2 &&& (3 : Int32))), .val (.ref b141), .val (.ref r187), .val (.int (1 : Int32)), .unset, .unset]) rfl ?_
          show Steps p.tables e below (T198.setTop (mkF m 151 #[.val (.long cc), .second, .val (.int p1), .val (.int p2), .val (.int ch0), .val (.int ch1), .val (.int ch2), .val (.int (p2 &&& (3 : Int32))), .val (.ref b141), .val (.ref r187), .val (.int (1 : Int32)), .unset, .unset] [])) _
          refine XS.aload X198.here hx rfl (hb hby at_151) rfl rfl ?_
          show Steps p.tables e below (T198.setTop (mkF m 153 #[.val (.long cc), .second, .val (.int p1), .val (.int p2), .val (.int ch0), .val (.int ch1), .val (.int ch2), .val (.int (p2 &&& (3 : Int32))), .val (.ref b141), .val (.ref r187), .val (.int (1 : Int32)), .unset, .unset] [(.ref r187)])) _
          exact kt)
        obtain ⟨cq201, kq201, q201a, q201b, q201c⟩ := isOf hZ e198q (Ex187)
        obtain ⟨_, _, ⟨T201, L201, k201, n201⟩, -, X201, ⟨Lc201, hQ201, l201, y201, z201⟩, st201⟩ := X198.virtualBack hx (y := (⟨"com/example/hoopoe/hoopoe/core/eval/Measure", "value", "()D"⟩ : MethodName)) (z := (⟨"com/example/hoopoe/hoopoe/core/eval/Measure", "value", "()D"⟩ : MethodName)) hown (mvT hZ (hw _ (List.mem_of_getElem? (i := 53) rfl))) (mvT hZ (hw _ (List.mem_of_getElem? (i := 54) rfl))) (notFace_of_selects (args := #[]) (mvT hZ (hw _ (List.mem_of_getElem? (i := 56) rfl)))) (mvT hZ (hw _ (List.mem_of_getElem? (i := 56) rfl))) (mvT hZ (hw _ (List.mem_of_getElem? (i := 55) rfl))) (by decide) (backOf (W := 0) (rmg_value l Z a0 hw [] r187 _ T187.heap n0 Zf193 Fv187) hZ (hw _ (List.mem_of_getElem? (i := 57) rfl)) (hw _ (List.mem_of_getElem? (i := 24) rfl)) (by decide) (by decide)) q201a q201c (g := (mkF m 153 #[.val (.long cc), .second, .val (.int p1), .val (.int p2), .val (.int ch0), .val (.int ch1), .val (.int ch2), .val (.int (p2 &&& (3 : Int32))), .val (.ref b141), .val (.ref r187), .val (.int (1 : Int32)), .unset, .unset] [(.ref r187)])) rfl (by rw [hml]; rfl) (Steps.refl _) (argsL := []) (rest := []) (lenOf pd__28_29D rfl) rfl (by show 2 * 0 + _ ≤ _; exact Nat.le_of_eq rfl) (hb hby at_153) (fun _ _ => ⟨rfl, e198q, (by decide : 4 + 0 ≤ _), (by decide : 13 + 0 ≤ _)⟩)
        dsimp only [Pt.U, Pt.locs, Pt.cells, Pt.slots] at X201 l201 y201 z201 st201 hQ201
        subst l201 y201 z201
        obtain ⟨rfl, N201q, e201q⟩ := hQ201
        have N201 := Fr.app N198 N201q
        have pre202 : ∀ t, Steps p.tables e below (T201.setTop (mkF m 156 #[.val (.long cc), .second, .val (.int p1), .val (.int p2), .val (.int ch0), .val (.int ch1), .val (.int ch2), .val (.int (p2 &&& (3 : Int32))), .val (.ref b141), .val (.ref r187), .val (.int (1 : Int32)), .unset, .unset] [(.double (FP.l2d cc))])) t → Steps p.tables e below (s₁.setTop (entryFrame m #[(.long cc), (.int p1), (.int p2)] maxLocals)) t := fun t kt => pre200 t (st201.trans kt)
        have pre203 : ∀ t, Steps p.tables e below (T201.setTop (mkF m 177 #[.val (.long cc), .second, .val (.int p1), .val (.int p2), .val (.int ch0), .val (.int ch1), .val (.int ch2), .val (.int (p2 &&& (3 : Int32))), .val (.ref b141), .val (.ref r187), .val (.int (1 : Int32)), .val (.int (1 : Int32)), .val (.int (1 : Int32))] [(.int (lcmpW cc (-9007199254740992 : Int64)))])) t → Steps p.tables e below (s₁.setTop (entryFrame m #[(.long cc), (.int p1), (.int p2)] maxLocals)) t := fun t kt => pre202 t (by
          refine XS.lloadN X201.here hx rfl (hb hby at_156) rfl ?_
          show Steps p.tables e below (T201.setTop (mkF m 157 #[.val (.long cc), .second, .val (.int p1), .val (.int p2), .val (.int ch0), .val (.int ch1), .val (.int ch2), .val (.int (p2 &&& (3 : Int32))), .val (.ref b141), .val (.ref r187), .val (.int (1 : Int32)), .unset, .unset] [(.long cc), (.double (FP.l2d cc))])) _
          refine own_l2d X201.here hx rfl (hb hby at_157) rfl ?_
          show Steps p.tables e below (T201.setTop (mkF m 158 #[.val (.long cc), .second, .val (.int p1), .val (.int p2), .val (.int ch0), .val (.int ch1), .val (.int ch2), .val (.int (p2 &&& (3 : Int32))), .val (.ref b141), .val (.ref r187), .val (.int (1 : Int32)), .unset, .unset] [(.double (FP.l2d cc)), (.double (FP.l2d cc))])) _
          refine own_dcmp X201.here hx rfl (hb hby at_158) rfl ?_
          show Steps p.tables e below (T201.setTop (mkF m 159 #[.val (.long cc), .second, .val (.int p1), .val (.int p2), .val (.int ch0), .val (.int ch1), .val (.int ch2), .val (.int (p2 &&& (3 : Int32))), .val (.ref b141), .val (.ref r187), .val (.int (1 : Int32)), .unset, .unset] [(.int (cmpValue (FP.dcmp (FP.l2d cc) (FP.l2d cc)) .l))])) _
          refine XS.ifNo X201.here hx rfl (hb hby at_159) rfl ((if0 _ _).trans (teq (own_dself cc : (cmpValue (FP.dcmp (FP.l2d cc) (FP.l2d cc)) .l) = (0 : Int32))).2) ?_
          show Steps p.tables e below (T201.setTop (mkF m 162 #[.val (.long cc), .second, .val (.int p1), .val (.int p2), .val (.int ch0), .val (.int ch1), .val (.int ch2), .val (.int (p2 &&& (3 : Int32))), .val (.ref b141), .val (.ref r187), .val (.int (1 : Int32)), .unset, .unset] [])) _
          refine XS.iconst X201.here hx rfl (hb hby at_162) ?_
          show Steps p.tables e below (T201.setTop (mkF m 163 #[.val (.long cc), .second, .val (.int p1), .val (.int p2), .val (.int ch0), .val (.int ch1), .val (.int ch2), .val (.int (p2 &&& (3 : Int32))), .val (.ref b141), .val (.ref r187), .val (.int (1 : Int32)), .unset, .unset] [(.int (1 : Int32))])) _
          refine XS.goto X201.here hx rfl (pc0 := 163) (pc' := 167) rfl (hb hby at_163) (by decide) (by decide) ?_
          show Steps p.tables e below (T201.setTop (mkF m 167 #[.val (.long cc), .second, .val (.int p1), .val (.int p2), .val (.int ch0), .val (.int ch1), .val (.int ch2), .val (.int (p2 &&& (3 : Int32))), .val (.ref b141), .val (.ref r187), .val (.int (1 : Int32)), .unset, .unset] [(.int (1 : Int32))])) _
          refine XS.istore X201.here hx rfl (hb hby at_167) rfl (l' := #[.val (.long cc), .second, .val (.int p1), .val (.int p2), .val (.int ch0), .val (.int ch1), .val (.int ch2), .val (.int (p2 &&& (3 : Int32))), .val (.ref b141), .val (.ref r187), .val (.int (1 : Int32)), .val (.int (1 : Int32)), .unset]) rfl ?_
          show Steps p.tables e below (T201.setTop (mkF m 169 #[.val (.long cc), .second, .val (.int p1), .val (.int p2), .val (.int ch0), .val (.int ch1), .val (.int ch2), .val (.int (p2 &&& (3 : Int32))), .val (.ref b141), .val (.ref r187), .val (.int (1 : Int32)), .val (.int (1 : Int32)), .unset] [])) _
          refine XS.iconst X201.here hx rfl (hb hby at_169) ?_
          show Steps p.tables e below (T201.setTop (mkF m 170 #[.val (.long cc), .second, .val (.int p1), .val (.int p2), .val (.int ch0), .val (.int ch1), .val (.int ch2), .val (.int (p2 &&& (3 : Int32))), .val (.ref b141), .val (.ref r187), .val (.int (1 : Int32)), .val (.int (1 : Int32)), .unset] [(.int (1 : Int32))])) _
          refine XS.istore X201.here hx rfl (hb hby at_170) rfl (l' := #[.val (.long cc), .second, .val (.int p1), .val (.int p2), .val (.int ch0), .val (.int ch1), .val (.int ch2), .val (.int (p2 &&& (3 : Int32))), .val (.ref b141), .val (.ref r187), .val (.int (1 : Int32)), .val (.int (1 : Int32)), .val (.int (1 : Int32))]) rfl ?_
          show Steps p.tables e below (T201.setTop (mkF m 172 #[.val (.long cc), .second, .val (.int p1), .val (.int p2), .val (.int ch0), .val (.int ch1), .val (.int ch2), .val (.int (p2 &&& (3 : Int32))), .val (.ref b141), .val (.ref r187), .val (.int (1 : Int32)), .val (.int (1 : Int32)), .val (.int (1 : Int32))] [])) _
          refine XS.lloadN X201.here hx rfl (hb hby at_172) rfl ?_
          show Steps p.tables e below (T201.setTop (mkF m 173 #[.val (.long cc), .second, .val (.int p1), .val (.int p2), .val (.int ch0), .val (.int ch1), .val (.int ch2), .val (.int (p2 &&& (3 : Int32))), .val (.ref b141), .val (.ref r187), .val (.int (1 : Int32)), .val (.int (1 : Int32)), .val (.int (1 : Int32))] [(.long cc)])) _
          refine X201.ldc2Long hx hown (mvT hZ (hw _ (List.mem_of_getElem? (i := 58) rfl))) (g := (mkF m 173 #[.val (.long cc), .second, .val (.int p1), .val (.int p2), .val (.int ch0), .val (.int ch1), .val (.int ch2), .val (.int (p2 &&& (3 : Int32))), .val (.ref b141), .val (.ref r187), .val (.int (1 : Int32)), .val (.int (1 : Int32)), .val (.int (1 : Int32))] [(.long cc)])) rfl (hb hby at_173) _ ?_
          show Steps p.tables e below (T201.setTop (mkF m 176 #[.val (.long cc), .second, .val (.int p1), .val (.int p2), .val (.int ch0), .val (.int ch1), .val (.int ch2), .val (.int (p2 &&& (3 : Int32))), .val (.ref b141), .val (.ref r187), .val (.int (1 : Int32)), .val (.int (1 : Int32)), .val (.int (1 : Int32))] [(.long (-9007199254740992 : Int64)), (.long cc)])) _
          refine XS.lcmp X201.here hx rfl (hb hby at_176) rfl ?_
          show Steps p.tables e below (T201.setTop (mkF m 177 #[.val (.long cc), .second, .val (.int p1), .val (.int p2), .val (.int ch0), .val (.int ch1), .val (.int ch2), .val (.int (p2 &&& (3 : Int32))), .val (.ref b141), .val (.ref r187), .val (.int (1 : Int32)), .val (.int (1 : Int32)), .val (.int (1 : Int32))] [(.int (lcmpW cc (-9007199254740992 : Int64)))])) _
          exact kt)
        by_cases c177_10 : cc < (-9007199254740992 : Int64)
        · have pre204 : ∀ t, Steps p.tables e below (T201.setTop (mkF m 223 #[.val (.long cc), .second, .val (.int p1), .val (.int p2), .val (.int ch0), .val (.int ch1), .val (.int ch2), .val (.int (p2 &&& (3 : Int32))), .val (.ref b141), .val (.ref r187), .val (.int (1 : Int32)), .val (.int (1 : Int32)), .val (.int (1 : Int32))] [(.ref r187)])) t → Steps p.tables e below (s₁.setTop (entryFrame m #[(.long cc), (.int p1), (.int p2)] maxLocals)) t := fun t kt => pre203 t (by
            refine XS.ifYes X201.here hx rfl (pc0 := 177) (pc' := 206) rfl (hb hby at_177) rfl ((if0 _ _).trans (tlt ((lw_lt _ _).mpr c177_10)).1) (by decide) (by decide) ?_
            show Steps p.tables e below (T201.setTop (mkF m 206 #[.val (.long cc), .second, .val (.int p1), .val (.int p2), .val (.int ch0), .val (.int ch1), .val (.int ch2), .val (.int (p2 &&& (3 : Int32))), .val (.ref b141), .val (.ref r187), .val (.int (1 : Int32)), .val (.int (1 : Int32)), .val (.int (1 : Int32))] [])) _
            refine XS.iload X201.here hx rfl (hb hby at_206) rfl ?_
            show Steps p.tables e below (T201.setTop (mkF m 208 #[.val (.long cc), .second, .val (.int p1), .val (.int p2), .val (.int ch0), .val (.int ch1), .val (.int ch2), .val (.int (p2 &&& (3 : Int32))), .val (.ref b141), .val (.ref r187), .val (.int (1 : Int32)), .val (.int (1 : Int32)), .val (.int (1 : Int32))] [(.int (1 : Int32))])) _
            refine XS.ifNo X201.here hx rfl (hb hby at_208) rfl ((if0 _ _).trans (feq (by decide : ¬ ((1 : Int32) = (0 : Int32)))).1) ?_
            show Steps p.tables e below (T201.setTop (mkF m 211 #[.val (.long cc), .second, .val (.int p1), .val (.int p2), .val (.int ch0), .val (.int ch1), .val (.int ch2), .val (.int (p2 &&& (3 : Int32))), .val (.ref b141), .val (.ref r187), .val (.int (1 : Int32)), .val (.int (1 : Int32)), .val (.int (1 : Int32))] [])) _
            refine XS.iload X201.here hx rfl (hb hby at_211) rfl ?_
            show Steps p.tables e below (T201.setTop (mkF m 213 #[.val (.long cc), .second, .val (.int p1), .val (.int p2), .val (.int ch0), .val (.int ch1), .val (.int ch2), .val (.int (p2 &&& (3 : Int32))), .val (.ref b141), .val (.ref r187), .val (.int (1 : Int32)), .val (.int (1 : Int32)), .val (.int (1 : Int32))] [(.int (1 : Int32))])) _
            refine XS.ifNo X201.here hx rfl (hb hby at_213) rfl ((if0 _ _).trans (feq (by decide : ¬ ((1 : Int32) = (0 : Int32)))).1) ?_
            show Steps p.tables e below (T201.setTop (mkF m 216 #[.val (.long cc), .second, .val (.int p1), .val (.int p2), .val (.int ch0), .val (.int ch1), .val (.int ch2), .val (.int (p2 &&& (3 : Int32))), .val (.ref b141), .val (.ref r187), .val (.int (1 : Int32)), .val (.int (1 : Int32)), .val (.int (1 : Int32))] [])) _
            refine XS.iload X201.here hx rfl (hb hby at_216) rfl ?_
            show Steps p.tables e below (T201.setTop (mkF m 218 #[.val (.long cc), .second, .val (.int p1), .val (.int p2), .val (.int ch0), .val (.int ch1), .val (.int ch2), .val (.int (p2 &&& (3 : Int32))), .val (.ref b141), .val (.ref r187), .val (.int (1 : Int32)), .val (.int (1 : Int32)), .val (.int (1 : Int32))] [(.int (1 : Int32))])) _
            refine XS.ifNo X201.here hx rfl (hb hby at_218) rfl ((if0 _ _).trans (feq (by decide : ¬ ((1 : Int32) = (0 : Int32)))).1) ?_
            show Steps p.tables e below (T201.setTop (mkF m 221 #[.val (.long cc), .second, .val (.int p1), .val (.int p2), .val (.int ch0), .val (.int ch1), .val (.int ch2), .val (.int (p2 &&& (3 : Int32))), .val (.ref b141), .val (.ref r187), .val (.int (1 : Int32)), .val (.int (1 : Int32)), .val (.int (1 : Int32))] [])) _
            refine XS.aload X201.here hx rfl (hb hby at_221) rfl rfl ?_
            show Steps p.tables e below (T201.setTop (mkF m 223 #[.val (.long cc), .second, .val (.int p1), .val (.int p2), .val (.int ch0), .val (.int ch1), .val (.int ch2), .val (.int (p2 &&& (3 : Int32))), .val (.ref b141), .val (.ref r187), .val (.int (1 : Int32)), .val (.int (1 : Int32)), .val (.int (1 : Int32))] [(.ref r187)])) _
            exact kt)
          obtain ⟨cq205, kq205, q205a, q205b, q205c⟩ := isOf hZ e201q (Ex187)
          obtain ⟨_, _, ⟨T205, L205, k205, n205⟩, -, X205, ⟨Lc205, hQ205, l205, y205, z205⟩, st205⟩ := X201.virtualBack hx (y := (⟨"com/example/hoopoe/hoopoe/core/eval/Measure", "decimals", "()I"⟩ : MethodName)) (z := (⟨"com/example/hoopoe/hoopoe/core/eval/Measure", "decimals", "()I"⟩ : MethodName)) hown (mvT hZ (hw _ (List.mem_of_getElem? (i := 60) rfl))) (mvT hZ (hw _ (List.mem_of_getElem? (i := 61) rfl))) (notFace_of_selects (args := #[]) (mvT hZ (hw _ (List.mem_of_getElem? (i := 63) rfl)))) (mvT hZ (hw _ (List.mem_of_getElem? (i := 63) rfl))) (mvT hZ (hw _ (List.mem_of_getElem? (i := 62) rfl))) (by decide) (backOf (W := 0) (rmg_decimals l Z a0 hw [] r187 _ T187.heap n0 Zf193 Fd187) hZ (hw _ (List.mem_of_getElem? (i := 64) rfl)) (hw _ (List.mem_of_getElem? (i := 24) rfl)) (by decide) (by decide)) q205a q205c (g := (mkF m 223 #[.val (.long cc), .second, .val (.int p1), .val (.int p2), .val (.int ch0), .val (.int ch1), .val (.int ch2), .val (.int (p2 &&& (3 : Int32))), .val (.ref b141), .val (.ref r187), .val (.int (1 : Int32)), .val (.int (1 : Int32)), .val (.int (1 : Int32))] [(.ref r187)])) rfl (by rw [hml]; rfl) (Steps.refl _) (argsL := []) (rest := []) (lenOf pd__28_29I rfl) rfl (by show 2 * 0 + _ ≤ _; exact Nat.le_of_eq rfl) (hb hby at_223) (fun _ _ => ⟨rfl, e201q, (by decide : 4 + 0 ≤ _), (by decide : 13 + 0 ≤ _)⟩)
          dsimp only [Pt.U, Pt.locs, Pt.cells, Pt.slots] at X205 l205 y205 z205 st205 hQ205
          subst l205 y205 z205
          obtain ⟨rfl, N205q, e205q⟩ := hQ205
          have N205 := Fr.app N201 N205q
          have pre206 : ∀ t, Steps p.tables e below (T205.setTop (mkF m 226 #[.val (.long cc), .second, .val (.int p1), .val (.int p2), .val (.int ch0), .val (.int ch1), .val (.int ch2), .val (.int (p2 &&& (3 : Int32))), .val (.ref b141), .val (.ref r187), .val (.int (1 : Int32)), .val (.int (1 : Int32)), .val (.int (1 : Int32))] [(.int (0 : Int32))])) t → Steps p.tables e below (s₁.setTop (entryFrame m #[(.long cc), (.int p1), (.int p2)] maxLocals)) t := fun t kt => pre204 t (st205.trans kt)
          have pre207 : ∀ t, Steps p.tables e below (T205.setTop (mkF m 234 #[.val (.long cc), .second, .val (.int p1), .val (.int p2), .val (.int ch0), .val (.int ch1), .val (.int ch2), .val (.int (p2 &&& (3 : Int32))), .val (.ref b141), .val (.ref r187), .val (.int (1 : Int32)), .val (.int (1 : Int32)), .val (.int (1 : Int32))] [(.int (1 : Int32))])) t → Steps p.tables e below (s₁.setTop (entryFrame m #[(.long cc), (.int p1), (.int p2)] maxLocals)) t := fun t kt => pre206 t (by
            refine XS.ifNo X205.here hx rfl (hb hby at_226) rfl ((if0 _ _).trans (teq (by decide : (0 : Int32) = (0 : Int32))).2) ?_
            show Steps p.tables e below (T205.setTop (mkF m 229 #[.val (.long cc), .second, .val (.int p1), .val (.int p2), .val (.int ch0), .val (.int ch1), .val (.int ch2), .val (.int (p2 &&& (3 : Int32))), .val (.ref b141), .val (.ref r187), .val (.int (1 : Int32)), .val (.int (1 : Int32)), .val (.int (1 : Int32))] [])) _
            refine XS.iconst X205.here hx rfl (hb hby at_229) ?_
            show Steps p.tables e below (T205.setTop (mkF m 230 #[.val (.long cc), .second, .val (.int p1), .val (.int p2), .val (.int ch0), .val (.int ch1), .val (.int ch2), .val (.int (p2 &&& (3 : Int32))), .val (.ref b141), .val (.ref r187), .val (.int (1 : Int32)), .val (.int (1 : Int32)), .val (.int (1 : Int32))] [(.int (1 : Int32))])) _
            refine XS.goto X205.here hx rfl (pc0 := 230) (pc' := 234) rfl (hb hby at_230) (by decide) (by decide) ?_
            show Steps p.tables e below (T205.setTop (mkF m 234 #[.val (.long cc), .second, .val (.int p1), .val (.int p2), .val (.int ch0), .val (.int ch1), .val (.int ch2), .val (.int (p2 &&& (3 : Int32))), .val (.ref b141), .val (.ref r187), .val (.int (1 : Int32)), .val (.int (1 : Int32)), .val (.int (1 : Int32))] [(.int (1 : Int32))])) _
            exact kt)
          obtain ⟨fs, hr, hrun, hended, hW, hsame⟩ := X205.leave (v := (some (.int (1 : Int32)))) (fun h => by rw [Bd.returns] at h; cases h)
          refine ⟨_, _, pre207 _ ?_, hrun, hended, _, _, rfl, ?_, ReturnedEndW.of_narrow ⟨_, rfl⟩ hW (hsame.mono (by decide) (by decide))⟩
          · exact retN X205 hx (t := .boolean) Bd.returns (by simp) (hb hby at_234) hr
          · show Q0 Z  h0 n0 _ T205.heap T205.vm _
            rw [e205q]
            exact ⟨rfl, N205⟩
        · have pre209 : ∀ t, Steps p.tables e below (T201.setTop (mkF m 185 #[.val (.long cc), .second, .val (.int p1), .val (.int p2), .val (.int ch0), .val (.int ch1), .val (.int ch2), .val (.int (p2 &&& (3 : Int32))), .val (.ref b141), .val (.ref r187), .val (.int (1 : Int32)), .val (.int (1 : Int32)), .val (.int (1 : Int32))] [(.int (lcmpW cc (9007199254740992 : Int64)))])) t → Steps p.tables e below (s₁.setTop (entryFrame m #[(.long cc), (.int p1), (.int p2)] maxLocals)) t := fun t kt => pre203 t (by
            refine XS.ifNo X201.here hx rfl (hb hby at_177) rfl ((if0 _ _).trans (flt (mt (lw_lt _ _).mp c177_10)).1) ?_
            show Steps p.tables e below (T201.setTop (mkF m 180 #[.val (.long cc), .second, .val (.int p1), .val (.int p2), .val (.int ch0), .val (.int ch1), .val (.int ch2), .val (.int (p2 &&& (3 : Int32))), .val (.ref b141), .val (.ref r187), .val (.int (1 : Int32)), .val (.int (1 : Int32)), .val (.int (1 : Int32))] [])) _
            refine XS.lloadN X201.here hx rfl (hb hby at_180) rfl ?_
            show Steps p.tables e below (T201.setTop (mkF m 181 #[.val (.long cc), .second, .val (.int p1), .val (.int p2), .val (.int ch0), .val (.int ch1), .val (.int ch2), .val (.int (p2 &&& (3 : Int32))), .val (.ref b141), .val (.ref r187), .val (.int (1 : Int32)), .val (.int (1 : Int32)), .val (.int (1 : Int32))] [(.long cc)])) _
            refine X201.ldc2Long hx hown (mvT hZ (hw _ (List.mem_of_getElem? (i := 59) rfl))) (g := (mkF m 181 #[.val (.long cc), .second, .val (.int p1), .val (.int p2), .val (.int ch0), .val (.int ch1), .val (.int ch2), .val (.int (p2 &&& (3 : Int32))), .val (.ref b141), .val (.ref r187), .val (.int (1 : Int32)), .val (.int (1 : Int32)), .val (.int (1 : Int32))] [(.long cc)])) rfl (hb hby at_181) _ ?_
            show Steps p.tables e below (T201.setTop (mkF m 184 #[.val (.long cc), .second, .val (.int p1), .val (.int p2), .val (.int ch0), .val (.int ch1), .val (.int ch2), .val (.int (p2 &&& (3 : Int32))), .val (.ref b141), .val (.ref r187), .val (.int (1 : Int32)), .val (.int (1 : Int32)), .val (.int (1 : Int32))] [(.long (9007199254740992 : Int64)), (.long cc)])) _
            refine XS.lcmp X201.here hx rfl (hb hby at_184) rfl ?_
            show Steps p.tables e below (T201.setTop (mkF m 185 #[.val (.long cc), .second, .val (.int p1), .val (.int p2), .val (.int ch0), .val (.int ch1), .val (.int ch2), .val (.int (p2 &&& (3 : Int32))), .val (.ref b141), .val (.ref r187), .val (.int (1 : Int32)), .val (.int (1 : Int32)), .val (.int (1 : Int32))] [(.int (lcmpW cc (9007199254740992 : Int64)))])) _
            exact kt)
          by_cases c185_11 : (9007199254740992 : Int64) < cc
          · have pre210 : ∀ t, Steps p.tables e below (T201.setTop (mkF m 223 #[.val (.long cc), .second, .val (.int p1), .val (.int p2), .val (.int ch0), .val (.int ch1), .val (.int ch2), .val (.int (p2 &&& (3 : Int32))), .val (.ref b141), .val (.ref r187), .val (.int (1 : Int32)), .val (.int (1 : Int32)), .val (.int (1 : Int32))] [(.ref r187)])) t → Steps p.tables e below (s₁.setTop (entryFrame m #[(.long cc), (.int p1), (.int p2)] maxLocals)) t := fun t kt => pre209 t (by
              refine XS.ifYes X201.here hx rfl (pc0 := 185) (pc' := 206) rfl (hb hby at_185) rfl ((if0 _ _).trans (tlt ((lw_gt _ _).mpr c185_11)).2.2.1) (by decide) (by decide) ?_
              show Steps p.tables e below (T201.setTop (mkF m 206 #[.val (.long cc), .second, .val (.int p1), .val (.int p2), .val (.int ch0), .val (.int ch1), .val (.int ch2), .val (.int (p2 &&& (3 : Int32))), .val (.ref b141), .val (.ref r187), .val (.int (1 : Int32)), .val (.int (1 : Int32)), .val (.int (1 : Int32))] [])) _
              refine XS.iload X201.here hx rfl (hb hby at_206) rfl ?_
              show Steps p.tables e below (T201.setTop (mkF m 208 #[.val (.long cc), .second, .val (.int p1), .val (.int p2), .val (.int ch0), .val (.int ch1), .val (.int ch2), .val (.int (p2 &&& (3 : Int32))), .val (.ref b141), .val (.ref r187), .val (.int (1 : Int32)), .val (.int (1 : Int32)), .val (.int (1 : Int32))] [(.int (1 : Int32))])) _
              refine XS.ifNo X201.here hx rfl (hb hby at_208) rfl ((if0 _ _).trans (feq (by decide : ¬ ((1 : Int32) = (0 : Int32)))).1) ?_
              show Steps p.tables e below (T201.setTop (mkF m 211 #[.val (.long cc), .second, .val (.int p1), .val (.int p2), .val (.int ch0), .val (.int ch1), .val (.int ch2), .val (.int (p2 &&& (3 : Int32))), .val (.ref b141), .val (.ref r187), .val (.int (1 : Int32)), .val (.int (1 : Int32)), .val (.int (1 : Int32))] [])) _
              refine XS.iload X201.here hx rfl (hb hby at_211) rfl ?_
              show Steps p.tables e below (T201.setTop (mkF m 213 #[.val (.long cc), .second, .val (.int p1), .val (.int p2), .val (.int ch0), .val (.int ch1), .val (.int ch2), .val (.int (p2 &&& (3 : Int32))), .val (.ref b141), .val (.ref r187), .val (.int (1 : Int32)), .val (.int (1 : Int32)), .val (.int (1 : Int32))] [(.int (1 : Int32))])) _
              refine XS.ifNo X201.here hx rfl (hb hby at_213) rfl ((if0 _ _).trans (feq (by decide : ¬ ((1 : Int32) = (0 : Int32)))).1) ?_
              show Steps p.tables e below (T201.setTop (mkF m 216 #[.val (.long cc), .second, .val (.int p1), .val (.int p2), .val (.int ch0), .val (.int ch1), .val (.int ch2), .val (.int (p2 &&& (3 : Int32))), .val (.ref b141), .val (.ref r187), .val (.int (1 : Int32)), .val (.int (1 : Int32)), .val (.int (1 : Int32))] [])) _
              refine XS.iload X201.here hx rfl (hb hby at_216) rfl ?_
              show Steps p.tables e below (T201.setTop (mkF m 218 #[.val (.long cc), .second, .val (.int p1), .val (.int p2), .val (.int ch0), .val (.int ch1), .val (.int ch2), .val (.int (p2 &&& (3 : Int32))), .val (.ref b141), .val (.ref r187), .val (.int (1 : Int32)), .val (.int (1 : Int32)), .val (.int (1 : Int32))] [(.int (1 : Int32))])) _
              refine XS.ifNo X201.here hx rfl (hb hby at_218) rfl ((if0 _ _).trans (feq (by decide : ¬ ((1 : Int32) = (0 : Int32)))).1) ?_
              show Steps p.tables e below (T201.setTop (mkF m 221 #[.val (.long cc), .second, .val (.int p1), .val (.int p2), .val (.int ch0), .val (.int ch1), .val (.int ch2), .val (.int (p2 &&& (3 : Int32))), .val (.ref b141), .val (.ref r187), .val (.int (1 : Int32)), .val (.int (1 : Int32)), .val (.int (1 : Int32))] [])) _
              refine XS.aload X201.here hx rfl (hb hby at_221) rfl rfl ?_
              show Steps p.tables e below (T201.setTop (mkF m 223 #[.val (.long cc), .second, .val (.int p1), .val (.int p2), .val (.int ch0), .val (.int ch1), .val (.int ch2), .val (.int (p2 &&& (3 : Int32))), .val (.ref b141), .val (.ref r187), .val (.int (1 : Int32)), .val (.int (1 : Int32)), .val (.int (1 : Int32))] [(.ref r187)])) _
              exact kt)
            obtain ⟨cq211, kq211, q211a, q211b, q211c⟩ := isOf hZ e201q (Ex187)
            obtain ⟨_, _, ⟨T211, L211, k211, n211⟩, -, X211, ⟨Lc211, hQ211, l211, y211, z211⟩, st211⟩ := X201.virtualBack hx (y := (⟨"com/example/hoopoe/hoopoe/core/eval/Measure", "decimals", "()I"⟩ : MethodName)) (z := (⟨"com/example/hoopoe/hoopoe/core/eval/Measure", "decimals", "()I"⟩ : MethodName)) hown (mvT hZ (hw _ (List.mem_of_getElem? (i := 60) rfl))) (mvT hZ (hw _ (List.mem_of_getElem? (i := 61) rfl))) (notFace_of_selects (args := #[]) (mvT hZ (hw _ (List.mem_of_getElem? (i := 63) rfl)))) (mvT hZ (hw _ (List.mem_of_getElem? (i := 63) rfl))) (mvT hZ (hw _ (List.mem_of_getElem? (i := 62) rfl))) (by decide) (backOf (W := 0) (rmg_decimals l Z a0 hw [] r187 _ T187.heap n0 Zf193 Fd187) hZ (hw _ (List.mem_of_getElem? (i := 64) rfl)) (hw _ (List.mem_of_getElem? (i := 24) rfl)) (by decide) (by decide)) q211a q211c (g := (mkF m 223 #[.val (.long cc), .second, .val (.int p1), .val (.int p2), .val (.int ch0), .val (.int ch1), .val (.int ch2), .val (.int (p2 &&& (3 : Int32))), .val (.ref b141), .val (.ref r187), .val (.int (1 : Int32)), .val (.int (1 : Int32)), .val (.int (1 : Int32))] [(.ref r187)])) rfl (by rw [hml]; rfl) (Steps.refl _) (argsL := []) (rest := []) (lenOf pd__28_29I rfl) rfl (by show 2 * 0 + _ ≤ _; exact Nat.le_of_eq rfl) (hb hby at_223) (fun _ _ => ⟨rfl, e201q, (by decide : 4 + 0 ≤ _), (by decide : 13 + 0 ≤ _)⟩)
            dsimp only [Pt.U, Pt.locs, Pt.cells, Pt.slots] at X211 l211 y211 z211 st211 hQ211
            subst l211 y211 z211
            obtain ⟨rfl, N211q, e211q⟩ := hQ211
            have N211 := Fr.app N201 N211q
            have pre212 : ∀ t, Steps p.tables e below (T211.setTop (mkF m 226 #[.val (.long cc), .second, .val (.int p1), .val (.int p2), .val (.int ch0), .val (.int ch1), .val (.int ch2), .val (.int (p2 &&& (3 : Int32))), .val (.ref b141), .val (.ref r187), .val (.int (1 : Int32)), .val (.int (1 : Int32)), .val (.int (1 : Int32))] [(.int (0 : Int32))])) t → Steps p.tables e below (s₁.setTop (entryFrame m #[(.long cc), (.int p1), (.int p2)] maxLocals)) t := fun t kt => pre210 t (st211.trans kt)
            have pre213 : ∀ t, Steps p.tables e below (T211.setTop (mkF m 234 #[.val (.long cc), .second, .val (.int p1), .val (.int p2), .val (.int ch0), .val (.int ch1), .val (.int ch2), .val (.int (p2 &&& (3 : Int32))), .val (.ref b141), .val (.ref r187), .val (.int (1 : Int32)), .val (.int (1 : Int32)), .val (.int (1 : Int32))] [(.int (1 : Int32))])) t → Steps p.tables e below (s₁.setTop (entryFrame m #[(.long cc), (.int p1), (.int p2)] maxLocals)) t := fun t kt => pre212 t (by
              refine XS.ifNo X211.here hx rfl (hb hby at_226) rfl ((if0 _ _).trans (teq (by decide : (0 : Int32) = (0 : Int32))).2) ?_
              show Steps p.tables e below (T211.setTop (mkF m 229 #[.val (.long cc), .second, .val (.int p1), .val (.int p2), .val (.int ch0), .val (.int ch1), .val (.int ch2), .val (.int (p2 &&& (3 : Int32))), .val (.ref b141), .val (.ref r187), .val (.int (1 : Int32)), .val (.int (1 : Int32)), .val (.int (1 : Int32))] [])) _
              refine XS.iconst X211.here hx rfl (hb hby at_229) ?_
              show Steps p.tables e below (T211.setTop (mkF m 230 #[.val (.long cc), .second, .val (.int p1), .val (.int p2), .val (.int ch0), .val (.int ch1), .val (.int ch2), .val (.int (p2 &&& (3 : Int32))), .val (.ref b141), .val (.ref r187), .val (.int (1 : Int32)), .val (.int (1 : Int32)), .val (.int (1 : Int32))] [(.int (1 : Int32))])) _
              refine XS.goto X211.here hx rfl (pc0 := 230) (pc' := 234) rfl (hb hby at_230) (by decide) (by decide) ?_
              show Steps p.tables e below (T211.setTop (mkF m 234 #[.val (.long cc), .second, .val (.int p1), .val (.int p2), .val (.int ch0), .val (.int ch1), .val (.int ch2), .val (.int (p2 &&& (3 : Int32))), .val (.ref b141), .val (.ref r187), .val (.int (1 : Int32)), .val (.int (1 : Int32)), .val (.int (1 : Int32))] [(.int (1 : Int32))])) _
              exact kt)
            obtain ⟨fs, hr, hrun, hended, hW, hsame⟩ := X211.leave (v := (some (.int (1 : Int32)))) (fun h => by rw [Bd.returns] at h; cases h)
            refine ⟨_, _, pre213 _ ?_, hrun, hended, _, _, rfl, ?_, ReturnedEndW.of_narrow ⟨_, rfl⟩ hW (hsame.mono (by decide) (by decide))⟩
            · exact retN X211 hx (t := .boolean) Bd.returns (by simp) (hb hby at_234) hr
            · show Q0 Z  h0 n0 _ T211.heap T211.vm _
              rw [e211q]
              exact ⟨rfl, N211⟩
          · have pre215 : ∀ t, Steps p.tables e below (T201.setTop (mkF m 190 #[.val (.long cc), .second, .val (.int p1), .val (.int p2), .val (.int ch0), .val (.int ch1), .val (.int ch2), .val (.int (p2 &&& (3 : Int32))), .val (.ref b141), .val (.ref r187), .val (.int (1 : Int32)), .val (.int (1 : Int32)), .val (.int (1 : Int32))] [(.ref r187)])) t → Steps p.tables e below (s₁.setTop (entryFrame m #[(.long cc), (.int p1), (.int p2)] maxLocals)) t := fun t kt => pre209 t (by
              refine XS.ifNo X201.here hx rfl (hb hby at_185) rfl ((if0 _ _).trans (flt (mt (lw_gt _ _).mp c185_11)).2.2.1) ?_
              show Steps p.tables e below (T201.setTop (mkF m 188 #[.val (.long cc), .second, .val (.int p1), .val (.int p2), .val (.int ch0), .val (.int ch1), .val (.int ch2), .val (.int (p2 &&& (3 : Int32))), .val (.ref b141), .val (.ref r187), .val (.int (1 : Int32)), .val (.int (1 : Int32)), .val (.int (1 : Int32))] [])) _
              refine XS.aload X201.here hx rfl (hb hby at_188) rfl rfl ?_
              show Steps p.tables e below (T201.setTop (mkF m 190 #[.val (.long cc), .second, .val (.int p1), .val (.int p2), .val (.int ch0), .val (.int ch1), .val (.int ch2), .val (.int (p2 &&& (3 : Int32))), .val (.ref b141), .val (.ref r187), .val (.int (1 : Int32)), .val (.int (1 : Int32)), .val (.int (1 : Int32))] [(.ref r187)])) _
              exact kt)
            obtain ⟨cq216, kq216, q216a, q216b, q216c⟩ := isOf hZ e201q (Ex187)
            obtain ⟨_, _, ⟨T216, L216, k216, n216⟩, -, X216, ⟨Lc216, hQ216, l216, y216, z216⟩, st216⟩ := X201.virtualBack hx (y := (⟨"com/example/hoopoe/hoopoe/core/eval/Measure", "value", "()D"⟩ : MethodName)) (z := (⟨"com/example/hoopoe/hoopoe/core/eval/Measure", "value", "()D"⟩ : MethodName)) hown (mvT hZ (hw _ (List.mem_of_getElem? (i := 53) rfl))) (mvT hZ (hw _ (List.mem_of_getElem? (i := 54) rfl))) (notFace_of_selects (args := #[]) (mvT hZ (hw _ (List.mem_of_getElem? (i := 56) rfl)))) (mvT hZ (hw _ (List.mem_of_getElem? (i := 56) rfl))) (mvT hZ (hw _ (List.mem_of_getElem? (i := 55) rfl))) (by decide) (backOf (W := 0) (rmg_value l Z a0 hw [] r187 _ T187.heap n0 Zf193 Fv187) hZ (hw _ (List.mem_of_getElem? (i := 57) rfl)) (hw _ (List.mem_of_getElem? (i := 24) rfl)) (by decide) (by decide)) q216a q216c (g := (mkF m 190 #[.val (.long cc), .second, .val (.int p1), .val (.int p2), .val (.int ch0), .val (.int ch1), .val (.int ch2), .val (.int (p2 &&& (3 : Int32))), .val (.ref b141), .val (.ref r187), .val (.int (1 : Int32)), .val (.int (1 : Int32)), .val (.int (1 : Int32))] [(.ref r187)])) rfl (by rw [hml]; rfl) (Steps.refl _) (argsL := []) (rest := []) (lenOf pd__28_29D rfl) rfl (by show 2 * 0 + _ ≤ _; exact Nat.le_of_eq rfl) (hb hby at_190) (fun _ _ => ⟨rfl, e201q, (by decide : 4 + 0 ≤ _), (by decide : 13 + 0 ≤ _)⟩)
            dsimp only [Pt.U, Pt.locs, Pt.cells, Pt.slots] at X216 l216 y216 z216 st216 hQ216
            subst l216 y216 z216
            obtain ⟨rfl, N216q, e216q⟩ := hQ216
            have N216 := Fr.app N201 N216q
            have pre217 : ∀ t, Steps p.tables e below (T216.setTop (mkF m 193 #[.val (.long cc), .second, .val (.int p1), .val (.int p2), .val (.int ch0), .val (.int ch1), .val (.int ch2), .val (.int (p2 &&& (3 : Int32))), .val (.ref b141), .val (.ref r187), .val (.int (1 : Int32)), .val (.int (1 : Int32)), .val (.int (1 : Int32))] [(.double (FP.l2d cc))])) t → Steps p.tables e below (s₁.setTop (entryFrame m #[(.long cc), (.int p1), (.int p2)] maxLocals)) t := fun t kt => pre215 t (st216.trans kt)
            have pre218 : ∀ t, Steps p.tables e below (T216.setTop (mkF m 223 #[.val (.long cc), .second, .val (.int p1), .val (.int p2), .val (.int ch0), .val (.int ch1), .val (.int ch2), .val (.int (p2 &&& (3 : Int32))), .val (.ref b141), .val (.ref r187), .val (.int (1 : Int32)), .val (.int (1 : Int32)), .val (.int (1 : Int32))] [(.ref r187)])) t → Steps p.tables e below (s₁.setTop (entryFrame m #[(.long cc), (.int p1), (.int p2)] maxLocals)) t := fun t kt => pre217 t (by
              refine own_d2l X216.here hx rfl (hb hby at_193) rfl ?_
              show Steps p.tables e below (T216.setTop (mkF m 194 #[.val (.long cc), .second, .val (.int p1), .val (.int p2), .val (.int ch0), .val (.int ch1), .val (.int ch2), .val (.int (p2 &&& (3 : Int32))), .val (.ref b141), .val (.ref r187), .val (.int (1 : Int32)), .val (.int (1 : Int32)), .val (.int (1 : Int32))] [(.long (FP.d2l (FP.l2d cc)))])) _
              refine XS.lloadN X216.here hx rfl (hb hby at_194) rfl ?_
              show Steps p.tables e below (T216.setTop (mkF m 195 #[.val (.long cc), .second, .val (.int p1), .val (.int p2), .val (.int ch0), .val (.int ch1), .val (.int ch2), .val (.int (p2 &&& (3 : Int32))), .val (.ref b141), .val (.ref r187), .val (.int (1 : Int32)), .val (.int (1 : Int32)), .val (.int (1 : Int32))] [(.long cc), (.long (FP.d2l (FP.l2d cc)))])) _
              refine XS.lcmp X216.here hx rfl (hb hby at_195) rfl ?_
              show Steps p.tables e below (T216.setTop (mkF m 196 #[.val (.long cc), .second, .val (.int p1), .val (.int p2), .val (.int ch0), .val (.int ch1), .val (.int ch2), .val (.int (p2 &&& (3 : Int32))), .val (.ref b141), .val (.ref r187), .val (.int (1 : Int32)), .val (.int (1 : Int32)), .val (.int (1 : Int32))] [(.int (lcmpW (FP.d2l (FP.l2d cc)) cc))])) _
              refine XS.ifNo X216.here hx rfl (hb hby at_196) rfl ((if0 _ _).trans (teq ((lw_eq _ _).mpr (own_exact cc c177_10 c185_11 : (FP.d2l (FP.l2d cc)) = cc))).2) ?_
              show Steps p.tables e below (T216.setTop (mkF m 199 #[.val (.long cc), .second, .val (.int p1), .val (.int p2), .val (.int ch0), .val (.int ch1), .val (.int ch2), .val (.int (p2 &&& (3 : Int32))), .val (.ref b141), .val (.ref r187), .val (.int (1 : Int32)), .val (.int (1 : Int32)), .val (.int (1 : Int32))] [])) _
              refine XS.iconst X216.here hx rfl (hb hby at_199) ?_
              show Steps p.tables e below (T216.setTop (mkF m 200 #[.val (.long cc), .second, .val (.int p1), .val (.int p2), .val (.int ch0), .val (.int ch1), .val (.int ch2), .val (.int (p2 &&& (3 : Int32))), .val (.ref b141), .val (.ref r187), .val (.int (1 : Int32)), .val (.int (1 : Int32)), .val (.int (1 : Int32))] [(.int (1 : Int32))])) _
              refine XS.goto X216.here hx rfl (pc0 := 200) (pc' := 204) rfl (hb hby at_200) (by decide) (by decide) ?_
              show Steps p.tables e below (T216.setTop (mkF m 204 #[.val (.long cc), .second, .val (.int p1), .val (.int p2), .val (.int ch0), .val (.int ch1), .val (.int ch2), .val (.int (p2 &&& (3 : Int32))), .val (.ref b141), .val (.ref r187), .val (.int (1 : Int32)), .val (.int (1 : Int32)), .val (.int (1 : Int32))] [(.int (1 : Int32))])) _
              refine XS.istore X216.here hx rfl (hb hby at_204) rfl (l' := #[.val (.long cc), .second, .val (.int p1), .val (.int p2), .val (.int ch0), .val (.int ch1), .val (.int ch2), .val (.int (p2 &&& (3 : Int32))), .val (.ref b141), .val (.ref r187), .val (.int (1 : Int32)), .val (.int (1 : Int32)), .val (.int (1 : Int32))]) rfl ?_
              show Steps p.tables e below (T216.setTop (mkF m 206 #[.val (.long cc), .second, .val (.int p1), .val (.int p2), .val (.int ch0), .val (.int ch1), .val (.int ch2), .val (.int (p2 &&& (3 : Int32))), .val (.ref b141), .val (.ref r187), .val (.int (1 : Int32)), .val (.int (1 : Int32)), .val (.int (1 : Int32))] [])) _
              refine XS.iload X216.here hx rfl (hb hby at_206) rfl ?_
              show Steps p.tables e below (T216.setTop (mkF m 208 #[.val (.long cc), .second, .val (.int p1), .val (.int p2), .val (.int ch0), .val (.int ch1), .val (.int ch2), .val (.int (p2 &&& (3 : Int32))), .val (.ref b141), .val (.ref r187), .val (.int (1 : Int32)), .val (.int (1 : Int32)), .val (.int (1 : Int32))] [(.int (1 : Int32))])) _
              refine XS.ifNo X216.here hx rfl (hb hby at_208) rfl ((if0 _ _).trans (feq (by decide : ¬ ((1 : Int32) = (0 : Int32)))).1) ?_
              show Steps p.tables e below (T216.setTop (mkF m 211 #[.val (.long cc), .second, .val (.int p1), .val (.int p2), .val (.int ch0), .val (.int ch1), .val (.int ch2), .val (.int (p2 &&& (3 : Int32))), .val (.ref b141), .val (.ref r187), .val (.int (1 : Int32)), .val (.int (1 : Int32)), .val (.int (1 : Int32))] [])) _
              refine XS.iload X216.here hx rfl (hb hby at_211) rfl ?_
              show Steps p.tables e below (T216.setTop (mkF m 213 #[.val (.long cc), .second, .val (.int p1), .val (.int p2), .val (.int ch0), .val (.int ch1), .val (.int ch2), .val (.int (p2 &&& (3 : Int32))), .val (.ref b141), .val (.ref r187), .val (.int (1 : Int32)), .val (.int (1 : Int32)), .val (.int (1 : Int32))] [(.int (1 : Int32))])) _
              refine XS.ifNo X216.here hx rfl (hb hby at_213) rfl ((if0 _ _).trans (feq (by decide : ¬ ((1 : Int32) = (0 : Int32)))).1) ?_
              show Steps p.tables e below (T216.setTop (mkF m 216 #[.val (.long cc), .second, .val (.int p1), .val (.int p2), .val (.int ch0), .val (.int ch1), .val (.int ch2), .val (.int (p2 &&& (3 : Int32))), .val (.ref b141), .val (.ref r187), .val (.int (1 : Int32)), .val (.int (1 : Int32)), .val (.int (1 : Int32))] [])) _
              refine XS.iload X216.here hx rfl (hb hby at_216) rfl ?_
              show Steps p.tables e below (T216.setTop (mkF m 218 #[.val (.long cc), .second, .val (.int p1), .val (.int p2), .val (.int ch0), .val (.int ch1), .val (.int ch2), .val (.int (p2 &&& (3 : Int32))), .val (.ref b141), .val (.ref r187), .val (.int (1 : Int32)), .val (.int (1 : Int32)), .val (.int (1 : Int32))] [(.int (1 : Int32))])) _
              refine XS.ifNo X216.here hx rfl (hb hby at_218) rfl ((if0 _ _).trans (feq (by decide : ¬ ((1 : Int32) = (0 : Int32)))).1) ?_
              show Steps p.tables e below (T216.setTop (mkF m 221 #[.val (.long cc), .second, .val (.int p1), .val (.int p2), .val (.int ch0), .val (.int ch1), .val (.int ch2), .val (.int (p2 &&& (3 : Int32))), .val (.ref b141), .val (.ref r187), .val (.int (1 : Int32)), .val (.int (1 : Int32)), .val (.int (1 : Int32))] [])) _
              refine XS.aload X216.here hx rfl (hb hby at_221) rfl rfl ?_
              show Steps p.tables e below (T216.setTop (mkF m 223 #[.val (.long cc), .second, .val (.int p1), .val (.int p2), .val (.int ch0), .val (.int ch1), .val (.int ch2), .val (.int (p2 &&& (3 : Int32))), .val (.ref b141), .val (.ref r187), .val (.int (1 : Int32)), .val (.int (1 : Int32)), .val (.int (1 : Int32))] [(.ref r187)])) _
              exact kt)
            obtain ⟨cq219, kq219, q219a, q219b, q219c⟩ := isOf hZ e216q (Ex187)
            obtain ⟨_, _, ⟨T219, L219, k219, n219⟩, -, X219, ⟨Lc219, hQ219, l219, y219, z219⟩, st219⟩ := X216.virtualBack hx (y := (⟨"com/example/hoopoe/hoopoe/core/eval/Measure", "decimals", "()I"⟩ : MethodName)) (z := (⟨"com/example/hoopoe/hoopoe/core/eval/Measure", "decimals", "()I"⟩ : MethodName)) hown (mvT hZ (hw _ (List.mem_of_getElem? (i := 60) rfl))) (mvT hZ (hw _ (List.mem_of_getElem? (i := 61) rfl))) (notFace_of_selects (args := #[]) (mvT hZ (hw _ (List.mem_of_getElem? (i := 63) rfl)))) (mvT hZ (hw _ (List.mem_of_getElem? (i := 63) rfl))) (mvT hZ (hw _ (List.mem_of_getElem? (i := 62) rfl))) (by decide) (backOf (W := 0) (rmg_decimals l Z a0 hw [] r187 _ T187.heap n0 Zf193 Fd187) hZ (hw _ (List.mem_of_getElem? (i := 64) rfl)) (hw _ (List.mem_of_getElem? (i := 24) rfl)) (by decide) (by decide)) q219a q219c (g := (mkF m 223 #[.val (.long cc), .second, .val (.int p1), .val (.int p2), .val (.int ch0), .val (.int ch1), .val (.int ch2), .val (.int (p2 &&& (3 : Int32))), .val (.ref b141), .val (.ref r187), .val (.int (1 : Int32)), .val (.int (1 : Int32)), .val (.int (1 : Int32))] [(.ref r187)])) rfl (by rw [hml]; rfl) (Steps.refl _) (argsL := []) (rest := []) (lenOf pd__28_29I rfl) rfl (by show 2 * 0 + _ ≤ _; exact Nat.le_of_eq rfl) (hb hby at_223) (fun _ _ => ⟨rfl, e216q, (by decide : 4 + 0 ≤ _), (by decide : 13 + 0 ≤ _)⟩)
            dsimp only [Pt.U, Pt.locs, Pt.cells, Pt.slots] at X219 l219 y219 z219 st219 hQ219
            subst l219 y219 z219
            obtain ⟨rfl, N219q, e219q⟩ := hQ219
            have N219 := Fr.app N216 N219q
            have pre220 : ∀ t, Steps p.tables e below (T219.setTop (mkF m 226 #[.val (.long cc), .second, .val (.int p1), .val (.int p2), .val (.int ch0), .val (.int ch1), .val (.int ch2), .val (.int (p2 &&& (3 : Int32))), .val (.ref b141), .val (.ref r187), .val (.int (1 : Int32)), .val (.int (1 : Int32)), .val (.int (1 : Int32))] [(.int (0 : Int32))])) t → Steps p.tables e below (s₁.setTop (entryFrame m #[(.long cc), (.int p1), (.int p2)] maxLocals)) t := fun t kt => pre218 t (st219.trans kt)
            have pre221 : ∀ t, Steps p.tables e below (T219.setTop (mkF m 234 #[.val (.long cc), .second, .val (.int p1), .val (.int p2), .val (.int ch0), .val (.int ch1), .val (.int ch2), .val (.int (p2 &&& (3 : Int32))), .val (.ref b141), .val (.ref r187), .val (.int (1 : Int32)), .val (.int (1 : Int32)), .val (.int (1 : Int32))] [(.int (1 : Int32))])) t → Steps p.tables e below (s₁.setTop (entryFrame m #[(.long cc), (.int p1), (.int p2)] maxLocals)) t := fun t kt => pre220 t (by
              refine XS.ifNo X219.here hx rfl (hb hby at_226) rfl ((if0 _ _).trans (teq (by decide : (0 : Int32) = (0 : Int32))).2) ?_
              show Steps p.tables e below (T219.setTop (mkF m 229 #[.val (.long cc), .second, .val (.int p1), .val (.int p2), .val (.int ch0), .val (.int ch1), .val (.int ch2), .val (.int (p2 &&& (3 : Int32))), .val (.ref b141), .val (.ref r187), .val (.int (1 : Int32)), .val (.int (1 : Int32)), .val (.int (1 : Int32))] [])) _
              refine XS.iconst X219.here hx rfl (hb hby at_229) ?_
              show Steps p.tables e below (T219.setTop (mkF m 230 #[.val (.long cc), .second, .val (.int p1), .val (.int p2), .val (.int ch0), .val (.int ch1), .val (.int ch2), .val (.int (p2 &&& (3 : Int32))), .val (.ref b141), .val (.ref r187), .val (.int (1 : Int32)), .val (.int (1 : Int32)), .val (.int (1 : Int32))] [(.int (1 : Int32))])) _
              refine XS.goto X219.here hx rfl (pc0 := 230) (pc' := 234) rfl (hb hby at_230) (by decide) (by decide) ?_
              show Steps p.tables e below (T219.setTop (mkF m 234 #[.val (.long cc), .second, .val (.int p1), .val (.int p2), .val (.int ch0), .val (.int ch1), .val (.int ch2), .val (.int (p2 &&& (3 : Int32))), .val (.ref b141), .val (.ref r187), .val (.int (1 : Int32)), .val (.int (1 : Int32)), .val (.int (1 : Int32))] [(.int (1 : Int32))])) _
              exact kt)
            obtain ⟨fs, hr, hrun, hended, hW, hsame⟩ := X219.leave (v := (some (.int (1 : Int32)))) (fun h => by rw [Bd.returns] at h; cases h)
            refine ⟨_, _, pre221 _ ?_, hrun, hended, _, _, rfl, ?_, ReturnedEndW.of_narrow ⟨_, rfl⟩ hW (hsame.mono (by decide) (by decide))⟩
            · exact retN X219 hx (t := .boolean) Bd.returns (by simp) (hb hby at_234) hr
            · show Q0 Z  h0 n0 _ T219.heap T219.vm _
              rw [e219q]
              exact ⟨rfl, N219⟩
set_option maxRecDepth 65536 in
set_option maxHeartbeats 40000000 in
theorem comes_1 {Post : Tables → Env → Array Value → State → Outcome → State → Prop} (hpost : ∀ tb e args s v u, (limb_1_1.after args s (.returned v) u = true ∧ limb_1_2.after args s (.returned v) u = true ∧ True) → ReturnedEndW s (.returned v) u (Jvm.fieldLocs frame_1_writes args s ++ Jvm.arrayLocs frame_1_arrays args s ++ Jvm.staticLocs frame_1_statics s) 24 1152 → Post tb e args s (.returned v) u) :
    ArmFor flags0 classFile x code maxLocals ret World_1 tables_1 room_1 Calls_1 rest_1 Pre_1 Post := by
  intro l hfl _ _ p e ha hc hk s m args below hf hA hF happ hP
  obtain ⟨hcalls, hrest, hpre⟩ := hP
  obtain ⟨-, -, -, hnamed, -, -, -, hat⟩ := (Spec.applies_iff hf).mp happ
  obtain ⟨hg, hn⟩ := and_e (Cond.before_iff.mp (show (Jvm.Cond.and given_1 narrow_1).before args s = true from hpre))
  obtain ⟨gc, ga⟩ := and_e hg
  obtain ⟨g0, r0⟩ := and_e ga
  obtain ⟨g1, r1⟩ := and_e r0
  obtain ⟨w0, w1, w2, rfl⟩ : ∃ w0 w1 w2 : Value, args = #[w0, w1, w2] := by
    have hs : args.size = 3 := by simpa [Cond.value, given_1] using gc
    obtain ⟨L⟩ := args
    match L, hs with
    | [w0, w1, w2], _ => exact ⟨w0, w1, w2, rfl⟩
  have hw := fun d (hd : d ∈ tables_1) => atoms_spec (ws := Jvm.Cond.code x code maxLocals ret :: tables_1) hat d (List.mem_cons_of_mem _ hd)
  have hfit : Fit s := fun {y c} hc i hi => by
    obtain ⟨ha, rfl⟩ := Array.getElem?_eq_some_iff.mp hc
    have q := List.all_eq_true.mp ((Array.all_eq_true_iff_forall_mem.mp hF) _ (Array.getElem_mem ha)) i (List.mem_range.mpr hi)
    simpa [Array.getElem?_eq_getElem hi] using q
  obtain ⟨hsets, hown0⟩ := atoms_of _ (rest_1_c_eq ▸ (show rest_1_c.before _ s = true from hrest))
  have hr0 := Cond.before_iff.mp hown0
  obtain ⟨i0, ei0⟩ := isL_v g0
  obtain rfl : w0 = (.long i0) := Option.some.inj ei0
  obtain ⟨i1, ei1⟩ := is_v g1
  obtain rfl : w1 = (.int i1) := Option.some.inj ei1
  obtain ⟨i2, ei2⟩ := is_v r1
  obtain rfl : w2 = (.int i2) := Option.some.inj ei2
  obtain ⟨z0, ez0⟩ := is_v (Cond.before_iff.mp (hsets _ (List.mem_of_getElem? (i := 1) rfl)))
  have S0 := Sta.start ez0 (Or.inl (hsets _ (List.mem_of_getElem? (i := 0) rfl)))
  have hz : ¬ z0 = (0 : Int32) := fun q => by
    have w2 := not_v (Cond.before_iff.mp (hsets _ (List.mem_of_getElem? (i := 2) rfl)))
    subst q
    rw [eq_i ez0 (Term.int_eval (0)) rfl] at w2; exact absurd w2 (by decide)
  obtain ⟨n, o, h1, h2, h3, _, L, rfl, ⟨rfl, N⟩, hq⟩ := rm0 l s _ hw tables_1 i0 i1 i2 z0 [] rfl s.heap s.heap.size (Nat.le_refl _) (Old.start s) S0 hz (show Jvm.Lit.constHeld s "java/lang/String" 7 from hcalls.1 _ (List.mem_of_getElem? (i := 0) rfl)) (hsets _ (List.mem_of_getElem? (i := 2) rfl)) p e ha hc hk s m _ below hf ((Spec.applies_iff_loose hf).mp happ).1 ⟨rfl, State.Warmed39.refl s, rfl, IB.start⟩ trivial
  refine ⟨n, _, h1, h2, h3, hpost _ _ _ _ _ _ ⟨Cond.after_iff.mpr rfl, Cond.after_iff.mpr (eq_i res_at (Term.int_eval (1)) rfl), trivial⟩ ⟨hq.1, hq.2.1, hq.2.2.1, (hq.2.2.2.sift fun y hy => Or.inr (N y hy)).mono (by decide) (by decide)⟩⟩
theorem main_1_1 : Claimed_1_1 := comes_1 fun _ _ _ _ _ _ h hF => ⟨h.1, hF⟩
theorem main_1_2 : Claimed_1_2 := comes_1 fun _ _ _ _ _ _ h hF => ⟨h.2.1, hF⟩
end Jvm.Pilot.@@N@@
namespace Jvm.Pilot.@@N@@
open Jvm Jvm.ClassFile Sem Op Lib Jvm.Free Jvm.Stand Jvm.Pilot.@@N@@.Jvm.D
/-! MADE BY PROGRAM (witnessworld.py) out of the Statement's table words and the real class files: 21 classes; the members and pool entries that the words name. The judged class is class 1, her method 1. -/
namespace start1
open Jvm.ClassFile
def u (s : String) : CpInfo := .utf8 (stringToUtf16 s)
/-- a pool by its gaps: so many unusable entries, then the entry; so many at the end -/
def gap : Nat → List CpInfo → List CpInfo
  | 0, r => r
  | n + 1, r => .unusable :: gap n r
def poolList (es : List (Nat × CpInfo)) (last : Nat) : List CpInfo := es.foldr (fun e r => gap e.1 (e.2 :: r)) (gap last [])
def pool (es : List (Nat × CpInfo)) (last : Nat) : Array CpInfo := ⟨poolList es last⟩
def fileOf (pool : Array CpInfo) (this : Nat) (attrs : Array Attribute := #[]) (ms : Array MethodInfo := #[]) (fl : Nat := 33) (sup : Nat := 0) (ifs : Array Nat := #[]) (fds : Array FieldInfo := #[]) : ClassFile where
  minorVersion := 0
  majorVersion := 65
  constantPool := pool
  accessFlags := fl
  thisClass := this
  superClass := sup
  interfaces := ifs
  fields := fds
  methods := ms
  attributes := attrs
def plain (name : String) (sup : Option ClassId) : Class where
  name := name
  kind := .ordinary
  loader := none
  accessFlags := 33
  super := sup
  interfaces := #[]
  cf := none
  fields := #[]
  methods := #[]
  instanceTypes := #[]
  staticTypes := #[]
  resolved := #[]
  callSites := []
  init := .initialized
  statics := none
  mirror := none

def pool0 : Array CpInfo := pool [(5, u "<init>"), (0, u "()V"), (1, .class_ 10), (1, u "java/lang/Object")] 113

def k0c0 : Code := { maxStack := 0, maxLocals := 1, code := object_method_1_code, exceptionTable := #[], attributes := #[] }
def k0m0 : Method := { name := "<init>", desc := "()V", sig := { parameters := [], returnType := none }, accessFlags := 1, code := some k0c0 }
/-- java/lang/Object -/
def k0 : Class := { plain "java/lang/Object" none with
  accessFlags := 33
  interfaces := #[]
  cf := some (fileOf pool0 8 #[] #[{ accessFlags := 1, nameIndex := 5, descriptorIndex := 6, attributes := #[] }] 33 0 #[] #[])
  fields := #[]
  methods := #[k0m0]
  instanceTypes := #[]
  staticTypes := #[]
  resolved := Array.replicate 124 none
  statics := none }

def pool1 : Array CpInfo := pool [(2, .class_ 4), (1, u "java/lang/Object"), (0, u "<init>"), (0, u "()V"), (0, .class_ 8), (0, u "java/lang/String"), (0, .methodref 7 10), (0, .nameAndType 5 11), (0, u "([C)V"), (0, .methodref 7 13), (0, .nameAndType 14 15), (0, u "valueOf"), (0, u "(C)Ljava/lang/String;"), (0, .methodref 17 18), (0, .class_ 19), (0, .nameAndType 20 21), (0, u "com/example/hoopoe/hoopoe/core/eval/Measure"), (0, u "count"), (0, u "(Ljava/lang/String;J)Lcom/example/hoopoe/hoopoe/core/eval/Measure;"), (0, .methodref 17 23), (0, .nameAndType 24 25), (0, u "name"), (0, u "()Ljava/lang/String;"), (0, .methodref 7 27), (0, .nameAndType 28 29), (0, u "equals"), (0, u "(Ljava/lang/Object;)Z"), (0, .methodref 17 31), (0, .nameAndType 32 33), (0, u "value"), (0, u "()D"), (0, .long 18437736874454810624), (1, .long 9007199254740992), (1, .methodref 17 39), (0, .nameAndType 40 41), (0, u "decimals"), (0, u "()I"), (0, .class_ 43), (0, u "com/example/hoopoe/hoopoe/core/eval/MeasureCountPinLaw"), (2, u "law"), (0, u "(JII)Z")] 3

def k1m0 : Method := { name := "<init>", desc := "()V", sig := { parameters := [], returnType := none }, accessFlags := 1, code := none }
def k1c1 : Code := { maxStack := 6, maxLocals := 13, code := code, exceptionTable := #[], attributes := #[] }
def k1m1 : Method := { name := "law", desc := "(JII)Z", sig := { parameters := [.long, .int, .int], returnType := some .boolean }, accessFlags := 9, code := some k1c1 }
/-- com/example/hoopoe/hoopoe/core/eval/MeasureCountPinLaw -/
def k1 : Class := { plain "com/example/hoopoe/hoopoe/core/eval/MeasureCountPinLaw" (some 0) with
  accessFlags := 49
  interfaces := #[]
  cf := some (fileOf pool1 42 #[] #[{ accessFlags := 1, nameIndex := 5, descriptorIndex := 6, attributes := #[] }, { accessFlags := 9, nameIndex := 46, descriptorIndex := 47, attributes := #[] }] 49 2 #[] #[])
  fields := #[]
  methods := #[k1m0, k1m1]
  instanceTypes := #[]
  staticTypes := #[]
  resolved := Array.replicate 51 none
  statics := none }

def pool2 : Array CpInfo := pool [(1, .class_ 2), (0, u "java/io/Serializable"), (0, .class_ 4), (0, u "java/lang/Object")] 2

/-- java/io/Serializable -/
def k2 : Class := { plain "java/io/Serializable" (some 0) with
  accessFlags := 1537
  interfaces := #[]
  cf := some (fileOf pool2 1 #[] #[] 1537 3 #[] #[])
  fields := #[]
  methods := #[]
  instanceTypes := #[]
  staticTypes := #[]
  resolved := Array.replicate 7 none
  statics := none }

def pool3 : Array CpInfo := pool [(1, .class_ 2), (0, u "java/lang/Comparable"), (0, .class_ 4), (0, u "java/lang/Object")] 7

/-- java/lang/Comparable -/
def k3 : Class := { plain "java/lang/Comparable" (some 0) with
  accessFlags := 1537
  interfaces := #[]
  cf := some (fileOf pool3 1 #[] #[] 1537 3 #[] #[])
  fields := #[]
  methods := #[]
  instanceTypes := #[]
  staticTypes := #[]
  resolved := Array.replicate 12 none
  statics := none }

def pool4 : Array CpInfo := pool [(2, .class_ 4), (1, u "java/lang/CharSequence"), (42, .class_ 48), (0, u "java/lang/CharSequence$1CodePointIterator"), (10, .class_ 60), (0, u "java/lang/CharSequence$1CharIterator"), (5, .class_ 67), (0, u "java/lang/Object")] 63

/-- java/lang/CharSequence -/
def k4 : Class := { plain "java/lang/CharSequence" (some 0) with
  accessFlags := 1537
  interfaces := #[]
  cf := some (fileOf pool4 2 #[.nestMembers #[47, 59]] #[] 1537 66 #[] #[])
  fields := #[]
  methods := #[]
  instanceTypes := #[]
  staticTypes := #[]
  resolved := Array.replicate 131 none
  statics := none }

def pool5 : Array CpInfo := pool [(1, .class_ 2), (0, u "java/lang/constant/Constable"), (0, .class_ 4), (0, u "java/lang/Object")] 6

/-- java/lang/constant/Constable -/
def k5 : Class := { plain "java/lang/constant/Constable" (some 0) with
  accessFlags := 1537
  interfaces := #[]
  cf := some (fileOf pool5 1 #[] #[] 1537 3 #[] #[])
  fields := #[]
  methods := #[]
  instanceTypes := #[]
  staticTypes := #[]
  resolved := Array.replicate 11 none
  statics := none }

def pool6 : Array CpInfo := pool [(1, .class_ 2), (0, u "java/lang/constant/ConstantDesc"), (0, .class_ 4), (0, u "java/lang/Object")] 32

/-- java/lang/constant/ConstantDesc -/
def k6 : Class := { plain "java/lang/constant/ConstantDesc" (some 0) with
  accessFlags := 1537
  interfaces := #[]
  cf := some (fileOf pool6 1 #[] #[] 1537 3 #[] #[])
  fields := #[]
  methods := #[]
  instanceTypes := #[]
  staticTypes := #[]
  resolved := Array.replicate 37 none
  statics := none }

def pool7 : Array CpInfo := pool [(1, .methodref 2 3), (0, .class_ 4), (0, .nameAndType 5 6), (0, u "java/lang/Object"), (0, u "<init>"), (0, u "()V"), (0, .string 8), (0, u ""), (0, .fieldref 10 11), (0, .class_ 12), (0, .nameAndType 13 14), (0, u "java/lang/String"), (0, u "value"), (0, u "[B"), (0, .fieldref 10 16), (0, .nameAndType 17 18), (0, u "coder"), (0, u "B"), (2, u "hash"), (0, u "I"), (2, u "hashIsZero"), (0, u "Z"), (0, .methodref 10 28), (0, .nameAndType 5 29), (0, u "([CIILjava/lang/Void;)V"), (8, .fieldref 10 39), (0, .nameAndType 40 26), (0, u "COMPACT_STRINGS"), (1, .class_ 44), (1, u "java/lang/StringUTF16"), (0, u "compress"), (1, .methodref 42 48), (0, .nameAndType 49 50), (0, u "coderFromArrayLen"), (0, u "([BI)B"), (2, u "toBytes"), (53, .class_ 109), (1, u "java/lang/StringLatin1"), (67, .methodref 42 178), (0, .nameAndType 45 179), (0, u "([CII)[B"), (29, .methodref 10 210), (0, .nameAndType 5 211), (0, u "([BB)V"), (157, u "(C)Z"), (173, u "equals"), (29, u "(Ljava/lang/Object;)Z"), (1, .class_ 576), (0, u "java/lang/CharSequence"), (22, u "CASE_INSENSITIVE_ORDER"), (0, u "Ljava/util/Comparator;"), (181, u "valueOf"), (0, u "(C)Ljava/lang/String;"), (226, u "([C)V"), (4, .methodref 107 1016), (0, .nameAndType 1017 369), (0, u "canEncode"), (0, .methodref 107 1019), (0, .nameAndType 53 1020), (0, u "(C)[B"), (80, u "serialPersistentFields"), (0, u "[Ljava/io/ObjectStreamField;"), (0, .class_ 1104), (0, u "java/lang/String$CaseInsensitiveComparator"), (1, .class_ 1107), (0, u "java/io/Serializable"), (0, .class_ 1109), (0, u "java/lang/Comparable"), (0, .class_ 1111), (0, u "java/lang/constant/Constable"), (0, .class_ 1113), (0, u "java/lang/constant/ConstantDesc"), (2, u "serialVersionUID"), (0, u "J"), (3, u "REPL"), (0, u "C"), (2, u "LATIN1"), (1, u "UTF16")] 323

def k7m0 : Method := { name := "<init>", desc := "()V", sig := { parameters := [], returnType := none }, accessFlags := 1, code := none }
def k7c1 : Code := { maxStack := 5, maxLocals := 2, code := jdk_42_method_3_code, exceptionTable := #[], attributes := #[] }
def k7m1 : Method := { name := "<init>", desc := "([C)V", sig := { parameters := [(.array .char)], returnType := none }, accessFlags := 1, code := some k7c1 }
def k7c2 : Code := { maxStack := 2, maxLocals := 3, code := jdk_42_method_66_code, exceptionTable := #[], attributes := #[] }
def k7m2 : Method := { name := "equals", desc := "(Ljava/lang/Object;)Z", sig := { parameters := [(.object "java/lang/Object")], returnType := some .boolean }, accessFlags := 1, code := some k7c2 }
def k7c3 : Code := { maxStack := 4, maxLocals := 1, code := jdk_42_method_139_code, exceptionTable := #[], attributes := #[] }
def k7m3 : Method := { name := "valueOf", desc := "(C)Ljava/lang/String;", sig := { parameters := [.char], returnType := some (.object "java/lang/String") }, accessFlags := 9, code := some k7c3 }
def k7c4 : Code := { maxStack := 4, maxLocals := 6, code := jdk_42_method_149_code, exceptionTable := #[], attributes := #[] }
def k7m4 : Method := { name := "<init>", desc := "([CIILjava/lang/Void;)V", sig := { parameters := [(.array .char), .int, .int, (.object "java/lang/Void")], returnType := none }, accessFlags := 2, code := some k7c4 }
def k7c5 : Code := { maxStack := 2, maxLocals := 3, code := jdk_42_method_151_code, exceptionTable := #[], attributes := #[] }
def k7m5 : Method := { name := "<init>", desc := "([BB)V", sig := { parameters := [(.array .byte), .byte], returnType := none }, accessFlags := 0, code := some k7c5 }
/-- java/lang/String -/
def k7 : Class := { plain "java/lang/String" (some 0) with
  accessFlags := 49
  interfaces := #[2, 3, 4, 5, 6]
  cf := some (fileOf pool7 10 #[.nestMembers #[1103]] #[{ accessFlags := 1, nameIndex := 5, descriptorIndex := 6, attributes := #[] }, { accessFlags := 1, nameIndex := 5, descriptorIndex := 1010, attributes := #[] }, { accessFlags := 1, nameIndex := 543, descriptorIndex := 573, attributes := #[] }, { accessFlags := 9, nameIndex := 782, descriptorIndex := 783, attributes := #[] }, { accessFlags := 2, nameIndex := 5, descriptorIndex := 29, attributes := #[] }, { accessFlags := 0, nameIndex := 5, descriptorIndex := 211, attributes := #[] }] 49 2 #[1106, 1108, 575, 1110, 1112] #[{ accessFlags := 18, nameIndex := 13, descriptorIndex := 14, attributes := #[] }, { accessFlags := 18, nameIndex := 17, descriptorIndex := 18, attributes := #[] }, { accessFlags := 2, nameIndex := 21, descriptorIndex := 22, attributes := #[] }, { accessFlags := 2, nameIndex := 25, descriptorIndex := 26, attributes := #[] }, { accessFlags := 26, nameIndex := 1116, descriptorIndex := 1117, attributes := #[] }, { accessFlags := 24, nameIndex := 40, descriptorIndex := 26, attributes := #[] }, { accessFlags := 26, nameIndex := 1101, descriptorIndex := 1102, attributes := #[] }, { accessFlags := 26, nameIndex := 1121, descriptorIndex := 1122, attributes := #[] }, { accessFlags := 25, nameIndex := 599, descriptorIndex := 600, attributes := #[] }, { accessFlags := 24, nameIndex := 1125, descriptorIndex := 18, attributes := #[] }, { accessFlags := 24, nameIndex := 1127, descriptorIndex := 18, attributes := #[] }])
  fields := #[{ name := "value", type := (.array .byte), accessFlags := 18, slot := 0, constantValue := 0 }, { name := "coder", type := .byte, accessFlags := 18, slot := 1, constantValue := 0 }, { name := "hash", type := .int, accessFlags := 2, slot := 2, constantValue := 0 }, { name := "hashIsZero", type := .boolean, accessFlags := 2, slot := 3, constantValue := 0 }, { name := "serialVersionUID", type := .long, accessFlags := 26, slot := 0, constantValue := 0 }, { name := "COMPACT_STRINGS", type := .boolean, accessFlags := 24, slot := 1, constantValue := 0 }, { name := "serialPersistentFields", type := (.array (.object "java/io/ObjectStreamField")), accessFlags := 26, slot := 2, constantValue := 0 }, { name := "REPL", type := .char, accessFlags := 26, slot := 3, constantValue := 0 }, { name := "CASE_INSENSITIVE_ORDER", type := (.object "java/util/Comparator"), accessFlags := 25, slot := 4, constantValue := 0 }, { name := "LATIN1", type := .byte, accessFlags := 24, slot := 5, constantValue := 0 }, { name := "UTF16", type := .byte, accessFlags := 24, slot := 6, constantValue := 0 }]
  methods := #[k7m0, k7m1, k7m2, k7m3, k7m4, k7m5]
  instanceTypes := #[(.array .byte), .byte, .int, .boolean]
  staticTypes := #[.long, .boolean, (.array (.object "java/io/ObjectStreamField")), .char, (.object "java/util/Comparator"), .byte, .byte]
  resolved := Array.replicate 1451 none
  statics := some 0 }

def pool8 : Array CpInfo := pool [(1, .methodref 2 3), (0, .class_ 4), (0, .nameAndType 5 6), (0, u "java/lang/Object"), (0, u "<init>"), (0, u "()V"), (0, .class_ 8), (0, u "java/lang/Record")] 13

def k8c0 : Code := { maxStack := 1, maxLocals := 1, code := jdk_30_method_1_code, exceptionTable := #[], attributes := #[] }
def k8m0 : Method := { name := "<init>", desc := "()V", sig := { parameters := [], returnType := none }, accessFlags := 4, code := some k8c0 }
/-- java/lang/Record -/
def k8 : Class := { plain "java/lang/Record" (some 0) with
  accessFlags := 1057
  interfaces := #[]
  cf := some (fileOf pool8 7 #[] #[{ accessFlags := 4, nameIndex := 5, descriptorIndex := 6, attributes := #[] }] 1057 2 #[] #[])
  fields := #[]
  methods := #[k8m0]
  instanceTypes := #[]
  staticTypes := #[]
  resolved := Array.replicate 22 none
  statics := none }

def pool9 : Array CpInfo := pool [(1, .methodref 2 3), (0, .class_ 4), (0, .nameAndType 5 6), (0, u "java/lang/Record"), (0, u "<init>"), (0, u "()V"), (0, .fieldref 8 9), (0, .class_ 10), (0, .nameAndType 11 12), (0, u "com/example/hoopoe/hoopoe/core/eval/Measure"), (0, u "name"), (0, u "Ljava/lang/String;"), (0, .fieldref 8 14), (0, .nameAndType 15 16), (0, u "value"), (0, u "D"), (0, .fieldref 8 18), (0, .nameAndType 19 20), (0, u "decimals"), (0, u "I"), (0, .methodref 8 22), (0, .nameAndType 5 23), (0, u "(Ljava/lang/String;DI)V"), (18, u "()Ljava/lang/String;"), (12, u "MEAN_DECIMALS"), (5, u "count"), (0, u "(Ljava/lang/String;J)Lcom/example/hoopoe/hoopoe/core/eval/Measure;"), (3, u "()I"), (1, u "()D")] 22

def k9c0 : Code := { maxStack := 3, maxLocals := 5, code := prog_9_method_1_code, exceptionTable := #[], attributes := #[] }
def k9m0 : Method := { name := "<init>", desc := "(Ljava/lang/String;DI)V", sig := { parameters := [(.object "java/lang/String"), .double, .int], returnType := none }, accessFlags := 1, code := some k9c0 }
def k9c1 : Code := { maxStack := 6, maxLocals := 3, code := prog_9_method_2_code, exceptionTable := #[], attributes := #[] }
def k9m1 : Method := { name := "count", desc := "(Ljava/lang/String;J)Lcom/example/hoopoe/hoopoe/core/eval/Measure;", sig := { parameters := [(.object "java/lang/String"), .long], returnType := some (.object "com/example/hoopoe/hoopoe/core/eval/Measure") }, accessFlags := 9, code := some k9c1 }
def k9c2 : Code := { maxStack := 1, maxLocals := 1, code := prog_9_method_8_code, exceptionTable := #[], attributes := #[] }
def k9m2 : Method := { name := "name", desc := "()Ljava/lang/String;", sig := { parameters := [], returnType := some (.object "java/lang/String") }, accessFlags := 1, code := some k9c2 }
def k9c3 : Code := { maxStack := 2, maxLocals := 1, code := prog_9_method_9_code, exceptionTable := #[], attributes := #[] }
def k9m3 : Method := { name := "value", desc := "()D", sig := { parameters := [], returnType := some .double }, accessFlags := 1, code := some k9c3 }
def k9c4 : Code := { maxStack := 1, maxLocals := 1, code := prog_9_method_10_code, exceptionTable := #[], attributes := #[] }
def k9m4 : Method := { name := "decimals", desc := "()I", sig := { parameters := [], returnType := some .int }, accessFlags := 1, code := some k9c4 }
/-- com/example/hoopoe/hoopoe/core/eval/Measure -/
def k9 : Class := { plain "com/example/hoopoe/hoopoe/core/eval/Measure" (some 8) with
  accessFlags := 49
  interfaces := #[]
  cf := some (fileOf pool9 8 #[] #[{ accessFlags := 1, nameIndex := 5, descriptorIndex := 23, attributes := #[] }, { accessFlags := 9, nameIndex := 61, descriptorIndex := 62, attributes := #[] }, { accessFlags := 1, nameIndex := 11, descriptorIndex := 42, attributes := #[] }, { accessFlags := 1, nameIndex := 15, descriptorIndex := 68, attributes := #[] }, { accessFlags := 1, nameIndex := 19, descriptorIndex := 66, attributes := #[] }] 49 2 #[] #[{ accessFlags := 18, nameIndex := 11, descriptorIndex := 12, attributes := #[] }, { accessFlags := 18, nameIndex := 15, descriptorIndex := 16, attributes := #[] }, { accessFlags := 18, nameIndex := 19, descriptorIndex := 20, attributes := #[] }, { accessFlags := 26, nameIndex := 55, descriptorIndex := 20, attributes := #[] }])
  fields := #[{ name := "name", type := (.object "java/lang/String"), accessFlags := 18, slot := 0, constantValue := 0 }, { name := "value", type := .double, accessFlags := 18, slot := 1, constantValue := 0 }, { name := "decimals", type := .int, accessFlags := 18, slot := 2, constantValue := 0 }, { name := "MEAN_DECIMALS", type := .int, accessFlags := 26, slot := 0, constantValue := 0 }]
  methods := #[k9m0, k9m1, k9m2, k9m3, k9m4]
  instanceTypes := #[(.object "java/lang/String"), .double, .int]
  staticTypes := #[.int]
  resolved := Array.replicate 91 none
  statics := none }

def pool10 : Array CpInfo := pool [(6, .class_ 8), (1, u "java/lang/Object"), (0, u "<init>"), (0, u "()V"), (1, .class_ 14), (1, u "java/lang/StringUTF16"), (31, u "$assertionsDisabled"), (0, u "Z"), (13, u "HI_BYTE_SHIFT"), (0, u "I"), (2, u "LO_BYTE_SHIFT"), (49, .methodref 12 116), (0, .nameAndType 117 118), (0, u "compress"), (0, u "([CI[BII)I"), (3, u "([CII)[B"), (138, u "coderFromArrayLen"), (0, u "([BI)B"), (106, .class_ 371), (1, u "java/lang/StringUTF16$LinesSpliterator"), (58, u "MAX_LENGTH"), (196, .class_ 628), (0, u "java/lang/StringUTF16$CodePointsSpliterator"), (0, .class_ 630), (0, u "java/lang/StringUTF16$CharsSpliterator")] 4

def k10m0 : Method := { name := "<init>", desc := "()V", sig := { parameters := [], returnType := none }, accessFlags := 0, code := none }
def k10c1 : Code := { maxStack := 2, maxLocals := 2, code := jdk_52_method_15_code, exceptionTable := #[], attributes := #[] }
def k10m1 : Method := { name := "coderFromArrayLen", desc := "([BI)B", sig := { parameters := [(.array .byte), .int], returnType := some .byte }, accessFlags := 8, code := some k10c1 }
def k10c2 : Code := { maxStack := 5, maxLocals := 6, code := jdk_52_method_16_code, exceptionTable := #[], attributes := #[] }
def k10m2 : Method := { name := "compress", desc := "([CII)[B", sig := { parameters := [(.array .char), .int, .int], returnType := some (.array .byte) }, accessFlags := 9, code := some k10c2 }
def k10c3 : Code := { maxStack := 3, maxLocals := 7, code := jdk_52_method_21_code, exceptionTable := #[], attributes := #[] }
def k10m3 : Method := { name := "compress", desc := "([CI[BII)I", sig := { parameters := [(.array .char), .int, (.array .byte), .int, .int], returnType := some .int }, accessFlags := 9, code := some k10c3 }
/-- java/lang/StringUTF16 -/
def k10 : Class := { plain "java/lang/StringUTF16" (some 0) with
  accessFlags := 48
  interfaces := #[]
  cf := some (fileOf pool10 12 #[.nestMembers #[627, 629, 369]] #[{ accessFlags := 0, nameIndex := 9, descriptorIndex := 10, attributes := #[] }, { accessFlags := 8, nameIndex := 261, descriptorIndex := 262, attributes := #[] }, { accessFlags := 9, nameIndex := 117, descriptorIndex := 122, attributes := #[] }, { accessFlags := 9, nameIndex := 117, descriptorIndex := 118, attributes := #[] }] 48 6 #[] #[{ accessFlags := 26, nameIndex := 61, descriptorIndex := 62, attributes := #[] }, { accessFlags := 26, nameIndex := 65, descriptorIndex := 62, attributes := #[] }, { accessFlags := 24, nameIndex := 430, descriptorIndex := 62, attributes := #[] }, { accessFlags := 4120, nameIndex := 46, descriptorIndex := 47, attributes := #[] }])
  fields := #[{ name := "HI_BYTE_SHIFT", type := .int, accessFlags := 26, slot := 0, constantValue := 0 }, { name := "LO_BYTE_SHIFT", type := .int, accessFlags := 26, slot := 1, constantValue := 0 }, { name := "MAX_LENGTH", type := .int, accessFlags := 24, slot := 2, constantValue := 0 }, { name := "$assertionsDisabled", type := .boolean, accessFlags := 4120, slot := 3, constantValue := 0 }]
  methods := #[k10m0, k10m1, k10m2, k10m3]
  instanceTypes := #[]
  staticTypes := #[.int, .int, .int, .boolean]
  resolved := Array.replicate 635 none
  statics := none }

def pool11 : Array CpInfo := pool [(4, .class_ 6), (1, u "java/lang/Object"), (0, u "<init>"), (0, u "()V"), (5, .class_ 16), (1, u "java/lang/StringLatin1"), (73, u "canEncode"), (14, u "(C)Z"), (15, u "$assertionsDisabled"), (0, u "Z"), (98, .class_ 223), (1, u "java/lang/StringLatin1$LinesSpliterator"), (156, u "toBytes"), (1, u "(C)[B"), (7, .class_ 391), (0, u "java/lang/StringLatin1$CharsSpliterator")] 3

def k11m0 : Method := { name := "<init>", desc := "()V", sig := { parameters := [], returnType := none }, accessFlags := 0, code := none }
def k11c1 : Code := { maxStack := 2, maxLocals := 1, code := jdk_43_method_3_code, exceptionTable := #[], attributes := #[] }
def k11m1 : Method := { name := "canEncode", desc := "(C)Z", sig := { parameters := [.char], returnType := some .boolean }, accessFlags := 9, code := some k11c1 }
def k11c2 : Code := { maxStack := 4, maxLocals := 1, code := jdk_43_method_46_code, exceptionTable := #[], attributes := #[] }
def k11m2 : Method := { name := "toBytes", desc := "(C)[B", sig := { parameters := [.char], returnType := some (.array .byte) }, accessFlags := 9, code := some k11c2 }
/-- java/lang/StringLatin1 -/
def k11 : Class := { plain "java/lang/StringLatin1" (some 0) with
  accessFlags := 48
  interfaces := #[]
  cf := some (fileOf pool11 14 #[.nestMembers #[390, 221]] #[{ accessFlags := 0, nameIndex := 7, descriptorIndex := 8, attributes := #[] }, { accessFlags := 9, nameIndex := 90, descriptorIndex := 105, attributes := #[] }, { accessFlags := 9, nameIndex := 380, descriptorIndex := 382, attributes := #[] }] 48 4 #[] #[{ accessFlags := 4120, nameIndex := 121, descriptorIndex := 122, attributes := #[] }])
  fields := #[{ name := "$assertionsDisabled", type := .boolean, accessFlags := 4120, slot := 0, constantValue := 0 }]
  methods := #[k11m0, k11m1, k11m2]
  instanceTypes := #[]
  staticTypes := #[.boolean]
  resolved := Array.replicate 395 none
  statics := none }

def pool12 : Array CpInfo := pool [(2, .class_ 4), (1, u "java/lang/Object"), (0, u "<init>"), (0, u "()V"), (17, .class_ 26), (1, u "jdk/internal/util/Preconditions"), (28, .class_ 56), (0, u "jdk/internal/util/Preconditions$4"), (57, .class_ 115), (0, u "jdk/internal/util/Preconditions$1"), (7, u "SIOOBE_FORMATTER"), (0, u "Ljava/util/function/BiFunction;"), (0, .class_ 126), (0, u "jdk/internal/util/Preconditions$2"), (3, u "AIOOBE_FORMATTER"), (0, .class_ 132), (0, u "jdk/internal/util/Preconditions$3"), (3, u "IOOBE_FORMATTER")] 57

def k12m0 : Method := { name := "<init>", desc := "()V", sig := { parameters := [], returnType := none }, accessFlags := 1, code := none }
/-- jdk/internal/util/Preconditions -/
def k12 : Class := { plain "jdk/internal/util/Preconditions" (some 0) with
  accessFlags := 33
  interfaces := #[]
  cf := some (fileOf pool12 24 #[.nestMembers #[55, 131, 125, 114]] #[{ accessFlags := 1, nameIndex := 5, descriptorIndex := 6, attributes := #[] }] 33 2 #[] #[{ accessFlags := 25, nameIndex := 123, descriptorIndex := 124, attributes := #[] }, { accessFlags := 25, nameIndex := 130, descriptorIndex := 124, attributes := #[] }, { accessFlags := 25, nameIndex := 136, descriptorIndex := 124, attributes := #[] }])
  fields := #[{ name := "SIOOBE_FORMATTER", type := (.object "java/util/function/BiFunction"), accessFlags := 25, slot := 0, constantValue := 0 }, { name := "AIOOBE_FORMATTER", type := (.object "java/util/function/BiFunction"), accessFlags := 25, slot := 1, constantValue := 0 }, { name := "IOOBE_FORMATTER", type := (.object "java/util/function/BiFunction"), accessFlags := 25, slot := 2, constantValue := 0 }]
  methods := #[k12m0]
  instanceTypes := #[]
  staticTypes := #[(.object "java/util/function/BiFunction"), (.object "java/util/function/BiFunction"), (.object "java/util/function/BiFunction")]
  resolved := Array.replicate 194 none
  statics := some 1 }

def pool13 : Array CpInfo := pool [(9, u "<init>"), (6, .class_ 18), (1, u "java/lang/Object"), (0, u "()V"), (1, .class_ 23), (1, u "jdk/internal/util/ArraysSupport"), (0, u "LOG2_ARRAY_LONG_INDEX_SCALE"), (0, u "I"), (2, u "U"), (0, u "Ljdk/internal/misc/Unsafe;"), (8, u "BIG_ENDIAN"), (0, u "Z"), (8, u "LOG2_BYTE_BIT_SIZE"), (4, u "LOG2_ARRAY_INT_INDEX_SCALE"), (54, u "JLA"), (0, u "Ljdk/internal/access/JavaLangAccess;"), (11, u "LOG2_ARRAY_BOOLEAN_INDEX_SCALE"), (9, u "LOG2_ARRAY_BYTE_INDEX_SCALE"), (5, u "LOG2_ARRAY_CHAR_INDEX_SCALE"), (5, u "LOG2_ARRAY_SHORT_INDEX_SCALE"), (18, u "LOG2_ARRAY_FLOAT_INDEX_SCALE"), (24, u "LOG2_ARRAY_DOUBLE_INDEX_SCALE"), (89, u "T_BOOLEAN"), (2, u "T_CHAR"), (1, u "T_FLOAT"), (1, u "T_DOUBLE"), (1, u "T_BYTE"), (1, u "T_SHORT"), (1, u "T_INT"), (1, u "T_LONG"), (1, u "SOFT_MAX_ARRAY_LENGTH")] 83

def k13m0 : Method := { name := "<init>", desc := "()V", sig := { parameters := [], returnType := none }, accessFlags := 2, code := none }
/-- jdk/internal/util/ArraysSupport -/
def k13 : Class := { plain "jdk/internal/util/ArraysSupport" (some 0) with
  accessFlags := 33
  interfaces := #[]
  cf := some (fileOf pool13 21 #[] #[{ accessFlags := 2, nameIndex := 9, descriptorIndex := 19, attributes := #[] }] 33 16 #[] #[{ accessFlags := 24, nameIndex := 28, descriptorIndex := 29, attributes := #[] }, { accessFlags := 26, nameIndex := 38, descriptorIndex := 39, attributes := #[] }, { accessFlags := 25, nameIndex := 121, descriptorIndex := 25, attributes := #[] }, { accessFlags := 25, nameIndex := 131, descriptorIndex := 25, attributes := #[] }, { accessFlags := 25, nameIndex := 137, descriptorIndex := 25, attributes := #[] }, { accessFlags := 25, nameIndex := 143, descriptorIndex := 25, attributes := #[] }, { accessFlags := 25, nameIndex := 53, descriptorIndex := 25, attributes := #[] }, { accessFlags := 25, nameIndex := 24, descriptorIndex := 25, attributes := #[] }, { accessFlags := 25, nameIndex := 162, descriptorIndex := 25, attributes := #[] }, { accessFlags := 25, nameIndex := 187, descriptorIndex := 25, attributes := #[] }, { accessFlags := 26, nameIndex := 48, descriptorIndex := 25, attributes := #[] }, { accessFlags := 25, nameIndex := 277, descriptorIndex := 25, attributes := #[] }, { accessFlags := 25, nameIndex := 280, descriptorIndex := 25, attributes := #[] }, { accessFlags := 25, nameIndex := 282, descriptorIndex := 25, attributes := #[] }, { accessFlags := 25, nameIndex := 284, descriptorIndex := 25, attributes := #[] }, { accessFlags := 25, nameIndex := 286, descriptorIndex := 25, attributes := #[] }, { accessFlags := 25, nameIndex := 288, descriptorIndex := 25, attributes := #[] }, { accessFlags := 25, nameIndex := 290, descriptorIndex := 25, attributes := #[] }, { accessFlags := 25, nameIndex := 292, descriptorIndex := 25, attributes := #[] }, { accessFlags := 26, nameIndex := 108, descriptorIndex := 109, attributes := #[] }, { accessFlags := 25, nameIndex := 294, descriptorIndex := 25, attributes := #[] }])
  fields := #[{ name := "U", type := (.object "jdk/internal/misc/Unsafe"), accessFlags := 24, slot := 0, constantValue := 0 }, { name := "BIG_ENDIAN", type := .boolean, accessFlags := 26, slot := 1, constantValue := 0 }, { name := "LOG2_ARRAY_BOOLEAN_INDEX_SCALE", type := .int, accessFlags := 25, slot := 2, constantValue := 0 }, { name := "LOG2_ARRAY_BYTE_INDEX_SCALE", type := .int, accessFlags := 25, slot := 3, constantValue := 0 }, { name := "LOG2_ARRAY_CHAR_INDEX_SCALE", type := .int, accessFlags := 25, slot := 4, constantValue := 0 }, { name := "LOG2_ARRAY_SHORT_INDEX_SCALE", type := .int, accessFlags := 25, slot := 5, constantValue := 0 }, { name := "LOG2_ARRAY_INT_INDEX_SCALE", type := .int, accessFlags := 25, slot := 6, constantValue := 0 }, { name := "LOG2_ARRAY_LONG_INDEX_SCALE", type := .int, accessFlags := 25, slot := 7, constantValue := 0 }, { name := "LOG2_ARRAY_FLOAT_INDEX_SCALE", type := .int, accessFlags := 25, slot := 8, constantValue := 0 }, { name := "LOG2_ARRAY_DOUBLE_INDEX_SCALE", type := .int, accessFlags := 25, slot := 9, constantValue := 0 }, { name := "LOG2_BYTE_BIT_SIZE", type := .int, accessFlags := 26, slot := 10, constantValue := 0 }, { name := "T_BOOLEAN", type := .int, accessFlags := 25, slot := 11, constantValue := 0 }, { name := "T_CHAR", type := .int, accessFlags := 25, slot := 12, constantValue := 0 }, { name := "T_FLOAT", type := .int, accessFlags := 25, slot := 13, constantValue := 0 }, { name := "T_DOUBLE", type := .int, accessFlags := 25, slot := 14, constantValue := 0 }, { name := "T_BYTE", type := .int, accessFlags := 25, slot := 15, constantValue := 0 }, { name := "T_SHORT", type := .int, accessFlags := 25, slot := 16, constantValue := 0 }, { name := "T_INT", type := .int, accessFlags := 25, slot := 17, constantValue := 0 }, { name := "T_LONG", type := .int, accessFlags := 25, slot := 18, constantValue := 0 }, { name := "JLA", type := (.object "jdk/internal/access/JavaLangAccess"), accessFlags := 26, slot := 19, constantValue := 0 }, { name := "SOFT_MAX_ARRAY_LENGTH", type := .int, accessFlags := 25, slot := 20, constantValue := 0 }]
  methods := #[k13m0]
  instanceTypes := #[]
  staticTypes := #[(.object "jdk/internal/misc/Unsafe"), .boolean, .int, .int, .int, .int, .int, .int, .int, .int, .int, .int, .int, .int, .int, .int, .int, .int, .int, (.object "jdk/internal/access/JavaLangAccess"), .int]
  resolved := Array.replicate 378 none
  statics := none }

def pool14 : Array CpInfo := pool [(1, u "java/lang/Cloneable"), (0, .class_ 1), (0, u "java/lang/Object"), (0, .class_ 3)] 3

/-- java/lang/Cloneable -/
def k14 : Class := { plain "java/lang/Cloneable" (some 0) with
  accessFlags := 1537
  interfaces := #[]
  cf := some (fileOf pool14 2 #[] #[] 1537 4 #[] #[])
  fields := #[]
  methods := #[]
  instanceTypes := #[]
  staticTypes := #[]
  resolved := Array.replicate 8 none
  statics := none }

/-- the primitive byte -/
def k15 : Class := { plain "byte" none with kind := .primitive 'B', accessFlags := 0x411 }
/-- [B -/
def k16 : Class := { plain "[B" (some 0) with kind := .array 15 .byte, interfaces := #[14, 2], accessFlags := 1041 }

/-- the primitive char -/
def k17 : Class := { plain "char" none with kind := .primitive 'C', accessFlags := 0x411 }
/-- [C -/
def k18 : Class := { plain "[C" (some 0) with kind := .array 17 .char, interfaces := #[14, 2], accessFlags := 1041 }

/-- the primitive int -/
def k19 : Class := { plain "int" none with kind := .primitive 'I', accessFlags := 0x411 }
/-- [I -/
def k20 : Class := { plain "[I" (some 0) with kind := .array 19 .int, interfaces := #[14, 2], accessFlags := 1041 }

def heap : Heap := #[{ cls := 7, slots := #[.long 0, .int 1, .null, .int 0, .null, .int 0, .int 0], vm := .statics 7 },
  { cls := 12, slots := #[.null, .null, .null], vm := .statics 12 }]
def classes : Array Class := #[k0, k1, k2, k3, k4, k5, k6, k7, k8, k9, k10, k11, k12, k13, k14, k15, k16, k17, k18, k19, k20]
def interned : List (Array UInt16 × Addr) := []
def slotsUsed : Nat := 10
def theMethod : MethodId := ⟨1, 1⟩
def args0 : Array Value := #[.long 5, .int 9, .int 3]
def aboutOver (below : List Frame) : State where
  vm := { classes := classes, interned := interned.toArray }
  heap := heap
  slotsUsed := slotsUsed
  threads := #[{ frames := .invoking theMethod args0 :: below }]
def below0 : List Frame := [.native { method := ⟨0, 0⟩, args := #[] }]
def about1 : State := aboutOver below0
def p0 : Program := .bare "" "" ""
def e0 : Env := launch0.env 0 0 0
theorem w_frames : about1.frames = Frame.invoking theMethod args0 :: below0 := rfl
set_option maxRecDepth 65536 in
theorem w_args : argsFit about1.vm theMethod args0 = true := by decide +kernel
set_option maxRecDepth 65536 in
theorem w_heap : heapFits about1 = true := by decide +kernel
set_option maxRecDepth 65536 in
theorem w_runnable : about1.curStatus? = some .runnable := by decide +kernel
set_option maxRecDepth 65536 in
theorem w_alone : about1.alone = true := by decide +kernel
set_option maxRecDepth 65536 in
theorem w_named : about1.methodNamed? x = some theMethod := by decide +kernel
set_option maxRecDepth 65536 in
theorem w_hears : about1.hears theMethod below0 = true := by decide +kernel
set_option maxRecDepth 65536 in
theorem w_ripe : about1.ripe theMethod args0 below0 = true := by decide +kernel
theorem w_running : about1.status = .running := rfl
set_option maxRecDepth 65536 in
theorem w_room : about1.hasRoom e0.platform room_1 = true :=
  launch0.hasRoom_least _ room_1 (by decide +kernel) (by decide +kernel) (by decide +kernel) (by decide +kernel) (by decide +kernel) (by decide +kernel)
theorem allAtoms_all (ts : List Jvm.Cond) (a : Array Jvm.Value) (st : Jvm.State) : (allAtoms ts).before a st = ts.all (fun c => c.before a st) := by
  induction ts with
  | nil => rfl
  | cons c t ih =>
    show (Jvm.Cond.and c (allAtoms t)).before a st = _
    rw [Jvm.Cond.before_and, ih, List.all_cons]
def words1 : List Jvm.Cond := Jvm.Cond.code x code maxLocals ret :: tables_1
/-- a 'code' word, met by the world's own term for the bytes: nothing is compared byte by byte -/
theorem code_word {y : MethodName} {bytes : ByteArray} {mx : Nat} {rt : Option FieldType} {a : Array Value} {s : State} {m : MethodId} {meth : Method} {c : Code} (h1 : s.methodNamed? y = some m) (h2 : s.vm.method? m = some meth) (h3 : meth.code = some c) (h4 : c.code = bytes)
    (h5 : (c.maxLocals == mx && c.exceptionTable.isEmpty && decide (c.maxStack ≤ mostOperands) && decide (meth.sig.returnType = rt) && !meth.locks && decide (parseMethodDescriptor y.desc = some meth.sig)) = true) : (Jvm.Cond.code y bytes mx rt).before a s = true := by
  simp only [Bool.and_eq_true, beq_iff_eq, Bool.not_eq_true', decide_eq_true_eq] at h5
  obtain ⟨⟨⟨⟨⟨g1, g2⟩, g3⟩, g4⟩, g5⟩, g6⟩ := h5
  simp [Cond.before, Cond.holds, Cond.value, h1, h2, h3, h4, g1, g2, g3, g4, g5, g6]
def isCode : Jvm.Cond → Bool
  | .code _ _ _ _ => true
  | _ => false
theorem all_split {L : List Jvm.Cond} {P : Jvm.Cond → Bool} (h1 : L.all (fun c => isCode c || P c) = true) (h2 : ∀ c ∈ L.filter isCode, P c = true) : L.all P = true := by
  refine List.all_eq_true.mpr fun c hc => ?_
  have h := List.all_eq_true.mp h1 c hc
  rcases Bool.eq_false_or_eq_true (isCode c) with hi | hi
  · exact h2 c (List.mem_filter.mpr ⟨hc, hi⟩)
  · simpa [hi] using h
set_option maxRecDepth 65536 in
theorem w_c0 : (Jvm.Cond.code x code maxLocals ret).before args0 about1 = true := code_word (m := ⟨1, 1⟩) (meth := k1m1) (c := k1c1) (by decide +kernel) rfl rfl rfl (by decide +kernel)
set_option maxRecDepth 65536 in
theorem w_c1 : (Jvm.Cond.code ({ cls := "java/lang/String", name := "<init>", desc := "([C)V" } : Jvm.MethodName) jdk_42_method_3_code (2 : Nat) (Option.none : Option Jvm.ClassFile.FieldType)).before args0 about1 = true := code_word (m := ⟨7, 1⟩) (meth := k7m1) (c := k7c1) (by decide +kernel) rfl rfl rfl (by decide +kernel)
set_option maxRecDepth 65536 in
theorem w_c2 : (Jvm.Cond.code ({ cls := "java/lang/String", name := "<init>", desc := "([CIILjava/lang/Void;)V" } : Jvm.MethodName) jdk_42_method_149_code (6 : Nat) (Option.none : Option Jvm.ClassFile.FieldType)).before args0 about1 = true := code_word (m := ⟨7, 4⟩) (meth := k7m4) (c := k7c4) (by decide +kernel) rfl rfl rfl (by decide +kernel)
set_option maxRecDepth 65536 in
theorem w_c3 : (Jvm.Cond.code ({ cls := "java/lang/Object", name := "<init>", desc := "()V" } : Jvm.MethodName) object_method_1_code (1 : Nat) (Option.none : Option Jvm.ClassFile.FieldType)).before args0 about1 = true := code_word (m := ⟨0, 0⟩) (meth := k0m0) (c := k0c0) (by decide +kernel) rfl rfl rfl (by decide +kernel)
set_option maxRecDepth 65536 in
theorem w_c4 : (Jvm.Cond.code ({ cls := "com/example/hoopoe/hoopoe/core/eval/Measure", name := "count", desc := "(Ljava/lang/String;J)Lcom/example/hoopoe/hoopoe/core/eval/Measure;" } : Jvm.MethodName) prog_9_method_2_code (3 : Nat) (Option.some (Jvm.ClassFile.FieldType.object "com/example/hoopoe/hoopoe/core/eval/Measure"))).before args0 about1 = true := code_word (m := ⟨9, 1⟩) (meth := k9m1) (c := k9c1) (by decide +kernel) rfl rfl rfl (by decide +kernel)
set_option maxRecDepth 65536 in
theorem w_c5 : (Jvm.Cond.code ({ cls := "com/example/hoopoe/hoopoe/core/eval/Measure", name := "<init>", desc := "(Ljava/lang/String;DI)V" } : Jvm.MethodName) prog_9_method_1_code (5 : Nat) (Option.none : Option Jvm.ClassFile.FieldType)).before args0 about1 = true := code_word (m := ⟨9, 0⟩) (meth := k9m0) (c := k9c0) (by decide +kernel) rfl rfl rfl (by decide +kernel)
set_option maxRecDepth 65536 in
theorem w_c6 : (Jvm.Cond.code ({ cls := "java/lang/Record", name := "<init>", desc := "()V" } : Jvm.MethodName) jdk_30_method_1_code (1 : Nat) (Option.none : Option Jvm.ClassFile.FieldType)).before args0 about1 = true := code_word (m := ⟨8, 0⟩) (meth := k8m0) (c := k8c0) (by decide +kernel) rfl rfl rfl (by decide +kernel)
set_option maxRecDepth 65536 in
theorem w_c7 : (Jvm.Cond.code ({ cls := "com/example/hoopoe/hoopoe/core/eval/Measure", name := "name", desc := "()Ljava/lang/String;" } : Jvm.MethodName) prog_9_method_8_code (1 : Nat) (Option.some (Jvm.ClassFile.FieldType.object "java/lang/String"))).before args0 about1 = true := code_word (m := ⟨9, 2⟩) (meth := k9m2) (c := k9c2) (by decide +kernel) rfl rfl rfl (by decide +kernel)
set_option maxRecDepth 65536 in
theorem w_c8 : (Jvm.Cond.code ({ cls := "java/lang/String", name := "equals", desc := "(Ljava/lang/Object;)Z" } : Jvm.MethodName) jdk_42_method_66_code (3 : Nat) (Option.some Jvm.ClassFile.FieldType.boolean)).before args0 about1 = true := code_word (m := ⟨7, 2⟩) (meth := k7m2) (c := k7c2) (by decide +kernel) rfl rfl rfl (by decide +kernel)
set_option maxRecDepth 65536 in
theorem w_c9 : (Jvm.Cond.code ({ cls := "com/example/hoopoe/hoopoe/core/eval/Measure", name := "value", desc := "()D" } : Jvm.MethodName) prog_9_method_9_code (1 : Nat) (Option.some Jvm.ClassFile.FieldType.double)).before args0 about1 = true := code_word (m := ⟨9, 3⟩) (meth := k9m3) (c := k9c3) (by decide +kernel) rfl rfl rfl (by decide +kernel)
set_option maxRecDepth 65536 in
theorem w_c10 : (Jvm.Cond.code ({ cls := "com/example/hoopoe/hoopoe/core/eval/Measure", name := "decimals", desc := "()I" } : Jvm.MethodName) prog_9_method_10_code (1 : Nat) (Option.some Jvm.ClassFile.FieldType.int)).before args0 about1 = true := code_word (m := ⟨9, 4⟩) (meth := k9m4) (c := k9c4) (by decide +kernel) rfl rfl rfl (by decide +kernel)
set_option maxRecDepth 65536 in
theorem w_c11 : (Jvm.Cond.code ({ cls := "java/lang/StringUTF16", name := "compress", desc := "([CII)[B" } : Jvm.MethodName) jdk_52_method_16_code (6 : Nat) (Option.some (Jvm.ClassFile.FieldType.array Jvm.ClassFile.FieldType.byte))).before args0 about1 = true := code_word (m := ⟨10, 2⟩) (meth := k10m2) (c := k10c2) (by decide +kernel) rfl rfl rfl (by decide +kernel)
set_option maxRecDepth 65536 in
theorem w_c12 : (Jvm.Cond.code ({ cls := "java/lang/StringUTF16", name := "compress", desc := "([CI[BII)I" } : Jvm.MethodName) jdk_52_method_21_code (7 : Nat) (Option.some Jvm.ClassFile.FieldType.int)).before args0 about1 = true := code_word (m := ⟨10, 3⟩) (meth := k10m3) (c := k10c3) (by decide +kernel) rfl rfl rfl (by decide +kernel)
set_option maxRecDepth 65536 in
theorem w_c13 : (Jvm.Cond.code ({ cls := "java/lang/StringUTF16", name := "coderFromArrayLen", desc := "([BI)B" } : Jvm.MethodName) jdk_52_method_15_code (2 : Nat) (Option.some Jvm.ClassFile.FieldType.byte)).before args0 about1 = true := code_word (m := ⟨10, 1⟩) (meth := k10m1) (c := k10c1) (by decide +kernel) rfl rfl rfl (by decide +kernel)
set_option maxRecDepth 65536 in
theorem w_c14 : (Jvm.Cond.code ({ cls := "java/lang/String", name := "valueOf", desc := "(C)Ljava/lang/String;" } : Jvm.MethodName) jdk_42_method_139_code (1 : Nat) (Option.some (Jvm.ClassFile.FieldType.object "java/lang/String"))).before args0 about1 = true := code_word (m := ⟨7, 3⟩) (meth := k7m3) (c := k7c3) (by decide +kernel) rfl rfl rfl (by decide +kernel)
set_option maxRecDepth 65536 in
theorem w_c15 : (Jvm.Cond.code ({ cls := "java/lang/StringLatin1", name := "canEncode", desc := "(C)Z" } : Jvm.MethodName) jdk_43_method_3_code (1 : Nat) (Option.some Jvm.ClassFile.FieldType.boolean)).before args0 about1 = true := code_word (m := ⟨11, 1⟩) (meth := k11m1) (c := k11c1) (by decide +kernel) rfl rfl rfl (by decide +kernel)
set_option maxRecDepth 65536 in
theorem w_c16 : (Jvm.Cond.code ({ cls := "java/lang/StringLatin1", name := "toBytes", desc := "(C)[B" } : Jvm.MethodName) jdk_43_method_46_code (1 : Nat) (Option.some (Jvm.ClassFile.FieldType.array Jvm.ClassFile.FieldType.byte))).before args0 about1 = true := code_word (m := ⟨11, 2⟩) (meth := k11m2) (c := k11c2) (by decide +kernel) rfl rfl rfl (by decide +kernel)
set_option maxRecDepth 65536 in
theorem w_c17 : (Jvm.Cond.code ({ cls := "java/lang/String", name := "<init>", desc := "([BB)V" } : Jvm.MethodName) jdk_42_method_151_code (3 : Nat) (Option.none : Option Jvm.ClassFile.FieldType)).before args0 about1 = true := code_word (m := ⟨7, 5⟩) (meth := k7m5) (c := k7c5) (by decide +kernel) rfl rfl rfl (by decide +kernel)
def codes1 : List Jvm.Cond := [Jvm.Cond.code x code maxLocals ret, Jvm.Cond.code ({ cls := "java/lang/String", name := "<init>", desc := "([C)V" } : Jvm.MethodName) jdk_42_method_3_code (2 : Nat) (Option.none : Option Jvm.ClassFile.FieldType), Jvm.Cond.code ({ cls := "java/lang/String", name := "<init>", desc := "([CIILjava/lang/Void;)V" } : Jvm.MethodName) jdk_42_method_149_code (6 : Nat) (Option.none : Option Jvm.ClassFile.FieldType), Jvm.Cond.code ({ cls := "java/lang/Object", name := "<init>", desc := "()V" } : Jvm.MethodName) object_method_1_code (1 : Nat) (Option.none : Option Jvm.ClassFile.FieldType), Jvm.Cond.code ({ cls := "com/example/hoopoe/hoopoe/core/eval/Measure", name := "count", desc := "(Ljava/lang/String;J)Lcom/example/hoopoe/hoopoe/core/eval/Measure;" } : Jvm.MethodName) prog_9_method_2_code (3 : Nat) (Option.some (Jvm.ClassFile.FieldType.object "com/example/hoopoe/hoopoe/core/eval/Measure")), Jvm.Cond.code ({ cls := "com/example/hoopoe/hoopoe/core/eval/Measure", name := "<init>", desc := "(Ljava/lang/String;DI)V" } : Jvm.MethodName) prog_9_method_1_code (5 : Nat) (Option.none : Option Jvm.ClassFile.FieldType), Jvm.Cond.code ({ cls := "java/lang/Record", name := "<init>", desc := "()V" } : Jvm.MethodName) jdk_30_method_1_code (1 : Nat) (Option.none : Option Jvm.ClassFile.FieldType), Jvm.Cond.code ({ cls := "com/example/hoopoe/hoopoe/core/eval/Measure", name := "name", desc := "()Ljava/lang/String;" } : Jvm.MethodName) prog_9_method_8_code (1 : Nat) (Option.some (Jvm.ClassFile.FieldType.object "java/lang/String")), Jvm.Cond.code ({ cls := "java/lang/String", name := "equals", desc := "(Ljava/lang/Object;)Z" } : Jvm.MethodName) jdk_42_method_66_code (3 : Nat) (Option.some Jvm.ClassFile.FieldType.boolean), Jvm.Cond.code ({ cls := "com/example/hoopoe/hoopoe/core/eval/Measure", name := "value", desc := "()D" } : Jvm.MethodName) prog_9_method_9_code (1 : Nat) (Option.some Jvm.ClassFile.FieldType.double), Jvm.Cond.code ({ cls := "com/example/hoopoe/hoopoe/core/eval/Measure", name := "decimals", desc := "()I" } : Jvm.MethodName) prog_9_method_10_code (1 : Nat) (Option.some Jvm.ClassFile.FieldType.int), Jvm.Cond.code ({ cls := "java/lang/StringUTF16", name := "compress", desc := "([CII)[B" } : Jvm.MethodName) jdk_52_method_16_code (6 : Nat) (Option.some (Jvm.ClassFile.FieldType.array Jvm.ClassFile.FieldType.byte)), Jvm.Cond.code ({ cls := "java/lang/StringUTF16", name := "compress", desc := "([CI[BII)I" } : Jvm.MethodName) jdk_52_method_21_code (7 : Nat) (Option.some Jvm.ClassFile.FieldType.int), Jvm.Cond.code ({ cls := "java/lang/StringUTF16", name := "coderFromArrayLen", desc := "([BI)B" } : Jvm.MethodName) jdk_52_method_15_code (2 : Nat) (Option.some Jvm.ClassFile.FieldType.byte), Jvm.Cond.code ({ cls := "java/lang/String", name := "valueOf", desc := "(C)Ljava/lang/String;" } : Jvm.MethodName) jdk_42_method_139_code (1 : Nat) (Option.some (Jvm.ClassFile.FieldType.object "java/lang/String")), Jvm.Cond.code ({ cls := "java/lang/StringLatin1", name := "canEncode", desc := "(C)Z" } : Jvm.MethodName) jdk_43_method_3_code (1 : Nat) (Option.some Jvm.ClassFile.FieldType.boolean), Jvm.Cond.code ({ cls := "java/lang/StringLatin1", name := "toBytes", desc := "(C)[B" } : Jvm.MethodName) jdk_43_method_46_code (1 : Nat) (Option.some (Jvm.ClassFile.FieldType.array Jvm.ClassFile.FieldType.byte)), Jvm.Cond.code ({ cls := "java/lang/String", name := "<init>", desc := "([BB)V" } : Jvm.MethodName) jdk_42_method_151_code (3 : Nat) (Option.none : Option Jvm.ClassFile.FieldType)]
set_option maxRecDepth 65536 in
theorem codes_eq : words1.filter isCode = codes1 := rfl
theorem w_codes : ∀ c ∈ words1.filter isCode, c.before args0 about1 = true := by
  rw [codes_eq]
  intro c hc
  simp only [codes1, List.mem_cons, List.not_mem_nil, or_false] at hc
  rcases hc with rfl | rfl | rfl | rfl | rfl | rfl | rfl | rfl | rfl | rfl | rfl | rfl | rfl | rfl | rfl | rfl | rfl | rfl
  · exact w_c0
  · exact w_c1
  · exact w_c2
  · exact w_c3
  · exact w_c4
  · exact w_c5
  · exact w_c6
  · exact w_c7
  · exact w_c8
  · exact w_c9
  · exact w_c10
  · exact w_c11
  · exact w_c12
  · exact w_c13
  · exact w_c14
  · exact w_c15
  · exact w_c16
  · exact w_c17
set_option maxRecDepth 65536 in
theorem w_t1 : (words1.take 24).all (fun c => isCode c || c.before args0 about1) = true := by decide +kernel
set_option maxRecDepth 65536 in
theorem w_t2 : ((words1.drop 24).take 24).all (fun c => isCode c || c.before args0 about1) = true := by decide +kernel
set_option maxRecDepth 65536 in
theorem w_t3 : (((words1.drop 24).drop 24).take 24).all (fun c => isCode c || c.before args0 about1) = true := by decide +kernel
set_option maxRecDepth 65536 in
theorem w_t4 : (((words1.drop 24).drop 24).drop 24).all (fun c => isCode c || c.before args0 about1) = true := by decide +kernel
theorem w_tables : (allAtoms (Jvm.Cond.code x code maxLocals ret :: tables_1)).before args0 about1 = true := by
  rw [allAtoms_all]
  show words1.all (fun c => c.before args0 about1) = true
  refine all_split ?_ w_codes
  rw [← List.take_append_drop 24 words1, List.all_append, w_t1, ← List.take_append_drop 24 (words1.drop 24), List.all_append, w_t2, ← List.take_append_drop 24 ((words1.drop 24).drop 24), List.all_append, w_t3, w_t4]
  rfl
set_option maxRecDepth 65536 in
theorem w_rest : rest_1_c.before args0 about1 = true := by decide +kernel
set_option maxRecDepth 65536 in
theorem w_case : (Jvm.Cond.and given_1 narrow_1).before args0 about1 = true := by decide +kernel
set_option maxRecDepth 65536 in
theorem w_consts : constsHeld consts_1 about1 := Jvm.Lit.constsHeldB_iff.mp (by decide +kernel)
theorem w_applies : (headSpec (Jvm.Cond.code x code maxLocals ret :: tables_1) room_1).applies x e0.platform about1 = true :=
  (Spec.applies_iff w_frames).mpr ⟨w_running, w_runnable, w_alone, w_named, w_hears, w_ripe, w_room, w_tables⟩
theorem atStart : AtStart classFile x code maxLocals ret World_1 tables_1 room_1 Calls_1 rest_1 Pre_1 launch0 p0 e0 about1 theMethod args0 below0 :=
  ⟨lists_1, trivial, launch0.admits_env _ _ _, launch0.least_env, fairChoices_fair.cas, fairChoices_fair.clock, w_frames, w_args, w_heap, w_applies, ⟨w_consts, trivial⟩, w_rest, w_case⟩
end start1
theorem witness_1 : WitnessClaimed_1 := ⟨start1.p0, start1.e0, start1.about1, start1.theMethod, start1.args0, start1.below0, start1.atStart⟩
end Jvm.Pilot.@@N@@
